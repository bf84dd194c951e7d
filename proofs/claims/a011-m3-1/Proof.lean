import JvmDerived
import JvmDerived.Pilot.@@N@@Statement
import JvmDerived.Pilot.@@N@@Code
set_option linter.unusedVariables false
set_option linter.unusedSimpArgs false
namespace Jvm.RoadKit
open Sem ClassFile Op Lib Jvm.Stand Jvm.Free Jvm.LawKit
section New
variable {p : Program} {l : Launch} {e : Env} {R : Room} {s : State} {m : MethodId} {args : Array Value} {below : List Frame} {meth : Method} {c : Code} {T : State} {locs : List Loc} {cells slots : Nat}
theorem retI (X : Stand p l e R s m args below meth c T locs cells slots) (hx : p.tables.exec = Jvm.exec) {pc : Nat} {Ls : Array Slot} {z : Int32} {rest : List Value} (hret : meth.sig.returnType = some .int) (hd : decode c.code pc = .ok (.ireturn, 1)) {fs : List Frame}
    (hl : ∀ (f : JFrame) (acts : List Action), f.method = m → f.locked = none → f.entered = [] → (doReturn e (T.setTop f) acts (some (.int z))).1 = T.setFrames fs) : Steps p.tables e below (T.setTop (mkF m pc Ls (.int z :: rest))) (T.setFrames fs) := by
  have hm' : T.vm.method? m = some meth := X.method'
  have hn : narrow .int (.int z) = .int z := rfl
  show Steps p.tables e below (T.setTop { method := m, pc := pc, locals := Ls, stack := _ :: rest, locked := none }) _
  jvm_step X.here [X.here.top, hx, hd, hm', hret, hn]
  first | (intro acts; rw [hl _ acts rfl rfl rfl]) | rw [hl _ _ rfl rfl rfl]
  exact Steps.refl _
end New
end Jvm.RoadKit
namespace Jvm.Pilot.@@N@@
open Jvm Jvm.ClassFile Sem Op Lib Jvm.Free Jvm.Stand Jvm.LawKit Jvm.RoadKit Bundle Jvm.Pilot.@@N@@.Jvm.D
theorem own_oz {Z : State} {n0 : Nat} {h : Heap} (O : Old Z n0 h) : n0 ≤ h.size := by
  rw [← O.1]; exact O.2.1
theorem own_lsw {tb : Tables} [Ours tb] {e : Env} {below : List Frame} {T target : State} {m : MethodId} {c : Code} {g : JFrame} (h : At T m c below) (hx : tb.exec = Jvm.exec) (hg : g.method = m) {dflt : Int} {prs : Array (Int × Int)} {len : Nat} {o : Int} {pc0 pc' : Nat} (hpc : g.pc = pc0) (hd : decode c.code g.pc = .ok (.lookupswitch dflt prs, len)) {i : Int32} {rest : List Value} (hs : g.stack = .int i :: rest)
    (hsort : (prs.toList.zip (prs.toList.drop 1)).all (fun (a, next) => a.1 < next.1) = true) (hoff : lookupswitch.offset prs.toList dflt i.toInt = o) (ho : 0 ≤ (pc0 : Int) + o) (hp : ((pc0 : Int) + o).toNat = pc')
    (hr : Steps tb e below (T.setTop { g with pc := pc', stack := rest }) target) : Steps tb e below (T.setTop g) target := by
  subst hg hpc hp
  jvm_step h [h.top, hx, hd, hs, hoff, ho, lookupswitch.wp_chain]
  exact ⟨by simpa using hsort, hr⟩
section Nums
variable {x k : Int32} {n : Int}
theorem own_lt1 (hk : k.toInt = n) (h : x < k) : x.toInt < n := by rw [← hk]; exact Int32.lt_iff_toInt_lt.mp h
theorem own_lt2 (hk : k.toInt = n) (h : k < x) : n < x.toInt := by rw [← hk]; exact Int32.lt_iff_toInt_lt.mp h
theorem own_nlt1 (hk : k.toInt = n) (h : ¬ x < k) : n ≤ x.toInt := by rw [Int32.lt_iff_toInt_lt, hk] at h; omega
theorem own_nlt2 (hk : k.toInt = n) (h : ¬ k < x) : x.toInt ≤ n := by rw [Int32.lt_iff_toInt_lt, hk] at h; omega
theorem own_eq (hk : k.toInt = n) (h : x = k) : x.toInt = n := by rw [← hk, h]
theorem own_neq (hk : k.toInt = n) (h : ¬ x = k) : x.toInt ≠ n := fun q => h (Int32.toInt_inj.mp (by rw [hk, q]))
theorem own_glt1 (hk : k.toInt = n) (h : x.toInt < n) : x < k := Int32.lt_iff_toInt_lt.mpr (by rw [hk]; exact h)
theorem own_glt2 (hk : k.toInt = n) (h : n < x.toInt) : k < x := Int32.lt_iff_toInt_lt.mpr (by rw [hk]; exact h)
theorem own_gnlt1 (hk : k.toInt = n) (h : n ≤ x.toInt) : ¬ x < k := fun q => by have := own_lt1 hk q; omega
theorem own_gnlt2 (hk : k.toInt = n) (h : x.toInt ≤ n) : ¬ k < x := fun q => by have := own_lt2 hk q; omega
theorem own_geq (hk : k.toInt = n) (h : x.toInt = n) : x = k := Int32.toInt_inj.mp (by rw [hk, h])
theorem own_gneq (hk : k.toInt = n) (h : x.toInt ≠ n) : ¬ x = k := fun q => h (own_eq hk q)
theorem own_and (hk : k.toInt = n) (h0 : 0 ≤ n) : 0 ≤ (x &&& k).toInt ∧ (x &&& k).toInt ≤ n := by have := c_and x k (by rw [hk]; exact h0); rw [hk] at this; exact this
theorem own_and2 (hk : k.toInt = n) (h0 : 0 ≤ n) : 0 ≤ (k &&& x).toInt ∧ (k &&& x).toInt ≤ n := by have := c_and' k x (by rw [hk]; exact h0); rw [hk] at this; exact this
theorem own_rem (hk : k.toInt = n) (h0 : 0 < n) (hx : 0 ≤ x.toInt) : 0 ≤ (x % k).toInt ∧ (x % k).toInt < n ∧ (x % k).toInt ≤ x.toInt := by
  have := (c_iremV x k).1 hx (by rw [hk]; exact h0); rw [hk] at this; exact ⟨this.1, this.2.1, this.2.2.1⟩
theorem own_add {lo hi : Int} (hk : k.toInt = n) (hx : lo ≤ x.toInt ∧ x.toInt ≤ hi) (h1 : -2147483648 ≤ lo + n) (h2 : hi + n < 2147483648) : lo + n ≤ (x + k).toInt ∧ (x + k).toInt ≤ hi + n := by
  have := c_iadd x k; have := rng32 (x + k); rw [hk] at *; omega
theorem own_add2 {lo hi : Int} (hk : k.toInt = n) (hx : lo ≤ x.toInt ∧ x.toInt ≤ hi) (h1 : -2147483648 ≤ lo + n) (h2 : hi + n < 2147483648) : lo + n ≤ (k + x).toInt ∧ (k + x).toInt ≤ hi + n := by
  have := c_iadd k x; have := rng32 (k + x); rw [hk] at *; omega
end Nums
theorem own_len {Z : State} {args : Array Value} {t : Term} {a : Addr} {c : Cell} {ty : FieldType} {n : Int32} (A : Arr Z Z.heap a c ty) (ev : t.eval args Z none [] Z = some (.ref a)) (h : (Term.length t).eval args Z none [] Z = some (.int n)) : c.slots.size < 2 ^ 31 ∧ c.slots.size.toInt32 = n := by
  have q := A.fin (Vm.Alike.refl _)
  by_cases z : c.slots.size < 2 ^ 31
  · rw [len_f ev q z] at h; exact ⟨z, Value.int.inj (Option.some.inj h)⟩
  · simp [Term.eval, ev, q, z] at h
theorem own_selp {s : State} {args : Array Value} {y z : MethodName} {C : String} (w : (Cond.selects C z z).before args s = true) (hc : z.cls = y.cls) (hp : s.PrivateAt y) (hi : (Cond.instanceMethod y).before args s = true) (hy : y.cls ≠ "java/lang/invoke/MethodHandle" ∧ y.cls ≠ "java/lang/invoke/VarHandle") : (Cond.selects y.cls y y).before args s = true := by
  obtain ⟨c2, r2, m2, -, -, q3, -, kP, hkP, hkPi⟩ := Cond.selects_spec w
  exact selects_self_of_private (by rw [← hc]; exact findClass_of_methodNamed q3) hkP hkPi hp hi hy
theorem own_max64 (x : Int64) : ¬ (9223372036854775807 : Int64) < x := fun h => by have := rng64 x; rw [Int64.lt_iff_toInt_lt, show (9223372036854775807 : Int64).toInt = 9223372036854775807 by decide] at h; omega
theorem own_min64 (x : Int64) : ¬ x < (-9223372036854775808 : Int64) := fun h => by have := rng64 x; rw [Int64.lt_iff_toInt_lt, show (-9223372036854775808 : Int64).toInt = -9223372036854775808 by decide] at h; omega
theorem own_root {Z : State} {a0 : Array Value} {O K : String} {n : Nat} (w : (Cond.noSuperclass O).before a0 Z = true) (wk : (Cond.instantiable K n).before a0 Z = true) (hn : O ≠ K) : NS Z O K := by
  obtain ⟨c, k, h1, h2, h3, -, -⟩ := Cond.noSuperclass_spec w
  obtain ⟨t, kt, g1, -⟩ := Cond.instantiable_spec wk
  have ne := ids_ne h1 g1 hn
  refine ⟨c, t, h1, g1, fun fuel => ?_⟩
  cases fuel with
  | zero => rfl
  | succ f => simp [Vm.isSubclassAux, ne, h2, h3]
theorem own_no {Z : State} {a0 : Array Value} {C S K : String} {n : Nat} (w : (Cond.superclass C S).before a0 Z = true) (wk : (Cond.instantiable K n).before a0 Z = true) (q : NS Z C K) (hn : C ≠ K) : ∃ c t, Z.vm.findClass C = some c ∧ Z.vm.findClass K = some t ∧ Z.vm.assignable c t = false := by
  obtain ⟨c, t, h0, g0, n3⟩ := q
  obtain ⟨p, k, kp, h1, h2, h3, h4, h5, -, h7⟩ := Cond.superclass_spec h0 w
  obtain ⟨t', k', g1, g2, g3, g4, -⟩ := Cond.instantiable_spec wk
  cases g0.symm.trans g1
  have ne := ids_ne h0 g0 hn
  have g5 : k'.isInterface = false := by simp only [Bool.or_eq_false_iff] at g4; exact g4.1
  refine ⟨c, t, h0, g0, ?_⟩
  show Z.vm.assignableAux (255 + 1) c t = false
  simp [Vm.assignableAux, ne, h2, g2, h5, g3, g5, Vm.isSubclass, n3]
theorem own_eqR {Z : State} {args : Array Value} {a b : Term} {idx : List Nat} {w : Addr} (hb : b.eval args Z none idx Z = some (.ref w)) (h : (Cond.eq a b).value args Z none Z idx = some true) : a.eval args Z none idx Z = some (.ref w) := by
  simp only [Cond.value, hb] at h
  cases ht : a.eval args Z none idx Z with
  | none => simp [ht] at h
  | some x => cases x <;> simp [ht] at h ⊢; exact h
def Q0 (n0 : Nat) (v : Option Value) (h : Heap) (L : List Loc) : Prop := v = some (.int (1 : Int32)) ∧ Fr n0 L
theorem d0_0 : decode prog_7_method_1_code 0 = .ok (.aload_n 0, 1) := by decide +kernel
theorem d0_1 : decode prog_7_method_1_code 1 = .ok (.invokespecial 3, 3) := by decide +kernel
theorem d1_0 : decode jdk_39_method_1_code 0 = .ok (.aload_n 0, 1) := by decide +kernel
theorem d1_1 : decode jdk_39_method_1_code 1 = .ok (.invokespecial 1, 3) := by decide +kernel
theorem d2_0 : decode jdk_22_method_1_code 0 = .ok (.aload_n 0, 1) := by decide +kernel
theorem d2_1 : decode jdk_22_method_1_code 1 = .ok (.invokespecial 1, 3) := by decide +kernel
theorem d2_4 : decode jdk_22_method_1_code 4 = .ok (.return_, 1) := by decide +kernel
theorem pn0 : plainName "java/util/AbstractCollection" = true := by first | (simp [plainName, overriddenIn]; done) | decide +kernel
theorem ef1 (m : MethodId) (x0 : Addr) : entryFrame m #[(.ref x0)] 1 = mkF m 0 #[.val (.ref x0)] [] := by first | (simp [entryFrame, mkF, argsToLocals, Value.category]; done) | rfl
def Q1 (Z : State) (o1 : Addr) (h0 : Heap) (n0 : Nat) (v : Option Value) (h : Heap) (L : List Loc) : Prop :=
  (v = none ∧ Fr n0 L ∧ h = h0)
set_option maxRecDepth 65536 in
set_option maxHeartbeats 40000000 in
theorem rm1 (l : Launch) (Z : State) (a0 : Array Value) (hw : ∀ d ∈ tables_1, d.before a0 Z = true) (ws : List Jvm.Cond) (o1 : Addr) (h0 : Heap) (n0 : Nat) (O0 : Old Z n0 h0) (g_o1 : n0 ≤ o1) :
    MetFree l (⟨"java/util/AbstractCollection", "<init>", "()V"⟩ : MethodName) (head1 (Jvm.Cond.code (⟨"java/util/AbstractCollection", "<init>", "()V"⟩ : MethodName) jdk_22_method_1_code 1 none :: ws) ({ frames := 1, cells := 0, slots := 0, locals := 12 } : Room)) (fun a U => a = #[(.ref o1)] ∧ Z.Warmed39 U.vm ∧ U.heap = h0) (fun _ _ _ _ _ => True) (fun _ U o U' => ∃ v L, o = .returned v ∧ Q1 Z o1 h0 n0 v U'.heap L ∧ FrameEnd U o U' L ({ frames := 1, cells := 0, slots := 0, locals := 12 } : Room).cells ({ frames := 1, cells := 0, slots := 0, locals := 12 } : Room).slots) := by
  refine MetFree.of_bodySF (plainFor_of_name pn0) hisR ?_
  intro p e s m args below meth c s₁ Bd hml0 hP hK
  obtain ⟨rfl, hZ, hh⟩ := hP
  have hx := Bd.exec
  have hby := Bd.bytes
  have hml : c.maxLocals = 1 := hml0
  have hown : s.vm.findClass "java/util/AbstractCollection" = some m.cls := findClass_of_methodNamed Bd.named
  have hnm := (name_of_methodNamed Bd.named Bd.method).1
  have hret := Bd.returns
  have hlk : meth.locks = false := BodyLoose.notSynchronized Bd
  have X0 : Stand p l e ({ frames := 1, cells := 0, slots := 0, locals := 12 } : Room) s m #[(.ref o1)] below meth c s₁ [] 0 0 := Stand.of_body Bd
  have e0 : s₁.heap = h0 := by rw [← hh, Bd.state]; rfl
  have N0 := Fr.nil n0
  have pre0 : ∀ t, Steps p.tables e below (s₁.setTop (mkF m 0 #[.val (.ref o1)] [])) t → Steps p.tables e below (s₁.setTop (entryFrame m #[(.ref o1)] 1)) t := fun t k => castTop (ef1 m o1) k
  obtain ⟨T1, X1, e1, st1⟩ := initO X0 hx hZ hown (hw _ (List.mem_of_getElem? (i := 18) rfl)) (hw _ (List.mem_of_getElem? (i := 19) rfl)) (hw _ (List.mem_of_getElem? (i := 20) rfl)) e0 (g := (mkF m 1 #[.val (.ref o1)] [(.ref o1)])) rfl (by rw [hml]; rfl) rfl (hb hby d2_1) (by decide) (W := 0) (by show 2 * 0 + _ ≤ _; exact Nat.le_of_eq rfl) (by decide)
  obtain ⟨fs, hr, hrun, hended, hW, hsame⟩ := X1.leave (v := none) (fun _ => rfl)
  refine ⟨_, _, pre0 _ ?_, hrun, hended, _, _, rfl, ?_, ⟨_, rfl⟩, hW, hsame.mono (by decide) (by decide)⟩
  ·
    show Steps p.tables e below (s₁.setTop (mkF m 0 #[.val (.ref o1)] [])) _
    refine XS.aloadN X0.here hx rfl (hb hby d2_0) rfl rfl ?_
    show Steps p.tables e below (s₁.setTop (mkF m 1 #[.val (.ref o1)] [(.ref o1)])) _
    refine st1 _ ?_
    show Steps p.tables e below (T1.setTop (mkF m 4 #[.val (.ref o1)] [])) _
    exact X1.returnOut hx hret (hb hby d2_4) hr
  ·
    show Q1 Z o1 h0 n0 _ T1.heap _
    rw [e1]
    exact ⟨rfl, N0, rfl⟩
theorem pd0 : parseMethodDescriptor "()V" = some ⟨[], none⟩ := by decide +kernel
theorem d1_4 : decode jdk_39_method_1_code 4 = .ok (.aload_n 0, 1) := by decide +kernel
theorem d1_5 : decode jdk_39_method_1_code 5 = .ok (.iconst 0, 1) := by decide +kernel
theorem d1_6 : decode jdk_39_method_1_code 6 = .ok (.putfield 7, 3) := by decide +kernel
theorem d1_9 : decode jdk_39_method_1_code 9 = .ok (.return_, 1) := by decide +kernel
theorem pn1 : plainName "java/util/AbstractList" = true := by first | (simp [plainName, overriddenIn]; done) | decide +kernel
theorem ef2 (m : MethodId) (x0 : Addr) : entryFrame m #[(.ref x0)] 1 = mkF m 0 #[.val (.ref x0)] [] := by first | (simp [entryFrame, mkF, argsToLocals, Value.category]; done) | rfl
def Q2 (Z : State) (o1 : Addr) (h0 : Heap) (n0 : Nat) (v : Option Value) (h : Heap) (L : List Loc) : Prop :=
  (v = none ∧ Fr n0 L ∧ Keep h0 h [o1] ∧ (Exa Z h o1 "com/example/driftless/driftless/DeleteOperations") ∧ (Fld Z h o1 "com/example/driftless/driftless/DeleteOperations" "firstCounter" "J" (.long (0 : Int64))) ∧ (Fld Z h o1 "com/example/driftless/driftless/DeleteOperations" "replica" "J" (.long (0 : Int64))) ∧ (Fld Z h o1 "com/example/driftless/driftless/DeleteOperations" "size" "I" (.int (0 : Int32))) ∧ (Fld Z h o1 "com/example/driftless/driftless/DeleteOperations" "targets" "[[J" .null) ∧ (Fld Z h o1 "java/util/AbstractList" "modCount" "I" (.int (0 : Int32))))
set_option maxRecDepth 65536 in
set_option maxHeartbeats 40000000 in
theorem rm2 (l : Launch) (Z : State) (a0 : Array Value) (hw : ∀ d ∈ tables_1, d.before a0 Z = true) (ws : List Jvm.Cond) (o1 : Addr) (h0 : Heap) (n0 : Nat) (O0 : Old Z n0 h0) (g_o1 : n0 ≤ o1) (P0 : Exa Z h0 o1 "com/example/driftless/driftless/DeleteOperations") (P1 : Fld Z h0 o1 "com/example/driftless/driftless/DeleteOperations" "firstCounter" "J" (.long (0 : Int64))) (P2 : Fld Z h0 o1 "com/example/driftless/driftless/DeleteOperations" "replica" "J" (.long (0 : Int64))) (P3 : Fld Z h0 o1 "com/example/driftless/driftless/DeleteOperations" "size" "I" (.int (0 : Int32))) (P4 : Fld Z h0 o1 "com/example/driftless/driftless/DeleteOperations" "targets" "[[J" .null) (P5 : Fld Z h0 o1 "java/util/AbstractList" "modCount" "I" (.int (0 : Int32))) :
    MetFree l (⟨"java/util/AbstractList", "<init>", "()V"⟩ : MethodName) (head1 (Jvm.Cond.code (⟨"java/util/AbstractList", "<init>", "()V"⟩ : MethodName) jdk_39_method_1_code 1 none :: ws) ({ frames := 2, cells := 0, slots := 0, locals := 24 } : Room)) (fun a U => a = #[(.ref o1)] ∧ Z.Warmed39 U.vm ∧ U.heap = h0) (fun _ _ _ _ _ => True) (fun _ U o U' => ∃ v L, o = .returned v ∧ Q2 Z o1 h0 n0 v U'.heap L ∧ FrameEnd U o U' L ({ frames := 2, cells := 0, slots := 0, locals := 24 } : Room).cells ({ frames := 2, cells := 0, slots := 0, locals := 24 } : Room).slots) := by
  refine MetFree.of_bodySF (plainFor_of_name pn1) hisR ?_
  intro p e s m args below meth c s₁ Bd hml0 hP hK
  obtain ⟨rfl, hZ, hh⟩ := hP
  have hx := Bd.exec
  have hby := Bd.bytes
  have hml : c.maxLocals = 1 := hml0
  have hown : s.vm.findClass "java/util/AbstractList" = some m.cls := findClass_of_methodNamed Bd.named
  have hnm := (name_of_methodNamed Bd.named Bd.method).1
  have hret := Bd.returns
  have hlk : meth.locks = false := BodyLoose.notSynchronized Bd
  have X0 : Stand p l e ({ frames := 2, cells := 0, slots := 0, locals := 24 } : Room) s m #[(.ref o1)] below meth c s₁ [] 0 0 := Stand.of_body Bd
  have e0 : s₁.heap = h0 := by rw [← hh, Bd.state]; rfl
  have N0 := Fr.nil n0
  have pre0 : ∀ t, Steps p.tables e below (s₁.setTop (mkF m 0 #[.val (.ref o1)] [])) t → Steps p.tables e below (s₁.setTop (entryFrame m #[(.ref o1)] 1)) t := fun t k => castTop (ef2 m o1) k
  obtain ⟨_, _, ⟨T1, L1, c1, n1⟩, -, X1, ⟨Lc1, hQ1, l1, y1, z1⟩, st1⟩ := X0.specialBack hx (y := (⟨"java/util/AbstractCollection", "<init>", "()V"⟩ : MethodName)) rfl hown (mvT hZ (hw _ (List.mem_of_getElem? (i := 12) rfl))) (mvT hZ (hw _ (List.mem_of_getElem? (i := 13) rfl))) (mvT hZ (hw _ (List.mem_of_getElem? (i := 17) rfl))) (by decide) (backOf (W := 0) (rm1 l Z a0 hw [] o1 h0 n0 O0 g_o1) hZ (hw _ (List.mem_of_getElem? (i := 17) rfl)) (hw _ (List.mem_of_getElem? (i := 16) rfl)) (by decide) (by decide)) (g := (mkF m 1 #[.val (.ref o1)] [(.ref o1)])) rfl (by rw [hml]; rfl) (Steps.refl _) (a := o1) (argsL := []) (rest := []) (lenOf pd0 rfl) rfl (by show 2 * 0 + _ ≤ _; exact Nat.le_of_eq rfl) (hb hby d1_1) (fun _ _ => ⟨rfl, e0, (by decide : 0 + 0 ≤ _), (by decide : 0 + 0 ≤ _)⟩)
  dsimp only [Pt.U, Pt.locs, Pt.cells, Pt.slots] at X1 l1 y1 z1 st1 hQ1
  subst l1 y1 z1
  have X1 : Stand p l e ({ frames := 2, cells := 0, slots := 0, locals := 24 } : Room) s m #[(.ref o1)] below meth c T1 _ 0 0 := X1
  obtain ⟨rfl, Nq2, e3⟩ := hQ1
  have N1 := Fr.app N0 Nq2
  obtain ⟨T4, h4, X4, e4, W4, st4⟩ := putF X1 hx hZ hown (host := "") (Or.inl (hw _ (List.mem_of_getElem? (i := 21) rfl))) Via.refl e3 P5 P0 (Or.inl (hw _ (List.mem_of_getElem? (i := 22) rfl))) (hw _ (List.mem_of_getElem? (i := 1) rfl)) (ty := .int) (by decide) rfl rfl (g := (mkF m 6 #[.val (.ref o1)] [(.int (0 : Int32)), (.ref o1)])) rfl rfl (hb hby d1_6)
  have N4 := Fr.snoc X4 N1 g_o1
  have Fw4 := P5.same W4
  have M4 : h0.size ≤ h4.size := Nat.le_trans (Nat.le_refl _) (Nat.le_of_eq W4.size.symm)
  have O4 := Old.wr O0 W4 g_o1
  obtain ⟨fs, hr, hrun, hended, hW, hsame⟩ := X4.leave (v := none) (fun _ => rfl)
  have KL : Keep h0 h4 [o1] := ((Keep.refl h0 [o1]).wr W4 (Or.inl (List.mem_of_getElem? (i := 0) rfl)))
  have f5 := (P0.wr W4)
  have f6 := (P1.other W4 (Or.inr (slot_ne (Or.inr (hw _ (List.mem_of_getElem? (i := 24) rfl))) (Or.inl (hw _ (List.mem_of_getElem? (i := 22) rfl))) (by decide) (t := .long) (t' := .int) (by decide) (by decide))))
  have f7 := (P2.other W4 (Or.inr (slot_ne (Or.inr (hw _ (List.mem_of_getElem? (i := 26) rfl))) (Or.inl (hw _ (List.mem_of_getElem? (i := 22) rfl))) (by decide) (t := .long) (t' := .int) (by decide) (by decide))))
  have f8 := (P3.other W4 (Or.inr (slot_ne (Or.inl (hw _ (List.mem_of_getElem? (i := 43) rfl))) (Or.inl (hw _ (List.mem_of_getElem? (i := 22) rfl))) (by decide) (t := .int) (t' := .int) (by decide) (by decide))))
  have f9 := (P4.other W4 (Or.inr (slot_ne (Or.inr (hw _ (List.mem_of_getElem? (i := 30) rfl))) (Or.inl (hw _ (List.mem_of_getElem? (i := 22) rfl))) (by decide) (t := (.array (.array .long))) (t' := .int) (by decide) (by decide))))
  refine ⟨_, _, pre0 _ ?_, hrun, hended, _, _, rfl, ?_, ⟨_, rfl⟩, hW, hsame.mono (by decide) (by decide)⟩
  ·
    show Steps p.tables e below (s₁.setTop (mkF m 0 #[.val (.ref o1)] [])) _
    refine XS.aloadN X0.here hx rfl (hb hby d1_0) rfl rfl ?_
    show Steps p.tables e below (s₁.setTop (mkF m 1 #[.val (.ref o1)] [(.ref o1)])) _
    refine st1.trans ?_
    show Steps p.tables e below (T1.setTop (mkF m 4 #[.val (.ref o1)] [])) _
    refine XS.aloadN X1.here hx rfl (hb hby d1_4) rfl rfl ?_
    show Steps p.tables e below (T1.setTop (mkF m 5 #[.val (.ref o1)] [(.ref o1)])) _
    refine XS.iconst X1.here hx rfl (hb hby d1_5) ?_
    show Steps p.tables e below (T1.setTop (mkF m 6 #[.val (.ref o1)] [(.int (0 : Int32)), (.ref o1)])) _
    refine st4 _ ?_
    show Steps p.tables e below (T4.setTop (mkF m 9 #[.val (.ref o1)] [])) _
    exact X4.returnOut hx hret (hb hby d1_9) hr
  ·
    show Q2 Z o1 h0 n0 _ T4.heap _
    rw [e4]
    exact ⟨rfl, N4, KL, f5, f6, f7, f8, f9, Fw4⟩
theorem d0_4 : decode prog_7_method_1_code 4 = .ok (.aload_n 0, 1) := by decide +kernel
theorem d0_5 : decode prog_7_method_1_code 5 = .ok (.lload_n 1, 1) := by decide +kernel
theorem d0_6 : decode prog_7_method_1_code 6 = .ok (.putfield 9, 3) := by decide +kernel
theorem d0_9 : decode prog_7_method_1_code 9 = .ok (.aload_n 0, 1) := by decide +kernel
theorem d0_10 : decode prog_7_method_1_code 10 = .ok (.lload_n 3, 1) := by decide +kernel
theorem d0_11 : decode prog_7_method_1_code 11 = .ok (.putfield 13, 3) := by decide +kernel
theorem d0_14 : decode prog_7_method_1_code 14 = .ok (.iload 5, 2) := by decide +kernel
theorem d0_16 : decode prog_7_method_1_code 16 = .ok (.ifCond .ne 7, 3) := by decide +kernel
theorem d0_23 : decode prog_7_method_1_code 23 = .ok (.iload 5, 2) := by decide +kernel
theorem d0_25 : decode prog_7_method_1_code 25 = .ok (.iconst 1, 1) := by decide +kernel
theorem d0_26 : decode prog_7_method_1_code 26 = .ok (.isub, 1) := by decide +kernel
theorem d0_27 : decode prog_7_method_1_code 27 = .ok (.bipush 12, 2) := by decide +kernel
theorem d0_29 : decode prog_7_method_1_code 29 = .ok (.iushr, 1) := by decide +kernel
theorem d0_30 : decode prog_7_method_1_code 30 = .ok (.iconst 1, 1) := by decide +kernel
theorem d0_31 : decode prog_7_method_1_code 31 = .ok (.iadd, 1) := by decide +kernel
theorem d0_32 : decode prog_7_method_1_code 32 = .ok (.istore 6, 2) := by decide +kernel
theorem d0_34 : decode prog_7_method_1_code 34 = .ok (.aload_n 0, 1) := by decide +kernel
theorem d0_35 : decode prog_7_method_1_code 35 = .ok (.iload 6, 2) := by decide +kernel
theorem d0_37 : decode prog_7_method_1_code 37 = .ok (.anewarray 16, 3) := by decide +kernel
theorem d0_40 : decode prog_7_method_1_code 40 = .ok (.putfield 18, 3) := by decide +kernel
theorem d0_43 : decode prog_7_method_1_code 43 = .ok (.iconst 0, 1) := by decide +kernel
theorem d0_44 : decode prog_7_method_1_code 44 = .ok (.istore 7, 2) := by decide +kernel
theorem d0_46 : decode prog_7_method_1_code 46 = .ok (.iload 7, 2) := by decide +kernel
theorem d0_48 : decode prog_7_method_1_code 48 = .ok (.iload 6, 2) := by decide +kernel
theorem d0_50 : decode prog_7_method_1_code 50 = .ok (.if_icmp .ge 34, 3) := by decide +kernel
theorem d0_53 : decode prog_7_method_1_code 53 = .ok (.aload_n 0, 1) := by decide +kernel
theorem d0_54 : decode prog_7_method_1_code 54 = .ok (.getfield 18, 3) := by decide +kernel
theorem d0_57 : decode prog_7_method_1_code 57 = .ok (.iload 7, 2) := by decide +kernel
theorem d0_59 : decode prog_7_method_1_code 59 = .ok (.iconst 2, 1) := by decide +kernel
theorem d0_60 : decode prog_7_method_1_code 60 = .ok (.sipush 4096, 3) := by decide +kernel
theorem d0_63 : decode prog_7_method_1_code 63 = .ok (.iload 5, 2) := by decide +kernel
theorem d0_65 : decode prog_7_method_1_code 65 = .ok (.iload 7, 2) := by decide +kernel
theorem d0_67 : decode prog_7_method_1_code 67 = .ok (.bipush 12, 2) := by decide +kernel
theorem d0_69 : decode prog_7_method_1_code 69 = .ok (.ishl, 1) := by decide +kernel
theorem d0_70 : decode prog_7_method_1_code 70 = .ok (.isub, 1) := by decide +kernel
theorem d0_71 : decode prog_7_method_1_code 71 = .ok (.invokestatic 22, 3) := by decide +kernel
theorem d3_0 : decode jdk_29_method_69_code 0 = .ok (.iload_n 0, 1) := by decide +kernel
theorem d3_1 : decode jdk_29_method_69_code 1 = .ok (.iload_n 1, 1) := by decide +kernel
theorem d3_2 : decode jdk_29_method_69_code 2 = .ok (.if_icmp .gt 7, 3) := by decide +kernel
theorem d3_9 : decode jdk_29_method_69_code 9 = .ok (.iload_n 1, 1) := by decide +kernel
theorem d3_10 : decode jdk_29_method_69_code 10 = .ok (.ireturn, 1) := by decide +kernel
theorem ef3 (m : MethodId) (x0 : Int32) (x1 : Int32) : entryFrame m #[(.int x0), (.int x1)] 2 = mkF m 0 #[.val (.int x0), .val (.int x1)] [] := by first | (simp [entryFrame, mkF, argsToLocals, Value.category]; done) | rfl
def Q3 (Z : State) (h0 : Heap) (n0 : Nat) (v : Option Value) (h : Heap) (L : List Loc) : Prop :=
  (v = some (.int (3 : Int32)) ∧ Fr n0 L ∧ h = h0)
set_option maxRecDepth 65536 in
set_option maxHeartbeats 40000000 in
theorem rm3 (l : Launch) (Z : State) (a0 : Array Value) (hw : ∀ d ∈ tables_1, d.before a0 Z = true) (ws : List Jvm.Cond) (h0 : Heap) (n0 : Nat) (O0 : Old Z n0 h0) :
    MetFree l (⟨"java/lang/Math", "min", "(II)I"⟩ : MethodName) (head1 (Jvm.Cond.code (⟨"java/lang/Math", "min", "(II)I"⟩ : MethodName) jdk_29_method_69_code 2 (some .int) :: ws) ({ frames := 0, cells := 0, slots := 0, locals := 0 } : Room)) (fun a U => a = #[(.int (4096 : Int32)), (.int (3 : Int32))] ∧ Z.Warmed39 U.vm ∧ U.heap = h0) (fun _ _ _ _ _ => True) (fun _ U o U' => ∃ v L, o = .returned v ∧ Q3 Z h0 n0 v U'.heap L ∧ FrameEnd U o U' L ({ frames := 0, cells := 0, slots := 0, locals := 0 } : Room).cells ({ frames := 0, cells := 0, slots := 0, locals := 0 } : Room).slots) := by
  refine MetFree.of_bodySF (Jvm.Free.JP.mathPlain rfl (by decide +kernel)) hisR ?_
  intro p e s m args below meth c s₁ Bd hml0 hP hK
  obtain ⟨rfl, hZ, hh⟩ := hP
  have hx := Bd.exec
  have hby := Bd.bytes
  have hml : c.maxLocals = 2 := hml0
  have hown : s.vm.findClass "java/lang/Math" = some m.cls := findClass_of_methodNamed Bd.named
  have hnm := (name_of_methodNamed Bd.named Bd.method).1
  have hret := Bd.returns
  have hlk : meth.locks = false := BodyLoose.notSynchronized Bd
  have X0 : Stand p l e ({ frames := 0, cells := 0, slots := 0, locals := 0 } : Room) s m #[(.int (4096 : Int32)), (.int (3 : Int32))] below meth c s₁ [] 0 0 := Stand.of_body Bd
  have e0 : s₁.heap = h0 := by rw [← hh, Bd.state]; rfl
  have N0 := Fr.nil n0
  have pre0 : ∀ t, Steps p.tables e below (s₁.setTop (mkF m 0 #[.val (.int (4096 : Int32)), .val (.int (3 : Int32))] [])) t → Steps p.tables e below (s₁.setTop (entryFrame m #[(.int (4096 : Int32)), (.int (3 : Int32))] 2)) t := fun t k => castTop (ef3 m (4096 : Int32) (3 : Int32)) k
  obtain ⟨fs, hr, hrun, hended, hW, hsame⟩ := X0.leave (v := some (.int (3 : Int32))) (fun h => by rw [hret] at h; cases h)
  refine ⟨_, _, pre0 _ ?_, hrun, hended, _, _, rfl, ?_, ⟨_, rfl⟩, hW, hsame.mono (by decide) (by decide)⟩
  ·
    show Steps p.tables e below (s₁.setTop (mkF m 0 #[.val (.int (4096 : Int32)), .val (.int (3 : Int32))] [])) _
    refine XS.iloadN X0.here hx rfl (hb hby d3_0) rfl ?_
    show Steps p.tables e below (s₁.setTop (mkF m 1 #[.val (.int (4096 : Int32)), .val (.int (3 : Int32))] [(.int (4096 : Int32))])) _
    refine XS.iloadN X0.here hx rfl (hb hby d3_1) rfl ?_
    show Steps p.tables e below (s₁.setTop (mkF m 2 #[.val (.int (4096 : Int32)), .val (.int (3 : Int32))] [(.int (3 : Int32)), (.int (4096 : Int32))])) _
    refine XS.icmpYes X0.here hx rfl (pc0 := 2) (pc' := 9) rfl (hb hby d3_2) rfl (tlt (by decide : (3 : Int32) < (4096 : Int32))).2.2.1 (by decide) (by decide) ?_
    show Steps p.tables e below (s₁.setTop (mkF m 9 #[.val (.int (4096 : Int32)), .val (.int (3 : Int32))] [])) _
    refine XS.iloadN X0.here hx rfl (hb hby d3_9) rfl ?_
    show Steps p.tables e below (s₁.setTop (mkF m 10 #[.val (.int (4096 : Int32)), .val (.int (3 : Int32))] [(.int (3 : Int32))])) _
    exact retI X0 hx hret (hb hby d3_10) hr
  ·
    show Q3 Z h0 n0 _ s₁.heap _
    rw [e0]
    exact ⟨rfl, N0, rfl⟩
theorem pd1 : parseMethodDescriptor "(II)I" = some ⟨[.int, .int], some .int⟩ := by decide +kernel
theorem d0_74 : decode prog_7_method_1_code 74 = .ok (.imul, 1) := by decide +kernel
theorem d0_75 : decode prog_7_method_1_code 75 = .ok (.newarray .long, 2) := by decide +kernel
theorem d0_77 : decode prog_7_method_1_code 77 = .ok (.aastore, 1) := by decide +kernel
theorem d0_78 : decode prog_7_method_1_code 78 = .ok (.iinc 7 1, 3) := by decide +kernel
theorem d0_81 : decode prog_7_method_1_code 81 = .ok (.goto (-35), 3) := by decide +kernel
theorem d0_84 : decode prog_7_method_1_code 84 = .ok (.return_, 1) := by decide +kernel
theorem pn2 : plainName "com/example/driftless/driftless/DeleteOperations" = true := by first | (simp [plainName, overriddenIn]; done) | decide +kernel
theorem ef4 (m : MethodId) (x0 : Addr) (x1 : Int64) (x2 : Int64) (x3 : Int32) : entryFrame m #[(.ref x0), (.long x1), (.long x2), (.int x3)] 8 = mkF m 0 #[.val (.ref x0), .val (.long x1), .second, .val (.long x2), .second, .val (.int x3), .unset, .unset] [] := by first | (simp [entryFrame, mkF, argsToLocals, Value.category]; done) | rfl
def Q4 (Z : State) (o1 : Addr) (q2 : Int64) (q3 : Int64) (h0 : Heap) (n0 : Nat) (v : Option Value) (h : Heap) (L : List Loc) : Prop :=
  (∃ b14 : Addr, ∃ b22 : Addr, ∃ k14 : ClassId, ∃ k22 : ClassId, v = none ∧ Fr n0 L ∧ Keep h0 h [o1] ∧ h0.size ≤ b14 ∧ h0.size ≤ b22 ∧ b14 ≠ b22 ∧ OvrA Z k14 .long "[J" ∧ (Exa Z h o1 "com/example/driftless/driftless/DeleteOperations") ∧ (Fld Z h o1 "com/example/driftless/driftless/DeleteOperations" "firstCounter" "J" (.long q2)) ∧ (Fld Z h o1 "com/example/driftless/driftless/DeleteOperations" "replica" "J" (.long q3)) ∧ (Fld Z h o1 "com/example/driftless/driftless/DeleteOperations" "size" "I" (.int (0 : Int32))) ∧ (Fld Z h o1 "com/example/driftless/driftless/DeleteOperations" "targets" "[[J" (.ref b14)) ∧ (Fld Z h o1 "java/util/AbstractList" "modCount" "I" (.int (0 : Int32))) ∧ (Arv Z h b14 k14 (.array .long) (1 : Int32) [(.ref b22)] .null) ∧ (Exa Z h b14 "[[J") ∧ (Arv Z h b22 k22 .long (6 : Int32) [(.long (0 : Int64)), (.long (0 : Int64)), (.long (0 : Int64)), (.long (0 : Int64)), (.long (0 : Int64)), (.long (0 : Int64))] (.long (0 : Int64))) ∧ (Exa Z h b22 "[J"))
set_option maxRecDepth 65536 in
set_option maxHeartbeats 40000000 in
theorem rm4 (l : Launch) (Z : State) (a0 : Array Value) (hw : ∀ d ∈ tables_1, d.before a0 Z = true) (ws : List Jvm.Cond) (o1 : Addr) (q2 : Int64) (q3 : Int64) (h0 : Heap) (n0 : Nat) (O0 : Old Z n0 h0) (g_o1 : n0 ≤ o1) (P0 : Exa Z h0 o1 "com/example/driftless/driftless/DeleteOperations") (P1 : Fld Z h0 o1 "com/example/driftless/driftless/DeleteOperations" "firstCounter" "J" (.long (0 : Int64))) (P2 : Fld Z h0 o1 "com/example/driftless/driftless/DeleteOperations" "replica" "J" (.long (0 : Int64))) (P3 : Fld Z h0 o1 "com/example/driftless/driftless/DeleteOperations" "size" "I" (.int (0 : Int32))) (P4 : Fld Z h0 o1 "com/example/driftless/driftless/DeleteOperations" "targets" "[[J" .null) (P5 : Fld Z h0 o1 "java/util/AbstractList" "modCount" "I" (.int (0 : Int32))) :
    MetFree l (⟨"com/example/driftless/driftless/DeleteOperations", "<init>", "(JJI)V"⟩ : MethodName) (head1 (Jvm.Cond.code (⟨"com/example/driftless/driftless/DeleteOperations", "<init>", "(JJI)V"⟩ : MethodName) prog_7_method_1_code 8 none :: ws) ({ frames := 3, cells := 2, slots := 7, locals := 36 } : Room)) (fun a U => a = #[(.ref o1), (.long q2), (.long q3), (.int (3 : Int32))] ∧ Z.Warmed39 U.vm ∧ U.heap = h0) (fun _ _ _ _ _ => True) (fun _ U o U' => ∃ v L, o = .returned v ∧ Q4 Z o1 q2 q3 h0 n0 v U'.heap L ∧ FrameEnd U o U' L ({ frames := 3, cells := 2, slots := 7, locals := 36 } : Room).cells ({ frames := 3, cells := 2, slots := 7, locals := 36 } : Room).slots) := by
  refine MetFree.of_bodySF (plainFor_of_name pn2) hisR ?_
  intro p e s m args below meth c s₁ Bd hml0 hP hK
  obtain ⟨rfl, hZ, hh⟩ := hP
  have hx := Bd.exec
  have hby := Bd.bytes
  have hml : c.maxLocals = 8 := hml0
  have hown : s.vm.findClass "com/example/driftless/driftless/DeleteOperations" = some m.cls := findClass_of_methodNamed Bd.named
  have hnm := (name_of_methodNamed Bd.named Bd.method).1
  have hret := Bd.returns
  have hlk : meth.locks = false := BodyLoose.notSynchronized Bd
  have X0 : Stand p l e ({ frames := 3, cells := 2, slots := 7, locals := 36 } : Room) s m #[(.ref o1), (.long q2), (.long q3), (.int (3 : Int32))] below meth c s₁ [] 0 0 := Stand.of_body Bd
  have e0 : s₁.heap = h0 := by rw [← hh, Bd.state]; rfl
  have N0 := Fr.nil n0
  have pre0 : ∀ t, Steps p.tables e below (s₁.setTop (mkF m 0 #[.val (.ref o1), .val (.long q2), .second, .val (.long q3), .second, .val (.int (3 : Int32)), .unset, .unset] [])) t → Steps p.tables e below (s₁.setTop (entryFrame m #[(.ref o1), (.long q2), (.long q3), (.int (3 : Int32))] 8)) t := fun t k => castTop (ef4 m o1 q2 q3 (3 : Int32)) k
  obtain ⟨_, _, ⟨T1, L1, c1, n1⟩, -, X1, ⟨Lc1, hQ1, l1, y1, z1⟩, st1⟩ := X0.specialBack hx (y := (⟨"java/util/AbstractList", "<init>", "()V"⟩ : MethodName)) rfl hown (mvT hZ (hw _ (List.mem_of_getElem? (i := 7) rfl))) (mvT hZ (hw _ (List.mem_of_getElem? (i := 8) rfl))) (mvT hZ (hw _ (List.mem_of_getElem? (i := 11) rfl))) (by decide) (backOf (W := 0) (rm2 l Z a0 hw [] o1 h0 n0 O0 g_o1 P0 P1 P2 P3 P4 P5) hZ (hw _ (List.mem_of_getElem? (i := 11) rfl)) (hw _ (List.mem_of_getElem? (i := 10) rfl)) (by decide) (by decide)) (g := (mkF m 1 #[.val (.ref o1), .val (.long q2), .second, .val (.long q3), .second, .val (.int (3 : Int32)), .unset, .unset] [(.ref o1)])) rfl (by rw [hml]; rfl) (Steps.refl _) (a := o1) (argsL := []) (rest := []) (lenOf pd0 rfl) rfl (by show 2 * 0 + _ ≤ _; exact Nat.le_of_eq rfl) (hb hby d0_1) (fun _ _ => ⟨rfl, e0, (by decide : 0 + 0 ≤ _), (by decide : 0 + 0 ≤ _)⟩)
  dsimp only [Pt.U, Pt.locs, Pt.cells, Pt.slots] at X1 l1 y1 z1 st1 hQ1
  subst l1 y1 z1
  have X1 : Stand p l e ({ frames := 3, cells := 2, slots := 7, locals := 36 } : Room) s m #[(.ref o1), (.long q2), (.long q3), (.int (3 : Int32))] below meth c T1 _ 0 0 := X1
  obtain ⟨rfl, Nq2, K3, f4, f5, f6, f7, f8, f9⟩ := hQ1
  have N1 := Fr.app N0 Nq2
  have M1 : h0.size ≤ T1.heap.size := Nat.le_trans (Nat.le_refl _) K3.1
  have O1 := Old.keep O0 K3 (allS g_o1 all0)
  obtain ⟨T10, h10, X10, e10, W10, st10⟩ := putF X1 hx hZ hown (host := "") (Or.inl (hw _ (List.mem_of_getElem? (i := 23) rfl))) Via.refl rfl f5 f4 (Or.inr ⟨(hw _ (List.mem_of_getElem? (i := 24) rfl)), rfl, hnm⟩) (hw _ (List.mem_of_getElem? (i := 1) rfl)) (ty := .long) (by decide) rfl rfl (g := (mkF m 6 #[.val (.ref o1), .val (.long q2), .second, .val (.long q3), .second, .val (.int (3 : Int32)), .unset, .unset] [(.long q2), (.ref o1)])) rfl rfl (hb hby d0_6)
  have N10 := Fr.snoc X10 N1 g_o1
  have Fw10 := f5.same W10
  have M10 : h0.size ≤ h10.size := Nat.le_trans M1 (Nat.le_of_eq W10.size.symm)
  have O10 := Old.wr O1 W10 g_o1
  have f11 := (f6.other W10 (Or.inr (slot_ne (Or.inr (hw _ (List.mem_of_getElem? (i := 26) rfl))) (Or.inr (hw _ (List.mem_of_getElem? (i := 24) rfl))) (by decide) (t := .long) (t' := .long) (by decide) (by decide))))
  have f12 := (f4.wr W10)
  obtain ⟨T13, h13, X13, e13, W13, st13⟩ := putF X10 hx hZ hown (host := "") (Or.inl (hw _ (List.mem_of_getElem? (i := 25) rfl))) Via.refl e10 f11 f12 (Or.inr ⟨(hw _ (List.mem_of_getElem? (i := 26) rfl)), rfl, hnm⟩) (hw _ (List.mem_of_getElem? (i := 1) rfl)) (ty := .long) (by decide) rfl rfl (g := (mkF m 11 #[.val (.ref o1), .val (.long q2), .second, .val (.long q3), .second, .val (.int (3 : Int32)), .unset, .unset] [(.long q3), (.ref o1)])) rfl rfl (hb hby d0_11)
  have N13 := Fr.snoc X13 N10 g_o1
  have Fw13 := f11.same W13
  have M13 : h0.size ≤ h13.size := Nat.le_trans M10 (Nat.le_of_eq W13.size.symm)
  have O13 := Old.wr O10 W13 g_o1
  obtain ⟨T14, h14, k14, X14, e14, E14, A14, EX14, OV14, st14⟩ := newRA X13 hx hZ hown (C := "[J") (ty := .long) (by decide) (hw _ (List.mem_of_getElem? (i := 27) rfl)) (hw _ (List.mem_of_getElem? (i := 28) rfl)) e13 (g := (mkF m 37 #[.val (.ref o1), .val (.long q2), .second, .val (.long q3), .second, .val (.int (3 : Int32)), .val (.int (1 : Int32)), .unset] [(.int (1 : Int32)), (.ref o1)])) rfl (hb hby d0_37) rfl (by decide) (cap := 1) (by decide) (by decide) (by decide) (by decide) (ad := "[[J") (by decide)
  obtain ⟨b14, g14⟩ : ∃ z, z = h13.size := ⟨_, rfl⟩
  rw [← g14] at A14 EX14 st14
  have M14 : h0.size ≤ h14.size := Nat.le_trans M13 E14.1
  have O14 := Old.ext O13 E14
  have sz_b14 : h13.size ≤ b14 := Nat.le_of_eq g14.symm
  have g_b14 : n0 ≤ b14 := Nat.le_trans (own_oz O0) (Nat.le_trans M13 sz_b14)
  have V14_0 := Arv.new A14 (by decide)
  have V14 : Arv Z h14 b14 k14 (.array .long) (1 : Int32) [.null] .null := V14_0.pad (pad_rep [] .null 1)
  have f15 := (((f8.other W10 (Or.inr (slot_ne (Or.inr (hw _ (List.mem_of_getElem? (i := 30) rfl))) (Or.inr (hw _ (List.mem_of_getElem? (i := 24) rfl))) (by decide) (t := (.array (.array .long))) (t' := .long) (by decide) (by decide)))).other W13 (Or.inr (slot_ne (Or.inr (hw _ (List.mem_of_getElem? (i := 30) rfl))) (Or.inr (hw _ (List.mem_of_getElem? (i := 26) rfl))) (by decide) (t := (.array (.array .long))) (t' := .long) (by decide) (by decide)))).ext E14)
  have f16 := ((f12.wr W13).ext E14)
  obtain ⟨T17, h17, X17, e17, W17, st17⟩ := putF X14 hx hZ hown (host := "") (Or.inl (hw _ (List.mem_of_getElem? (i := 29) rfl))) Via.refl e14 f15 f16 (Or.inr ⟨(hw _ (List.mem_of_getElem? (i := 30) rfl)), rfl, hnm⟩) (hw _ (List.mem_of_getElem? (i := 1) rfl)) (ty := (.array (.array .long))) (by decide) rfl rfl (g := (mkF m 40 #[.val (.ref o1), .val (.long q2), .second, .val (.long q3), .second, .val (.int (3 : Int32)), .val (.int (1 : Int32)), .unset] [(.ref b14), (.ref o1)])) rfl rfl (hb hby d0_40)
  have N17 := Fr.snoc X17 N13 g_o1
  have Fw17 := f15.same W17
  have M17 : h0.size ≤ h17.size := Nat.le_trans M14 (Nat.le_of_eq W17.size.symm)
  have O17 := Old.wr O14 W17 g_o1
  obtain ⟨T18, X18, e18, st18⟩ := getF X17 hx hZ hown (host := "") (Or.inl (hw _ (List.mem_of_getElem? (i := 29) rfl))) Via.refl e17 Fw17 (g := (mkF m 54 #[.val (.ref o1), .val (.long q2), .second, .val (.long q3), .second, .val (.int (3 : Int32)), .val (.int (1 : Int32)), .val (.int (0 : Int32))] [(.ref o1)])) rfl rfl (hb hby d0_54)
  obtain ⟨_, _, ⟨T19, L19, c19, n19⟩, -, X19, ⟨Lc19, hQ19, l19, y19, z19⟩, st19⟩ := Jvm.LawKit.callS X18 hx (y := (⟨"java/lang/Math", "min", "(II)I"⟩ : MethodName)) hown (mvT hZ (hw _ (List.mem_of_getElem? (i := 31) rfl))) (mvT hZ (hw _ (List.mem_of_getElem? (i := 32) rfl))) (mvT hZ (hw _ (List.mem_of_getElem? (i := 33) rfl))) (mvT hZ (hw _ (List.mem_of_getElem? (i := 34) rfl))) (by decide) (backOf (W := 3) (rm3 l Z a0 hw []  h17 n0 O17 ) hZ (hw _ (List.mem_of_getElem? (i := 34) rfl)) (hw _ (List.mem_of_getElem? (i := 33) rfl)) (by decide) (by decide)) (g := (mkF m 71 #[.val (.ref o1), .val (.long q2), .second, .val (.long q3), .second, .val (.int (3 : Int32)), .val (.int (1 : Int32)), .val (.int (0 : Int32))] [(.int (3 : Int32)), (.int (4096 : Int32)), (.int (2 : Int32)), (.int (0 : Int32)), (.ref b14)])) rfl (by rw [hml]; rfl) (argsL := [(.int (4096 : Int32)), (.int (3 : Int32))]) (rest := [(.int (2 : Int32)), (.int (0 : Int32)), (.ref b14)]) (lenOf pd1 rfl) rfl (by show 2 * 0 + _ ≤ _; exact Nat.le_of_eq rfl) (hb hby d0_71) (fun _ _ => ⟨rfl, e18, (by decide : 1 + 0 ≤ _), (by decide : 1 + 0 ≤ _)⟩)
  dsimp only [Pt.U, Pt.locs, Pt.cells, Pt.slots] at X19 l19 y19 z19 st19 hQ19
  subst l19 y19 z19
  have X19 : Stand p l e ({ frames := 3, cells := 2, slots := 7, locals := 36 } : Room) s m #[(.ref o1), (.long q2), (.long q3), (.int (3 : Int32))] below meth c T19 _ 1 1 := X19
  obtain ⟨rfl, Nq20, e21⟩ := hQ19
  have N19 := Fr.app N17 Nq20
  obtain ⟨T22, h22, k22, X22, e22, E22, A22, EX22, st22⟩ := newPE X19 hx hZ (hw _ (List.mem_of_getElem? (i := 35) rfl)) e21 (g := (mkF m 75 #[.val (.ref o1), .val (.long q2), .second, .val (.long q3), .second, .val (.int (3 : Int32)), .val (.int (1 : Int32)), .val (.int (0 : Int32))] [(.int (6 : Int32)), (.int (0 : Int32)), (.ref b14)])) rfl (hb hby d0_75) rfl (by decide) (cap := 6) (by decide) (by decide) (by decide) (by decide) (ad := "[J") (by decide)
  obtain ⟨b22, g22⟩ : ∃ z, z = h17.size := ⟨_, rfl⟩
  rw [← g22] at A22 EX22 st22
  have M22 : h0.size ≤ h22.size := Nat.le_trans M17 E22.1
  have O22 := Old.ext O17 E22
  have sz_b22 : h17.size ≤ b22 := Nat.le_of_eq g22.symm
  have g_b22 : n0 ≤ b22 := Nat.le_trans (own_oz O0) (Nat.le_trans M17 sz_b22)
  have V22_0 := Arv.new A22 (by decide)
  have V22 : Arv Z h22 b22 k22 .long (6 : Int32) [(.long (0 : Int64)), (.long (0 : Int64)), (.long (0 : Int64)), (.long (0 : Int64)), (.long (0 : Int64)), (.long (0 : Int64))] (.long (0 : Int64)) := V22_0.pad (pad_rep [] (.long (0 : Int64)) 6)
  have lt23 : o1 < h13.size := (Nat.lt_of_lt_of_le (Nat.lt_of_lt_of_le (Nat.lt_of_lt_of_le P0.lt K3.1) (Nat.le_of_eq W10.size.symm)) (Nat.le_of_eq W13.size.symm))
  have ne24 : o1 ≠ b14 := Nat.ne_of_lt (Nat.lt_of_lt_of_le lt23 sz_b14)
  have f25 := ((V14.other W17 (Ne.symm ne24)).ext E22)
  obtain ⟨cl26, Ar26, qa26, Sa26, Na26, Ha26, Ga26⟩ := id (f25)
  have hin26 : ¬ ((0 : Int32) < 0 ∨ cl26.slots.size ≤ ((0 : Int32)).toNatClampNeg) := inb_of Sa26 ⟨by decide, by decide⟩
  obtain ⟨T27, h27, X27, e27, W27, st27⟩ := stR X22 hx hZ e22 Ar26 (j := (0 : Int32)) hin26 rfl (Sto.ofVA Ar26 qa26 OV14 (Ins.self EX22)) (g := (mkF m 77 #[.val (.ref o1), .val (.long q2), .second, .val (.long q3), .second, .val (.int (3 : Int32)), .val (.int (1 : Int32)), .val (.int (0 : Int32))] [(.ref b22), (.int (0 : Int32)), (.ref b14)])) rfl rfl (hb hby d0_77)
  have V27 : Arv Z h27 b14 k14 (.array .long) (1 : Int32) [(.ref b22)] .null := Arv.set Ar26 qa26 Sa26 Na26 Ha26 Ga26 rfl W27 0 rfl (Nat.le_of_ble_eq_true rfl)
  have N27 := Fr.snoc X27 N19 g_b14
  have M27 : h0.size ≤ h27.size := Nat.le_trans M22 (Nat.le_of_eq W27.size.symm)
  have O27 := Old.wr O22 W27 g_b14
  obtain ⟨fs, hr, hrun, hended, hW, hsame⟩ := X27.leave (v := none) (fun _ => rfl)
  have KL : Keep h0 h27 [o1] := ((((((((Keep.refl h0 [o1]).trans K3 (allS (Or.inl (List.mem_of_getElem? (i := 0) rfl)) all0)).wr W10 (Or.inl (List.mem_of_getElem? (i := 0) rfl))).wr W13 (Or.inl (List.mem_of_getElem? (i := 0) rfl))).ext E14).wr W17 (Or.inl (List.mem_of_getElem? (i := 0) rfl))).ext E22).wr W27 (Or.inr (Nat.le_trans M13 sz_b14)))
  have f28 := (((f16.wr W17).ext E22).wr W27)
  have f29 := (((((Fw10.other W13 (Or.inr (slot_ne (Or.inr (hw _ (List.mem_of_getElem? (i := 24) rfl))) (Or.inr (hw _ (List.mem_of_getElem? (i := 26) rfl))) (by decide) (t := .long) (t' := .long) (by decide) (by decide)))).ext E14).other W17 (Or.inr (slot_ne (Or.inr (hw _ (List.mem_of_getElem? (i := 24) rfl))) (Or.inr (hw _ (List.mem_of_getElem? (i := 30) rfl))) (by decide) (t := .long) (t' := (.array (.array .long))) (by decide) (by decide)))).ext E22).other W27 (Or.inl ne24))
  have f30 := ((((Fw13.ext E14).other W17 (Or.inr (slot_ne (Or.inr (hw _ (List.mem_of_getElem? (i := 26) rfl))) (Or.inr (hw _ (List.mem_of_getElem? (i := 30) rfl))) (by decide) (t := .long) (t' := (.array (.array .long))) (by decide) (by decide)))).ext E22).other W27 (Or.inl ne24))
  have f31 := ((((((f7.other W10 (Or.inr (slot_ne (Or.inl (hw _ (List.mem_of_getElem? (i := 43) rfl))) (Or.inr (hw _ (List.mem_of_getElem? (i := 24) rfl))) (by decide) (t := .int) (t' := .long) (by decide) (by decide)))).other W13 (Or.inr (slot_ne (Or.inl (hw _ (List.mem_of_getElem? (i := 43) rfl))) (Or.inr (hw _ (List.mem_of_getElem? (i := 26) rfl))) (by decide) (t := .int) (t' := .long) (by decide) (by decide)))).ext E14).other W17 (Or.inr (slot_ne (Or.inl (hw _ (List.mem_of_getElem? (i := 43) rfl))) (Or.inr (hw _ (List.mem_of_getElem? (i := 30) rfl))) (by decide) (t := .int) (t' := (.array (.array .long))) (by decide) (by decide)))).ext E22).other W27 (Or.inl ne24))
  have f32 := ((Fw17.ext E22).other W27 (Or.inl ne24))
  have f33 := ((((((f9.other W10 (Or.inr (slot_ne (Or.inl (hw _ (List.mem_of_getElem? (i := 22) rfl))) (Or.inr (hw _ (List.mem_of_getElem? (i := 24) rfl))) (by decide) (t := .int) (t' := .long) (by decide) (by decide)))).other W13 (Or.inr (slot_ne (Or.inl (hw _ (List.mem_of_getElem? (i := 22) rfl))) (Or.inr (hw _ (List.mem_of_getElem? (i := 26) rfl))) (by decide) (t := .int) (t' := .long) (by decide) (by decide)))).ext E14).other W17 (Or.inr (slot_ne (Or.inl (hw _ (List.mem_of_getElem? (i := 22) rfl))) (Or.inr (hw _ (List.mem_of_getElem? (i := 30) rfl))) (by decide) (t := .int) (t' := (.array (.array .long))) (by decide) (by decide)))).ext E22).other W27 (Or.inl ne24))
  have f34 := (((EX14.wr W17).ext E22).wr W27)
  have lt35 : b14 < h17.size := (Nat.lt_of_lt_of_le V14.lt (Nat.le_of_eq W17.size.symm))
  have ne36 : b14 ≠ b22 := Nat.ne_of_lt (Nat.lt_of_lt_of_le lt35 sz_b22)
  have f37 := (V22.other W27 (Ne.symm ne36))
  have f38 := (EX22.wr W27)
  refine ⟨_, _, pre0 _ ?_, hrun, hended, _, _, rfl, ?_, ⟨_, rfl⟩, hW, hsame.mono (by decide) (by decide)⟩
  ·
    show Steps p.tables e below (s₁.setTop (mkF m 0 #[.val (.ref o1), .val (.long q2), .second, .val (.long q3), .second, .val (.int (3 : Int32)), .unset, .unset] [])) _
    refine XS.aloadN X0.here hx rfl (hb hby d0_0) rfl rfl ?_
    show Steps p.tables e below (s₁.setTop (mkF m 1 #[.val (.ref o1), .val (.long q2), .second, .val (.long q3), .second, .val (.int (3 : Int32)), .unset, .unset] [(.ref o1)])) _
    refine st1.trans ?_
    show Steps p.tables e below (T1.setTop (mkF m 4 #[.val (.ref o1), .val (.long q2), .second, .val (.long q3), .second, .val (.int (3 : Int32)), .unset, .unset] [])) _
    refine XS.aloadN X1.here hx rfl (hb hby d0_4) rfl rfl ?_
    show Steps p.tables e below (T1.setTop (mkF m 5 #[.val (.ref o1), .val (.long q2), .second, .val (.long q3), .second, .val (.int (3 : Int32)), .unset, .unset] [(.ref o1)])) _
    refine XS.lloadN X1.here hx rfl (hb hby d0_5) rfl ?_
    show Steps p.tables e below (T1.setTop (mkF m 6 #[.val (.ref o1), .val (.long q2), .second, .val (.long q3), .second, .val (.int (3 : Int32)), .unset, .unset] [(.long q2), (.ref o1)])) _
    refine st10 _ ?_
    show Steps p.tables e below (T10.setTop (mkF m 9 #[.val (.ref o1), .val (.long q2), .second, .val (.long q3), .second, .val (.int (3 : Int32)), .unset, .unset] [])) _
    refine XS.aloadN X10.here hx rfl (hb hby d0_9) rfl rfl ?_
    show Steps p.tables e below (T10.setTop (mkF m 10 #[.val (.ref o1), .val (.long q2), .second, .val (.long q3), .second, .val (.int (3 : Int32)), .unset, .unset] [(.ref o1)])) _
    refine XS.lloadN X10.here hx rfl (hb hby d0_10) rfl ?_
    show Steps p.tables e below (T10.setTop (mkF m 11 #[.val (.ref o1), .val (.long q2), .second, .val (.long q3), .second, .val (.int (3 : Int32)), .unset, .unset] [(.long q3), (.ref o1)])) _
    refine st13 _ ?_
    show Steps p.tables e below (T13.setTop (mkF m 14 #[.val (.ref o1), .val (.long q2), .second, .val (.long q3), .second, .val (.int (3 : Int32)), .unset, .unset] [])) _
    refine XS.iload X13.here hx rfl (hb hby d0_14) rfl ?_
    show Steps p.tables e below (T13.setTop (mkF m 16 #[.val (.ref o1), .val (.long q2), .second, .val (.long q3), .second, .val (.int (3 : Int32)), .unset, .unset] [(.int (3 : Int32))])) _
    refine XS.ifYes X13.here hx rfl (pc0 := 16) (pc' := 23) rfl (hb hby d0_16) rfl ((if0 _ _).trans (feq (by decide : ¬ ((3 : Int32) = (0 : Int32)))).2) (by decide) (by decide) ?_
    show Steps p.tables e below (T13.setTop (mkF m 23 #[.val (.ref o1), .val (.long q2), .second, .val (.long q3), .second, .val (.int (3 : Int32)), .unset, .unset] [])) _
    refine XS.iload X13.here hx rfl (hb hby d0_23) rfl ?_
    show Steps p.tables e below (T13.setTop (mkF m 25 #[.val (.ref o1), .val (.long q2), .second, .val (.long q3), .second, .val (.int (3 : Int32)), .unset, .unset] [(.int (3 : Int32))])) _
    refine XS.iconst X13.here hx rfl (hb hby d0_25) ?_
    show Steps p.tables e below (T13.setTop (mkF m 26 #[.val (.ref o1), .val (.long q2), .second, .val (.long q3), .second, .val (.int (3 : Int32)), .unset, .unset] [(.int (1 : Int32)), (.int (3 : Int32))])) _
    refine XS.isub X13.here hx rfl (hb hby d0_26) rfl ?_
    show Steps p.tables e below (T13.setTop (mkF m 27 #[.val (.ref o1), .val (.long q2), .second, .val (.long q3), .second, .val (.int (3 : Int32)), .unset, .unset] [(.int (2 : Int32))])) _
    refine XS.bipush X13.here hx rfl (hb hby d0_27) ?_
    show Steps p.tables e below (T13.setTop (mkF m 29 #[.val (.ref o1), .val (.long q2), .second, .val (.long q3), .second, .val (.int (3 : Int32)), .unset, .unset] [(.int (12 : Int32)), (.int (2 : Int32))])) _
    refine XS.iushr X13.here hx rfl (hb hby d0_29) rfl ?_
    show Steps p.tables e below (T13.setTop (mkF m 30 #[.val (.ref o1), .val (.long q2), .second, .val (.long q3), .second, .val (.int (3 : Int32)), .unset, .unset] [(.int (0 : Int32))])) _
    refine XS.iconst X13.here hx rfl (hb hby d0_30) ?_
    show Steps p.tables e below (T13.setTop (mkF m 31 #[.val (.ref o1), .val (.long q2), .second, .val (.long q3), .second, .val (.int (3 : Int32)), .unset, .unset] [(.int (1 : Int32)), (.int (0 : Int32))])) _
    refine XS.iadd X13.here hx rfl (hb hby d0_31) rfl ?_
    show Steps p.tables e below (T13.setTop (mkF m 32 #[.val (.ref o1), .val (.long q2), .second, .val (.long q3), .second, .val (.int (3 : Int32)), .unset, .unset] [(.int (1 : Int32))])) _
    refine XS.istore X13.here hx rfl (hb hby d0_32) rfl (l' := #[.val (.ref o1), .val (.long q2), .second, .val (.long q3), .second, .val (.int (3 : Int32)), .val (.int (1 : Int32)), .unset]) rfl ?_
    show Steps p.tables e below (T13.setTop (mkF m 34 #[.val (.ref o1), .val (.long q2), .second, .val (.long q3), .second, .val (.int (3 : Int32)), .val (.int (1 : Int32)), .unset] [])) _
    refine XS.aloadN X13.here hx rfl (hb hby d0_34) rfl rfl ?_
    show Steps p.tables e below (T13.setTop (mkF m 35 #[.val (.ref o1), .val (.long q2), .second, .val (.long q3), .second, .val (.int (3 : Int32)), .val (.int (1 : Int32)), .unset] [(.ref o1)])) _
    refine XS.iload X13.here hx rfl (hb hby d0_35) rfl ?_
    show Steps p.tables e below (T13.setTop (mkF m 37 #[.val (.ref o1), .val (.long q2), .second, .val (.long q3), .second, .val (.int (3 : Int32)), .val (.int (1 : Int32)), .unset] [(.int (1 : Int32)), (.ref o1)])) _
    refine st14 _ ?_
    show Steps p.tables e below (T14.setTop (mkF m 40 #[.val (.ref o1), .val (.long q2), .second, .val (.long q3), .second, .val (.int (3 : Int32)), .val (.int (1 : Int32)), .unset] [(.ref b14), (.ref o1)])) _
    refine st17 _ ?_
    show Steps p.tables e below (T17.setTop (mkF m 43 #[.val (.ref o1), .val (.long q2), .second, .val (.long q3), .second, .val (.int (3 : Int32)), .val (.int (1 : Int32)), .unset] [])) _
    refine XS.iconst X17.here hx rfl (hb hby d0_43) ?_
    show Steps p.tables e below (T17.setTop (mkF m 44 #[.val (.ref o1), .val (.long q2), .second, .val (.long q3), .second, .val (.int (3 : Int32)), .val (.int (1 : Int32)), .unset] [(.int (0 : Int32))])) _
    refine XS.istore X17.here hx rfl (hb hby d0_44) rfl (l' := #[.val (.ref o1), .val (.long q2), .second, .val (.long q3), .second, .val (.int (3 : Int32)), .val (.int (1 : Int32)), .val (.int (0 : Int32))]) rfl ?_
    show Steps p.tables e below (T17.setTop (mkF m 46 #[.val (.ref o1), .val (.long q2), .second, .val (.long q3), .second, .val (.int (3 : Int32)), .val (.int (1 : Int32)), .val (.int (0 : Int32))] [])) _
    refine XS.iload X17.here hx rfl (hb hby d0_46) rfl ?_
    show Steps p.tables e below (T17.setTop (mkF m 48 #[.val (.ref o1), .val (.long q2), .second, .val (.long q3), .second, .val (.int (3 : Int32)), .val (.int (1 : Int32)), .val (.int (0 : Int32))] [(.int (0 : Int32))])) _
    refine XS.iload X17.here hx rfl (hb hby d0_48) rfl ?_
    show Steps p.tables e below (T17.setTop (mkF m 50 #[.val (.ref o1), .val (.long q2), .second, .val (.long q3), .second, .val (.int (3 : Int32)), .val (.int (1 : Int32)), .val (.int (0 : Int32))] [(.int (1 : Int32)), (.int (0 : Int32))])) _
    refine XS.icmpNo X17.here hx rfl (hb hby d0_50) rfl (tlt (by decide : (0 : Int32) < (1 : Int32))).2.1 ?_
    show Steps p.tables e below (T17.setTop (mkF m 53 #[.val (.ref o1), .val (.long q2), .second, .val (.long q3), .second, .val (.int (3 : Int32)), .val (.int (1 : Int32)), .val (.int (0 : Int32))] [])) _
    refine XS.aloadN X17.here hx rfl (hb hby d0_53) rfl rfl ?_
    show Steps p.tables e below (T17.setTop (mkF m 54 #[.val (.ref o1), .val (.long q2), .second, .val (.long q3), .second, .val (.int (3 : Int32)), .val (.int (1 : Int32)), .val (.int (0 : Int32))] [(.ref o1)])) _
    refine st18 _ ?_
    show Steps p.tables e below (T18.setTop (mkF m 57 #[.val (.ref o1), .val (.long q2), .second, .val (.long q3), .second, .val (.int (3 : Int32)), .val (.int (1 : Int32)), .val (.int (0 : Int32))] [(.ref b14)])) _
    refine XS.iload X18.here hx rfl (hb hby d0_57) rfl ?_
    show Steps p.tables e below (T18.setTop (mkF m 59 #[.val (.ref o1), .val (.long q2), .second, .val (.long q3), .second, .val (.int (3 : Int32)), .val (.int (1 : Int32)), .val (.int (0 : Int32))] [(.int (0 : Int32)), (.ref b14)])) _
    refine XS.iconst X18.here hx rfl (hb hby d0_59) ?_
    show Steps p.tables e below (T18.setTop (mkF m 60 #[.val (.ref o1), .val (.long q2), .second, .val (.long q3), .second, .val (.int (3 : Int32)), .val (.int (1 : Int32)), .val (.int (0 : Int32))] [(.int (2 : Int32)), (.int (0 : Int32)), (.ref b14)])) _
    refine XS.sipush X18.here hx rfl (hb hby d0_60) ?_
    show Steps p.tables e below (T18.setTop (mkF m 63 #[.val (.ref o1), .val (.long q2), .second, .val (.long q3), .second, .val (.int (3 : Int32)), .val (.int (1 : Int32)), .val (.int (0 : Int32))] [(.int (4096 : Int32)), (.int (2 : Int32)), (.int (0 : Int32)), (.ref b14)])) _
    refine XS.iload X18.here hx rfl (hb hby d0_63) rfl ?_
    show Steps p.tables e below (T18.setTop (mkF m 65 #[.val (.ref o1), .val (.long q2), .second, .val (.long q3), .second, .val (.int (3 : Int32)), .val (.int (1 : Int32)), .val (.int (0 : Int32))] [(.int (3 : Int32)), (.int (4096 : Int32)), (.int (2 : Int32)), (.int (0 : Int32)), (.ref b14)])) _
    refine XS.iload X18.here hx rfl (hb hby d0_65) rfl ?_
    show Steps p.tables e below (T18.setTop (mkF m 67 #[.val (.ref o1), .val (.long q2), .second, .val (.long q3), .second, .val (.int (3 : Int32)), .val (.int (1 : Int32)), .val (.int (0 : Int32))] [(.int (0 : Int32)), (.int (3 : Int32)), (.int (4096 : Int32)), (.int (2 : Int32)), (.int (0 : Int32)), (.ref b14)])) _
    refine XS.bipush X18.here hx rfl (hb hby d0_67) ?_
    show Steps p.tables e below (T18.setTop (mkF m 69 #[.val (.ref o1), .val (.long q2), .second, .val (.long q3), .second, .val (.int (3 : Int32)), .val (.int (1 : Int32)), .val (.int (0 : Int32))] [(.int (12 : Int32)), (.int (0 : Int32)), (.int (3 : Int32)), (.int (4096 : Int32)), (.int (2 : Int32)), (.int (0 : Int32)), (.ref b14)])) _
    refine XS.ishl X18.here hx rfl (hb hby d0_69) rfl ?_
    show Steps p.tables e below (T18.setTop (mkF m 70 #[.val (.ref o1), .val (.long q2), .second, .val (.long q3), .second, .val (.int (3 : Int32)), .val (.int (1 : Int32)), .val (.int (0 : Int32))] [(.int (0 : Int32)), (.int (3 : Int32)), (.int (4096 : Int32)), (.int (2 : Int32)), (.int (0 : Int32)), (.ref b14)])) _
    refine XS.isub X18.here hx rfl (hb hby d0_70) rfl ?_
    show Steps p.tables e below (T18.setTop (mkF m 71 #[.val (.ref o1), .val (.long q2), .second, .val (.long q3), .second, .val (.int (3 : Int32)), .val (.int (1 : Int32)), .val (.int (0 : Int32))] [(.int (3 : Int32)), (.int (4096 : Int32)), (.int (2 : Int32)), (.int (0 : Int32)), (.ref b14)])) _
    refine st19 _ ?_
    show Steps p.tables e below (T19.setTop (mkF m 74 #[.val (.ref o1), .val (.long q2), .second, .val (.long q3), .second, .val (.int (3 : Int32)), .val (.int (1 : Int32)), .val (.int (0 : Int32))] [(.int (3 : Int32)), (.int (2 : Int32)), (.int (0 : Int32)), (.ref b14)])) _
    refine XS.imul X19.here hx rfl (hb hby d0_74) rfl ?_
    show Steps p.tables e below (T19.setTop (mkF m 75 #[.val (.ref o1), .val (.long q2), .second, .val (.long q3), .second, .val (.int (3 : Int32)), .val (.int (1 : Int32)), .val (.int (0 : Int32))] [(.int (6 : Int32)), (.int (0 : Int32)), (.ref b14)])) _
    refine st22 _ ?_
    show Steps p.tables e below (T22.setTop (mkF m 77 #[.val (.ref o1), .val (.long q2), .second, .val (.long q3), .second, .val (.int (3 : Int32)), .val (.int (1 : Int32)), .val (.int (0 : Int32))] [(.ref b22), (.int (0 : Int32)), (.ref b14)])) _
    refine st27 _ ?_
    show Steps p.tables e below (T27.setTop (mkF m 78 #[.val (.ref o1), .val (.long q2), .second, .val (.long q3), .second, .val (.int (3 : Int32)), .val (.int (1 : Int32)), .val (.int (0 : Int32))] [])) _
    refine XS.iinc X27.here hx rfl (hb hby d0_78) rfl (l' := #[.val (.ref o1), .val (.long q2), .second, .val (.long q3), .second, .val (.int (3 : Int32)), .val (.int (1 : Int32)), .val (.int (1 : Int32))]) rfl ?_
    show Steps p.tables e below (T27.setTop (mkF m 81 #[.val (.ref o1), .val (.long q2), .second, .val (.long q3), .second, .val (.int (3 : Int32)), .val (.int (1 : Int32)), .val (.int (1 : Int32))] [])) _
    refine XS.goto X27.here hx rfl (pc0 := 81) (pc' := 46) rfl (hb hby d0_81) (by decide) (by decide) ?_
    show Steps p.tables e below (T27.setTop (mkF m 46 #[.val (.ref o1), .val (.long q2), .second, .val (.long q3), .second, .val (.int (3 : Int32)), .val (.int (1 : Int32)), .val (.int (1 : Int32))] [])) _
    refine XS.iload X27.here hx rfl (hb hby d0_46) rfl ?_
    show Steps p.tables e below (T27.setTop (mkF m 48 #[.val (.ref o1), .val (.long q2), .second, .val (.long q3), .second, .val (.int (3 : Int32)), .val (.int (1 : Int32)), .val (.int (1 : Int32))] [(.int (1 : Int32))])) _
    refine XS.iload X27.here hx rfl (hb hby d0_48) rfl ?_
    show Steps p.tables e below (T27.setTop (mkF m 50 #[.val (.ref o1), .val (.long q2), .second, .val (.long q3), .second, .val (.int (3 : Int32)), .val (.int (1 : Int32)), .val (.int (1 : Int32))] [(.int (1 : Int32)), (.int (1 : Int32))])) _
    refine XS.icmpYes X27.here hx rfl (pc0 := 50) (pc' := 84) rfl (hb hby d0_50) rfl (flt (by decide : ¬ ((1 : Int32) < (1 : Int32)))).2.1 (by decide) (by decide) ?_
    show Steps p.tables e below (T27.setTop (mkF m 84 #[.val (.ref o1), .val (.long q2), .second, .val (.long q3), .second, .val (.int (3 : Int32)), .val (.int (1 : Int32)), .val (.int (1 : Int32))] [])) _
    exact X27.returnOut hx hret (hb hby d0_84) hr
  ·
    show Q4 Z o1 q2 q3 h0 n0 _ T27.heap _
    rw [e27]
    exact ⟨b14, b22, k14, k22, rfl, N27, KL, (Nat.le_trans M13 sz_b14), (Nat.le_trans M17 sz_b22), ne36, OV14, f28, f29, f30, f31, f32, f33, V27, f34, f37, f38⟩
theorem pd2 : parseMethodDescriptor "(JJI)V" = some ⟨[.long, .long, .int], none⟩ := by decide +kernel
theorem d4_0 : decode prog_7_method_2_code 0 = .ok (.aload_n 0, 1) := by decide +kernel
theorem d4_1 : decode prog_7_method_2_code 1 = .ok (.getfield 18, 3) := by decide +kernel
theorem d4_4 : decode prog_7_method_2_code 4 = .ok (.aload_n 0, 1) := by decide +kernel
theorem d4_5 : decode prog_7_method_2_code 5 = .ok (.getfield 28, 3) := by decide +kernel
theorem d4_8 : decode prog_7_method_2_code 8 = .ok (.bipush 12, 2) := by decide +kernel
theorem d4_10 : decode prog_7_method_2_code 10 = .ok (.iushr, 1) := by decide +kernel
theorem d4_11 : decode prog_7_method_2_code 11 = .ok (.aaload, 1) := by decide +kernel
theorem d4_12 : decode prog_7_method_2_code 12 = .ok (.astore 5, 2) := by decide +kernel
theorem d4_14 : decode prog_7_method_2_code 14 = .ok (.iconst 2, 1) := by decide +kernel
theorem d4_15 : decode prog_7_method_2_code 15 = .ok (.aload_n 0, 1) := by decide +kernel
theorem d4_16 : decode prog_7_method_2_code 16 = .ok (.getfield 28, 3) := by decide +kernel
theorem d4_19 : decode prog_7_method_2_code 19 = .ok (.sipush 4095, 3) := by decide +kernel
theorem d4_22 : decode prog_7_method_2_code 22 = .ok (.iand, 1) := by decide +kernel
theorem d4_23 : decode prog_7_method_2_code 23 = .ok (.imul, 1) := by decide +kernel
theorem d4_24 : decode prog_7_method_2_code 24 = .ok (.istore 6, 2) := by decide +kernel
theorem d4_26 : decode prog_7_method_2_code 26 = .ok (.aload 5, 2) := by decide +kernel
theorem d4_28 : decode prog_7_method_2_code 28 = .ok (.iload 6, 2) := by decide +kernel
theorem d4_30 : decode prog_7_method_2_code 30 = .ok (.lload_n 1, 1) := by decide +kernel
theorem d4_31 : decode prog_7_method_2_code 31 = .ok (.lastore, 1) := by decide +kernel
theorem d4_32 : decode prog_7_method_2_code 32 = .ok (.aload 5, 2) := by decide +kernel
theorem d4_34 : decode prog_7_method_2_code 34 = .ok (.iload 6, 2) := by decide +kernel
theorem d4_36 : decode prog_7_method_2_code 36 = .ok (.iconst 1, 1) := by decide +kernel
theorem d4_37 : decode prog_7_method_2_code 37 = .ok (.iadd, 1) := by decide +kernel
theorem d4_38 : decode prog_7_method_2_code 38 = .ok (.lload_n 3, 1) := by decide +kernel
theorem d4_39 : decode prog_7_method_2_code 39 = .ok (.lastore, 1) := by decide +kernel
theorem d4_40 : decode prog_7_method_2_code 40 = .ok (.aload_n 0, 1) := by decide +kernel
theorem d4_41 : decode prog_7_method_2_code 41 = .ok (.dup, 1) := by decide +kernel
theorem d4_42 : decode prog_7_method_2_code 42 = .ok (.getfield 28, 3) := by decide +kernel
theorem d4_45 : decode prog_7_method_2_code 45 = .ok (.iconst 1, 1) := by decide +kernel
theorem d4_46 : decode prog_7_method_2_code 46 = .ok (.iadd, 1) := by decide +kernel
theorem d4_47 : decode prog_7_method_2_code 47 = .ok (.putfield 28, 3) := by decide +kernel
theorem d4_50 : decode prog_7_method_2_code 50 = .ok (.return_, 1) := by decide +kernel
theorem ef5 (m : MethodId) (x0 : Addr) (x1 : Int64) (x2 : Int64) : entryFrame m #[(.ref x0), (.long x1), (.long x2)] 7 = mkF m 0 #[.val (.ref x0), .val (.long x1), .second, .val (.long x2), .second, .unset, .unset] [] := by first | (simp [entryFrame, mkF, argsToLocals, Value.category]; done) | rfl
def Q5 (Z : State) (o1 : Addr) (o6 : Addr) (o8 : Addr) (kc7 : ClassId) (q4 : Int64) (q5 : Int64) (kc9 : ClassId) (q2 : Int64) (q3 : Int64) (h0 : Heap) (n0 : Nat) (v : Option Value) (h : Heap) (L : List Loc) : Prop :=
  (v = none ∧ Fr n0 L ∧ Keep h0 h [o8, o1] ∧ (Arv Z h o8 kc9 .long (6 : Int32) [(.long q2), (.long q3), (.long (0 : Int64)), (.long (0 : Int64)), (.long (0 : Int64)), (.long (0 : Int64))] (.long (0 : Int64))) ∧ (Exa Z h o8 "[J") ∧ (Exa Z h o1 "com/example/driftless/driftless/DeleteOperations") ∧ (Fld Z h o1 "com/example/driftless/driftless/DeleteOperations" "firstCounter" "J" (.long q4)) ∧ (Fld Z h o1 "com/example/driftless/driftless/DeleteOperations" "replica" "J" (.long q5)) ∧ (Fld Z h o1 "com/example/driftless/driftless/DeleteOperations" "size" "I" (.int (1 : Int32))) ∧ (Fld Z h o1 "com/example/driftless/driftless/DeleteOperations" "targets" "[[J" (.ref o6)) ∧ (Fld Z h o1 "java/util/AbstractList" "modCount" "I" (.int (0 : Int32))))
set_option maxRecDepth 65536 in
set_option maxHeartbeats 40000000 in
theorem rm5 (l : Launch) (Z : State) (a0 : Array Value) (hw : ∀ d ∈ tables_1, d.before a0 Z = true) (ws : List Jvm.Cond) (o1 : Addr) (o6 : Addr) (o8 : Addr) (kc7 : ClassId) (q4 : Int64) (q5 : Int64) (kc9 : ClassId) (q2 : Int64) (q3 : Int64) (h0 : Heap) (n0 : Nat) (O0 : Old Z n0 h0) (g_o1 : n0 ≤ o1) (g_o6 : n0 ≤ o6) (g_o8 : n0 ≤ o8) (Ov_kc7 : OvrA Z kc7 .long "[J") (P0 : Exa Z h0 o1 "com/example/driftless/driftless/DeleteOperations") (P1 : Fld Z h0 o1 "com/example/driftless/driftless/DeleteOperations" "firstCounter" "J" (.long q4)) (P2 : Fld Z h0 o1 "com/example/driftless/driftless/DeleteOperations" "replica" "J" (.long q5)) (P3 : Fld Z h0 o1 "com/example/driftless/driftless/DeleteOperations" "size" "I" (.int (0 : Int32))) (P4 : Fld Z h0 o1 "com/example/driftless/driftless/DeleteOperations" "targets" "[[J" (.ref o6)) (P5 : Fld Z h0 o1 "java/util/AbstractList" "modCount" "I" (.int (0 : Int32))) (P6 : Arv Z h0 o6 kc7 (.array .long) (1 : Int32) [(.ref o8)] .null) (P8 : Arv Z h0 o8 kc9 .long (6 : Int32) [(.long (0 : Int64)), (.long (0 : Int64)), (.long (0 : Int64)), (.long (0 : Int64)), (.long (0 : Int64)), (.long (0 : Int64))] (.long (0 : Int64))) (P9 : Exa Z h0 o8 "[J") :
    MetFree l (⟨"com/example/driftless/driftless/DeleteOperations", "append", "(JJ)V"⟩ : MethodName) (head1 (Jvm.Cond.code (⟨"com/example/driftless/driftless/DeleteOperations", "append", "(JJ)V"⟩ : MethodName) prog_7_method_2_code 7 none :: ws) ({ frames := 0, cells := 0, slots := 0, locals := 0 } : Room)) (fun a U => a = #[(.ref o1), (.long q2), (.long q3)] ∧ Z.Warmed39 U.vm ∧ U.heap = h0) (fun _ _ _ _ _ => True) (fun _ U o U' => ∃ v L, o = .returned v ∧ Q5 Z o1 o6 o8 kc7 q4 q5 kc9 q2 q3 h0 n0 v U'.heap L ∧ FrameEnd U o U' L ({ frames := 0, cells := 0, slots := 0, locals := 0 } : Room).cells ({ frames := 0, cells := 0, slots := 0, locals := 0 } : Room).slots) := by
  refine MetFree.of_bodySF (plainFor_of_name pn2) hisR ?_
  intro p e s m args below meth c s₁ Bd hml0 hP hK
  obtain ⟨rfl, hZ, hh⟩ := hP
  have hx := Bd.exec
  have hby := Bd.bytes
  have hml : c.maxLocals = 7 := hml0
  have hown : s.vm.findClass "com/example/driftless/driftless/DeleteOperations" = some m.cls := findClass_of_methodNamed Bd.named
  have hnm := (name_of_methodNamed Bd.named Bd.method).1
  have hret := Bd.returns
  have hlk : meth.locks = false := BodyLoose.notSynchronized Bd
  have X0 : Stand p l e ({ frames := 0, cells := 0, slots := 0, locals := 0 } : Room) s m #[(.ref o1), (.long q2), (.long q3)] below meth c s₁ [] 0 0 := Stand.of_body Bd
  have e0 : s₁.heap = h0 := by rw [← hh, Bd.state]; rfl
  have N0 := Fr.nil n0
  have pre0 : ∀ t, Steps p.tables e below (s₁.setTop (mkF m 0 #[.val (.ref o1), .val (.long q2), .second, .val (.long q3), .second, .unset, .unset] [])) t → Steps p.tables e below (s₁.setTop (entryFrame m #[(.ref o1), (.long q2), (.long q3)] 7)) t := fun t k => castTop (ef5 m o1 q2 q3) k
  obtain ⟨T1, X1, e1, st1⟩ := getF X0 hx hZ hown (host := "") (Or.inl (hw _ (List.mem_of_getElem? (i := 29) rfl))) Via.refl e0 P4 (g := (mkF m 1 #[.val (.ref o1), .val (.long q2), .second, .val (.long q3), .second, .unset, .unset] [(.ref o1)])) rfl rfl (hb hby d4_1)
  obtain ⟨T2, X2, e2, st2⟩ := getF X1 hx hZ hown (host := "") (Or.inl (hw _ (List.mem_of_getElem? (i := 42) rfl))) Via.refl e1 P3 (g := (mkF m 5 #[.val (.ref o1), .val (.long q2), .second, .val (.long q3), .second, .unset, .unset] [(.ref o1), (.ref o6)])) rfl rfl (hb hby d4_5)
  obtain ⟨cl3, Ar3, qa3, Sa3, Na3, Ha3, Ga3⟩ := id (P6)
  have hin3 : ¬ ((0 : Int32) < 0 ∨ cl3.slots.size ≤ ((0 : Int32)).toNatClampNeg) := inb_of Sa3 ⟨by decide, by decide⟩
  have hat3 : cl3.slots[((0 : Int32)).toNatClampNeg]? = some (.ref o8) := Has.at Ha3 hin3 rfl
  obtain ⟨T4, X4, e4, st4⟩ := getF X2 hx hZ hown (host := "") (Or.inl (hw _ (List.mem_of_getElem? (i := 42) rfl))) Via.refl e2 P3 (g := (mkF m 16 #[.val (.ref o1), .val (.long q2), .second, .val (.long q3), .second, .val (.ref o8), .unset] [(.ref o1), (.int (2 : Int32))])) rfl rfl (hb hby d4_16)
  obtain ⟨cl5, Ar5, qa5, Sa5, Na5, Ha5, Ga5⟩ := id (P8)
  have hin5 : ¬ ((0 : Int32) < 0 ∨ cl5.slots.size ≤ ((0 : Int32)).toNatClampNeg) := inb_of Sa5 ⟨by decide, by decide⟩
  obtain ⟨T6, h6, X6, e6, W6, st6⟩ := stJ X4 hx hZ e4 Ar5 (j := (0 : Int32)) hin5 (g := (mkF m 31 #[.val (.ref o1), .val (.long q2), .second, .val (.long q3), .second, .val (.ref o8), .val (.int (0 : Int32))] [(.long q2), (.int (0 : Int32)), (.ref o8)])) rfl rfl (hb hby d4_31)
  have V6 : Arv Z h6 o8 kc9 .long (6 : Int32) [(.long q2), (.long (0 : Int64)), (.long (0 : Int64)), (.long (0 : Int64)), (.long (0 : Int64)), (.long (0 : Int64))] (.long (0 : Int64)) := Arv.set Ar5 qa5 Sa5 Na5 Ha5 Ga5 rfl W6 0 rfl (Nat.le_of_ble_eq_true rfl)
  have N6 := Fr.snoc X6 N0 g_o8
  have M6 : h0.size ≤ h6.size := Nat.le_trans (Nat.le_refl _) (Nat.le_of_eq W6.size.symm)
  have O6 := Old.wr O0 W6 g_o8
  obtain ⟨cl7, Ar7, qa7, Sa7, Na7, Ha7, Ga7⟩ := id (V6)
  have hin7 : ¬ ((1 : Int32) < 0 ∨ cl7.slots.size ≤ ((1 : Int32)).toNatClampNeg) := inb_of Sa7 ⟨by decide, by decide⟩
  obtain ⟨T8, h8, X8, e8, W8, st8⟩ := stJ X6 hx hZ e6 Ar7 (j := (1 : Int32)) hin7 (g := (mkF m 39 #[.val (.ref o1), .val (.long q2), .second, .val (.long q3), .second, .val (.ref o8), .val (.int (0 : Int32))] [(.long q3), (.int (1 : Int32)), (.ref o8)])) rfl rfl (hb hby d4_39)
  have V8 : Arv Z h8 o8 kc9 .long (6 : Int32) [(.long q2), (.long q3), (.long (0 : Int64)), (.long (0 : Int64)), (.long (0 : Int64)), (.long (0 : Int64))] (.long (0 : Int64)) := Arv.set Ar7 qa7 Sa7 Na7 Ha7 Ga7 rfl W8 1 rfl (Nat.le_of_ble_eq_true rfl)
  have N8 := Fr.snoc X8 N6 g_o8
  have M8 : h0.size ≤ h8.size := Nat.le_trans M6 (Nat.le_of_eq W8.size.symm)
  have O8 := Old.wr O6 W8 g_o8
  have f9 := ((P0.wr W6).wr W8)
  have f10 := ((P9.wr W6).wr W8)
  have ne11 : o1 ≠ o8 := ne_exa f9 f10 (by decide)
  have f12 := ((P3.other W6 (Or.inl ne11)).other W8 (Or.inl ne11))
  obtain ⟨T13, X13, e13, st13⟩ := getF X8 hx hZ hown (host := "") (Or.inl (hw _ (List.mem_of_getElem? (i := 42) rfl))) Via.refl e8 f12 (g := (mkF m 42 #[.val (.ref o1), .val (.long q2), .second, .val (.long q3), .second, .val (.ref o8), .val (.int (0 : Int32))] [(.ref o1), (.ref o1)])) rfl rfl (hb hby d4_42)
  obtain ⟨T14, h14, X14, e14, W14, st14⟩ := putF X13 hx hZ hown (host := "") (Or.inl (hw _ (List.mem_of_getElem? (i := 42) rfl))) Via.refl e13 f12 f9 (Or.inl (hw _ (List.mem_of_getElem? (i := 43) rfl))) (hw _ (List.mem_of_getElem? (i := 1) rfl)) (ty := .int) (by decide) rfl rfl (g := (mkF m 47 #[.val (.ref o1), .val (.long q2), .second, .val (.long q3), .second, .val (.ref o8), .val (.int (0 : Int32))] [(.int (1 : Int32)), (.ref o1)])) rfl rfl (hb hby d4_47)
  have N14 := Fr.snoc X14 N8 g_o1
  have Fw14 := f12.same W14
  have M14 : h0.size ≤ h14.size := Nat.le_trans M8 (Nat.le_of_eq W14.size.symm)
  have O14 := Old.wr O8 W14 g_o1
  obtain ⟨fs, hr, hrun, hended, hW, hsame⟩ := X14.leave (v := none) (fun _ => rfl)
  have KL : Keep h0 h14 [o8, o1] := ((((Keep.refl h0 [o8, o1]).wr W6 (Or.inl (List.mem_of_getElem? (i := 0) rfl))).wr W8 (Or.inl (List.mem_of_getElem? (i := 0) rfl))).wr W14 (Or.inl (List.mem_of_getElem? (i := 1) rfl)))
  have f15 := (V8.other W14 (Ne.symm ne11))
  have f16 := (f10.wr W14)
  have f17 := (f9.wr W14)
  have f18 := (((P1.other W6 (Or.inl ne11)).other W8 (Or.inl ne11)).other W14 (Or.inr (slot_ne (Or.inr (hw _ (List.mem_of_getElem? (i := 24) rfl))) (Or.inl (hw _ (List.mem_of_getElem? (i := 43) rfl))) (by decide) (t := .long) (t' := .int) (by decide) (by decide))))
  have f19 := (((P2.other W6 (Or.inl ne11)).other W8 (Or.inl ne11)).other W14 (Or.inr (slot_ne (Or.inr (hw _ (List.mem_of_getElem? (i := 26) rfl))) (Or.inl (hw _ (List.mem_of_getElem? (i := 43) rfl))) (by decide) (t := .long) (t' := .int) (by decide) (by decide))))
  have f20 := (((P4.other W6 (Or.inl ne11)).other W8 (Or.inl ne11)).other W14 (Or.inr (slot_ne (Or.inr (hw _ (List.mem_of_getElem? (i := 30) rfl))) (Or.inl (hw _ (List.mem_of_getElem? (i := 43) rfl))) (by decide) (t := (.array (.array .long))) (t' := .int) (by decide) (by decide))))
  have f21 := (((P5.other W6 (Or.inl ne11)).other W8 (Or.inl ne11)).other W14 (Or.inr (slot_ne (Or.inl (hw _ (List.mem_of_getElem? (i := 22) rfl))) (Or.inl (hw _ (List.mem_of_getElem? (i := 43) rfl))) (by decide) (t := .int) (t' := .int) (by decide) (by decide))))
  refine ⟨_, _, pre0 _ ?_, hrun, hended, _, _, rfl, ?_, ⟨_, rfl⟩, hW, hsame.mono (by decide) (by decide)⟩
  ·
    show Steps p.tables e below (s₁.setTop (mkF m 0 #[.val (.ref o1), .val (.long q2), .second, .val (.long q3), .second, .unset, .unset] [])) _
    refine XS.aloadN X0.here hx rfl (hb hby d4_0) rfl rfl ?_
    show Steps p.tables e below (s₁.setTop (mkF m 1 #[.val (.ref o1), .val (.long q2), .second, .val (.long q3), .second, .unset, .unset] [(.ref o1)])) _
    refine st1 _ ?_
    show Steps p.tables e below (T1.setTop (mkF m 4 #[.val (.ref o1), .val (.long q2), .second, .val (.long q3), .second, .unset, .unset] [(.ref o6)])) _
    refine XS.aloadN X1.here hx rfl (hb hby d4_4) rfl rfl ?_
    show Steps p.tables e below (T1.setTop (mkF m 5 #[.val (.ref o1), .val (.long q2), .second, .val (.long q3), .second, .unset, .unset] [(.ref o1), (.ref o6)])) _
    refine st2 _ ?_
    show Steps p.tables e below (T2.setTop (mkF m 8 #[.val (.ref o1), .val (.long q2), .second, .val (.long q3), .second, .unset, .unset] [(.int (0 : Int32)), (.ref o6)])) _
    refine XS.bipush X2.here hx rfl (hb hby d4_8) ?_
    show Steps p.tables e below (T2.setTop (mkF m 10 #[.val (.ref o1), .val (.long q2), .second, .val (.long q3), .second, .unset, .unset] [(.int (12 : Int32)), (.int (0 : Int32)), (.ref o6)])) _
    refine XS.iushr X2.here hx rfl (hb hby d4_10) rfl ?_
    show Steps p.tables e below (T2.setTop (mkF m 11 #[.val (.ref o1), .val (.long q2), .second, .val (.long q3), .second, .unset, .unset] [(.int (0 : Int32)), (.ref o6)])) _
    refine X2.aaload hx (j := (0 : Int32)) (v := (.ref o8)) (by rw [e2]; exact Ar3.1) (State.isArrayOf_alike hZ.alike Ar3.2.1) rfl Ar3.2.2 hin3 hat3 (g := (mkF m 11 #[.val (.ref o1), .val (.long q2), .second, .val (.long q3), .second, .unset, .unset] [(.int (0 : Int32)), (.ref o6)])) rfl rfl (hb hby d4_11) _ ?_
    show Steps p.tables e below (T2.setTop (mkF m 12 #[.val (.ref o1), .val (.long q2), .second, .val (.long q3), .second, .unset, .unset] [(.ref o8)])) _
    refine XS.astore X2.here hx rfl (hb hby d4_12) rfl rfl (l' := #[.val (.ref o1), .val (.long q2), .second, .val (.long q3), .second, .val (.ref o8), .unset]) rfl ?_
    show Steps p.tables e below (T2.setTop (mkF m 14 #[.val (.ref o1), .val (.long q2), .second, .val (.long q3), .second, .val (.ref o8), .unset] [])) _
    refine XS.iconst X2.here hx rfl (hb hby d4_14) ?_
    show Steps p.tables e below (T2.setTop (mkF m 15 #[.val (.ref o1), .val (.long q2), .second, .val (.long q3), .second, .val (.ref o8), .unset] [(.int (2 : Int32))])) _
    refine XS.aloadN X2.here hx rfl (hb hby d4_15) rfl rfl ?_
    show Steps p.tables e below (T2.setTop (mkF m 16 #[.val (.ref o1), .val (.long q2), .second, .val (.long q3), .second, .val (.ref o8), .unset] [(.ref o1), (.int (2 : Int32))])) _
    refine st4 _ ?_
    show Steps p.tables e below (T4.setTop (mkF m 19 #[.val (.ref o1), .val (.long q2), .second, .val (.long q3), .second, .val (.ref o8), .unset] [(.int (0 : Int32)), (.int (2 : Int32))])) _
    refine XS.sipush X4.here hx rfl (hb hby d4_19) ?_
    show Steps p.tables e below (T4.setTop (mkF m 22 #[.val (.ref o1), .val (.long q2), .second, .val (.long q3), .second, .val (.ref o8), .unset] [(.int (4095 : Int32)), (.int (0 : Int32)), (.int (2 : Int32))])) _
    refine XS.iand X4.here hx rfl (hb hby d4_22) rfl ?_
    show Steps p.tables e below (T4.setTop (mkF m 23 #[.val (.ref o1), .val (.long q2), .second, .val (.long q3), .second, .val (.ref o8), .unset] [(.int (0 : Int32)), (.int (2 : Int32))])) _
    refine XS.imul X4.here hx rfl (hb hby d4_23) rfl ?_
    show Steps p.tables e below (T4.setTop (mkF m 24 #[.val (.ref o1), .val (.long q2), .second, .val (.long q3), .second, .val (.ref o8), .unset] [(.int (0 : Int32))])) _
    refine XS.istore X4.here hx rfl (hb hby d4_24) rfl (l' := #[.val (.ref o1), .val (.long q2), .second, .val (.long q3), .second, .val (.ref o8), .val (.int (0 : Int32))]) rfl ?_
    show Steps p.tables e below (T4.setTop (mkF m 26 #[.val (.ref o1), .val (.long q2), .second, .val (.long q3), .second, .val (.ref o8), .val (.int (0 : Int32))] [])) _
    refine XS.aload X4.here hx rfl (hb hby d4_26) rfl rfl ?_
    show Steps p.tables e below (T4.setTop (mkF m 28 #[.val (.ref o1), .val (.long q2), .second, .val (.long q3), .second, .val (.ref o8), .val (.int (0 : Int32))] [(.ref o8)])) _
    refine XS.iload X4.here hx rfl (hb hby d4_28) rfl ?_
    show Steps p.tables e below (T4.setTop (mkF m 30 #[.val (.ref o1), .val (.long q2), .second, .val (.long q3), .second, .val (.ref o8), .val (.int (0 : Int32))] [(.int (0 : Int32)), (.ref o8)])) _
    refine XS.lloadN X4.here hx rfl (hb hby d4_30) rfl ?_
    show Steps p.tables e below (T4.setTop (mkF m 31 #[.val (.ref o1), .val (.long q2), .second, .val (.long q3), .second, .val (.ref o8), .val (.int (0 : Int32))] [(.long q2), (.int (0 : Int32)), (.ref o8)])) _
    refine st6 _ ?_
    show Steps p.tables e below (T6.setTop (mkF m 32 #[.val (.ref o1), .val (.long q2), .second, .val (.long q3), .second, .val (.ref o8), .val (.int (0 : Int32))] [])) _
    refine XS.aload X6.here hx rfl (hb hby d4_32) rfl rfl ?_
    show Steps p.tables e below (T6.setTop (mkF m 34 #[.val (.ref o1), .val (.long q2), .second, .val (.long q3), .second, .val (.ref o8), .val (.int (0 : Int32))] [(.ref o8)])) _
    refine XS.iload X6.here hx rfl (hb hby d4_34) rfl ?_
    show Steps p.tables e below (T6.setTop (mkF m 36 #[.val (.ref o1), .val (.long q2), .second, .val (.long q3), .second, .val (.ref o8), .val (.int (0 : Int32))] [(.int (0 : Int32)), (.ref o8)])) _
    refine XS.iconst X6.here hx rfl (hb hby d4_36) ?_
    show Steps p.tables e below (T6.setTop (mkF m 37 #[.val (.ref o1), .val (.long q2), .second, .val (.long q3), .second, .val (.ref o8), .val (.int (0 : Int32))] [(.int (1 : Int32)), (.int (0 : Int32)), (.ref o8)])) _
    refine XS.iadd X6.here hx rfl (hb hby d4_37) rfl ?_
    show Steps p.tables e below (T6.setTop (mkF m 38 #[.val (.ref o1), .val (.long q2), .second, .val (.long q3), .second, .val (.ref o8), .val (.int (0 : Int32))] [(.int (1 : Int32)), (.ref o8)])) _
    refine XS.lloadN X6.here hx rfl (hb hby d4_38) rfl ?_
    show Steps p.tables e below (T6.setTop (mkF m 39 #[.val (.ref o1), .val (.long q2), .second, .val (.long q3), .second, .val (.ref o8), .val (.int (0 : Int32))] [(.long q3), (.int (1 : Int32)), (.ref o8)])) _
    refine st8 _ ?_
    show Steps p.tables e below (T8.setTop (mkF m 40 #[.val (.ref o1), .val (.long q2), .second, .val (.long q3), .second, .val (.ref o8), .val (.int (0 : Int32))] [])) _
    refine XS.aloadN X8.here hx rfl (hb hby d4_40) rfl rfl ?_
    show Steps p.tables e below (T8.setTop (mkF m 41 #[.val (.ref o1), .val (.long q2), .second, .val (.long q3), .second, .val (.ref o8), .val (.int (0 : Int32))] [(.ref o1)])) _
    refine XS.dup X8.here hx rfl (hb hby d4_41) rfl rfl ?_
    show Steps p.tables e below (T8.setTop (mkF m 42 #[.val (.ref o1), .val (.long q2), .second, .val (.long q3), .second, .val (.ref o8), .val (.int (0 : Int32))] [(.ref o1), (.ref o1)])) _
    refine st13 _ ?_
    show Steps p.tables e below (T13.setTop (mkF m 45 #[.val (.ref o1), .val (.long q2), .second, .val (.long q3), .second, .val (.ref o8), .val (.int (0 : Int32))] [(.int (0 : Int32)), (.ref o1)])) _
    refine XS.iconst X13.here hx rfl (hb hby d4_45) ?_
    show Steps p.tables e below (T13.setTop (mkF m 46 #[.val (.ref o1), .val (.long q2), .second, .val (.long q3), .second, .val (.ref o8), .val (.int (0 : Int32))] [(.int (1 : Int32)), (.int (0 : Int32)), (.ref o1)])) _
    refine XS.iadd X13.here hx rfl (hb hby d4_46) rfl ?_
    show Steps p.tables e below (T13.setTop (mkF m 47 #[.val (.ref o1), .val (.long q2), .second, .val (.long q3), .second, .val (.ref o8), .val (.int (0 : Int32))] [(.int (1 : Int32)), (.ref o1)])) _
    refine st14 _ ?_
    show Steps p.tables e below (T14.setTop (mkF m 50 #[.val (.ref o1), .val (.long q2), .second, .val (.long q3), .second, .val (.ref o8), .val (.int (0 : Int32))] [])) _
    exact X14.returnOut hx hret (hb hby d4_50) hr
  ·
    show Q5 Z o1 o6 o8 kc7 q4 q5 kc9 q2 q3 h0 n0 _ T14.heap _
    rw [e14]
    exact ⟨rfl, N14, KL, f15, f16, f17, f18, f19, Fw14, f20, f21⟩
theorem pd3 : parseMethodDescriptor "(JJ)V" = some ⟨[.long, .long], none⟩ := by decide +kernel
theorem ef6 (m : MethodId) (x0 : Addr) (x1 : Int64) (x2 : Int64) : entryFrame m #[(.ref x0), (.long x1), (.long x2)] 7 = mkF m 0 #[.val (.ref x0), .val (.long x1), .second, .val (.long x2), .second, .unset, .unset] [] := by first | (simp [entryFrame, mkF, argsToLocals, Value.category]; done) | rfl
def Q6 (Z : State) (o1 : Addr) (o6 : Addr) (o8 : Addr) (kc7 : ClassId) (q4 : Int64) (q5 : Int64) (kc9 : ClassId) (q10 : Int64) (q11 : Int64) (q2 : Int64) (q3 : Int64) (h0 : Heap) (n0 : Nat) (v : Option Value) (h : Heap) (L : List Loc) : Prop :=
  (v = none ∧ Fr n0 L ∧ Keep h0 h [o8, o1] ∧ (Arv Z h o8 kc9 .long (6 : Int32) [(.long q10), (.long q11), (.long q2), (.long q3), (.long (0 : Int64)), (.long (0 : Int64))] (.long (0 : Int64))) ∧ (Exa Z h o8 "[J") ∧ (Exa Z h o1 "com/example/driftless/driftless/DeleteOperations") ∧ (Fld Z h o1 "com/example/driftless/driftless/DeleteOperations" "firstCounter" "J" (.long q4)) ∧ (Fld Z h o1 "com/example/driftless/driftless/DeleteOperations" "replica" "J" (.long q5)) ∧ (Fld Z h o1 "com/example/driftless/driftless/DeleteOperations" "size" "I" (.int (2 : Int32))) ∧ (Fld Z h o1 "com/example/driftless/driftless/DeleteOperations" "targets" "[[J" (.ref o6)) ∧ (Fld Z h o1 "java/util/AbstractList" "modCount" "I" (.int (0 : Int32))))
set_option maxRecDepth 65536 in
set_option maxHeartbeats 40000000 in
theorem rm6 (l : Launch) (Z : State) (a0 : Array Value) (hw : ∀ d ∈ tables_1, d.before a0 Z = true) (ws : List Jvm.Cond) (o1 : Addr) (o6 : Addr) (o8 : Addr) (kc7 : ClassId) (q4 : Int64) (q5 : Int64) (kc9 : ClassId) (q10 : Int64) (q11 : Int64) (q2 : Int64) (q3 : Int64) (h0 : Heap) (n0 : Nat) (O0 : Old Z n0 h0) (g_o1 : n0 ≤ o1) (g_o6 : n0 ≤ o6) (g_o8 : n0 ≤ o8) (Ov_kc7 : OvrA Z kc7 .long "[J") (P0 : Exa Z h0 o1 "com/example/driftless/driftless/DeleteOperations") (P1 : Fld Z h0 o1 "com/example/driftless/driftless/DeleteOperations" "firstCounter" "J" (.long q4)) (P2 : Fld Z h0 o1 "com/example/driftless/driftless/DeleteOperations" "replica" "J" (.long q5)) (P3 : Fld Z h0 o1 "com/example/driftless/driftless/DeleteOperations" "size" "I" (.int (1 : Int32))) (P4 : Fld Z h0 o1 "com/example/driftless/driftless/DeleteOperations" "targets" "[[J" (.ref o6)) (P5 : Fld Z h0 o1 "java/util/AbstractList" "modCount" "I" (.int (0 : Int32))) (P6 : Arv Z h0 o6 kc7 (.array .long) (1 : Int32) [(.ref o8)] .null) (P8 : Arv Z h0 o8 kc9 .long (6 : Int32) [(.long q10), (.long q11), (.long (0 : Int64)), (.long (0 : Int64)), (.long (0 : Int64)), (.long (0 : Int64))] (.long (0 : Int64))) (P9 : Exa Z h0 o8 "[J") :
    MetFree l (⟨"com/example/driftless/driftless/DeleteOperations", "append", "(JJ)V"⟩ : MethodName) (head1 (Jvm.Cond.code (⟨"com/example/driftless/driftless/DeleteOperations", "append", "(JJ)V"⟩ : MethodName) prog_7_method_2_code 7 none :: ws) ({ frames := 0, cells := 0, slots := 0, locals := 0 } : Room)) (fun a U => a = #[(.ref o1), (.long q2), (.long q3)] ∧ Z.Warmed39 U.vm ∧ U.heap = h0) (fun _ _ _ _ _ => True) (fun _ U o U' => ∃ v L, o = .returned v ∧ Q6 Z o1 o6 o8 kc7 q4 q5 kc9 q10 q11 q2 q3 h0 n0 v U'.heap L ∧ FrameEnd U o U' L ({ frames := 0, cells := 0, slots := 0, locals := 0 } : Room).cells ({ frames := 0, cells := 0, slots := 0, locals := 0 } : Room).slots) := by
  refine MetFree.of_bodySF (plainFor_of_name pn2) hisR ?_
  intro p e s m args below meth c s₁ Bd hml0 hP hK
  obtain ⟨rfl, hZ, hh⟩ := hP
  have hx := Bd.exec
  have hby := Bd.bytes
  have hml : c.maxLocals = 7 := hml0
  have hown : s.vm.findClass "com/example/driftless/driftless/DeleteOperations" = some m.cls := findClass_of_methodNamed Bd.named
  have hnm := (name_of_methodNamed Bd.named Bd.method).1
  have hret := Bd.returns
  have hlk : meth.locks = false := BodyLoose.notSynchronized Bd
  have X0 : Stand p l e ({ frames := 0, cells := 0, slots := 0, locals := 0 } : Room) s m #[(.ref o1), (.long q2), (.long q3)] below meth c s₁ [] 0 0 := Stand.of_body Bd
  have e0 : s₁.heap = h0 := by rw [← hh, Bd.state]; rfl
  have N0 := Fr.nil n0
  have pre0 : ∀ t, Steps p.tables e below (s₁.setTop (mkF m 0 #[.val (.ref o1), .val (.long q2), .second, .val (.long q3), .second, .unset, .unset] [])) t → Steps p.tables e below (s₁.setTop (entryFrame m #[(.ref o1), (.long q2), (.long q3)] 7)) t := fun t k => castTop (ef6 m o1 q2 q3) k
  obtain ⟨T1, X1, e1, st1⟩ := getF X0 hx hZ hown (host := "") (Or.inl (hw _ (List.mem_of_getElem? (i := 29) rfl))) Via.refl e0 P4 (g := (mkF m 1 #[.val (.ref o1), .val (.long q2), .second, .val (.long q3), .second, .unset, .unset] [(.ref o1)])) rfl rfl (hb hby d4_1)
  obtain ⟨T2, X2, e2, st2⟩ := getF X1 hx hZ hown (host := "") (Or.inl (hw _ (List.mem_of_getElem? (i := 42) rfl))) Via.refl e1 P3 (g := (mkF m 5 #[.val (.ref o1), .val (.long q2), .second, .val (.long q3), .second, .unset, .unset] [(.ref o1), (.ref o6)])) rfl rfl (hb hby d4_5)
  obtain ⟨cl3, Ar3, qa3, Sa3, Na3, Ha3, Ga3⟩ := id (P6)
  have hin3 : ¬ ((0 : Int32) < 0 ∨ cl3.slots.size ≤ ((0 : Int32)).toNatClampNeg) := inb_of Sa3 ⟨by decide, by decide⟩
  have hat3 : cl3.slots[((0 : Int32)).toNatClampNeg]? = some (.ref o8) := Has.at Ha3 hin3 rfl
  obtain ⟨T4, X4, e4, st4⟩ := getF X2 hx hZ hown (host := "") (Or.inl (hw _ (List.mem_of_getElem? (i := 42) rfl))) Via.refl e2 P3 (g := (mkF m 16 #[.val (.ref o1), .val (.long q2), .second, .val (.long q3), .second, .val (.ref o8), .unset] [(.ref o1), (.int (2 : Int32))])) rfl rfl (hb hby d4_16)
  obtain ⟨cl5, Ar5, qa5, Sa5, Na5, Ha5, Ga5⟩ := id (P8)
  have hin5 : ¬ ((2 : Int32) < 0 ∨ cl5.slots.size ≤ ((2 : Int32)).toNatClampNeg) := inb_of Sa5 ⟨by decide, by decide⟩
  obtain ⟨T6, h6, X6, e6, W6, st6⟩ := stJ X4 hx hZ e4 Ar5 (j := (2 : Int32)) hin5 (g := (mkF m 31 #[.val (.ref o1), .val (.long q2), .second, .val (.long q3), .second, .val (.ref o8), .val (.int (2 : Int32))] [(.long q2), (.int (2 : Int32)), (.ref o8)])) rfl rfl (hb hby d4_31)
  have V6 : Arv Z h6 o8 kc9 .long (6 : Int32) [(.long q10), (.long q11), (.long q2), (.long (0 : Int64)), (.long (0 : Int64)), (.long (0 : Int64))] (.long (0 : Int64)) := Arv.set Ar5 qa5 Sa5 Na5 Ha5 Ga5 rfl W6 2 rfl (Nat.le_of_ble_eq_true rfl)
  have N6 := Fr.snoc X6 N0 g_o8
  have M6 : h0.size ≤ h6.size := Nat.le_trans (Nat.le_refl _) (Nat.le_of_eq W6.size.symm)
  have O6 := Old.wr O0 W6 g_o8
  obtain ⟨cl7, Ar7, qa7, Sa7, Na7, Ha7, Ga7⟩ := id (V6)
  have hin7 : ¬ ((3 : Int32) < 0 ∨ cl7.slots.size ≤ ((3 : Int32)).toNatClampNeg) := inb_of Sa7 ⟨by decide, by decide⟩
  obtain ⟨T8, h8, X8, e8, W8, st8⟩ := stJ X6 hx hZ e6 Ar7 (j := (3 : Int32)) hin7 (g := (mkF m 39 #[.val (.ref o1), .val (.long q2), .second, .val (.long q3), .second, .val (.ref o8), .val (.int (2 : Int32))] [(.long q3), (.int (3 : Int32)), (.ref o8)])) rfl rfl (hb hby d4_39)
  have V8 : Arv Z h8 o8 kc9 .long (6 : Int32) [(.long q10), (.long q11), (.long q2), (.long q3), (.long (0 : Int64)), (.long (0 : Int64))] (.long (0 : Int64)) := Arv.set Ar7 qa7 Sa7 Na7 Ha7 Ga7 rfl W8 3 rfl (Nat.le_of_ble_eq_true rfl)
  have N8 := Fr.snoc X8 N6 g_o8
  have M8 : h0.size ≤ h8.size := Nat.le_trans M6 (Nat.le_of_eq W8.size.symm)
  have O8 := Old.wr O6 W8 g_o8
  have f9 := ((P0.wr W6).wr W8)
  have f10 := ((P9.wr W6).wr W8)
  have ne11 : o1 ≠ o8 := ne_exa f9 f10 (by decide)
  have f12 := ((P3.other W6 (Or.inl ne11)).other W8 (Or.inl ne11))
  obtain ⟨T13, X13, e13, st13⟩ := getF X8 hx hZ hown (host := "") (Or.inl (hw _ (List.mem_of_getElem? (i := 42) rfl))) Via.refl e8 f12 (g := (mkF m 42 #[.val (.ref o1), .val (.long q2), .second, .val (.long q3), .second, .val (.ref o8), .val (.int (2 : Int32))] [(.ref o1), (.ref o1)])) rfl rfl (hb hby d4_42)
  obtain ⟨T14, h14, X14, e14, W14, st14⟩ := putF X13 hx hZ hown (host := "") (Or.inl (hw _ (List.mem_of_getElem? (i := 42) rfl))) Via.refl e13 f12 f9 (Or.inl (hw _ (List.mem_of_getElem? (i := 43) rfl))) (hw _ (List.mem_of_getElem? (i := 1) rfl)) (ty := .int) (by decide) rfl rfl (g := (mkF m 47 #[.val (.ref o1), .val (.long q2), .second, .val (.long q3), .second, .val (.ref o8), .val (.int (2 : Int32))] [(.int (2 : Int32)), (.ref o1)])) rfl rfl (hb hby d4_47)
  have N14 := Fr.snoc X14 N8 g_o1
  have Fw14 := f12.same W14
  have M14 : h0.size ≤ h14.size := Nat.le_trans M8 (Nat.le_of_eq W14.size.symm)
  have O14 := Old.wr O8 W14 g_o1
  obtain ⟨fs, hr, hrun, hended, hW, hsame⟩ := X14.leave (v := none) (fun _ => rfl)
  have KL : Keep h0 h14 [o8, o1] := ((((Keep.refl h0 [o8, o1]).wr W6 (Or.inl (List.mem_of_getElem? (i := 0) rfl))).wr W8 (Or.inl (List.mem_of_getElem? (i := 0) rfl))).wr W14 (Or.inl (List.mem_of_getElem? (i := 1) rfl)))
  have f15 := (V8.other W14 (Ne.symm ne11))
  have f16 := (f10.wr W14)
  have f17 := (f9.wr W14)
  have f18 := (((P1.other W6 (Or.inl ne11)).other W8 (Or.inl ne11)).other W14 (Or.inr (slot_ne (Or.inr (hw _ (List.mem_of_getElem? (i := 24) rfl))) (Or.inl (hw _ (List.mem_of_getElem? (i := 43) rfl))) (by decide) (t := .long) (t' := .int) (by decide) (by decide))))
  have f19 := (((P2.other W6 (Or.inl ne11)).other W8 (Or.inl ne11)).other W14 (Or.inr (slot_ne (Or.inr (hw _ (List.mem_of_getElem? (i := 26) rfl))) (Or.inl (hw _ (List.mem_of_getElem? (i := 43) rfl))) (by decide) (t := .long) (t' := .int) (by decide) (by decide))))
  have f20 := (((P4.other W6 (Or.inl ne11)).other W8 (Or.inl ne11)).other W14 (Or.inr (slot_ne (Or.inr (hw _ (List.mem_of_getElem? (i := 30) rfl))) (Or.inl (hw _ (List.mem_of_getElem? (i := 43) rfl))) (by decide) (t := (.array (.array .long))) (t' := .int) (by decide) (by decide))))
  have f21 := (((P5.other W6 (Or.inl ne11)).other W8 (Or.inl ne11)).other W14 (Or.inr (slot_ne (Or.inl (hw _ (List.mem_of_getElem? (i := 22) rfl))) (Or.inl (hw _ (List.mem_of_getElem? (i := 43) rfl))) (by decide) (t := .int) (t' := .int) (by decide) (by decide))))
  refine ⟨_, _, pre0 _ ?_, hrun, hended, _, _, rfl, ?_, ⟨_, rfl⟩, hW, hsame.mono (by decide) (by decide)⟩
  ·
    show Steps p.tables e below (s₁.setTop (mkF m 0 #[.val (.ref o1), .val (.long q2), .second, .val (.long q3), .second, .unset, .unset] [])) _
    refine XS.aloadN X0.here hx rfl (hb hby d4_0) rfl rfl ?_
    show Steps p.tables e below (s₁.setTop (mkF m 1 #[.val (.ref o1), .val (.long q2), .second, .val (.long q3), .second, .unset, .unset] [(.ref o1)])) _
    refine st1 _ ?_
    show Steps p.tables e below (T1.setTop (mkF m 4 #[.val (.ref o1), .val (.long q2), .second, .val (.long q3), .second, .unset, .unset] [(.ref o6)])) _
    refine XS.aloadN X1.here hx rfl (hb hby d4_4) rfl rfl ?_
    show Steps p.tables e below (T1.setTop (mkF m 5 #[.val (.ref o1), .val (.long q2), .second, .val (.long q3), .second, .unset, .unset] [(.ref o1), (.ref o6)])) _
    refine st2 _ ?_
    show Steps p.tables e below (T2.setTop (mkF m 8 #[.val (.ref o1), .val (.long q2), .second, .val (.long q3), .second, .unset, .unset] [(.int (1 : Int32)), (.ref o6)])) _
    refine XS.bipush X2.here hx rfl (hb hby d4_8) ?_
    show Steps p.tables e below (T2.setTop (mkF m 10 #[.val (.ref o1), .val (.long q2), .second, .val (.long q3), .second, .unset, .unset] [(.int (12 : Int32)), (.int (1 : Int32)), (.ref o6)])) _
    refine XS.iushr X2.here hx rfl (hb hby d4_10) rfl ?_
    show Steps p.tables e below (T2.setTop (mkF m 11 #[.val (.ref o1), .val (.long q2), .second, .val (.long q3), .second, .unset, .unset] [(.int (0 : Int32)), (.ref o6)])) _
    refine X2.aaload hx (j := (0 : Int32)) (v := (.ref o8)) (by rw [e2]; exact Ar3.1) (State.isArrayOf_alike hZ.alike Ar3.2.1) rfl Ar3.2.2 hin3 hat3 (g := (mkF m 11 #[.val (.ref o1), .val (.long q2), .second, .val (.long q3), .second, .unset, .unset] [(.int (0 : Int32)), (.ref o6)])) rfl rfl (hb hby d4_11) _ ?_
    show Steps p.tables e below (T2.setTop (mkF m 12 #[.val (.ref o1), .val (.long q2), .second, .val (.long q3), .second, .unset, .unset] [(.ref o8)])) _
    refine XS.astore X2.here hx rfl (hb hby d4_12) rfl rfl (l' := #[.val (.ref o1), .val (.long q2), .second, .val (.long q3), .second, .val (.ref o8), .unset]) rfl ?_
    show Steps p.tables e below (T2.setTop (mkF m 14 #[.val (.ref o1), .val (.long q2), .second, .val (.long q3), .second, .val (.ref o8), .unset] [])) _
    refine XS.iconst X2.here hx rfl (hb hby d4_14) ?_
    show Steps p.tables e below (T2.setTop (mkF m 15 #[.val (.ref o1), .val (.long q2), .second, .val (.long q3), .second, .val (.ref o8), .unset] [(.int (2 : Int32))])) _
    refine XS.aloadN X2.here hx rfl (hb hby d4_15) rfl rfl ?_
    show Steps p.tables e below (T2.setTop (mkF m 16 #[.val (.ref o1), .val (.long q2), .second, .val (.long q3), .second, .val (.ref o8), .unset] [(.ref o1), (.int (2 : Int32))])) _
    refine st4 _ ?_
    show Steps p.tables e below (T4.setTop (mkF m 19 #[.val (.ref o1), .val (.long q2), .second, .val (.long q3), .second, .val (.ref o8), .unset] [(.int (1 : Int32)), (.int (2 : Int32))])) _
    refine XS.sipush X4.here hx rfl (hb hby d4_19) ?_
    show Steps p.tables e below (T4.setTop (mkF m 22 #[.val (.ref o1), .val (.long q2), .second, .val (.long q3), .second, .val (.ref o8), .unset] [(.int (4095 : Int32)), (.int (1 : Int32)), (.int (2 : Int32))])) _
    refine XS.iand X4.here hx rfl (hb hby d4_22) rfl ?_
    show Steps p.tables e below (T4.setTop (mkF m 23 #[.val (.ref o1), .val (.long q2), .second, .val (.long q3), .second, .val (.ref o8), .unset] [(.int (1 : Int32)), (.int (2 : Int32))])) _
    refine XS.imul X4.here hx rfl (hb hby d4_23) rfl ?_
    show Steps p.tables e below (T4.setTop (mkF m 24 #[.val (.ref o1), .val (.long q2), .second, .val (.long q3), .second, .val (.ref o8), .unset] [(.int (2 : Int32))])) _
    refine XS.istore X4.here hx rfl (hb hby d4_24) rfl (l' := #[.val (.ref o1), .val (.long q2), .second, .val (.long q3), .second, .val (.ref o8), .val (.int (2 : Int32))]) rfl ?_
    show Steps p.tables e below (T4.setTop (mkF m 26 #[.val (.ref o1), .val (.long q2), .second, .val (.long q3), .second, .val (.ref o8), .val (.int (2 : Int32))] [])) _
    refine XS.aload X4.here hx rfl (hb hby d4_26) rfl rfl ?_
    show Steps p.tables e below (T4.setTop (mkF m 28 #[.val (.ref o1), .val (.long q2), .second, .val (.long q3), .second, .val (.ref o8), .val (.int (2 : Int32))] [(.ref o8)])) _
    refine XS.iload X4.here hx rfl (hb hby d4_28) rfl ?_
    show Steps p.tables e below (T4.setTop (mkF m 30 #[.val (.ref o1), .val (.long q2), .second, .val (.long q3), .second, .val (.ref o8), .val (.int (2 : Int32))] [(.int (2 : Int32)), (.ref o8)])) _
    refine XS.lloadN X4.here hx rfl (hb hby d4_30) rfl ?_
    show Steps p.tables e below (T4.setTop (mkF m 31 #[.val (.ref o1), .val (.long q2), .second, .val (.long q3), .second, .val (.ref o8), .val (.int (2 : Int32))] [(.long q2), (.int (2 : Int32)), (.ref o8)])) _
    refine st6 _ ?_
    show Steps p.tables e below (T6.setTop (mkF m 32 #[.val (.ref o1), .val (.long q2), .second, .val (.long q3), .second, .val (.ref o8), .val (.int (2 : Int32))] [])) _
    refine XS.aload X6.here hx rfl (hb hby d4_32) rfl rfl ?_
    show Steps p.tables e below (T6.setTop (mkF m 34 #[.val (.ref o1), .val (.long q2), .second, .val (.long q3), .second, .val (.ref o8), .val (.int (2 : Int32))] [(.ref o8)])) _
    refine XS.iload X6.here hx rfl (hb hby d4_34) rfl ?_
    show Steps p.tables e below (T6.setTop (mkF m 36 #[.val (.ref o1), .val (.long q2), .second, .val (.long q3), .second, .val (.ref o8), .val (.int (2 : Int32))] [(.int (2 : Int32)), (.ref o8)])) _
    refine XS.iconst X6.here hx rfl (hb hby d4_36) ?_
    show Steps p.tables e below (T6.setTop (mkF m 37 #[.val (.ref o1), .val (.long q2), .second, .val (.long q3), .second, .val (.ref o8), .val (.int (2 : Int32))] [(.int (1 : Int32)), (.int (2 : Int32)), (.ref o8)])) _
    refine XS.iadd X6.here hx rfl (hb hby d4_37) rfl ?_
    show Steps p.tables e below (T6.setTop (mkF m 38 #[.val (.ref o1), .val (.long q2), .second, .val (.long q3), .second, .val (.ref o8), .val (.int (2 : Int32))] [(.int (3 : Int32)), (.ref o8)])) _
    refine XS.lloadN X6.here hx rfl (hb hby d4_38) rfl ?_
    show Steps p.tables e below (T6.setTop (mkF m 39 #[.val (.ref o1), .val (.long q2), .second, .val (.long q3), .second, .val (.ref o8), .val (.int (2 : Int32))] [(.long q3), (.int (3 : Int32)), (.ref o8)])) _
    refine st8 _ ?_
    show Steps p.tables e below (T8.setTop (mkF m 40 #[.val (.ref o1), .val (.long q2), .second, .val (.long q3), .second, .val (.ref o8), .val (.int (2 : Int32))] [])) _
    refine XS.aloadN X8.here hx rfl (hb hby d4_40) rfl rfl ?_
    show Steps p.tables e below (T8.setTop (mkF m 41 #[.val (.ref o1), .val (.long q2), .second, .val (.long q3), .second, .val (.ref o8), .val (.int (2 : Int32))] [(.ref o1)])) _
    refine XS.dup X8.here hx rfl (hb hby d4_41) rfl rfl ?_
    show Steps p.tables e below (T8.setTop (mkF m 42 #[.val (.ref o1), .val (.long q2), .second, .val (.long q3), .second, .val (.ref o8), .val (.int (2 : Int32))] [(.ref o1), (.ref o1)])) _
    refine st13 _ ?_
    show Steps p.tables e below (T13.setTop (mkF m 45 #[.val (.ref o1), .val (.long q2), .second, .val (.long q3), .second, .val (.ref o8), .val (.int (2 : Int32))] [(.int (1 : Int32)), (.ref o1)])) _
    refine XS.iconst X13.here hx rfl (hb hby d4_45) ?_
    show Steps p.tables e below (T13.setTop (mkF m 46 #[.val (.ref o1), .val (.long q2), .second, .val (.long q3), .second, .val (.ref o8), .val (.int (2 : Int32))] [(.int (1 : Int32)), (.int (1 : Int32)), (.ref o1)])) _
    refine XS.iadd X13.here hx rfl (hb hby d4_46) rfl ?_
    show Steps p.tables e below (T13.setTop (mkF m 47 #[.val (.ref o1), .val (.long q2), .second, .val (.long q3), .second, .val (.ref o8), .val (.int (2 : Int32))] [(.int (2 : Int32)), (.ref o1)])) _
    refine st14 _ ?_
    show Steps p.tables e below (T14.setTop (mkF m 50 #[.val (.ref o1), .val (.long q2), .second, .val (.long q3), .second, .val (.ref o8), .val (.int (2 : Int32))] [])) _
    exact X14.returnOut hx hret (hb hby d4_50) hr
  ·
    show Q6 Z o1 o6 o8 kc7 q4 q5 kc9 q10 q11 q2 q3 h0 n0 _ T14.heap _
    rw [e14]
    exact ⟨rfl, N14, KL, f15, f16, f17, f18, f19, Fw14, f20, f21⟩
theorem ef7 (m : MethodId) (x0 : Addr) (x1 : Int64) (x2 : Int64) : entryFrame m #[(.ref x0), (.long x1), (.long x2)] 7 = mkF m 0 #[.val (.ref x0), .val (.long x1), .second, .val (.long x2), .second, .unset, .unset] [] := by first | (simp [entryFrame, mkF, argsToLocals, Value.category]; done) | rfl
def Q7 (Z : State) (o1 : Addr) (o6 : Addr) (o8 : Addr) (kc7 : ClassId) (q4 : Int64) (q5 : Int64) (kc9 : ClassId) (q10 : Int64) (q11 : Int64) (q12 : Int64) (q13 : Int64) (q2 : Int64) (q3 : Int64) (h0 : Heap) (n0 : Nat) (v : Option Value) (h : Heap) (L : List Loc) : Prop :=
  (v = none ∧ Fr n0 L ∧ Keep h0 h [o8, o1] ∧ (Arv Z h o8 kc9 .long (6 : Int32) [(.long q10), (.long q11), (.long q12), (.long q13), (.long q2), (.long q3)] (.long (0 : Int64))) ∧ (Exa Z h o8 "[J") ∧ (Exa Z h o1 "com/example/driftless/driftless/DeleteOperations") ∧ (Fld Z h o1 "com/example/driftless/driftless/DeleteOperations" "firstCounter" "J" (.long q4)) ∧ (Fld Z h o1 "com/example/driftless/driftless/DeleteOperations" "replica" "J" (.long q5)) ∧ (Fld Z h o1 "com/example/driftless/driftless/DeleteOperations" "size" "I" (.int (3 : Int32))) ∧ (Fld Z h o1 "com/example/driftless/driftless/DeleteOperations" "targets" "[[J" (.ref o6)) ∧ (Fld Z h o1 "java/util/AbstractList" "modCount" "I" (.int (0 : Int32))))
set_option maxRecDepth 65536 in
set_option maxHeartbeats 40000000 in
theorem rm7 (l : Launch) (Z : State) (a0 : Array Value) (hw : ∀ d ∈ tables_1, d.before a0 Z = true) (ws : List Jvm.Cond) (o1 : Addr) (o6 : Addr) (o8 : Addr) (kc7 : ClassId) (q4 : Int64) (q5 : Int64) (kc9 : ClassId) (q10 : Int64) (q11 : Int64) (q12 : Int64) (q13 : Int64) (q2 : Int64) (q3 : Int64) (h0 : Heap) (n0 : Nat) (O0 : Old Z n0 h0) (g_o1 : n0 ≤ o1) (g_o6 : n0 ≤ o6) (g_o8 : n0 ≤ o8) (Ov_kc7 : OvrA Z kc7 .long "[J") (P0 : Exa Z h0 o1 "com/example/driftless/driftless/DeleteOperations") (P1 : Fld Z h0 o1 "com/example/driftless/driftless/DeleteOperations" "firstCounter" "J" (.long q4)) (P2 : Fld Z h0 o1 "com/example/driftless/driftless/DeleteOperations" "replica" "J" (.long q5)) (P3 : Fld Z h0 o1 "com/example/driftless/driftless/DeleteOperations" "size" "I" (.int (2 : Int32))) (P4 : Fld Z h0 o1 "com/example/driftless/driftless/DeleteOperations" "targets" "[[J" (.ref o6)) (P5 : Fld Z h0 o1 "java/util/AbstractList" "modCount" "I" (.int (0 : Int32))) (P6 : Arv Z h0 o6 kc7 (.array .long) (1 : Int32) [(.ref o8)] .null) (P8 : Arv Z h0 o8 kc9 .long (6 : Int32) [(.long q10), (.long q11), (.long q12), (.long q13), (.long (0 : Int64)), (.long (0 : Int64))] (.long (0 : Int64))) (P9 : Exa Z h0 o8 "[J") :
    MetFree l (⟨"com/example/driftless/driftless/DeleteOperations", "append", "(JJ)V"⟩ : MethodName) (head1 (Jvm.Cond.code (⟨"com/example/driftless/driftless/DeleteOperations", "append", "(JJ)V"⟩ : MethodName) prog_7_method_2_code 7 none :: ws) ({ frames := 0, cells := 0, slots := 0, locals := 0 } : Room)) (fun a U => a = #[(.ref o1), (.long q2), (.long q3)] ∧ Z.Warmed39 U.vm ∧ U.heap = h0) (fun _ _ _ _ _ => True) (fun _ U o U' => ∃ v L, o = .returned v ∧ Q7 Z o1 o6 o8 kc7 q4 q5 kc9 q10 q11 q12 q13 q2 q3 h0 n0 v U'.heap L ∧ FrameEnd U o U' L ({ frames := 0, cells := 0, slots := 0, locals := 0 } : Room).cells ({ frames := 0, cells := 0, slots := 0, locals := 0 } : Room).slots) := by
  refine MetFree.of_bodySF (plainFor_of_name pn2) hisR ?_
  intro p e s m args below meth c s₁ Bd hml0 hP hK
  obtain ⟨rfl, hZ, hh⟩ := hP
  have hx := Bd.exec
  have hby := Bd.bytes
  have hml : c.maxLocals = 7 := hml0
  have hown : s.vm.findClass "com/example/driftless/driftless/DeleteOperations" = some m.cls := findClass_of_methodNamed Bd.named
  have hnm := (name_of_methodNamed Bd.named Bd.method).1
  have hret := Bd.returns
  have hlk : meth.locks = false := BodyLoose.notSynchronized Bd
  have X0 : Stand p l e ({ frames := 0, cells := 0, slots := 0, locals := 0 } : Room) s m #[(.ref o1), (.long q2), (.long q3)] below meth c s₁ [] 0 0 := Stand.of_body Bd
  have e0 : s₁.heap = h0 := by rw [← hh, Bd.state]; rfl
  have N0 := Fr.nil n0
  have pre0 : ∀ t, Steps p.tables e below (s₁.setTop (mkF m 0 #[.val (.ref o1), .val (.long q2), .second, .val (.long q3), .second, .unset, .unset] [])) t → Steps p.tables e below (s₁.setTop (entryFrame m #[(.ref o1), (.long q2), (.long q3)] 7)) t := fun t k => castTop (ef7 m o1 q2 q3) k
  obtain ⟨T1, X1, e1, st1⟩ := getF X0 hx hZ hown (host := "") (Or.inl (hw _ (List.mem_of_getElem? (i := 29) rfl))) Via.refl e0 P4 (g := (mkF m 1 #[.val (.ref o1), .val (.long q2), .second, .val (.long q3), .second, .unset, .unset] [(.ref o1)])) rfl rfl (hb hby d4_1)
  obtain ⟨T2, X2, e2, st2⟩ := getF X1 hx hZ hown (host := "") (Or.inl (hw _ (List.mem_of_getElem? (i := 42) rfl))) Via.refl e1 P3 (g := (mkF m 5 #[.val (.ref o1), .val (.long q2), .second, .val (.long q3), .second, .unset, .unset] [(.ref o1), (.ref o6)])) rfl rfl (hb hby d4_5)
  obtain ⟨cl3, Ar3, qa3, Sa3, Na3, Ha3, Ga3⟩ := id (P6)
  have hin3 : ¬ ((0 : Int32) < 0 ∨ cl3.slots.size ≤ ((0 : Int32)).toNatClampNeg) := inb_of Sa3 ⟨by decide, by decide⟩
  have hat3 : cl3.slots[((0 : Int32)).toNatClampNeg]? = some (.ref o8) := Has.at Ha3 hin3 rfl
  obtain ⟨T4, X4, e4, st4⟩ := getF X2 hx hZ hown (host := "") (Or.inl (hw _ (List.mem_of_getElem? (i := 42) rfl))) Via.refl e2 P3 (g := (mkF m 16 #[.val (.ref o1), .val (.long q2), .second, .val (.long q3), .second, .val (.ref o8), .unset] [(.ref o1), (.int (2 : Int32))])) rfl rfl (hb hby d4_16)
  obtain ⟨cl5, Ar5, qa5, Sa5, Na5, Ha5, Ga5⟩ := id (P8)
  have hin5 : ¬ ((4 : Int32) < 0 ∨ cl5.slots.size ≤ ((4 : Int32)).toNatClampNeg) := inb_of Sa5 ⟨by decide, by decide⟩
  obtain ⟨T6, h6, X6, e6, W6, st6⟩ := stJ X4 hx hZ e4 Ar5 (j := (4 : Int32)) hin5 (g := (mkF m 31 #[.val (.ref o1), .val (.long q2), .second, .val (.long q3), .second, .val (.ref o8), .val (.int (4 : Int32))] [(.long q2), (.int (4 : Int32)), (.ref o8)])) rfl rfl (hb hby d4_31)
  have V6 : Arv Z h6 o8 kc9 .long (6 : Int32) [(.long q10), (.long q11), (.long q12), (.long q13), (.long q2), (.long (0 : Int64))] (.long (0 : Int64)) := Arv.set Ar5 qa5 Sa5 Na5 Ha5 Ga5 rfl W6 4 rfl (Nat.le_of_ble_eq_true rfl)
  have N6 := Fr.snoc X6 N0 g_o8
  have M6 : h0.size ≤ h6.size := Nat.le_trans (Nat.le_refl _) (Nat.le_of_eq W6.size.symm)
  have O6 := Old.wr O0 W6 g_o8
  obtain ⟨cl7, Ar7, qa7, Sa7, Na7, Ha7, Ga7⟩ := id (V6)
  have hin7 : ¬ ((5 : Int32) < 0 ∨ cl7.slots.size ≤ ((5 : Int32)).toNatClampNeg) := inb_of Sa7 ⟨by decide, by decide⟩
  obtain ⟨T8, h8, X8, e8, W8, st8⟩ := stJ X6 hx hZ e6 Ar7 (j := (5 : Int32)) hin7 (g := (mkF m 39 #[.val (.ref o1), .val (.long q2), .second, .val (.long q3), .second, .val (.ref o8), .val (.int (4 : Int32))] [(.long q3), (.int (5 : Int32)), (.ref o8)])) rfl rfl (hb hby d4_39)
  have V8 : Arv Z h8 o8 kc9 .long (6 : Int32) [(.long q10), (.long q11), (.long q12), (.long q13), (.long q2), (.long q3)] (.long (0 : Int64)) := Arv.set Ar7 qa7 Sa7 Na7 Ha7 Ga7 rfl W8 5 rfl (Nat.le_of_ble_eq_true rfl)
  have N8 := Fr.snoc X8 N6 g_o8
  have M8 : h0.size ≤ h8.size := Nat.le_trans M6 (Nat.le_of_eq W8.size.symm)
  have O8 := Old.wr O6 W8 g_o8
  have f9 := ((P0.wr W6).wr W8)
  have f10 := ((P9.wr W6).wr W8)
  have ne11 : o1 ≠ o8 := ne_exa f9 f10 (by decide)
  have f12 := ((P3.other W6 (Or.inl ne11)).other W8 (Or.inl ne11))
  obtain ⟨T13, X13, e13, st13⟩ := getF X8 hx hZ hown (host := "") (Or.inl (hw _ (List.mem_of_getElem? (i := 42) rfl))) Via.refl e8 f12 (g := (mkF m 42 #[.val (.ref o1), .val (.long q2), .second, .val (.long q3), .second, .val (.ref o8), .val (.int (4 : Int32))] [(.ref o1), (.ref o1)])) rfl rfl (hb hby d4_42)
  obtain ⟨T14, h14, X14, e14, W14, st14⟩ := putF X13 hx hZ hown (host := "") (Or.inl (hw _ (List.mem_of_getElem? (i := 42) rfl))) Via.refl e13 f12 f9 (Or.inl (hw _ (List.mem_of_getElem? (i := 43) rfl))) (hw _ (List.mem_of_getElem? (i := 1) rfl)) (ty := .int) (by decide) rfl rfl (g := (mkF m 47 #[.val (.ref o1), .val (.long q2), .second, .val (.long q3), .second, .val (.ref o8), .val (.int (4 : Int32))] [(.int (3 : Int32)), (.ref o1)])) rfl rfl (hb hby d4_47)
  have N14 := Fr.snoc X14 N8 g_o1
  have Fw14 := f12.same W14
  have M14 : h0.size ≤ h14.size := Nat.le_trans M8 (Nat.le_of_eq W14.size.symm)
  have O14 := Old.wr O8 W14 g_o1
  obtain ⟨fs, hr, hrun, hended, hW, hsame⟩ := X14.leave (v := none) (fun _ => rfl)
  have KL : Keep h0 h14 [o8, o1] := ((((Keep.refl h0 [o8, o1]).wr W6 (Or.inl (List.mem_of_getElem? (i := 0) rfl))).wr W8 (Or.inl (List.mem_of_getElem? (i := 0) rfl))).wr W14 (Or.inl (List.mem_of_getElem? (i := 1) rfl)))
  have f15 := (V8.other W14 (Ne.symm ne11))
  have f16 := (f10.wr W14)
  have f17 := (f9.wr W14)
  have f18 := (((P1.other W6 (Or.inl ne11)).other W8 (Or.inl ne11)).other W14 (Or.inr (slot_ne (Or.inr (hw _ (List.mem_of_getElem? (i := 24) rfl))) (Or.inl (hw _ (List.mem_of_getElem? (i := 43) rfl))) (by decide) (t := .long) (t' := .int) (by decide) (by decide))))
  have f19 := (((P2.other W6 (Or.inl ne11)).other W8 (Or.inl ne11)).other W14 (Or.inr (slot_ne (Or.inr (hw _ (List.mem_of_getElem? (i := 26) rfl))) (Or.inl (hw _ (List.mem_of_getElem? (i := 43) rfl))) (by decide) (t := .long) (t' := .int) (by decide) (by decide))))
  have f20 := (((P4.other W6 (Or.inl ne11)).other W8 (Or.inl ne11)).other W14 (Or.inr (slot_ne (Or.inr (hw _ (List.mem_of_getElem? (i := 30) rfl))) (Or.inl (hw _ (List.mem_of_getElem? (i := 43) rfl))) (by decide) (t := (.array (.array .long))) (t' := .int) (by decide) (by decide))))
  have f21 := (((P5.other W6 (Or.inl ne11)).other W8 (Or.inl ne11)).other W14 (Or.inr (slot_ne (Or.inl (hw _ (List.mem_of_getElem? (i := 22) rfl))) (Or.inl (hw _ (List.mem_of_getElem? (i := 43) rfl))) (by decide) (t := .int) (t' := .int) (by decide) (by decide))))
  refine ⟨_, _, pre0 _ ?_, hrun, hended, _, _, rfl, ?_, ⟨_, rfl⟩, hW, hsame.mono (by decide) (by decide)⟩
  ·
    show Steps p.tables e below (s₁.setTop (mkF m 0 #[.val (.ref o1), .val (.long q2), .second, .val (.long q3), .second, .unset, .unset] [])) _
    refine XS.aloadN X0.here hx rfl (hb hby d4_0) rfl rfl ?_
    show Steps p.tables e below (s₁.setTop (mkF m 1 #[.val (.ref o1), .val (.long q2), .second, .val (.long q3), .second, .unset, .unset] [(.ref o1)])) _
    refine st1 _ ?_
    show Steps p.tables e below (T1.setTop (mkF m 4 #[.val (.ref o1), .val (.long q2), .second, .val (.long q3), .second, .unset, .unset] [(.ref o6)])) _
    refine XS.aloadN X1.here hx rfl (hb hby d4_4) rfl rfl ?_
    show Steps p.tables e below (T1.setTop (mkF m 5 #[.val (.ref o1), .val (.long q2), .second, .val (.long q3), .second, .unset, .unset] [(.ref o1), (.ref o6)])) _
    refine st2 _ ?_
    show Steps p.tables e below (T2.setTop (mkF m 8 #[.val (.ref o1), .val (.long q2), .second, .val (.long q3), .second, .unset, .unset] [(.int (2 : Int32)), (.ref o6)])) _
    refine XS.bipush X2.here hx rfl (hb hby d4_8) ?_
    show Steps p.tables e below (T2.setTop (mkF m 10 #[.val (.ref o1), .val (.long q2), .second, .val (.long q3), .second, .unset, .unset] [(.int (12 : Int32)), (.int (2 : Int32)), (.ref o6)])) _
    refine XS.iushr X2.here hx rfl (hb hby d4_10) rfl ?_
    show Steps p.tables e below (T2.setTop (mkF m 11 #[.val (.ref o1), .val (.long q2), .second, .val (.long q3), .second, .unset, .unset] [(.int (0 : Int32)), (.ref o6)])) _
    refine X2.aaload hx (j := (0 : Int32)) (v := (.ref o8)) (by rw [e2]; exact Ar3.1) (State.isArrayOf_alike hZ.alike Ar3.2.1) rfl Ar3.2.2 hin3 hat3 (g := (mkF m 11 #[.val (.ref o1), .val (.long q2), .second, .val (.long q3), .second, .unset, .unset] [(.int (0 : Int32)), (.ref o6)])) rfl rfl (hb hby d4_11) _ ?_
    show Steps p.tables e below (T2.setTop (mkF m 12 #[.val (.ref o1), .val (.long q2), .second, .val (.long q3), .second, .unset, .unset] [(.ref o8)])) _
    refine XS.astore X2.here hx rfl (hb hby d4_12) rfl rfl (l' := #[.val (.ref o1), .val (.long q2), .second, .val (.long q3), .second, .val (.ref o8), .unset]) rfl ?_
    show Steps p.tables e below (T2.setTop (mkF m 14 #[.val (.ref o1), .val (.long q2), .second, .val (.long q3), .second, .val (.ref o8), .unset] [])) _
    refine XS.iconst X2.here hx rfl (hb hby d4_14) ?_
    show Steps p.tables e below (T2.setTop (mkF m 15 #[.val (.ref o1), .val (.long q2), .second, .val (.long q3), .second, .val (.ref o8), .unset] [(.int (2 : Int32))])) _
    refine XS.aloadN X2.here hx rfl (hb hby d4_15) rfl rfl ?_
    show Steps p.tables e below (T2.setTop (mkF m 16 #[.val (.ref o1), .val (.long q2), .second, .val (.long q3), .second, .val (.ref o8), .unset] [(.ref o1), (.int (2 : Int32))])) _
    refine st4 _ ?_
    show Steps p.tables e below (T4.setTop (mkF m 19 #[.val (.ref o1), .val (.long q2), .second, .val (.long q3), .second, .val (.ref o8), .unset] [(.int (2 : Int32)), (.int (2 : Int32))])) _
    refine XS.sipush X4.here hx rfl (hb hby d4_19) ?_
    show Steps p.tables e below (T4.setTop (mkF m 22 #[.val (.ref o1), .val (.long q2), .second, .val (.long q3), .second, .val (.ref o8), .unset] [(.int (4095 : Int32)), (.int (2 : Int32)), (.int (2 : Int32))])) _
    refine XS.iand X4.here hx rfl (hb hby d4_22) rfl ?_
    show Steps p.tables e below (T4.setTop (mkF m 23 #[.val (.ref o1), .val (.long q2), .second, .val (.long q3), .second, .val (.ref o8), .unset] [(.int (2 : Int32)), (.int (2 : Int32))])) _
    refine XS.imul X4.here hx rfl (hb hby d4_23) rfl ?_
    show Steps p.tables e below (T4.setTop (mkF m 24 #[.val (.ref o1), .val (.long q2), .second, .val (.long q3), .second, .val (.ref o8), .unset] [(.int (4 : Int32))])) _
    refine XS.istore X4.here hx rfl (hb hby d4_24) rfl (l' := #[.val (.ref o1), .val (.long q2), .second, .val (.long q3), .second, .val (.ref o8), .val (.int (4 : Int32))]) rfl ?_
    show Steps p.tables e below (T4.setTop (mkF m 26 #[.val (.ref o1), .val (.long q2), .second, .val (.long q3), .second, .val (.ref o8), .val (.int (4 : Int32))] [])) _
    refine XS.aload X4.here hx rfl (hb hby d4_26) rfl rfl ?_
    show Steps p.tables e below (T4.setTop (mkF m 28 #[.val (.ref o1), .val (.long q2), .second, .val (.long q3), .second, .val (.ref o8), .val (.int (4 : Int32))] [(.ref o8)])) _
    refine XS.iload X4.here hx rfl (hb hby d4_28) rfl ?_
    show Steps p.tables e below (T4.setTop (mkF m 30 #[.val (.ref o1), .val (.long q2), .second, .val (.long q3), .second, .val (.ref o8), .val (.int (4 : Int32))] [(.int (4 : Int32)), (.ref o8)])) _
    refine XS.lloadN X4.here hx rfl (hb hby d4_30) rfl ?_
    show Steps p.tables e below (T4.setTop (mkF m 31 #[.val (.ref o1), .val (.long q2), .second, .val (.long q3), .second, .val (.ref o8), .val (.int (4 : Int32))] [(.long q2), (.int (4 : Int32)), (.ref o8)])) _
    refine st6 _ ?_
    show Steps p.tables e below (T6.setTop (mkF m 32 #[.val (.ref o1), .val (.long q2), .second, .val (.long q3), .second, .val (.ref o8), .val (.int (4 : Int32))] [])) _
    refine XS.aload X6.here hx rfl (hb hby d4_32) rfl rfl ?_
    show Steps p.tables e below (T6.setTop (mkF m 34 #[.val (.ref o1), .val (.long q2), .second, .val (.long q3), .second, .val (.ref o8), .val (.int (4 : Int32))] [(.ref o8)])) _
    refine XS.iload X6.here hx rfl (hb hby d4_34) rfl ?_
    show Steps p.tables e below (T6.setTop (mkF m 36 #[.val (.ref o1), .val (.long q2), .second, .val (.long q3), .second, .val (.ref o8), .val (.int (4 : Int32))] [(.int (4 : Int32)), (.ref o8)])) _
    refine XS.iconst X6.here hx rfl (hb hby d4_36) ?_
    show Steps p.tables e below (T6.setTop (mkF m 37 #[.val (.ref o1), .val (.long q2), .second, .val (.long q3), .second, .val (.ref o8), .val (.int (4 : Int32))] [(.int (1 : Int32)), (.int (4 : Int32)), (.ref o8)])) _
    refine XS.iadd X6.here hx rfl (hb hby d4_37) rfl ?_
    show Steps p.tables e below (T6.setTop (mkF m 38 #[.val (.ref o1), .val (.long q2), .second, .val (.long q3), .second, .val (.ref o8), .val (.int (4 : Int32))] [(.int (5 : Int32)), (.ref o8)])) _
    refine XS.lloadN X6.here hx rfl (hb hby d4_38) rfl ?_
    show Steps p.tables e below (T6.setTop (mkF m 39 #[.val (.ref o1), .val (.long q2), .second, .val (.long q3), .second, .val (.ref o8), .val (.int (4 : Int32))] [(.long q3), (.int (5 : Int32)), (.ref o8)])) _
    refine st8 _ ?_
    show Steps p.tables e below (T8.setTop (mkF m 40 #[.val (.ref o1), .val (.long q2), .second, .val (.long q3), .second, .val (.ref o8), .val (.int (4 : Int32))] [])) _
    refine XS.aloadN X8.here hx rfl (hb hby d4_40) rfl rfl ?_
    show Steps p.tables e below (T8.setTop (mkF m 41 #[.val (.ref o1), .val (.long q2), .second, .val (.long q3), .second, .val (.ref o8), .val (.int (4 : Int32))] [(.ref o1)])) _
    refine XS.dup X8.here hx rfl (hb hby d4_41) rfl rfl ?_
    show Steps p.tables e below (T8.setTop (mkF m 42 #[.val (.ref o1), .val (.long q2), .second, .val (.long q3), .second, .val (.ref o8), .val (.int (4 : Int32))] [(.ref o1), (.ref o1)])) _
    refine st13 _ ?_
    show Steps p.tables e below (T13.setTop (mkF m 45 #[.val (.ref o1), .val (.long q2), .second, .val (.long q3), .second, .val (.ref o8), .val (.int (4 : Int32))] [(.int (2 : Int32)), (.ref o1)])) _
    refine XS.iconst X13.here hx rfl (hb hby d4_45) ?_
    show Steps p.tables e below (T13.setTop (mkF m 46 #[.val (.ref o1), .val (.long q2), .second, .val (.long q3), .second, .val (.ref o8), .val (.int (4 : Int32))] [(.int (1 : Int32)), (.int (2 : Int32)), (.ref o1)])) _
    refine XS.iadd X13.here hx rfl (hb hby d4_46) rfl ?_
    show Steps p.tables e below (T13.setTop (mkF m 47 #[.val (.ref o1), .val (.long q2), .second, .val (.long q3), .second, .val (.ref o8), .val (.int (4 : Int32))] [(.int (3 : Int32)), (.ref o1)])) _
    refine st14 _ ?_
    show Steps p.tables e below (T14.setTop (mkF m 50 #[.val (.ref o1), .val (.long q2), .second, .val (.long q3), .second, .val (.ref o8), .val (.int (4 : Int32))] [])) _
    exact X14.returnOut hx hret (hb hby d4_50) hr
  ·
    show Q7 Z o1 o6 o8 kc7 q4 q5 kc9 q10 q11 q12 q13 q2 q3 h0 n0 _ T14.heap _
    rw [e14]
    exact ⟨rfl, N14, KL, f15, f16, f17, f18, f19, Fw14, f20, f21⟩
theorem d5_0 : decode prog_7_method_7_code 0 = .ok (.aload_n 0, 1) := by decide +kernel
theorem d5_1 : decode prog_7_method_7_code 1 = .ok (.getfield 18, 3) := by decide +kernel
theorem d5_4 : decode prog_7_method_7_code 4 = .ok (.iload_n 1, 1) := by decide +kernel
theorem d5_5 : decode prog_7_method_7_code 5 = .ok (.bipush 12, 2) := by decide +kernel
theorem d5_7 : decode prog_7_method_7_code 7 = .ok (.iushr, 1) := by decide +kernel
theorem d5_8 : decode prog_7_method_7_code 8 = .ok (.aaload, 1) := by decide +kernel
theorem d5_9 : decode prog_7_method_7_code 9 = .ok (.iconst 2, 1) := by decide +kernel
theorem d5_10 : decode prog_7_method_7_code 10 = .ok (.iload_n 1, 1) := by decide +kernel
theorem d5_11 : decode prog_7_method_7_code 11 = .ok (.sipush 4095, 3) := by decide +kernel
theorem d5_14 : decode prog_7_method_7_code 14 = .ok (.iand, 1) := by decide +kernel
theorem d5_15 : decode prog_7_method_7_code 15 = .ok (.imul, 1) := by decide +kernel
theorem d5_16 : decode prog_7_method_7_code 16 = .ok (.iconst 1, 1) := by decide +kernel
theorem d5_17 : decode prog_7_method_7_code 17 = .ok (.iadd, 1) := by decide +kernel
theorem d5_18 : decode prog_7_method_7_code 18 = .ok (.laload, 1) := by decide +kernel
theorem d5_19 : decode prog_7_method_7_code 19 = .ok (.lreturn, 1) := by decide +kernel
theorem ef8 (m : MethodId) (x0 : Addr) (x1 : Int32) : entryFrame m #[(.ref x0), (.int x1)] 2 = mkF m 0 #[.val (.ref x0), .val (.int x1)] [] := by first | (simp [entryFrame, mkF, argsToLocals, Value.category]; done) | rfl
def Q8 (Z : State) (o1 : Addr) (o4 : Addr) (o6 : Addr) (kc5 : ClassId) (kc7 : ClassId) (q8 : Int64) (q9 : Int64) (q10 : Int64) (q11 : Int64) (q12 : Int64) (q13 : Int64) (h0 : Heap) (n0 : Nat) (v : Option Value) (h : Heap) (L : List Loc) : Prop :=
  (v = some (.long q9) ∧ Fr n0 L ∧ h = h0)
set_option maxRecDepth 65536 in
set_option maxHeartbeats 40000000 in
theorem rm8 (l : Launch) (Z : State) (a0 : Array Value) (hw : ∀ d ∈ tables_1, d.before a0 Z = true) (ws : List Jvm.Cond) (o1 : Addr) (o4 : Addr) (o6 : Addr) (kc5 : ClassId) (kc7 : ClassId) (q8 : Int64) (q9 : Int64) (q10 : Int64) (q11 : Int64) (q12 : Int64) (q13 : Int64) (h0 : Heap) (n0 : Nat) (O0 : Old Z n0 h0) (g_o1 : n0 ≤ o1) (g_o4 : n0 ≤ o4) (g_o6 : n0 ≤ o6) (Ov_kc5 : OvrA Z kc5 .long "[J") (P4 : Fld Z h0 o1 "com/example/driftless/driftless/DeleteOperations" "targets" "[[J" (.ref o4)) (P6 : Arv Z h0 o4 kc5 (.array .long) (1 : Int32) [(.ref o6)] .null) (P8 : Arv Z h0 o6 kc7 .long (6 : Int32) [(.long q8), (.long q9), (.long q10), (.long q11), (.long q12), (.long q13)] (.long (0 : Int64))) :
    MetFree l (⟨"com/example/driftless/driftless/DeleteOperations", "targetReplica", "(I)J"⟩ : MethodName) (head1 (Jvm.Cond.code (⟨"com/example/driftless/driftless/DeleteOperations", "targetReplica", "(I)J"⟩ : MethodName) prog_7_method_7_code 2 (some .long) :: ws) ({ frames := 0, cells := 0, slots := 0, locals := 0 } : Room)) (fun a U => a = #[(.ref o1), (.int (0 : Int32))] ∧ Z.Warmed39 U.vm ∧ U.heap = h0) (fun _ _ _ _ _ => True) (fun _ U o U' => ∃ v L, o = .returned v ∧ Q8 Z o1 o4 o6 kc5 kc7 q8 q9 q10 q11 q12 q13 h0 n0 v U'.heap L ∧ FrameEnd U o U' L ({ frames := 0, cells := 0, slots := 0, locals := 0 } : Room).cells ({ frames := 0, cells := 0, slots := 0, locals := 0 } : Room).slots) := by
  refine MetFree.of_bodySF (plainFor_of_name pn2) hisR ?_
  intro p e s m args below meth c s₁ Bd hml0 hP hK
  obtain ⟨rfl, hZ, hh⟩ := hP
  have hx := Bd.exec
  have hby := Bd.bytes
  have hml : c.maxLocals = 2 := hml0
  have hown : s.vm.findClass "com/example/driftless/driftless/DeleteOperations" = some m.cls := findClass_of_methodNamed Bd.named
  have hnm := (name_of_methodNamed Bd.named Bd.method).1
  have hret := Bd.returns
  have hlk : meth.locks = false := BodyLoose.notSynchronized Bd
  have X0 : Stand p l e ({ frames := 0, cells := 0, slots := 0, locals := 0 } : Room) s m #[(.ref o1), (.int (0 : Int32))] below meth c s₁ [] 0 0 := Stand.of_body Bd
  have e0 : s₁.heap = h0 := by rw [← hh, Bd.state]; rfl
  have N0 := Fr.nil n0
  have pre0 : ∀ t, Steps p.tables e below (s₁.setTop (mkF m 0 #[.val (.ref o1), .val (.int (0 : Int32))] [])) t → Steps p.tables e below (s₁.setTop (entryFrame m #[(.ref o1), (.int (0 : Int32))] 2)) t := fun t k => castTop (ef8 m o1 (0 : Int32)) k
  obtain ⟨T1, X1, e1, st1⟩ := getF X0 hx hZ hown (host := "") (Or.inl (hw _ (List.mem_of_getElem? (i := 29) rfl))) Via.refl e0 P4 (g := (mkF m 1 #[.val (.ref o1), .val (.int (0 : Int32))] [(.ref o1)])) rfl rfl (hb hby d5_1)
  obtain ⟨cl2, Ar2, qa2, Sa2, Na2, Ha2, Ga2⟩ := id (P6)
  have hin2 : ¬ ((0 : Int32) < 0 ∨ cl2.slots.size ≤ ((0 : Int32)).toNatClampNeg) := inb_of Sa2 ⟨by decide, by decide⟩
  have hat2 : cl2.slots[((0 : Int32)).toNatClampNeg]? = some (.ref o6) := Has.at Ha2 hin2 rfl
  obtain ⟨cl3, Ar3, qa3, Sa3, Na3, Ha3, Ga3⟩ := id (P8)
  have hin3 : ¬ ((1 : Int32) < 0 ∨ cl3.slots.size ≤ ((1 : Int32)).toNatClampNeg) := inb_of Sa3 ⟨by decide, by decide⟩
  have hat3 : cl3.slots[((1 : Int32)).toNatClampNeg]? = some (.long q9) := Has.at Ha3 hin3 rfl
  obtain ⟨fs, hr, hrun, hended, hW, hsame⟩ := X1.leave (v := some (.long q9)) (fun h => by rw [hret] at h; cases h)
  refine ⟨_, _, pre0 _ ?_, hrun, hended, _, _, rfl, ?_, ⟨_, rfl⟩, hW, hsame.mono (by decide) (by decide)⟩
  ·
    show Steps p.tables e below (s₁.setTop (mkF m 0 #[.val (.ref o1), .val (.int (0 : Int32))] [])) _
    refine XS.aloadN X0.here hx rfl (hb hby d5_0) rfl rfl ?_
    show Steps p.tables e below (s₁.setTop (mkF m 1 #[.val (.ref o1), .val (.int (0 : Int32))] [(.ref o1)])) _
    refine st1 _ ?_
    show Steps p.tables e below (T1.setTop (mkF m 4 #[.val (.ref o1), .val (.int (0 : Int32))] [(.ref o4)])) _
    refine XS.iloadN X1.here hx rfl (hb hby d5_4) rfl ?_
    show Steps p.tables e below (T1.setTop (mkF m 5 #[.val (.ref o1), .val (.int (0 : Int32))] [(.int (0 : Int32)), (.ref o4)])) _
    refine XS.bipush X1.here hx rfl (hb hby d5_5) ?_
    show Steps p.tables e below (T1.setTop (mkF m 7 #[.val (.ref o1), .val (.int (0 : Int32))] [(.int (12 : Int32)), (.int (0 : Int32)), (.ref o4)])) _
    refine XS.iushr X1.here hx rfl (hb hby d5_7) rfl ?_
    show Steps p.tables e below (T1.setTop (mkF m 8 #[.val (.ref o1), .val (.int (0 : Int32))] [(.int (0 : Int32)), (.ref o4)])) _
    refine X1.aaload hx (j := (0 : Int32)) (v := (.ref o6)) (by rw [e1]; exact Ar2.1) (State.isArrayOf_alike hZ.alike Ar2.2.1) rfl Ar2.2.2 hin2 hat2 (g := (mkF m 8 #[.val (.ref o1), .val (.int (0 : Int32))] [(.int (0 : Int32)), (.ref o4)])) rfl rfl (hb hby d5_8) _ ?_
    show Steps p.tables e below (T1.setTop (mkF m 9 #[.val (.ref o1), .val (.int (0 : Int32))] [(.ref o6)])) _
    refine XS.iconst X1.here hx rfl (hb hby d5_9) ?_
    show Steps p.tables e below (T1.setTop (mkF m 10 #[.val (.ref o1), .val (.int (0 : Int32))] [(.int (2 : Int32)), (.ref o6)])) _
    refine XS.iloadN X1.here hx rfl (hb hby d5_10) rfl ?_
    show Steps p.tables e below (T1.setTop (mkF m 11 #[.val (.ref o1), .val (.int (0 : Int32))] [(.int (0 : Int32)), (.int (2 : Int32)), (.ref o6)])) _
    refine XS.sipush X1.here hx rfl (hb hby d5_11) ?_
    show Steps p.tables e below (T1.setTop (mkF m 14 #[.val (.ref o1), .val (.int (0 : Int32))] [(.int (4095 : Int32)), (.int (0 : Int32)), (.int (2 : Int32)), (.ref o6)])) _
    refine XS.iand X1.here hx rfl (hb hby d5_14) rfl ?_
    show Steps p.tables e below (T1.setTop (mkF m 15 #[.val (.ref o1), .val (.int (0 : Int32))] [(.int (0 : Int32)), (.int (2 : Int32)), (.ref o6)])) _
    refine XS.imul X1.here hx rfl (hb hby d5_15) rfl ?_
    show Steps p.tables e below (T1.setTop (mkF m 16 #[.val (.ref o1), .val (.int (0 : Int32))] [(.int (0 : Int32)), (.ref o6)])) _
    refine XS.iconst X1.here hx rfl (hb hby d5_16) ?_
    show Steps p.tables e below (T1.setTop (mkF m 17 #[.val (.ref o1), .val (.int (0 : Int32))] [(.int (1 : Int32)), (.int (0 : Int32)), (.ref o6)])) _
    refine XS.iadd X1.here hx rfl (hb hby d5_17) rfl ?_
    show Steps p.tables e below (T1.setTop (mkF m 18 #[.val (.ref o1), .val (.int (0 : Int32))] [(.int (1 : Int32)), (.ref o6)])) _
    refine X1.laload hx (j := (1 : Int32)) (v := (.long q9)) (by rw [e1]; exact Ar3.1) (State.isArrayOf_alike hZ.alike Ar3.2.1) Ar3.2.2 hin3 hat3 (g := (mkF m 18 #[.val (.ref o1), .val (.int (0 : Int32))] [(.int (1 : Int32)), (.ref o6)])) rfl rfl (hb hby d5_18) _ ?_
    show Steps p.tables e below (T1.setTop (mkF m 19 #[.val (.ref o1), .val (.int (0 : Int32))] [(.long q9)])) _
    exact retOut X1 hx hret rfl (Or.inr (Or.inl ⟨rfl, rfl, _, rfl⟩)) (hb hby d5_19) hr
  ·
    show Q8 Z o1 o4 o6 kc5 kc7 q8 q9 q10 q11 q12 q13 h0 n0 _ T1.heap _
    rw [e1]
    exact ⟨rfl, N0, rfl⟩
theorem pd4 : parseMethodDescriptor "(I)J" = some ⟨[.int], some .long⟩ := by decide +kernel
theorem ef9 (m : MethodId) (x0 : Addr) (x1 : Int32) : entryFrame m #[(.ref x0), (.int x1)] 2 = mkF m 0 #[.val (.ref x0), .val (.int x1)] [] := by first | (simp [entryFrame, mkF, argsToLocals, Value.category]; done) | rfl
def Q9 (Z : State) (o1 : Addr) (o4 : Addr) (o6 : Addr) (kc5 : ClassId) (kc7 : ClassId) (q8 : Int64) (q9 : Int64) (q10 : Int64) (q11 : Int64) (q12 : Int64) (q13 : Int64) (h0 : Heap) (n0 : Nat) (v : Option Value) (h : Heap) (L : List Loc) : Prop :=
  (v = some (.long q11) ∧ Fr n0 L ∧ h = h0)
set_option maxRecDepth 65536 in
set_option maxHeartbeats 40000000 in
theorem rm9 (l : Launch) (Z : State) (a0 : Array Value) (hw : ∀ d ∈ tables_1, d.before a0 Z = true) (ws : List Jvm.Cond) (o1 : Addr) (o4 : Addr) (o6 : Addr) (kc5 : ClassId) (kc7 : ClassId) (q8 : Int64) (q9 : Int64) (q10 : Int64) (q11 : Int64) (q12 : Int64) (q13 : Int64) (h0 : Heap) (n0 : Nat) (O0 : Old Z n0 h0) (g_o1 : n0 ≤ o1) (g_o4 : n0 ≤ o4) (g_o6 : n0 ≤ o6) (Ov_kc5 : OvrA Z kc5 .long "[J") (P4 : Fld Z h0 o1 "com/example/driftless/driftless/DeleteOperations" "targets" "[[J" (.ref o4)) (P6 : Arv Z h0 o4 kc5 (.array .long) (1 : Int32) [(.ref o6)] .null) (P8 : Arv Z h0 o6 kc7 .long (6 : Int32) [(.long q8), (.long q9), (.long q10), (.long q11), (.long q12), (.long q13)] (.long (0 : Int64))) :
    MetFree l (⟨"com/example/driftless/driftless/DeleteOperations", "targetReplica", "(I)J"⟩ : MethodName) (head1 (Jvm.Cond.code (⟨"com/example/driftless/driftless/DeleteOperations", "targetReplica", "(I)J"⟩ : MethodName) prog_7_method_7_code 2 (some .long) :: ws) ({ frames := 0, cells := 0, slots := 0, locals := 0 } : Room)) (fun a U => a = #[(.ref o1), (.int (1 : Int32))] ∧ Z.Warmed39 U.vm ∧ U.heap = h0) (fun _ _ _ _ _ => True) (fun _ U o U' => ∃ v L, o = .returned v ∧ Q9 Z o1 o4 o6 kc5 kc7 q8 q9 q10 q11 q12 q13 h0 n0 v U'.heap L ∧ FrameEnd U o U' L ({ frames := 0, cells := 0, slots := 0, locals := 0 } : Room).cells ({ frames := 0, cells := 0, slots := 0, locals := 0 } : Room).slots) := by
  refine MetFree.of_bodySF (plainFor_of_name pn2) hisR ?_
  intro p e s m args below meth c s₁ Bd hml0 hP hK
  obtain ⟨rfl, hZ, hh⟩ := hP
  have hx := Bd.exec
  have hby := Bd.bytes
  have hml : c.maxLocals = 2 := hml0
  have hown : s.vm.findClass "com/example/driftless/driftless/DeleteOperations" = some m.cls := findClass_of_methodNamed Bd.named
  have hnm := (name_of_methodNamed Bd.named Bd.method).1
  have hret := Bd.returns
  have hlk : meth.locks = false := BodyLoose.notSynchronized Bd
  have X0 : Stand p l e ({ frames := 0, cells := 0, slots := 0, locals := 0 } : Room) s m #[(.ref o1), (.int (1 : Int32))] below meth c s₁ [] 0 0 := Stand.of_body Bd
  have e0 : s₁.heap = h0 := by rw [← hh, Bd.state]; rfl
  have N0 := Fr.nil n0
  have pre0 : ∀ t, Steps p.tables e below (s₁.setTop (mkF m 0 #[.val (.ref o1), .val (.int (1 : Int32))] [])) t → Steps p.tables e below (s₁.setTop (entryFrame m #[(.ref o1), (.int (1 : Int32))] 2)) t := fun t k => castTop (ef9 m o1 (1 : Int32)) k
  obtain ⟨T1, X1, e1, st1⟩ := getF X0 hx hZ hown (host := "") (Or.inl (hw _ (List.mem_of_getElem? (i := 29) rfl))) Via.refl e0 P4 (g := (mkF m 1 #[.val (.ref o1), .val (.int (1 : Int32))] [(.ref o1)])) rfl rfl (hb hby d5_1)
  obtain ⟨cl2, Ar2, qa2, Sa2, Na2, Ha2, Ga2⟩ := id (P6)
  have hin2 : ¬ ((0 : Int32) < 0 ∨ cl2.slots.size ≤ ((0 : Int32)).toNatClampNeg) := inb_of Sa2 ⟨by decide, by decide⟩
  have hat2 : cl2.slots[((0 : Int32)).toNatClampNeg]? = some (.ref o6) := Has.at Ha2 hin2 rfl
  obtain ⟨cl3, Ar3, qa3, Sa3, Na3, Ha3, Ga3⟩ := id (P8)
  have hin3 : ¬ ((3 : Int32) < 0 ∨ cl3.slots.size ≤ ((3 : Int32)).toNatClampNeg) := inb_of Sa3 ⟨by decide, by decide⟩
  have hat3 : cl3.slots[((3 : Int32)).toNatClampNeg]? = some (.long q11) := Has.at Ha3 hin3 rfl
  obtain ⟨fs, hr, hrun, hended, hW, hsame⟩ := X1.leave (v := some (.long q11)) (fun h => by rw [hret] at h; cases h)
  refine ⟨_, _, pre0 _ ?_, hrun, hended, _, _, rfl, ?_, ⟨_, rfl⟩, hW, hsame.mono (by decide) (by decide)⟩
  ·
    show Steps p.tables e below (s₁.setTop (mkF m 0 #[.val (.ref o1), .val (.int (1 : Int32))] [])) _
    refine XS.aloadN X0.here hx rfl (hb hby d5_0) rfl rfl ?_
    show Steps p.tables e below (s₁.setTop (mkF m 1 #[.val (.ref o1), .val (.int (1 : Int32))] [(.ref o1)])) _
    refine st1 _ ?_
    show Steps p.tables e below (T1.setTop (mkF m 4 #[.val (.ref o1), .val (.int (1 : Int32))] [(.ref o4)])) _
    refine XS.iloadN X1.here hx rfl (hb hby d5_4) rfl ?_
    show Steps p.tables e below (T1.setTop (mkF m 5 #[.val (.ref o1), .val (.int (1 : Int32))] [(.int (1 : Int32)), (.ref o4)])) _
    refine XS.bipush X1.here hx rfl (hb hby d5_5) ?_
    show Steps p.tables e below (T1.setTop (mkF m 7 #[.val (.ref o1), .val (.int (1 : Int32))] [(.int (12 : Int32)), (.int (1 : Int32)), (.ref o4)])) _
    refine XS.iushr X1.here hx rfl (hb hby d5_7) rfl ?_
    show Steps p.tables e below (T1.setTop (mkF m 8 #[.val (.ref o1), .val (.int (1 : Int32))] [(.int (0 : Int32)), (.ref o4)])) _
    refine X1.aaload hx (j := (0 : Int32)) (v := (.ref o6)) (by rw [e1]; exact Ar2.1) (State.isArrayOf_alike hZ.alike Ar2.2.1) rfl Ar2.2.2 hin2 hat2 (g := (mkF m 8 #[.val (.ref o1), .val (.int (1 : Int32))] [(.int (0 : Int32)), (.ref o4)])) rfl rfl (hb hby d5_8) _ ?_
    show Steps p.tables e below (T1.setTop (mkF m 9 #[.val (.ref o1), .val (.int (1 : Int32))] [(.ref o6)])) _
    refine XS.iconst X1.here hx rfl (hb hby d5_9) ?_
    show Steps p.tables e below (T1.setTop (mkF m 10 #[.val (.ref o1), .val (.int (1 : Int32))] [(.int (2 : Int32)), (.ref o6)])) _
    refine XS.iloadN X1.here hx rfl (hb hby d5_10) rfl ?_
    show Steps p.tables e below (T1.setTop (mkF m 11 #[.val (.ref o1), .val (.int (1 : Int32))] [(.int (1 : Int32)), (.int (2 : Int32)), (.ref o6)])) _
    refine XS.sipush X1.here hx rfl (hb hby d5_11) ?_
    show Steps p.tables e below (T1.setTop (mkF m 14 #[.val (.ref o1), .val (.int (1 : Int32))] [(.int (4095 : Int32)), (.int (1 : Int32)), (.int (2 : Int32)), (.ref o6)])) _
    refine XS.iand X1.here hx rfl (hb hby d5_14) rfl ?_
    show Steps p.tables e below (T1.setTop (mkF m 15 #[.val (.ref o1), .val (.int (1 : Int32))] [(.int (1 : Int32)), (.int (2 : Int32)), (.ref o6)])) _
    refine XS.imul X1.here hx rfl (hb hby d5_15) rfl ?_
    show Steps p.tables e below (T1.setTop (mkF m 16 #[.val (.ref o1), .val (.int (1 : Int32))] [(.int (2 : Int32)), (.ref o6)])) _
    refine XS.iconst X1.here hx rfl (hb hby d5_16) ?_
    show Steps p.tables e below (T1.setTop (mkF m 17 #[.val (.ref o1), .val (.int (1 : Int32))] [(.int (1 : Int32)), (.int (2 : Int32)), (.ref o6)])) _
    refine XS.iadd X1.here hx rfl (hb hby d5_17) rfl ?_
    show Steps p.tables e below (T1.setTop (mkF m 18 #[.val (.ref o1), .val (.int (1 : Int32))] [(.int (3 : Int32)), (.ref o6)])) _
    refine X1.laload hx (j := (3 : Int32)) (v := (.long q11)) (by rw [e1]; exact Ar3.1) (State.isArrayOf_alike hZ.alike Ar3.2.1) Ar3.2.2 hin3 hat3 (g := (mkF m 18 #[.val (.ref o1), .val (.int (1 : Int32))] [(.int (3 : Int32)), (.ref o6)])) rfl rfl (hb hby d5_18) _ ?_
    show Steps p.tables e below (T1.setTop (mkF m 19 #[.val (.ref o1), .val (.int (1 : Int32))] [(.long q11)])) _
    exact retOut X1 hx hret rfl (Or.inr (Or.inl ⟨rfl, rfl, _, rfl⟩)) (hb hby d5_19) hr
  ·
    show Q9 Z o1 o4 o6 kc5 kc7 q8 q9 q10 q11 q12 q13 h0 n0 _ T1.heap _
    rw [e1]
    exact ⟨rfl, N0, rfl⟩
theorem ef10 (m : MethodId) (x0 : Addr) (x1 : Int32) : entryFrame m #[(.ref x0), (.int x1)] 2 = mkF m 0 #[.val (.ref x0), .val (.int x1)] [] := by first | (simp [entryFrame, mkF, argsToLocals, Value.category]; done) | rfl
def Q10 (Z : State) (o1 : Addr) (o4 : Addr) (o6 : Addr) (kc5 : ClassId) (kc7 : ClassId) (q8 : Int64) (q9 : Int64) (q10 : Int64) (q11 : Int64) (q12 : Int64) (q13 : Int64) (h0 : Heap) (n0 : Nat) (v : Option Value) (h : Heap) (L : List Loc) : Prop :=
  (v = some (.long q13) ∧ Fr n0 L ∧ h = h0)
set_option maxRecDepth 65536 in
set_option maxHeartbeats 40000000 in
theorem rm10 (l : Launch) (Z : State) (a0 : Array Value) (hw : ∀ d ∈ tables_1, d.before a0 Z = true) (ws : List Jvm.Cond) (o1 : Addr) (o4 : Addr) (o6 : Addr) (kc5 : ClassId) (kc7 : ClassId) (q8 : Int64) (q9 : Int64) (q10 : Int64) (q11 : Int64) (q12 : Int64) (q13 : Int64) (h0 : Heap) (n0 : Nat) (O0 : Old Z n0 h0) (g_o1 : n0 ≤ o1) (g_o4 : n0 ≤ o4) (g_o6 : n0 ≤ o6) (Ov_kc5 : OvrA Z kc5 .long "[J") (P4 : Fld Z h0 o1 "com/example/driftless/driftless/DeleteOperations" "targets" "[[J" (.ref o4)) (P6 : Arv Z h0 o4 kc5 (.array .long) (1 : Int32) [(.ref o6)] .null) (P8 : Arv Z h0 o6 kc7 .long (6 : Int32) [(.long q8), (.long q9), (.long q10), (.long q11), (.long q12), (.long q13)] (.long (0 : Int64))) :
    MetFree l (⟨"com/example/driftless/driftless/DeleteOperations", "targetReplica", "(I)J"⟩ : MethodName) (head1 (Jvm.Cond.code (⟨"com/example/driftless/driftless/DeleteOperations", "targetReplica", "(I)J"⟩ : MethodName) prog_7_method_7_code 2 (some .long) :: ws) ({ frames := 0, cells := 0, slots := 0, locals := 0 } : Room)) (fun a U => a = #[(.ref o1), (.int (2 : Int32))] ∧ Z.Warmed39 U.vm ∧ U.heap = h0) (fun _ _ _ _ _ => True) (fun _ U o U' => ∃ v L, o = .returned v ∧ Q10 Z o1 o4 o6 kc5 kc7 q8 q9 q10 q11 q12 q13 h0 n0 v U'.heap L ∧ FrameEnd U o U' L ({ frames := 0, cells := 0, slots := 0, locals := 0 } : Room).cells ({ frames := 0, cells := 0, slots := 0, locals := 0 } : Room).slots) := by
  refine MetFree.of_bodySF (plainFor_of_name pn2) hisR ?_
  intro p e s m args below meth c s₁ Bd hml0 hP hK
  obtain ⟨rfl, hZ, hh⟩ := hP
  have hx := Bd.exec
  have hby := Bd.bytes
  have hml : c.maxLocals = 2 := hml0
  have hown : s.vm.findClass "com/example/driftless/driftless/DeleteOperations" = some m.cls := findClass_of_methodNamed Bd.named
  have hnm := (name_of_methodNamed Bd.named Bd.method).1
  have hret := Bd.returns
  have hlk : meth.locks = false := BodyLoose.notSynchronized Bd
  have X0 : Stand p l e ({ frames := 0, cells := 0, slots := 0, locals := 0 } : Room) s m #[(.ref o1), (.int (2 : Int32))] below meth c s₁ [] 0 0 := Stand.of_body Bd
  have e0 : s₁.heap = h0 := by rw [← hh, Bd.state]; rfl
  have N0 := Fr.nil n0
  have pre0 : ∀ t, Steps p.tables e below (s₁.setTop (mkF m 0 #[.val (.ref o1), .val (.int (2 : Int32))] [])) t → Steps p.tables e below (s₁.setTop (entryFrame m #[(.ref o1), (.int (2 : Int32))] 2)) t := fun t k => castTop (ef10 m o1 (2 : Int32)) k
  obtain ⟨T1, X1, e1, st1⟩ := getF X0 hx hZ hown (host := "") (Or.inl (hw _ (List.mem_of_getElem? (i := 29) rfl))) Via.refl e0 P4 (g := (mkF m 1 #[.val (.ref o1), .val (.int (2 : Int32))] [(.ref o1)])) rfl rfl (hb hby d5_1)
  obtain ⟨cl2, Ar2, qa2, Sa2, Na2, Ha2, Ga2⟩ := id (P6)
  have hin2 : ¬ ((0 : Int32) < 0 ∨ cl2.slots.size ≤ ((0 : Int32)).toNatClampNeg) := inb_of Sa2 ⟨by decide, by decide⟩
  have hat2 : cl2.slots[((0 : Int32)).toNatClampNeg]? = some (.ref o6) := Has.at Ha2 hin2 rfl
  obtain ⟨cl3, Ar3, qa3, Sa3, Na3, Ha3, Ga3⟩ := id (P8)
  have hin3 : ¬ ((5 : Int32) < 0 ∨ cl3.slots.size ≤ ((5 : Int32)).toNatClampNeg) := inb_of Sa3 ⟨by decide, by decide⟩
  have hat3 : cl3.slots[((5 : Int32)).toNatClampNeg]? = some (.long q13) := Has.at Ha3 hin3 rfl
  obtain ⟨fs, hr, hrun, hended, hW, hsame⟩ := X1.leave (v := some (.long q13)) (fun h => by rw [hret] at h; cases h)
  refine ⟨_, _, pre0 _ ?_, hrun, hended, _, _, rfl, ?_, ⟨_, rfl⟩, hW, hsame.mono (by decide) (by decide)⟩
  ·
    show Steps p.tables e below (s₁.setTop (mkF m 0 #[.val (.ref o1), .val (.int (2 : Int32))] [])) _
    refine XS.aloadN X0.here hx rfl (hb hby d5_0) rfl rfl ?_
    show Steps p.tables e below (s₁.setTop (mkF m 1 #[.val (.ref o1), .val (.int (2 : Int32))] [(.ref o1)])) _
    refine st1 _ ?_
    show Steps p.tables e below (T1.setTop (mkF m 4 #[.val (.ref o1), .val (.int (2 : Int32))] [(.ref o4)])) _
    refine XS.iloadN X1.here hx rfl (hb hby d5_4) rfl ?_
    show Steps p.tables e below (T1.setTop (mkF m 5 #[.val (.ref o1), .val (.int (2 : Int32))] [(.int (2 : Int32)), (.ref o4)])) _
    refine XS.bipush X1.here hx rfl (hb hby d5_5) ?_
    show Steps p.tables e below (T1.setTop (mkF m 7 #[.val (.ref o1), .val (.int (2 : Int32))] [(.int (12 : Int32)), (.int (2 : Int32)), (.ref o4)])) _
    refine XS.iushr X1.here hx rfl (hb hby d5_7) rfl ?_
    show Steps p.tables e below (T1.setTop (mkF m 8 #[.val (.ref o1), .val (.int (2 : Int32))] [(.int (0 : Int32)), (.ref o4)])) _
    refine X1.aaload hx (j := (0 : Int32)) (v := (.ref o6)) (by rw [e1]; exact Ar2.1) (State.isArrayOf_alike hZ.alike Ar2.2.1) rfl Ar2.2.2 hin2 hat2 (g := (mkF m 8 #[.val (.ref o1), .val (.int (2 : Int32))] [(.int (0 : Int32)), (.ref o4)])) rfl rfl (hb hby d5_8) _ ?_
    show Steps p.tables e below (T1.setTop (mkF m 9 #[.val (.ref o1), .val (.int (2 : Int32))] [(.ref o6)])) _
    refine XS.iconst X1.here hx rfl (hb hby d5_9) ?_
    show Steps p.tables e below (T1.setTop (mkF m 10 #[.val (.ref o1), .val (.int (2 : Int32))] [(.int (2 : Int32)), (.ref o6)])) _
    refine XS.iloadN X1.here hx rfl (hb hby d5_10) rfl ?_
    show Steps p.tables e below (T1.setTop (mkF m 11 #[.val (.ref o1), .val (.int (2 : Int32))] [(.int (2 : Int32)), (.int (2 : Int32)), (.ref o6)])) _
    refine XS.sipush X1.here hx rfl (hb hby d5_11) ?_
    show Steps p.tables e below (T1.setTop (mkF m 14 #[.val (.ref o1), .val (.int (2 : Int32))] [(.int (4095 : Int32)), (.int (2 : Int32)), (.int (2 : Int32)), (.ref o6)])) _
    refine XS.iand X1.here hx rfl (hb hby d5_14) rfl ?_
    show Steps p.tables e below (T1.setTop (mkF m 15 #[.val (.ref o1), .val (.int (2 : Int32))] [(.int (2 : Int32)), (.int (2 : Int32)), (.ref o6)])) _
    refine XS.imul X1.here hx rfl (hb hby d5_15) rfl ?_
    show Steps p.tables e below (T1.setTop (mkF m 16 #[.val (.ref o1), .val (.int (2 : Int32))] [(.int (4 : Int32)), (.ref o6)])) _
    refine XS.iconst X1.here hx rfl (hb hby d5_16) ?_
    show Steps p.tables e below (T1.setTop (mkF m 17 #[.val (.ref o1), .val (.int (2 : Int32))] [(.int (1 : Int32)), (.int (4 : Int32)), (.ref o6)])) _
    refine XS.iadd X1.here hx rfl (hb hby d5_17) rfl ?_
    show Steps p.tables e below (T1.setTop (mkF m 18 #[.val (.ref o1), .val (.int (2 : Int32))] [(.int (5 : Int32)), (.ref o6)])) _
    refine X1.laload hx (j := (5 : Int32)) (v := (.long q13)) (by rw [e1]; exact Ar3.1) (State.isArrayOf_alike hZ.alike Ar3.2.1) Ar3.2.2 hin3 hat3 (g := (mkF m 18 #[.val (.ref o1), .val (.int (2 : Int32))] [(.int (5 : Int32)), (.ref o6)])) rfl rfl (hb hby d5_18) _ ?_
    show Steps p.tables e below (T1.setTop (mkF m 19 #[.val (.ref o1), .val (.int (2 : Int32))] [(.long q13)])) _
    exact retOut X1 hx hret rfl (Or.inr (Or.inl ⟨rfl, rfl, _, rfl⟩)) (hb hby d5_19) hr
  ·
    show Q10 Z o1 o4 o6 kc5 kc7 q8 q9 q10 q11 q12 q13 h0 n0 _ T1.heap _
    rw [e1]
    exact ⟨rfl, N0, rfl⟩
theorem pn3 : plainName "com/example/driftless/driftless/DeleteOperationsTargetReplicaPinLaw" = true := by first | (simp [plainName, overriddenIn]; done) | decide +kernel
theorem ef0 (m : MethodId) (x0 : Int64) (x1 : Int64) (x2 : Int64) (x3 : Int64) (x4 : Int64) (x5 : Int64) : entryFrame m #[(.long x0), (.long x1), (.long x2), (.long x3), (.long x4), (.long x5)] maxLocals = mkF m 0 #[.val (.long x0), .second, .val (.long x1), .second, .val (.long x2), .second, .val (.long x3), .second, .val (.long x4), .second, .val (.long x5), .second, .unset] [] := by first | (simp [entryFrame, mkF, argsToLocals, Value.category, maxLocals]; done) | rfl
set_option maxRecDepth 65536 in
set_option maxHeartbeats 40000000 in
theorem rm0 (l : Launch) (Z : State) (a0 : Array Value) (hw : ∀ d ∈ tables_1, d.before a0 Z = true) (ws : List Jvm.Cond) (q1 : Int64) (q2 : Int64) (q3 : Int64) (q4 : Int64) (q5 : Int64) (q6 : Int64) (h0 : Heap) (n0 : Nat) (O0 : Old Z n0 h0) :
    MetFree l x (head1 (Jvm.Cond.code x code maxLocals ret :: ws) room_1) (fun a U => a = #[(.long q1), (.long q2), (.long q3), (.long q4), (.long q5), (.long q6)] ∧ Z.Warmed39 U.vm ∧ U.heap = h0) (fun _ _ _ _ _ => True) (fun _ U o U' => ∃ v L, o = .returned v ∧ Q0 n0 v U'.heap L ∧ FrameEnd U o U' L 16 128) := by
  refine MetFree.of_bodySF (plainFor_of_name pn3) hisR ?_
  intro p e s m args below meth c s₁ Bd hml0 hP hK
  obtain ⟨rfl, hZ, hh⟩ := hP
  have hx := Bd.exec
  have hby := Bd.bytes
  have hml : c.maxLocals = 13 := hml0
  have hown : s.vm.findClass "com/example/driftless/driftless/DeleteOperationsTargetReplicaPinLaw" = some m.cls := findClass_of_methodNamed Bd.named
  have hnm := (name_of_methodNamed Bd.named Bd.method).1
  have hret := Bd.returns
  have hlk : meth.locks = false := BodyLoose.notSynchronized Bd
  have X0 : Stand p l e room_1 s m #[(.long q1), (.long q2), (.long q3), (.long q4), (.long q5), (.long q6)] below meth c s₁ [] 0 0 := Stand.of_body Bd
  have e0 : s₁.heap = h0 := by rw [← hh, Bd.state]; rfl
  have N0 := Fr.nil n0
  have pre0 : ∀ t, Steps p.tables e below (s₁.setTop (mkF m 0 #[.val (.long q1), .second, .val (.long q2), .second, .val (.long q3), .second, .val (.long q4), .second, .val (.long q5), .second, .val (.long q6), .second, .unset] [])) t → Steps p.tables e below (s₁.setTop (entryFrame m #[(.long q1), (.long q2), (.long q3), (.long q4), (.long q5), (.long q6)] maxLocals)) t := fun t k => castTop (ef0 m q1 q2 q3 q4 q5 q6) k
  obtain ⟨T1, h1, X1, e1, E1, A1, D1, -, st1⟩ := newO X0 hx hZ hown (hw _ (List.mem_of_getElem? (i := 0) rfl)) (hw _ (List.mem_of_getElem? (i := 1) rfl)) (hw _ (List.mem_of_getElem? (i := 2) rfl)) e0 (g := (mkF m 0 #[.val (.long q1), .second, .val (.long q2), .second, .val (.long q3), .second, .val (.long q4), .second, .val (.long q5), .second, .val (.long q6), .second, .unset] [])) rfl (hb hby at_0) (by decide) (by decide)
  obtain ⟨b1, g1⟩ : ∃ z, z = h0.size := ⟨_, rfl⟩
  rw [← g1] at A1 D1 st1
  have M1 : h0.size ≤ h1.size := Nat.le_trans (Nat.le_refl _) E1.1
  have O1 := Old.ext O0 E1
  have sz_b1 : h0.size ≤ b1 := Nat.le_of_eq g1.symm
  have g_b1 : n0 ≤ b1 := Nat.le_trans (own_oz O0) (Nat.le_trans (Nat.le_refl _) sz_b1)
  have F1_22 : Fld Z h1 b1 "java/util/AbstractList" "modCount" "I" (.int (0 : Int32)) := D1 (Or.inl (hw _ (List.mem_of_getElem? (i := 22) rfl))) (ty := .int) (by decide)
  have F1_24 : Fld Z h1 b1 "com/example/driftless/driftless/DeleteOperations" "firstCounter" "J" (.long (0 : Int64)) := D1 (Or.inr (hw _ (List.mem_of_getElem? (i := 24) rfl))) (ty := .long) (by decide)
  have F1_26 : Fld Z h1 b1 "com/example/driftless/driftless/DeleteOperations" "replica" "J" (.long (0 : Int64)) := D1 (Or.inr (hw _ (List.mem_of_getElem? (i := 26) rfl))) (ty := .long) (by decide)
  have F1_30 : Fld Z h1 b1 "com/example/driftless/driftless/DeleteOperations" "targets" "[[J" .null := D1 (Or.inr (hw _ (List.mem_of_getElem? (i := 30) rfl))) (ty := (.array (.array .long))) (by decide)
  have F1_43 : Fld Z h1 b1 "com/example/driftless/driftless/DeleteOperations" "size" "I" (.int (0 : Int32)) := D1 (Or.inl (hw _ (List.mem_of_getElem? (i := 43) rfl))) (ty := .int) (by decide)
  obtain ⟨_, _, ⟨T2, L2, c2, n2⟩, -, X2, ⟨Lc2, hQ2, l2, y2, z2⟩, st2⟩ := X1.specialBack hx (y := (⟨"com/example/driftless/driftless/DeleteOperations", "<init>", "(JJI)V"⟩ : MethodName)) rfl hown (mvT hZ (hw _ (List.mem_of_getElem? (i := 4) rfl))) (mvT hZ (hw _ (List.mem_of_getElem? (i := 5) rfl))) (mvT hZ (hw _ (List.mem_of_getElem? (i := 6) rfl))) (by decide) (backOf (W := 1) (rm4 l Z a0 hw [] b1 ((q2 - q1)) ((q6 ^^^ (-1 : Int64))) h1 n0 O1 g_b1 A1 F1_24 F1_26 F1_43 F1_30 F1_22) hZ (hw _ (List.mem_of_getElem? (i := 6) rfl)) (hw _ (List.mem_of_getElem? (i := 2) rfl)) (by decide) (by decide)) (g := (mkF m 14 #[.val (.long q1), .second, .val (.long q2), .second, .val (.long q3), .second, .val (.long q4), .second, .val (.long q5), .second, .val (.long q6), .second, .unset] [(.int (3 : Int32)), (.long (q6 ^^^ (-1 : Int64))), (.long (q2 - q1)), (.ref b1), (.ref b1)])) rfl (by rw [hml]; rfl) (Steps.refl _) (a := b1) (argsL := [(.long (q2 - q1)), (.long (q6 ^^^ (-1 : Int64))), (.int (3 : Int32))]) (rest := [(.ref b1)]) (lenOf pd2 rfl) rfl (by show 2 * 0 + _ ≤ _; exact Nat.le_of_eq rfl) (hb hby at_14) (fun _ _ => ⟨rfl, e1, (by decide : 1 + 2 ≤ _), (by decide : 5 + 7 ≤ _)⟩)
  dsimp only [Pt.U, Pt.locs, Pt.cells, Pt.slots] at X2 l2 y2 z2 st2 hQ2
  subst l2 y2 z2
  have X2 : Stand p l e room_1 s m #[(.long q1), (.long q2), (.long q3), (.long q4), (.long q5), (.long q6)] below meth c T2 _ 3 12 := X2
  obtain ⟨b3, b4, k5, k6, rfl, Nq7, K8, sz_b3, sz_b4, ne9, OV10, f11, f12, f13, f14, f15, f16, f17, f18, f19, f20⟩ := hQ2
  have N2 := Fr.app N0 Nq7
  have g_b3 : n0 ≤ b3 := Nat.le_trans (own_oz O1) sz_b3
  have g_b4 : n0 ≤ b4 := Nat.le_trans (own_oz O1) sz_b4
  have M2 : h0.size ≤ T2.heap.size := Nat.le_trans M1 K8.1
  have O2 := Old.keep O1 K8 (allS g_b1 all0)
  obtain ⟨cq21, kq21, q21a, q21b, q21c⟩ := isOf hZ rfl f11
  obtain ⟨_, _, ⟨T22, L22, c22, n22⟩, -, X22, ⟨Lc22, hQ22, l22, y22, z22⟩, st22⟩ := X2.virtualBack hx (y := (⟨"com/example/driftless/driftless/DeleteOperations", "append", "(JJ)V"⟩ : MethodName)) (z := (⟨"com/example/driftless/driftless/DeleteOperations", "append", "(JJ)V"⟩ : MethodName)) hown (mvT hZ (hw _ (List.mem_of_getElem? (i := 37) rfl))) (mvT hZ (hw _ (List.mem_of_getElem? (i := 38) rfl))) (notFace_of_selects (args := #[]) (mvT hZ (hw _ (List.mem_of_getElem? (i := 40) rfl)))) (mvT hZ (hw _ (List.mem_of_getElem? (i := 40) rfl))) (mvT hZ (hw _ (List.mem_of_getElem? (i := 39) rfl))) (by decide) (backOf (W := 0) (rm5 l Z a0 hw [] b1 b3 b4 k5 ((q2 - q1)) ((q6 ^^^ (-1 : Int64))) k6 q1 q4 T2.heap n0 O2 g_b1 g_b3 g_b4 OV10 f11 f12 f13 f14 f15 f16 f17 f19 f20) hZ (hw _ (List.mem_of_getElem? (i := 41) rfl)) (hw _ (List.mem_of_getElem? (i := 2) rfl)) (by decide) (by decide)) q21a q21c (g := (mkF m 24 #[.val (.long q1), .second, .val (.long q2), .second, .val (.long q3), .second, .val (.long q4), .second, .val (.long q5), .second, .val (.long q6), .second, .val (.ref b1)] [(.long q4), (.long q1), (.ref b1)])) rfl (by rw [hml]; rfl) (Steps.refl _) (argsL := [(.long q1), (.long q4)]) (rest := []) (lenOf pd3 rfl) rfl (by show 2 * 0 + _ ≤ _; exact Nat.le_of_eq rfl) (hb hby at_24) (fun _ _ => ⟨rfl, rfl, (by decide : 3 + 0 ≤ _), (by decide : 12 + 0 ≤ _)⟩)
  dsimp only [Pt.U, Pt.locs, Pt.cells, Pt.slots] at X22 l22 y22 z22 st22 hQ22
  subst l22 y22 z22
  have X22 : Stand p l e room_1 s m #[(.long q1), (.long q2), (.long q3), (.long q4), (.long q5), (.long q6)] below meth c T22 _ 3 12 := X22
  obtain ⟨rfl, Nq23, K24, f25, f26, f27, f28, f29, f30, f31, f32⟩ := hQ22
  have N22 := Fr.app N2 Nq23
  have M22 : h0.size ≤ T22.heap.size := Nat.le_trans M2 K24.1
  have O22 := Old.keep O2 K24 (allS g_b4 (allS g_b1 all0))
  have lt33 : b1 < h1.size := A1.lt
  have ne34 : b1 ≠ b3 := Nat.ne_of_lt (Nat.lt_of_lt_of_le lt33 sz_b3)
  have f35 := (f17.keep K24 (ninS ne9 (ninS (Ne.symm ne34) nin0)))
  obtain ⟨cq36, kq36, q36a, q36b, q36c⟩ := isOf hZ rfl f27
  obtain ⟨_, _, ⟨T37, L37, c37, n37⟩, -, X37, ⟨Lc37, hQ37, l37, y37, z37⟩, st37⟩ := X22.virtualBack hx (y := (⟨"com/example/driftless/driftless/DeleteOperations", "append", "(JJ)V"⟩ : MethodName)) (z := (⟨"com/example/driftless/driftless/DeleteOperations", "append", "(JJ)V"⟩ : MethodName)) hown (mvT hZ (hw _ (List.mem_of_getElem? (i := 37) rfl))) (mvT hZ (hw _ (List.mem_of_getElem? (i := 38) rfl))) (notFace_of_selects (args := #[]) (mvT hZ (hw _ (List.mem_of_getElem? (i := 40) rfl)))) (mvT hZ (hw _ (List.mem_of_getElem? (i := 40) rfl))) (mvT hZ (hw _ (List.mem_of_getElem? (i := 39) rfl))) (by decide) (backOf (W := 0) (rm6 l Z a0 hw [] b1 b3 b4 k5 ((q2 - q1)) ((q6 ^^^ (-1 : Int64))) k6 q1 q4 q2 q5 T22.heap n0 O22 g_b1 g_b3 g_b4 OV10 f27 f28 f29 f30 f31 f32 f35 f25 f26) hZ (hw _ (List.mem_of_getElem? (i := 41) rfl)) (hw _ (List.mem_of_getElem? (i := 2) rfl)) (by decide) (by decide)) q36a q36c (g := (mkF m 32 #[.val (.long q1), .second, .val (.long q2), .second, .val (.long q3), .second, .val (.long q4), .second, .val (.long q5), .second, .val (.long q6), .second, .val (.ref b1)] [(.long q5), (.long q2), (.ref b1)])) rfl (by rw [hml]; rfl) (Steps.refl _) (argsL := [(.long q2), (.long q5)]) (rest := []) (lenOf pd3 rfl) rfl (by show 2 * 0 + _ ≤ _; exact Nat.le_of_eq rfl) (hb hby at_32) (fun _ _ => ⟨rfl, rfl, (by decide : 3 + 0 ≤ _), (by decide : 12 + 0 ≤ _)⟩)
  dsimp only [Pt.U, Pt.locs, Pt.cells, Pt.slots] at X37 l37 y37 z37 st37 hQ37
  subst l37 y37 z37
  have X37 : Stand p l e room_1 s m #[(.long q1), (.long q2), (.long q3), (.long q4), (.long q5), (.long q6)] below meth c T37 _ 3 12 := X37
  obtain ⟨rfl, Nq38, K39, f40, f41, f42, f43, f44, f45, f46, f47⟩ := hQ37
  have N37 := Fr.app N22 Nq38
  have M37 : h0.size ≤ T37.heap.size := Nat.le_trans M22 K39.1
  have O37 := Old.keep O22 K39 (allS g_b4 (allS g_b1 all0))
  have f48 := (f35.keep K39 (ninS ne9 (ninS (Ne.symm ne34) nin0)))
  obtain ⟨cq49, kq49, q49a, q49b, q49c⟩ := isOf hZ rfl f42
  obtain ⟨_, _, ⟨T50, L50, c50, n50⟩, -, X50, ⟨Lc50, hQ50, l50, y50, z50⟩, st50⟩ := X37.virtualBack hx (y := (⟨"com/example/driftless/driftless/DeleteOperations", "append", "(JJ)V"⟩ : MethodName)) (z := (⟨"com/example/driftless/driftless/DeleteOperations", "append", "(JJ)V"⟩ : MethodName)) hown (mvT hZ (hw _ (List.mem_of_getElem? (i := 37) rfl))) (mvT hZ (hw _ (List.mem_of_getElem? (i := 38) rfl))) (notFace_of_selects (args := #[]) (mvT hZ (hw _ (List.mem_of_getElem? (i := 40) rfl)))) (mvT hZ (hw _ (List.mem_of_getElem? (i := 40) rfl))) (mvT hZ (hw _ (List.mem_of_getElem? (i := 39) rfl))) (by decide) (backOf (W := 0) (rm7 l Z a0 hw [] b1 b3 b4 k5 ((q2 - q1)) ((q6 ^^^ (-1 : Int64))) k6 q1 q4 q2 q5 q3 q6 T37.heap n0 O37 g_b1 g_b3 g_b4 OV10 f42 f43 f44 f45 f46 f47 f48 f40 f41) hZ (hw _ (List.mem_of_getElem? (i := 41) rfl)) (hw _ (List.mem_of_getElem? (i := 2) rfl)) (by decide) (by decide)) q49a q49c (g := (mkF m 41 #[.val (.long q1), .second, .val (.long q2), .second, .val (.long q3), .second, .val (.long q4), .second, .val (.long q5), .second, .val (.long q6), .second, .val (.ref b1)] [(.long q6), (.long q3), (.ref b1)])) rfl (by rw [hml]; rfl) (Steps.refl _) (argsL := [(.long q3), (.long q6)]) (rest := []) (lenOf pd3 rfl) rfl (by show 2 * 0 + _ ≤ _; exact Nat.le_of_eq rfl) (hb hby at_41) (fun _ _ => ⟨rfl, rfl, (by decide : 3 + 0 ≤ _), (by decide : 12 + 0 ≤ _)⟩)
  dsimp only [Pt.U, Pt.locs, Pt.cells, Pt.slots] at X50 l50 y50 z50 st50 hQ50
  subst l50 y50 z50
  have X50 : Stand p l e room_1 s m #[(.long q1), (.long q2), (.long q3), (.long q4), (.long q5), (.long q6)] below meth c T50 _ 3 12 := X50
  obtain ⟨rfl, Nq51, K52, f53, f54, f55, f56, f57, f58, f59, f60⟩ := hQ50
  have N50 := Fr.app N37 Nq51
  have M50 : h0.size ≤ T50.heap.size := Nat.le_trans M37 K52.1
  have O50 := Old.keep O37 K52 (allS g_b4 (allS g_b1 all0))
  have f61 := (f48.keep K52 (ninS ne9 (ninS (Ne.symm ne34) nin0)))
  obtain ⟨cq62, kq62, q62a, q62b, q62c⟩ := isOf hZ rfl f55
  obtain ⟨_, _, ⟨T63, L63, c63, n63⟩, -, X63, ⟨Lc63, hQ63, l63, y63, z63⟩, st63⟩ := X50.virtualBack hx (y := (⟨"com/example/driftless/driftless/DeleteOperations", "targetReplica", "(I)J"⟩ : MethodName)) (z := (⟨"com/example/driftless/driftless/DeleteOperations", "targetReplica", "(I)J"⟩ : MethodName)) hown (mvT hZ (hw _ (List.mem_of_getElem? (i := 44) rfl))) (mvT hZ (hw _ (List.mem_of_getElem? (i := 45) rfl))) (notFace_of_selects (args := #[]) (mvT hZ (hw _ (List.mem_of_getElem? (i := 47) rfl)))) (mvT hZ (hw _ (List.mem_of_getElem? (i := 47) rfl))) (mvT hZ (hw _ (List.mem_of_getElem? (i := 46) rfl))) (by decide) (backOf (W := 0) (rm8 l Z a0 hw [] b1 b3 b4 k5 k6 q1 q4 q2 q5 q3 q6 T50.heap n0 O50 g_b1 g_b3 g_b4 OV10 f59 f61 f53) hZ (hw _ (List.mem_of_getElem? (i := 48) rfl)) (hw _ (List.mem_of_getElem? (i := 2) rfl)) (by decide) (by decide)) q62a q62c (g := (mkF m 47 #[.val (.long q1), .second, .val (.long q2), .second, .val (.long q3), .second, .val (.long q4), .second, .val (.long q5), .second, .val (.long q6), .second, .val (.ref b1)] [(.int (0 : Int32)), (.ref b1)])) rfl (by rw [hml]; rfl) (Steps.refl _) (argsL := [(.int (0 : Int32))]) (rest := []) (lenOf pd4 rfl) rfl (by show 2 * 0 + _ ≤ _; exact Nat.le_of_eq rfl) (hb hby at_47) (fun _ _ => ⟨rfl, rfl, (by decide : 3 + 0 ≤ _), (by decide : 12 + 0 ≤ _)⟩)
  dsimp only [Pt.U, Pt.locs, Pt.cells, Pt.slots] at X63 l63 y63 z63 st63 hQ63
  subst l63 y63 z63
  have X63 : Stand p l e room_1 s m #[(.long q1), (.long q2), (.long q3), (.long q4), (.long q5), (.long q6)] below meth c T63 _ 3 12 := X63
  obtain ⟨rfl, Nq64, e65⟩ := hQ63
  have N63 := Fr.app N50 Nq64
  obtain ⟨cq66, kq66, q66a, q66b, q66c⟩ := isOf hZ e65 f55
  obtain ⟨_, _, ⟨T67, L67, c67, n67⟩, -, X67, ⟨Lc67, hQ67, l67, y67, z67⟩, st67⟩ := X63.virtualBack hx (y := (⟨"com/example/driftless/driftless/DeleteOperations", "targetReplica", "(I)J"⟩ : MethodName)) (z := (⟨"com/example/driftless/driftless/DeleteOperations", "targetReplica", "(I)J"⟩ : MethodName)) hown (mvT hZ (hw _ (List.mem_of_getElem? (i := 44) rfl))) (mvT hZ (hw _ (List.mem_of_getElem? (i := 45) rfl))) (notFace_of_selects (args := #[]) (mvT hZ (hw _ (List.mem_of_getElem? (i := 47) rfl)))) (mvT hZ (hw _ (List.mem_of_getElem? (i := 47) rfl))) (mvT hZ (hw _ (List.mem_of_getElem? (i := 46) rfl))) (by decide) (backOf (W := 0) (rm9 l Z a0 hw [] b1 b3 b4 k5 k6 q1 q4 q2 q5 q3 q6 T50.heap n0 O50 g_b1 g_b3 g_b4 OV10 f59 f61 f53) hZ (hw _ (List.mem_of_getElem? (i := 48) rfl)) (hw _ (List.mem_of_getElem? (i := 2) rfl)) (by decide) (by decide)) q66a q66c (g := (mkF m 59 #[.val (.long q1), .second, .val (.long q2), .second, .val (.long q3), .second, .val (.long q4), .second, .val (.long q5), .second, .val (.long q6), .second, .val (.ref b1)] [(.int (1 : Int32)), (.ref b1)])) rfl (by rw [hml]; rfl) (Steps.refl _) (argsL := [(.int (1 : Int32))]) (rest := []) (lenOf pd4 rfl) rfl (by show 2 * 0 + _ ≤ _; exact Nat.le_of_eq rfl) (hb hby at_59) (fun _ _ => ⟨rfl, e65, (by decide : 3 + 0 ≤ _), (by decide : 12 + 0 ≤ _)⟩)
  dsimp only [Pt.U, Pt.locs, Pt.cells, Pt.slots] at X67 l67 y67 z67 st67 hQ67
  subst l67 y67 z67
  have X67 : Stand p l e room_1 s m #[(.long q1), (.long q2), (.long q3), (.long q4), (.long q5), (.long q6)] below meth c T67 _ 3 12 := X67
  obtain ⟨rfl, Nq68, e69⟩ := hQ67
  have N67 := Fr.app N63 Nq68
  obtain ⟨cq70, kq70, q70a, q70b, q70c⟩ := isOf hZ e69 f55
  obtain ⟨_, _, ⟨T71, L71, c71, n71⟩, -, X71, ⟨Lc71, hQ71, l71, y71, z71⟩, st71⟩ := X67.virtualBack hx (y := (⟨"com/example/driftless/driftless/DeleteOperations", "targetReplica", "(I)J"⟩ : MethodName)) (z := (⟨"com/example/driftless/driftless/DeleteOperations", "targetReplica", "(I)J"⟩ : MethodName)) hown (mvT hZ (hw _ (List.mem_of_getElem? (i := 44) rfl))) (mvT hZ (hw _ (List.mem_of_getElem? (i := 45) rfl))) (notFace_of_selects (args := #[]) (mvT hZ (hw _ (List.mem_of_getElem? (i := 47) rfl)))) (mvT hZ (hw _ (List.mem_of_getElem? (i := 47) rfl))) (mvT hZ (hw _ (List.mem_of_getElem? (i := 46) rfl))) (by decide) (backOf (W := 0) (rm10 l Z a0 hw [] b1 b3 b4 k5 k6 q1 q4 q2 q5 q3 q6 T50.heap n0 O50 g_b1 g_b3 g_b4 OV10 f59 f61 f53) hZ (hw _ (List.mem_of_getElem? (i := 48) rfl)) (hw _ (List.mem_of_getElem? (i := 2) rfl)) (by decide) (by decide)) q70a q70c (g := (mkF m 71 #[.val (.long q1), .second, .val (.long q2), .second, .val (.long q3), .second, .val (.long q4), .second, .val (.long q5), .second, .val (.long q6), .second, .val (.ref b1)] [(.int (2 : Int32)), (.ref b1)])) rfl (by rw [hml]; rfl) (Steps.refl _) (argsL := [(.int (2 : Int32))]) (rest := []) (lenOf pd4 rfl) rfl (by show 2 * 0 + _ ≤ _; exact Nat.le_of_eq rfl) (hb hby at_71) (fun _ _ => ⟨rfl, e69, (by decide : 3 + 0 ≤ _), (by decide : 12 + 0 ≤ _)⟩)
  dsimp only [Pt.U, Pt.locs, Pt.cells, Pt.slots] at X71 l71 y71 z71 st71 hQ71
  subst l71 y71 z71
  have X71 : Stand p l e room_1 s m #[(.long q1), (.long q2), (.long q3), (.long q4), (.long q5), (.long q6)] below meth c T71 _ 3 12 := X71
  obtain ⟨rfl, Nq72, e73⟩ := hQ71
  have N71 := Fr.app N67 Nq72
  obtain ⟨fs, hr, hrun, hended, hW, hsame⟩ := X71.leave (v := some (.int (1 : Int32))) (fun h => by rw [hret] at h; cases h)
  refine ⟨_, _, pre0 _ ?_, hrun, hended, _, _, rfl, ?_, ⟨_, rfl⟩, hW, hsame.mono (by decide) (by decide)⟩
  ·
    show Steps p.tables e below (s₁.setTop (mkF m 0 #[.val (.long q1), .second, .val (.long q2), .second, .val (.long q3), .second, .val (.long q4), .second, .val (.long q5), .second, .val (.long q6), .second, .unset] [])) _
    refine st1 _ ?_
    show Steps p.tables e below (T1.setTop (mkF m 3 #[.val (.long q1), .second, .val (.long q2), .second, .val (.long q3), .second, .val (.long q4), .second, .val (.long q5), .second, .val (.long q6), .second, .unset] [(.ref b1)])) _
    refine XS.dup X1.here hx rfl (hb hby at_3) rfl rfl ?_
    show Steps p.tables e below (T1.setTop (mkF m 4 #[.val (.long q1), .second, .val (.long q2), .second, .val (.long q3), .second, .val (.long q4), .second, .val (.long q5), .second, .val (.long q6), .second, .unset] [(.ref b1), (.ref b1)])) _
    refine XS.lloadN X1.here hx rfl (hb hby at_4) rfl ?_
    show Steps p.tables e below (T1.setTop (mkF m 5 #[.val (.long q1), .second, .val (.long q2), .second, .val (.long q3), .second, .val (.long q4), .second, .val (.long q5), .second, .val (.long q6), .second, .unset] [(.long q2), (.ref b1), (.ref b1)])) _
    refine XS.lloadN X1.here hx rfl (hb hby at_5) rfl ?_
    show Steps p.tables e below (T1.setTop (mkF m 6 #[.val (.long q1), .second, .val (.long q2), .second, .val (.long q3), .second, .val (.long q4), .second, .val (.long q5), .second, .val (.long q6), .second, .unset] [(.long q1), (.long q2), (.ref b1), (.ref b1)])) _
    refine XS.lsub X1.here hx rfl (hb hby at_6) rfl ?_
    show Steps p.tables e below (T1.setTop (mkF m 7 #[.val (.long q1), .second, .val (.long q2), .second, .val (.long q3), .second, .val (.long q4), .second, .val (.long q5), .second, .val (.long q6), .second, .unset] [(.long (q2 - q1)), (.ref b1), (.ref b1)])) _
    refine XS.lload X1.here hx rfl (hb hby at_7) rfl ?_
    show Steps p.tables e below (T1.setTop (mkF m 9 #[.val (.long q1), .second, .val (.long q2), .second, .val (.long q3), .second, .val (.long q4), .second, .val (.long q5), .second, .val (.long q6), .second, .unset] [(.long q6), (.long (q2 - q1)), (.ref b1), (.ref b1)])) _
    refine X1.ldc2Long hx hown (mvT hZ (hw _ (List.mem_of_getElem? (i := 3) rfl))) (g := (mkF m 9 #[.val (.long q1), .second, .val (.long q2), .second, .val (.long q3), .second, .val (.long q4), .second, .val (.long q5), .second, .val (.long q6), .second, .unset] [(.long q6), (.long (q2 - q1)), (.ref b1), (.ref b1)])) rfl (hb hby at_9) _ ?_
    show Steps p.tables e below (T1.setTop (mkF m 12 #[.val (.long q1), .second, .val (.long q2), .second, .val (.long q3), .second, .val (.long q4), .second, .val (.long q5), .second, .val (.long q6), .second, .unset] [(.long (-1 : Int64)), (.long q6), (.long (q2 - q1)), (.ref b1), (.ref b1)])) _
    refine XS.lxor X1.here hx rfl (hb hby at_12) rfl ?_
    show Steps p.tables e below (T1.setTop (mkF m 13 #[.val (.long q1), .second, .val (.long q2), .second, .val (.long q3), .second, .val (.long q4), .second, .val (.long q5), .second, .val (.long q6), .second, .unset] [(.long (q6 ^^^ (-1 : Int64))), (.long (q2 - q1)), (.ref b1), (.ref b1)])) _
    refine XS.iconst X1.here hx rfl (hb hby at_13) ?_
    show Steps p.tables e below (T1.setTop (mkF m 14 #[.val (.long q1), .second, .val (.long q2), .second, .val (.long q3), .second, .val (.long q4), .second, .val (.long q5), .second, .val (.long q6), .second, .unset] [(.int (3 : Int32)), (.long (q6 ^^^ (-1 : Int64))), (.long (q2 - q1)), (.ref b1), (.ref b1)])) _
    refine st2.trans ?_
    show Steps p.tables e below (T2.setTop (mkF m 17 #[.val (.long q1), .second, .val (.long q2), .second, .val (.long q3), .second, .val (.long q4), .second, .val (.long q5), .second, .val (.long q6), .second, .unset] [(.ref b1)])) _
    refine XS.astore X2.here hx rfl (hb hby at_17) rfl rfl (l' := #[.val (.long q1), .second, .val (.long q2), .second, .val (.long q3), .second, .val (.long q4), .second, .val (.long q5), .second, .val (.long q6), .second, .val (.ref b1)]) rfl ?_
    show Steps p.tables e below (T2.setTop (mkF m 19 #[.val (.long q1), .second, .val (.long q2), .second, .val (.long q3), .second, .val (.long q4), .second, .val (.long q5), .second, .val (.long q6), .second, .val (.ref b1)] [])) _
    refine XS.aload X2.here hx rfl (hb hby at_19) rfl rfl ?_
    show Steps p.tables e below (T2.setTop (mkF m 21 #[.val (.long q1), .second, .val (.long q2), .second, .val (.long q3), .second, .val (.long q4), .second, .val (.long q5), .second, .val (.long q6), .second, .val (.ref b1)] [(.ref b1)])) _
    refine XS.lloadN X2.here hx rfl (hb hby at_21) rfl ?_
    show Steps p.tables e below (T2.setTop (mkF m 22 #[.val (.long q1), .second, .val (.long q2), .second, .val (.long q3), .second, .val (.long q4), .second, .val (.long q5), .second, .val (.long q6), .second, .val (.ref b1)] [(.long q1), (.ref b1)])) _
    refine XS.lload X2.here hx rfl (hb hby at_22) rfl ?_
    show Steps p.tables e below (T2.setTop (mkF m 24 #[.val (.long q1), .second, .val (.long q2), .second, .val (.long q3), .second, .val (.long q4), .second, .val (.long q5), .second, .val (.long q6), .second, .val (.ref b1)] [(.long q4), (.long q1), (.ref b1)])) _
    refine st22.trans ?_
    show Steps p.tables e below (T22.setTop (mkF m 27 #[.val (.long q1), .second, .val (.long q2), .second, .val (.long q3), .second, .val (.long q4), .second, .val (.long q5), .second, .val (.long q6), .second, .val (.ref b1)] [])) _
    refine XS.aload X22.here hx rfl (hb hby at_27) rfl rfl ?_
    show Steps p.tables e below (T22.setTop (mkF m 29 #[.val (.long q1), .second, .val (.long q2), .second, .val (.long q3), .second, .val (.long q4), .second, .val (.long q5), .second, .val (.long q6), .second, .val (.ref b1)] [(.ref b1)])) _
    refine XS.lloadN X22.here hx rfl (hb hby at_29) rfl ?_
    show Steps p.tables e below (T22.setTop (mkF m 30 #[.val (.long q1), .second, .val (.long q2), .second, .val (.long q3), .second, .val (.long q4), .second, .val (.long q5), .second, .val (.long q6), .second, .val (.ref b1)] [(.long q2), (.ref b1)])) _
    refine XS.lload X22.here hx rfl (hb hby at_30) rfl ?_
    show Steps p.tables e below (T22.setTop (mkF m 32 #[.val (.long q1), .second, .val (.long q2), .second, .val (.long q3), .second, .val (.long q4), .second, .val (.long q5), .second, .val (.long q6), .second, .val (.ref b1)] [(.long q5), (.long q2), (.ref b1)])) _
    refine st37.trans ?_
    show Steps p.tables e below (T37.setTop (mkF m 35 #[.val (.long q1), .second, .val (.long q2), .second, .val (.long q3), .second, .val (.long q4), .second, .val (.long q5), .second, .val (.long q6), .second, .val (.ref b1)] [])) _
    refine XS.aload X37.here hx rfl (hb hby at_35) rfl rfl ?_
    show Steps p.tables e below (T37.setTop (mkF m 37 #[.val (.long q1), .second, .val (.long q2), .second, .val (.long q3), .second, .val (.long q4), .second, .val (.long q5), .second, .val (.long q6), .second, .val (.ref b1)] [(.ref b1)])) _
    refine XS.lload X37.here hx rfl (hb hby at_37) rfl ?_
    show Steps p.tables e below (T37.setTop (mkF m 39 #[.val (.long q1), .second, .val (.long q2), .second, .val (.long q3), .second, .val (.long q4), .second, .val (.long q5), .second, .val (.long q6), .second, .val (.ref b1)] [(.long q3), (.ref b1)])) _
    refine XS.lload X37.here hx rfl (hb hby at_39) rfl ?_
    show Steps p.tables e below (T37.setTop (mkF m 41 #[.val (.long q1), .second, .val (.long q2), .second, .val (.long q3), .second, .val (.long q4), .second, .val (.long q5), .second, .val (.long q6), .second, .val (.ref b1)] [(.long q6), (.long q3), (.ref b1)])) _
    refine st50.trans ?_
    show Steps p.tables e below (T50.setTop (mkF m 44 #[.val (.long q1), .second, .val (.long q2), .second, .val (.long q3), .second, .val (.long q4), .second, .val (.long q5), .second, .val (.long q6), .second, .val (.ref b1)] [])) _
    refine XS.aload X50.here hx rfl (hb hby at_44) rfl rfl ?_
    show Steps p.tables e below (T50.setTop (mkF m 46 #[.val (.long q1), .second, .val (.long q2), .second, .val (.long q3), .second, .val (.long q4), .second, .val (.long q5), .second, .val (.long q6), .second, .val (.ref b1)] [(.ref b1)])) _
    refine XS.iconst X50.here hx rfl (hb hby at_46) ?_
    show Steps p.tables e below (T50.setTop (mkF m 47 #[.val (.long q1), .second, .val (.long q2), .second, .val (.long q3), .second, .val (.long q4), .second, .val (.long q5), .second, .val (.long q6), .second, .val (.ref b1)] [(.int (0 : Int32)), (.ref b1)])) _
    refine st63.trans ?_
    show Steps p.tables e below (T63.setTop (mkF m 50 #[.val (.long q1), .second, .val (.long q2), .second, .val (.long q3), .second, .val (.long q4), .second, .val (.long q5), .second, .val (.long q6), .second, .val (.ref b1)] [(.long q4)])) _
    refine XS.lload X63.here hx rfl (hb hby at_50) rfl ?_
    show Steps p.tables e below (T63.setTop (mkF m 52 #[.val (.long q1), .second, .val (.long q2), .second, .val (.long q3), .second, .val (.long q4), .second, .val (.long q5), .second, .val (.long q6), .second, .val (.ref b1)] [(.long q4), (.long q4)])) _
    refine XS.lcmp X63.here hx rfl (hb hby at_52) rfl ?_
    show Steps p.tables e below (T63.setTop (mkF m 53 #[.val (.long q1), .second, .val (.long q2), .second, .val (.long q3), .second, .val (.long q4), .second, .val (.long q5), .second, .val (.long q6), .second, .val (.ref b1)] [(.int (lcmpW q4 q4))])) _
    refine XS.ifNo X63.here hx rfl (hb hby at_53) rfl ((if0 _ _).trans (teq ((lw_eq _ _).mpr (rfl : q4 = q4))).2) ?_
    show Steps p.tables e below (T63.setTop (mkF m 56 #[.val (.long q1), .second, .val (.long q2), .second, .val (.long q3), .second, .val (.long q4), .second, .val (.long q5), .second, .val (.long q6), .second, .val (.ref b1)] [])) _
    refine XS.aload X63.here hx rfl (hb hby at_56) rfl rfl ?_
    show Steps p.tables e below (T63.setTop (mkF m 58 #[.val (.long q1), .second, .val (.long q2), .second, .val (.long q3), .second, .val (.long q4), .second, .val (.long q5), .second, .val (.long q6), .second, .val (.ref b1)] [(.ref b1)])) _
    refine XS.iconst X63.here hx rfl (hb hby at_58) ?_
    show Steps p.tables e below (T63.setTop (mkF m 59 #[.val (.long q1), .second, .val (.long q2), .second, .val (.long q3), .second, .val (.long q4), .second, .val (.long q5), .second, .val (.long q6), .second, .val (.ref b1)] [(.int (1 : Int32)), (.ref b1)])) _
    refine st67.trans ?_
    show Steps p.tables e below (T67.setTop (mkF m 62 #[.val (.long q1), .second, .val (.long q2), .second, .val (.long q3), .second, .val (.long q4), .second, .val (.long q5), .second, .val (.long q6), .second, .val (.ref b1)] [(.long q5)])) _
    refine XS.lload X67.here hx rfl (hb hby at_62) rfl ?_
    show Steps p.tables e below (T67.setTop (mkF m 64 #[.val (.long q1), .second, .val (.long q2), .second, .val (.long q3), .second, .val (.long q4), .second, .val (.long q5), .second, .val (.long q6), .second, .val (.ref b1)] [(.long q5), (.long q5)])) _
    refine XS.lcmp X67.here hx rfl (hb hby at_64) rfl ?_
    show Steps p.tables e below (T67.setTop (mkF m 65 #[.val (.long q1), .second, .val (.long q2), .second, .val (.long q3), .second, .val (.long q4), .second, .val (.long q5), .second, .val (.long q6), .second, .val (.ref b1)] [(.int (lcmpW q5 q5))])) _
    refine XS.ifNo X67.here hx rfl (hb hby at_65) rfl ((if0 _ _).trans (teq ((lw_eq _ _).mpr (rfl : q5 = q5))).2) ?_
    show Steps p.tables e below (T67.setTop (mkF m 68 #[.val (.long q1), .second, .val (.long q2), .second, .val (.long q3), .second, .val (.long q4), .second, .val (.long q5), .second, .val (.long q6), .second, .val (.ref b1)] [])) _
    refine XS.aload X67.here hx rfl (hb hby at_68) rfl rfl ?_
    show Steps p.tables e below (T67.setTop (mkF m 70 #[.val (.long q1), .second, .val (.long q2), .second, .val (.long q3), .second, .val (.long q4), .second, .val (.long q5), .second, .val (.long q6), .second, .val (.ref b1)] [(.ref b1)])) _
    refine XS.iconst X67.here hx rfl (hb hby at_70) ?_
    show Steps p.tables e below (T67.setTop (mkF m 71 #[.val (.long q1), .second, .val (.long q2), .second, .val (.long q3), .second, .val (.long q4), .second, .val (.long q5), .second, .val (.long q6), .second, .val (.ref b1)] [(.int (2 : Int32)), (.ref b1)])) _
    refine st71.trans ?_
    show Steps p.tables e below (T71.setTop (mkF m 74 #[.val (.long q1), .second, .val (.long q2), .second, .val (.long q3), .second, .val (.long q4), .second, .val (.long q5), .second, .val (.long q6), .second, .val (.ref b1)] [(.long q6)])) _
    refine XS.lload X71.here hx rfl (hb hby at_74) rfl ?_
    show Steps p.tables e below (T71.setTop (mkF m 76 #[.val (.long q1), .second, .val (.long q2), .second, .val (.long q3), .second, .val (.long q4), .second, .val (.long q5), .second, .val (.long q6), .second, .val (.ref b1)] [(.long q6), (.long q6)])) _
    refine XS.lcmp X71.here hx rfl (hb hby at_76) rfl ?_
    show Steps p.tables e below (T71.setTop (mkF m 77 #[.val (.long q1), .second, .val (.long q2), .second, .val (.long q3), .second, .val (.long q4), .second, .val (.long q5), .second, .val (.long q6), .second, .val (.ref b1)] [(.int (lcmpW q6 q6))])) _
    refine XS.ifNo X71.here hx rfl (hb hby at_77) rfl ((if0 _ _).trans (teq ((lw_eq _ _).mpr (rfl : q6 = q6))).2) ?_
    show Steps p.tables e below (T71.setTop (mkF m 80 #[.val (.long q1), .second, .val (.long q2), .second, .val (.long q3), .second, .val (.long q4), .second, .val (.long q5), .second, .val (.long q6), .second, .val (.ref b1)] [])) _
    refine XS.iconst X71.here hx rfl (hb hby at_80) ?_
    show Steps p.tables e below (T71.setTop (mkF m 81 #[.val (.long q1), .second, .val (.long q2), .second, .val (.long q3), .second, .val (.long q4), .second, .val (.long q5), .second, .val (.long q6), .second, .val (.ref b1)] [(.int (1 : Int32))])) _
    refine XS.goto X71.here hx rfl (pc0 := 81) (pc' := 85) rfl (hb hby at_81) (by decide) (by decide) ?_
    show Steps p.tables e below (T71.setTop (mkF m 85 #[.val (.long q1), .second, .val (.long q2), .second, .val (.long q3), .second, .val (.long q4), .second, .val (.long q5), .second, .val (.long q6), .second, .val (.ref b1)] [(.int (1 : Int32))])) _
    exact retN X71 hx (t := .boolean) hret (by simp) (hb hby at_85) hr
  ·
    show Q0 n0 _ T71.heap _
    rw [e73]
    exact ⟨rfl, N71⟩
set_option maxRecDepth 65536 in
set_option maxHeartbeats 40000000 in
theorem comes_1 {Post : Tables → Env → Array Value → State → Outcome → State → Prop} (hpost : ∀ tb e args s v u, (limb_1_1.after args s (.returned v) u = true ∧ limb_1_2.after args s (.returned v) u = true ∧ True) → FrameEnd s (.returned v) u (Jvm.fieldLocs frame_1_writes args s ++ Jvm.arrayLocs frame_1_arrays args s ++ Jvm.staticLocs frame_1_statics s) 16 128 → Post tb e args s (.returned v) u) :
    ArmFor flags0 classFile x code maxLocals ret World_1 tables_1 room_1 Calls_1 rest_1 Pre_1 Post := by
  intro l hfl _ _ p e ha hc hk s m args below hf hA hF happ hP
  obtain ⟨hcalls, hrest, hpre⟩ := hP
  obtain ⟨-, -, -, hnamed, -, -, -, hat⟩ := (Spec.applies_iff hf).mp happ
  obtain ⟨hg, hn⟩ := and_e (Cond.before_iff.mp (show (Jvm.Cond.and given_1 narrow_1).before args s = true from hpre))
  obtain ⟨hcount, hk0⟩ := and_e hg
  obtain ⟨hi0, hk1⟩ := and_e hk0
  obtain ⟨hi1, hk2⟩ := and_e hk1
  obtain ⟨hi2, hk3⟩ := and_e hk2
  obtain ⟨hi3, hk4⟩ := and_e hk3
  obtain ⟨hi4, hk5⟩ := and_e hk4
  have hi5 := hk5
  obtain ⟨w_a0, w_a1, w_a2, w_a3, w_a4, w_a5, rfl⟩ : ∃ w_a0 w_a1 w_a2 w_a3 w_a4 w_a5 : Value, args = #[w_a0, w_a1, w_a2, w_a3, w_a4, w_a5] := by
    have hs : args.size = 6 := by simpa [Cond.value, given_1] using hcount
    obtain ⟨L⟩ := args
    match L, hs with
    | [w_a0, w_a1, w_a2, w_a3, w_a4, w_a5], _ => exact ⟨w_a0, w_a1, w_a2, w_a3, w_a4, w_a5, rfl⟩
  have hw := fun d (hd : d ∈ tables_1) => atoms_spec (ws := Jvm.Cond.code x code maxLocals ret :: tables_1) hat d (List.mem_cons_of_mem _ hd)
  have hfit : Fit s := fun {y c} hc i hi => by
    obtain ⟨ha, rfl⟩ := Array.getElem?_eq_some_iff.mp hc
    have q := List.all_eq_true.mp ((Array.all_eq_true_iff_forall_mem.mp hF) _ (Array.getElem_mem ha)) i (List.mem_range.mpr hi)
    simpa [Array.getElem?_eq_getElem hi] using q
  obtain ⟨i0, ei0⟩ := isL_v hi0
  obtain rfl : w_a0 = (.long i0) := Option.some.inj ei0
  obtain ⟨i1, ei1⟩ := isL_v hi1
  obtain rfl : w_a1 = (.long i1) := Option.some.inj ei1
  obtain ⟨i2, ei2⟩ := isL_v hi2
  obtain rfl : w_a2 = (.long i2) := Option.some.inj ei2
  obtain ⟨i3, ei3⟩ := isL_v hi3
  obtain rfl : w_a3 = (.long i3) := Option.some.inj ei3
  obtain ⟨i4, ei4⟩ := isL_v hi4
  obtain rfl : w_a4 = (.long i4) := Option.some.inj ei4
  obtain ⟨i5, ei5⟩ := isL_v hi5
  obtain rfl : w_a5 = (.long i5) := Option.some.inj ei5
  obtain ⟨n, o, h1, h2, h3, _, L, rfl, ⟨rfl, N⟩, hq⟩ := rm0 l s _ hw tables_1 i0 i1 i2 i3 i4 i5 s.heap s.heap.size (Old.start s) p e ha hc hk s m _ below hf ((Spec.applies_iff_loose hf).mp happ).1 ⟨rfl, State.Warmed39.refl s, rfl⟩ trivial
  refine ⟨n, _, h1, h2, h3, hpost _ _ _ _ _ _ ⟨Cond.after_iff.mpr rfl, Cond.after_iff.mpr (eq_i res_at (Term.int_eval (1)) rfl), trivial⟩ ⟨hq.1, hq.2.1, (hq.2.2.sift fun y hy => Or.inr (N y hy)).mono (by decide) (by decide)⟩⟩
theorem main_1_1 : Claimed_1_1 := comes_1 fun _ _ _ _ _ _ h hF => ⟨h.1, hF⟩
theorem main_1_2 : Claimed_1_2 := comes_1 fun _ _ _ _ _ _ h hF => ⟨h.2.1, hF⟩
end Jvm.Pilot.@@N@@
namespace Jvm.Pilot.@@N@@
open Jvm Jvm.ClassFile Sem Op Lib Jvm.Free Jvm.Stand Jvm.Pilot.@@N@@.Jvm.D
/-! MADE BY PROGRAM (witnessworld.py) out of the Statement's table words and the real class files: 19 classes; the members and pool entries that the words name. The judged class is class 1, her method 1. -/
namespace start1
open Jvm.ClassFile
def u (s : String) : CpInfo := .utf8 (stringToUtf16 s)
/-- a pool by its gaps: so many unusable entries, then the entry; so many at the end -/
def gap : Nat → List CpInfo → List CpInfo
  | 0, r => r
  | n + 1, r => .unusable :: gap n r
def poolList (es : List (Nat × CpInfo)) (last : Nat) : List CpInfo := es.foldr (fun e r => gap e.1 (e.2 :: r)) (gap last [])
def pool (es : List (Nat × CpInfo)) (last : Nat) : Array CpInfo := ⟨poolList es last⟩
def fileOf (pool : Array CpInfo) (this : Nat) (attrs : Array Attribute := #[]) (ms : Array MethodInfo := #[]) (fl : Nat := 33) (sup : Nat := 0) (ifs : Array Nat := #[]) (fds : Array FieldInfo := #[]) : ClassFile where
  minorVersion := 0
  majorVersion := 65
  constantPool := pool
  accessFlags := fl
  thisClass := this
  superClass := sup
  interfaces := ifs
  fields := fds
  methods := ms
  attributes := attrs
def plain (name : String) (sup : Option ClassId) : Class where
  name := name
  kind := .ordinary
  loader := none
  accessFlags := 33
  super := sup
  interfaces := #[]
  cf := none
  fields := #[]
  methods := #[]
  instanceTypes := #[]
  staticTypes := #[]
  resolved := #[]
  callSites := []
  init := .initialized
  statics := none
  mirror := none

def pool0 : Array CpInfo := pool [(5, u "<init>"), (0, u "()V"), (1, .class_ 10), (1, u "java/lang/Object")] 113

def k0c0 : Code := { maxStack := 0, maxLocals := 1, code := object_method_1_code, exceptionTable := #[], attributes := #[] }
def k0m0 : Method := { name := "<init>", desc := "()V", sig := { parameters := [], returnType := none }, accessFlags := 1, code := some k0c0 }
/-- java/lang/Object -/
def k0 : Class := { plain "java/lang/Object" none with
  accessFlags := 33
  interfaces := #[]
  cf := some (fileOf pool0 8 #[] #[{ accessFlags := 1, nameIndex := 5, descriptorIndex := 6, attributes := #[] }] 33 0 #[] #[])
  fields := #[]
  methods := #[k0m0]
  instanceTypes := #[]
  staticTypes := #[]
  resolved := Array.replicate 124 none
  statics := none }

def pool1 : Array CpInfo := pool [(2, .class_ 4), (1, u "java/lang/Object"), (0, u "<init>"), (0, u "()V"), (0, .class_ 8), (0, u "com/example/driftless/driftless/DeleteOperations"), (0, .long 18446744073709551615), (1, .methodref 7 12), (0, .nameAndType 5 13), (0, u "(JJI)V"), (0, .methodref 7 15), (0, .nameAndType 16 17), (0, u "append"), (0, u "(JJ)V"), (0, .methodref 7 19), (0, .nameAndType 20 21), (0, u "targetReplica"), (0, u "(I)J"), (0, .class_ 23), (0, u "com/example/driftless/driftless/DeleteOperationsTargetReplicaPinLaw"), (2, u "law"), (0, u "(JJJJJJ)Z")] 3

def k1m0 : Method := { name := "<init>", desc := "()V", sig := { parameters := [], returnType := none }, accessFlags := 2, code := none }
def k1c1 : Code := { maxStack := 8, maxLocals := 13, code := code, exceptionTable := #[], attributes := #[] }
def k1m1 : Method := { name := "law", desc := "(JJJJJJ)Z", sig := { parameters := [.long, .long, .long, .long, .long, .long], returnType := some .boolean }, accessFlags := 9, code := some k1c1 }
/-- com/example/driftless/driftless/DeleteOperationsTargetReplicaPinLaw -/
def k1 : Class := { plain "com/example/driftless/driftless/DeleteOperationsTargetReplicaPinLaw" (some 0) with
  accessFlags := 49
  interfaces := #[]
  cf := some (fileOf pool1 22 #[] #[{ accessFlags := 2, nameIndex := 5, descriptorIndex := 6, attributes := #[] }, { accessFlags := 9, nameIndex := 26, descriptorIndex := 27, attributes := #[] }] 49 2 #[] #[])
  fields := #[]
  methods := #[k1m0, k1m1]
  instanceTypes := #[]
  staticTypes := #[]
  resolved := Array.replicate 31 none
  statics := none }

def pool2 : Array CpInfo := pool [(8, .class_ 10), (1, u "java/lang/Iterable"), (24, .class_ 36), (0, u "java/lang/Object")] 25

/-- java/lang/Iterable -/
def k2 : Class := { plain "java/lang/Iterable" (some 0) with
  accessFlags := 1537
  interfaces := #[]
  cf := some (fileOf pool2 8 #[] #[] 1537 35 #[] #[])
  fields := #[]
  methods := #[]
  instanceTypes := #[]
  staticTypes := #[]
  resolved := Array.replicate 62 none
  statics := none }

def pool3 : Array CpInfo := pool [(10, .class_ 12), (1, u "java/util/Collection"), (47, .class_ 61), (0, u "java/lang/Object"), (0, .class_ 63), (0, u "java/lang/Iterable")] 51

/-- java/util/Collection -/
def k3 : Class := { plain "java/util/Collection" (some 0) with
  accessFlags := 1537
  interfaces := #[2]
  cf := some (fileOf pool3 10 #[] #[] 1537 60 #[62] #[])
  fields := #[]
  methods := #[]
  instanceTypes := #[]
  staticTypes := #[]
  resolved := Array.replicate 115 none
  statics := none }

def pool4 : Array CpInfo := pool [(1, .methodref 2 3), (0, .class_ 4), (0, .nameAndType 5 6), (0, u "java/lang/Object"), (0, u "<init>"), (0, u "()V"), (1, .class_ 10), (1, u "java/util/AbstractCollection"), (66, .class_ 78), (0, u "java/util/Collection")] 81

def k4c0 : Code := { maxStack := 1, maxLocals := 1, code := jdk_22_method_1_code, exceptionTable := #[], attributes := #[] }
def k4m0 : Method := { name := "<init>", desc := "()V", sig := { parameters := [], returnType := none }, accessFlags := 4, code := some k4c0 }
/-- java/util/AbstractCollection -/
def k4 : Class := { plain "java/util/AbstractCollection" (some 0) with
  accessFlags := 1057
  interfaces := #[3]
  cf := some (fileOf pool4 8 #[] #[{ accessFlags := 4, nameIndex := 5, descriptorIndex := 6, attributes := #[] }] 1057 2 #[77] #[])
  fields := #[]
  methods := #[k4m0]
  instanceTypes := #[]
  staticTypes := #[]
  resolved := Array.replicate 160 none
  statics := none }

def pool5 : Array CpInfo := pool [(8, .class_ 10), (1, u "java/util/SequencedCollection"), (15, .class_ 27), (0, u "java/lang/Object"), (0, .class_ 29), (0, u "java/util/Collection")] 27

/-- java/util/SequencedCollection -/
def k5 : Class := { plain "java/util/SequencedCollection" (some 0) with
  accessFlags := 1537
  interfaces := #[3]
  cf := some (fileOf pool5 8 #[] #[] 1537 26 #[28] #[])
  fields := #[]
  methods := #[]
  instanceTypes := #[]
  staticTypes := #[]
  resolved := Array.replicate 57 none
  statics := none }

def pool6 : Array CpInfo := pool [(8, .class_ 10), (1, u "java/util/List"), (92, .class_ 104), (0, u "java/lang/Object"), (15, .class_ 121), (0, u "java/util/SequencedCollection")] 129

/-- java/util/List -/
def k6 : Class := { plain "java/util/List" (some 0) with
  accessFlags := 1537
  interfaces := #[5]
  cf := some (fileOf pool6 8 #[] #[] 1537 103 #[120] #[])
  fields := #[]
  methods := #[]
  instanceTypes := #[]
  staticTypes := #[]
  resolved := Array.replicate 251 none
  statics := none }

def pool7 : Array CpInfo := pool [(1, .methodref 2 3), (0, .class_ 4), (0, .nameAndType 5 6), (0, u "java/util/AbstractCollection"), (0, u "<init>"), (0, u "()V"), (0, .fieldref 8 9), (0, .class_ 10), (0, .nameAndType 11 12), (0, u "java/util/AbstractList"), (0, u "modCount"), (0, u "I"), (64, .class_ 78), (0, u "java/util/AbstractList$Itr"), (3, .class_ 83), (0, u "java/util/AbstractList$ListItr"), (9, .class_ 94), (0, u "java/util/AbstractList$RandomAccessSubList"), (3, .class_ 99), (0, u "java/util/AbstractList$SubList"), (33, .class_ 134), (0, u "java/util/List"), (73, .class_ 209), (0, u "java/util/AbstractList$SubList$1"), (0, .class_ 211), (0, u "java/util/AbstractList$RandomAccessSpliterator")] 6

def k7c0 : Code := { maxStack := 2, maxLocals := 1, code := jdk_39_method_1_code, exceptionTable := #[], attributes := #[] }
def k7m0 : Method := { name := "<init>", desc := "()V", sig := { parameters := [], returnType := none }, accessFlags := 4, code := some k7c0 }
/-- java/util/AbstractList -/
def k7 : Class := { plain "java/util/AbstractList" (some 4) with
  accessFlags := 1057
  interfaces := #[6]
  cf := some (fileOf pool7 8 #[.nestMembers #[93, 98, 208, 210, 82, 77]] #[{ accessFlags := 4, nameIndex := 5, descriptorIndex := 6, attributes := #[] }] 1057 2 #[133] #[{ accessFlags := 132, nameIndex := 11, descriptorIndex := 12, attributes := #[] }])
  fields := #[{ name := "modCount", type := .int, accessFlags := 132, slot := 0, constantValue := 0 }]
  methods := #[k7m0]
  instanceTypes := #[.int]
  staticTypes := #[]
  resolved := Array.replicate 218 none
  statics := none }

def pool8 : Array CpInfo := pool [(1, .class_ 2), (0, u "java/util/RandomAccess"), (0, .class_ 4), (0, u "java/lang/Object")] 2

/-- java/util/RandomAccess -/
def k8 : Class := { plain "java/util/RandomAccess" (some 0) with
  accessFlags := 1537
  interfaces := #[]
  cf := some (fileOf pool8 1 #[] #[] 1537 3 #[] #[])
  fields := #[]
  methods := #[]
  instanceTypes := #[]
  staticTypes := #[]
  resolved := Array.replicate 7 none
  statics := none }

def pool9 : Array CpInfo := pool [(1, .class_ 2), (0, u "com/example/driftless/driftless/DeleteOperations"), (0, .methodref 4 5), (0, .class_ 6), (0, .nameAndType 7 8), (0, u "java/util/AbstractList"), (0, u "<init>"), (0, u "()V"), (0, .fieldref 1 10), (0, .nameAndType 11 12), (0, u "firstCounter"), (0, u "J"), (0, .fieldref 1 14), (0, .nameAndType 15 12), (0, u "replica"), (0, .class_ 17), (0, u "[J"), (0, .fieldref 1 19), (0, .nameAndType 20 21), (0, u "targets"), (0, u "[[J"), (0, .methodref 23 24), (0, .class_ 25), (0, .nameAndType 26 27), (0, u "java/lang/Math"), (0, u "min"), (0, u "(II)I"), (0, .fieldref 1 29), (0, .nameAndType 30 31), (0, u "size"), (0, u "I"), (11, u "(JJ)V"), (3, u "(I)J"), (2, u "targetReplica"), (7, .class_ 59), (0, u "java/util/RandomAccess"), (0, u "CHUNK_BITS"), (2, u "CHUNK"), (1, u "(JJI)V"), (3, u "append")] 12

def k9c0 : Code := { maxStack := 7, maxLocals := 8, code := prog_7_method_1_code, exceptionTable := #[], attributes := #[] }
def k9m0 : Method := { name := "<init>", desc := "(JJI)V", sig := { parameters := [.long, .long, .int], returnType := none }, accessFlags := 0, code := some k9c0 }
def k9c1 : Code := { maxStack := 4, maxLocals := 7, code := prog_7_method_2_code, exceptionTable := #[], attributes := #[] }
def k9m1 : Method := { name := "append", desc := "(JJ)V", sig := { parameters := [.long, .long], returnType := none }, accessFlags := 0, code := some k9c1 }
def k9c2 : Code := { maxStack := 4, maxLocals := 2, code := prog_7_method_7_code, exceptionTable := #[], attributes := #[] }
def k9m2 : Method := { name := "targetReplica", desc := "(I)J", sig := { parameters := [.int], returnType := some .long }, accessFlags := 0, code := some k9c2 }
/-- com/example/driftless/driftless/DeleteOperations -/
def k9 : Class := { plain "com/example/driftless/driftless/DeleteOperations" (some 7) with
  accessFlags := 48
  interfaces := #[8]
  cf := some (fileOf pool9 1 #[] #[{ accessFlags := 0, nameIndex := 7, descriptorIndex := 65, attributes := #[] }, { accessFlags := 0, nameIndex := 69, descriptorIndex := 43, attributes := #[] }, { accessFlags := 0, nameIndex := 50, descriptorIndex := 47, attributes := #[] }] 48 4 #[58] #[{ accessFlags := 26, nameIndex := 60, descriptorIndex := 31, attributes := #[] }, { accessFlags := 26, nameIndex := 63, descriptorIndex := 31, attributes := #[] }, { accessFlags := 18, nameIndex := 11, descriptorIndex := 12, attributes := #[] }, { accessFlags := 18, nameIndex := 15, descriptorIndex := 12, attributes := #[] }, { accessFlags := 18, nameIndex := 20, descriptorIndex := 21, attributes := #[] }, { accessFlags := 2, nameIndex := 30, descriptorIndex := 31, attributes := #[] }])
  fields := #[{ name := "CHUNK_BITS", type := .int, accessFlags := 26, slot := 0, constantValue := 0 }, { name := "CHUNK", type := .int, accessFlags := 26, slot := 1, constantValue := 0 }, { name := "firstCounter", type := .long, accessFlags := 18, slot := 1, constantValue := 0 }, { name := "replica", type := .long, accessFlags := 18, slot := 2, constantValue := 0 }, { name := "targets", type := (.array (.array .long)), accessFlags := 18, slot := 3, constantValue := 0 }, { name := "size", type := .int, accessFlags := 2, slot := 4, constantValue := 0 }]
  methods := #[k9m0, k9m1, k9m2]
  instanceTypes := #[.int, .long, .long, (.array (.array .long)), .int]
  staticTypes := #[.int, .int]
  resolved := Array.replicate 82 none
  statics := none }

def pool10 : Array CpInfo := pool [(1, .class_ 2), (0, u "java/lang/Math"), (1, .class_ 6), (1, u "java/lang/Object"), (0, u "<init>"), (0, u "()V"), (89, .class_ 100), (1, u "java/lang/Math$RandomNumberGeneratorHolder"), (71, u "negativeZeroFloatBits"), (0, u "J"), (2, u "negativeZeroDoubleBits"), (24, u "min"), (43, u "$assertionsDisabled"), (0, u "Z"), (88, u "(II)I"), (2, u "twoToTheDoubleScaleDown"), (0, u "D"), (4, u "twoToTheDoubleScaleUp"), (9, u "E"), (3, u "PI"), (2, u "TAU"), (2, u "DEGREES_TO_RADIANS"), (0, u "RADIANS_TO_DEGREES")] 94

def k10m0 : Method := { name := "<init>", desc := "()V", sig := { parameters := [], returnType := none }, accessFlags := 2, code := none }
def k10c1 : Code := { maxStack := 2, maxLocals := 2, code := jdk_29_method_69_code, exceptionTable := #[], attributes := #[] }
def k10m1 : Method := { name := "min", desc := "(II)I", sig := { parameters := [.int, .int], returnType := some .int }, accessFlags := 9, code := some k10c1 }
/-- java/lang/Math -/
def k10 : Class := { plain "java/lang/Math" (some 0) with
  accessFlags := 49
  interfaces := #[]
  cf := some (fileOf pool10 1 #[.nestMembers #[98]] #[{ accessFlags := 2, nameIndex := 7, descriptorIndex := 8, attributes := #[] }, { accessFlags := 9, nameIndex := 201, descriptorIndex := 335, attributes := #[] }] 49 4 #[] #[{ accessFlags := 25, nameIndex := 354, descriptorIndex := 339, attributes := #[] }, { accessFlags := 25, nameIndex := 358, descriptorIndex := 339, attributes := #[] }, { accessFlags := 25, nameIndex := 361, descriptorIndex := 339, attributes := #[] }, { accessFlags := 26, nameIndex := 364, descriptorIndex := 339, attributes := #[] }, { accessFlags := 26, nameIndex := 365, descriptorIndex := 339, attributes := #[] }, { accessFlags := 26, nameIndex := 172, descriptorIndex := 173, attributes := #[] }, { accessFlags := 26, nameIndex := 176, descriptorIndex := 173, attributes := #[] }, { accessFlags := 8, nameIndex := 344, descriptorIndex := 339, attributes := #[] }, { accessFlags := 8, nameIndex := 338, descriptorIndex := 339, attributes := #[] }, { accessFlags := 4120, nameIndex := 245, descriptorIndex := 246, attributes := #[] }])
  fields := #[{ name := "E", type := .double, accessFlags := 25, slot := 0, constantValue := 0 }, { name := "PI", type := .double, accessFlags := 25, slot := 1, constantValue := 0 }, { name := "TAU", type := .double, accessFlags := 25, slot := 2, constantValue := 0 }, { name := "DEGREES_TO_RADIANS", type := .double, accessFlags := 26, slot := 3, constantValue := 0 }, { name := "RADIANS_TO_DEGREES", type := .double, accessFlags := 26, slot := 4, constantValue := 0 }, { name := "negativeZeroFloatBits", type := .long, accessFlags := 26, slot := 5, constantValue := 0 }, { name := "negativeZeroDoubleBits", type := .long, accessFlags := 26, slot := 6, constantValue := 0 }, { name := "twoToTheDoubleScaleUp", type := .double, accessFlags := 8, slot := 7, constantValue := 0 }, { name := "twoToTheDoubleScaleDown", type := .double, accessFlags := 8, slot := 8, constantValue := 0 }, { name := "$assertionsDisabled", type := .boolean, accessFlags := 4120, slot := 9, constantValue := 0 }]
  methods := #[k10m0, k10m1]
  instanceTypes := #[]
  staticTypes := #[.double, .double, .double, .double, .double, .long, .long, .double, .double, .boolean]
  resolved := Array.replicate 460 none
  statics := none }

def pool11 : Array CpInfo := pool [(1, u "java/lang/Cloneable"), (0, .class_ 1), (0, u "java/lang/Object"), (0, .class_ 3)] 3

/-- java/lang/Cloneable -/
def k11 : Class := { plain "java/lang/Cloneable" (some 0) with
  accessFlags := 1537
  interfaces := #[]
  cf := some (fileOf pool11 2 #[] #[] 1537 4 #[] #[])
  fields := #[]
  methods := #[]
  instanceTypes := #[]
  staticTypes := #[]
  resolved := Array.replicate 8 none
  statics := none }

def pool12 : Array CpInfo := pool [(1, u "java/io/Serializable"), (0, .class_ 1), (0, u "java/lang/Object"), (0, .class_ 3)] 3

/-- java/io/Serializable -/
def k12 : Class := { plain "java/io/Serializable" (some 0) with
  accessFlags := 1537
  interfaces := #[]
  cf := some (fileOf pool12 2 #[] #[] 1537 4 #[] #[])
  fields := #[]
  methods := #[]
  instanceTypes := #[]
  staticTypes := #[]
  resolved := Array.replicate 8 none
  statics := none }

/-- the primitive byte -/
def k13 : Class := { plain "byte" none with kind := .primitive 'B', accessFlags := 0x411 }
/-- [B -/
def k14 : Class := { plain "[B" (some 0) with kind := .array 13 .byte, interfaces := #[11, 12], accessFlags := 1041 }

/-- the primitive int -/
def k15 : Class := { plain "int" none with kind := .primitive 'I', accessFlags := 0x411 }
/-- [I -/
def k16 : Class := { plain "[I" (some 0) with kind := .array 15 .int, interfaces := #[11, 12], accessFlags := 1041 }

/-- the primitive long -/
def k17 : Class := { plain "long" none with kind := .primitive 'J', accessFlags := 0x411 }
/-- [J -/
def k18 : Class := { plain "[J" (some 0) with kind := .array 17 .long, interfaces := #[11, 12], accessFlags := 1041 }

/-- [[J -/
def k19 : Class := { plain "[[J" (some 0) with kind := .array 18 (.array .long), interfaces := #[11, 12], accessFlags := 1041 }

def heap : Heap := #[]
def classes : Array Class := #[k0, k1, k2, k3, k4, k5, k6, k7, k8, k9, k10, k11, k12, k13, k14, k15, k16, k17, k18, k19]
def interned : List (Array UInt16 × Addr) := []
def slotsUsed : Nat := 0
def theMethod : MethodId := ⟨1, 1⟩
def args0 : Array Value := #[.long 5, .long 5, .long 5, .long 5, .long 5, .long 5]
def aboutOver (below : List Frame) : State where
  vm := { classes := classes, interned := interned.toArray }
  heap := heap
  slotsUsed := slotsUsed
  threads := #[{ frames := .invoking theMethod args0 :: below }]
def below0 : List Frame := [.native { method := ⟨0, 0⟩, args := #[] }]
def about1 : State := aboutOver below0
def p0 : Program := .bare "" "" ""
def e0 : Env := launch0.env 0 0 0
theorem w_frames : about1.frames = Frame.invoking theMethod args0 :: below0 := rfl
set_option maxRecDepth 65536 in
theorem w_args : argsFit about1.vm theMethod args0 = true := by decide +kernel
set_option maxRecDepth 65536 in
theorem w_heap : heapFits about1 = true := by decide +kernel
set_option maxRecDepth 65536 in
theorem w_runnable : about1.curStatus? = some .runnable := by decide +kernel
set_option maxRecDepth 65536 in
theorem w_alone : about1.alone = true := by decide +kernel
set_option maxRecDepth 65536 in
theorem w_named : about1.methodNamed? x = some theMethod := by decide +kernel
set_option maxRecDepth 65536 in
theorem w_hears : about1.hears theMethod below0 = true := by decide +kernel
set_option maxRecDepth 65536 in
theorem w_ripe : about1.ripe theMethod args0 below0 = true := by decide +kernel
theorem w_running : about1.status = .running := rfl
set_option maxRecDepth 65536 in
theorem w_room : about1.hasRoom e0.platform room_1 = true :=
  launch0.hasRoom_least _ room_1 (by decide +kernel) (by decide +kernel) (by decide +kernel) (by decide +kernel) (by decide +kernel) (by decide +kernel)
theorem allAtoms_all (ts : List Jvm.Cond) (a : Array Jvm.Value) (st : Jvm.State) : (allAtoms ts).before a st = ts.all (fun c => c.before a st) := by
  induction ts with
  | nil => rfl
  | cons c t ih =>
    show (Jvm.Cond.and c (allAtoms t)).before a st = _
    rw [Jvm.Cond.before_and, ih, List.all_cons]
def words1 : List Jvm.Cond := Jvm.Cond.code x code maxLocals ret :: tables_1
/-- a 'code' word, met by the world's own term for the bytes: nothing is compared byte by byte -/
theorem code_word {y : MethodName} {bytes : ByteArray} {mx : Nat} {rt : Option FieldType} {a : Array Value} {s : State} {m : MethodId} {meth : Method} {c : Code} (h1 : s.methodNamed? y = some m) (h2 : s.vm.method? m = some meth) (h3 : meth.code = some c) (h4 : c.code = bytes)
    (h5 : (c.maxLocals == mx && c.exceptionTable.isEmpty && decide (c.maxStack ≤ mostOperands) && decide (meth.sig.returnType = rt) && !meth.locks && decide (parseMethodDescriptor y.desc = some meth.sig)) = true) : (Jvm.Cond.code y bytes mx rt).before a s = true := by
  simp only [Bool.and_eq_true, beq_iff_eq, Bool.not_eq_true', decide_eq_true_eq] at h5
  obtain ⟨⟨⟨⟨⟨g1, g2⟩, g3⟩, g4⟩, g5⟩, g6⟩ := h5
  simp [Cond.before, Cond.holds, Cond.value, h1, h2, h3, h4, g1, g2, g3, g4, g5, g6]
def isCode : Jvm.Cond → Bool
  | .code _ _ _ _ => true
  | _ => false
theorem all_split {L : List Jvm.Cond} {P : Jvm.Cond → Bool} (h1 : L.all (fun c => isCode c || P c) = true) (h2 : ∀ c ∈ L.filter isCode, P c = true) : L.all P = true := by
  refine List.all_eq_true.mpr fun c hc => ?_
  have h := List.all_eq_true.mp h1 c hc
  rcases Bool.eq_false_or_eq_true (isCode c) with hi | hi
  · exact h2 c (List.mem_filter.mpr ⟨hc, hi⟩)
  · simpa [hi] using h
set_option maxRecDepth 65536 in
theorem w_c0 : (Jvm.Cond.code x code maxLocals ret).before args0 about1 = true := code_word (m := ⟨1, 1⟩) (meth := k1m1) (c := k1c1) (by decide +kernel) rfl rfl rfl (by decide +kernel)
set_option maxRecDepth 65536 in
theorem w_c1 : (Jvm.Cond.code ({ cls := "com/example/driftless/driftless/DeleteOperations", name := "<init>", desc := "(JJI)V" } : Jvm.MethodName) prog_7_method_1_code (8 : Nat) (Option.none : Option Jvm.ClassFile.FieldType)).before args0 about1 = true := code_word (m := ⟨9, 0⟩) (meth := k9m0) (c := k9c0) (by decide +kernel) rfl rfl rfl (by decide +kernel)
set_option maxRecDepth 65536 in
theorem w_c2 : (Jvm.Cond.code ({ cls := "java/util/AbstractList", name := "<init>", desc := "()V" } : Jvm.MethodName) jdk_39_method_1_code (1 : Nat) (Option.none : Option Jvm.ClassFile.FieldType)).before args0 about1 = true := code_word (m := ⟨7, 0⟩) (meth := k7m0) (c := k7c0) (by decide +kernel) rfl rfl rfl (by decide +kernel)
set_option maxRecDepth 65536 in
theorem w_c3 : (Jvm.Cond.code ({ cls := "java/util/AbstractCollection", name := "<init>", desc := "()V" } : Jvm.MethodName) jdk_22_method_1_code (1 : Nat) (Option.none : Option Jvm.ClassFile.FieldType)).before args0 about1 = true := code_word (m := ⟨4, 0⟩) (meth := k4m0) (c := k4c0) (by decide +kernel) rfl rfl rfl (by decide +kernel)
set_option maxRecDepth 65536 in
theorem w_c4 : (Jvm.Cond.code ({ cls := "java/lang/Object", name := "<init>", desc := "()V" } : Jvm.MethodName) object_method_1_code (1 : Nat) (Option.none : Option Jvm.ClassFile.FieldType)).before args0 about1 = true := code_word (m := ⟨0, 0⟩) (meth := k0m0) (c := k0c0) (by decide +kernel) rfl rfl rfl (by decide +kernel)
set_option maxRecDepth 65536 in
theorem w_c5 : (Jvm.Cond.code ({ cls := "java/lang/Math", name := "min", desc := "(II)I" } : Jvm.MethodName) jdk_29_method_69_code (2 : Nat) (Option.some Jvm.ClassFile.FieldType.int)).before args0 about1 = true := code_word (m := ⟨10, 1⟩) (meth := k10m1) (c := k10c1) (by decide +kernel) rfl rfl rfl (by decide +kernel)
set_option maxRecDepth 65536 in
theorem w_c6 : (Jvm.Cond.code ({ cls := "com/example/driftless/driftless/DeleteOperations", name := "append", desc := "(JJ)V" } : Jvm.MethodName) prog_7_method_2_code (7 : Nat) (Option.none : Option Jvm.ClassFile.FieldType)).before args0 about1 = true := code_word (m := ⟨9, 1⟩) (meth := k9m1) (c := k9c1) (by decide +kernel) rfl rfl rfl (by decide +kernel)
set_option maxRecDepth 65536 in
theorem w_c7 : (Jvm.Cond.code ({ cls := "com/example/driftless/driftless/DeleteOperations", name := "targetReplica", desc := "(I)J" } : Jvm.MethodName) prog_7_method_7_code (2 : Nat) (Option.some Jvm.ClassFile.FieldType.long)).before args0 about1 = true := code_word (m := ⟨9, 2⟩) (meth := k9m2) (c := k9c2) (by decide +kernel) rfl rfl rfl (by decide +kernel)
def codes1 : List Jvm.Cond := [Jvm.Cond.code x code maxLocals ret, Jvm.Cond.code ({ cls := "com/example/driftless/driftless/DeleteOperations", name := "<init>", desc := "(JJI)V" } : Jvm.MethodName) prog_7_method_1_code (8 : Nat) (Option.none : Option Jvm.ClassFile.FieldType), Jvm.Cond.code ({ cls := "java/util/AbstractList", name := "<init>", desc := "()V" } : Jvm.MethodName) jdk_39_method_1_code (1 : Nat) (Option.none : Option Jvm.ClassFile.FieldType), Jvm.Cond.code ({ cls := "java/util/AbstractCollection", name := "<init>", desc := "()V" } : Jvm.MethodName) jdk_22_method_1_code (1 : Nat) (Option.none : Option Jvm.ClassFile.FieldType), Jvm.Cond.code ({ cls := "java/lang/Object", name := "<init>", desc := "()V" } : Jvm.MethodName) object_method_1_code (1 : Nat) (Option.none : Option Jvm.ClassFile.FieldType), Jvm.Cond.code ({ cls := "java/lang/Math", name := "min", desc := "(II)I" } : Jvm.MethodName) jdk_29_method_69_code (2 : Nat) (Option.some Jvm.ClassFile.FieldType.int), Jvm.Cond.code ({ cls := "com/example/driftless/driftless/DeleteOperations", name := "append", desc := "(JJ)V" } : Jvm.MethodName) prog_7_method_2_code (7 : Nat) (Option.none : Option Jvm.ClassFile.FieldType), Jvm.Cond.code ({ cls := "com/example/driftless/driftless/DeleteOperations", name := "targetReplica", desc := "(I)J" } : Jvm.MethodName) prog_7_method_7_code (2 : Nat) (Option.some Jvm.ClassFile.FieldType.long)]
set_option maxRecDepth 65536 in
theorem codes_eq : words1.filter isCode = codes1 := rfl
theorem w_codes : ∀ c ∈ words1.filter isCode, c.before args0 about1 = true := by
  rw [codes_eq]
  intro c hc
  simp only [codes1, List.mem_cons, List.not_mem_nil, or_false] at hc
  rcases hc with rfl | rfl | rfl | rfl | rfl | rfl | rfl | rfl
  · exact w_c0
  · exact w_c1
  · exact w_c2
  · exact w_c3
  · exact w_c4
  · exact w_c5
  · exact w_c6
  · exact w_c7
set_option maxRecDepth 65536 in
theorem w_t1 : (words1.take 24).all (fun c => isCode c || c.before args0 about1) = true := by decide +kernel
set_option maxRecDepth 65536 in
theorem w_t2 : ((words1.drop 24).take 24).all (fun c => isCode c || c.before args0 about1) = true := by decide +kernel
set_option maxRecDepth 65536 in
theorem w_t3 : ((words1.drop 24).drop 24).all (fun c => isCode c || c.before args0 about1) = true := by decide +kernel
theorem w_tables : (allAtoms (Jvm.Cond.code x code maxLocals ret :: tables_1)).before args0 about1 = true := by
  rw [allAtoms_all]
  show words1.all (fun c => c.before args0 about1) = true
  refine all_split ?_ w_codes
  rw [← List.take_append_drop 24 words1, List.all_append, w_t1, ← List.take_append_drop 24 (words1.drop 24), List.all_append, w_t2, w_t3]
  rfl
set_option maxRecDepth 65536 in
theorem w_case : (Jvm.Cond.and given_1 narrow_1).before args0 about1 = true := by decide +kernel
theorem w_applies : (headSpec (Jvm.Cond.code x code maxLocals ret :: tables_1) room_1).applies x e0.platform about1 = true :=
  (Spec.applies_iff w_frames).mpr ⟨w_running, w_runnable, w_alone, w_named, w_hears, w_ripe, w_room, w_tables⟩
theorem atStart : AtStart classFile x code maxLocals ret World_1 tables_1 room_1 Calls_1 rest_1 Pre_1 launch0 p0 e0 about1 theMethod args0 below0 :=
  ⟨lists_1, trivial, launch0.admits_env _ _ _, launch0.least_env, fairChoices_fair.cas, fairChoices_fair.clock, w_frames, w_args, w_heap, w_applies, trivial, trivial, w_case⟩
end start1
theorem witness_1 : WitnessClaimed_1 := ⟨start1.p0, start1.e0, start1.about1, start1.theMethod, start1.args0, start1.below0, start1.atStart⟩
end Jvm.Pilot.@@N@@
