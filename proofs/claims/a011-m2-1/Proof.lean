import JvmDerived
import JvmDerived.Pilot.@@N@@Statement
import JvmDerived.Pilot.@@N@@Code
set_option linter.unusedVariables false
set_option linter.unusedSimpArgs false
namespace Jvm.RoadKit
open Sem ClassFile Op Lib Jvm.Stand Jvm.Free Jvm.LawKit
section New
variable {p : Program} {l : Launch} {e : Env} {R : Room} {s : State} {m : MethodId} {args : Array Value} {below : List Frame} {meth : Method} {c : Code} {T : State} {locs : List Loc} {cells slots : Nat}
theorem retI (X : Stand p l e R s m args below meth c T locs cells slots) (hx : p.tables.exec = Jvm.exec) {pc : Nat} {Ls : Array Slot} {z : Int32} {rest : List Value} (hret : meth.sig.returnType = some .int) (hd : decode c.code pc = .ok (.ireturn, 1)) {fs : List Frame}
    (hl : ∀ (f : JFrame) (acts : List Action), f.method = m → f.locked = none → f.entered = [] → (doReturn e (T.setTop f) acts (some (.int z))).1 = T.setFrames fs) : Steps p.tables e below (T.setTop (mkF m pc Ls (.int z :: rest))) (T.setFrames fs) := by
  have hm' : T.vm.method? m = some meth := X.method'
  have hn : narrow .int (.int z) = .int z := rfl
  show Steps p.tables e below (T.setTop { method := m, pc := pc, locals := Ls, stack := _ :: rest, locked := none }) _
  jvm_step X.here [X.here.top, hx, hd, hm', hret, hn]
  first | (intro acts; rw [hl _ acts rfl rfl rfl]) | rw [hl _ _ rfl rfl rfl]
  exact Steps.refl _
end New
end Jvm.RoadKit
namespace Jvm.Pilot.@@N@@
open Jvm Jvm.ClassFile Sem Op Lib Jvm.Free Jvm.Stand Jvm.LawKit Jvm.RoadKit Bundle Jvm.Pilot.@@N@@.Jvm.D
theorem own_w {a0 : Array Value} {Z : State} (hw : ∀ d ∈ tables_1, d.before a0 Z = true) {d : Jvm.Cond} (i : Nat) (h : tables_1[i]? = some d) : d.before a0 Z = true := hw d (List.mem_of_getElem? h)
theorem own_oz {Z : State} {n0 : Nat} {h : Heap} (O : Old Z n0 h) : n0 ≤ h.size := by
  rw [← O.1]; exact O.2.1
theorem own_lsw {tb : Tables} [Ours tb] {e : Env} {below : List Frame} {T target : State} {m : MethodId} {c : Code} {g : JFrame} (h : At T m c below) (hx : tb.exec = Jvm.exec) (hg : g.method = m) {dflt : Int} {prs : Array (Int × Int)} {len : Nat} {o : Int} {pc0 pc' : Nat} (hpc : g.pc = pc0) (hd : decode c.code g.pc = .ok (.lookupswitch dflt prs, len)) {i : Int32} {rest : List Value} (hs : g.stack = .int i :: rest)
    (hsort : (prs.toList.zip (prs.toList.drop 1)).all (fun (a, next) => a.1 < next.1) = true) (hoff : lookupswitch.offset prs.toList dflt i.toInt = o) (ho : 0 ≤ (pc0 : Int) + o) (hp : ((pc0 : Int) + o).toNat = pc')
    (hr : Steps tb e below (T.setTop { g with pc := pc', stack := rest }) target) : Steps tb e below (T.setTop g) target := by
  subst hg hpc hp
  jvm_step h [h.top, hx, hd, hs, hoff, ho, lookupswitch.wp_chain]
  exact ⟨by simpa using hsort, hr⟩
section Nums
variable {x k : Int32} {n : Int}
theorem own_lt1 (hk : k.toInt = n) (h : x < k) : x.toInt < n := by rw [← hk]; exact Int32.lt_iff_toInt_lt.mp h
theorem own_lt2 (hk : k.toInt = n) (h : k < x) : n < x.toInt := by rw [← hk]; exact Int32.lt_iff_toInt_lt.mp h
theorem own_nlt1 (hk : k.toInt = n) (h : ¬ x < k) : n ≤ x.toInt := by rw [Int32.lt_iff_toInt_lt, hk] at h; omega
theorem own_nlt2 (hk : k.toInt = n) (h : ¬ k < x) : x.toInt ≤ n := by rw [Int32.lt_iff_toInt_lt, hk] at h; omega
theorem own_eq (hk : k.toInt = n) (h : x = k) : x.toInt = n := by rw [← hk, h]
theorem own_neq (hk : k.toInt = n) (h : ¬ x = k) : x.toInt ≠ n := fun q => h (Int32.toInt_inj.mp (by rw [hk, q]))
theorem own_glt1 (hk : k.toInt = n) (h : x.toInt < n) : x < k := Int32.lt_iff_toInt_lt.mpr (by rw [hk]; exact h)
theorem own_glt2 (hk : k.toInt = n) (h : n < x.toInt) : k < x := Int32.lt_iff_toInt_lt.mpr (by rw [hk]; exact h)
theorem own_gnlt1 (hk : k.toInt = n) (h : n ≤ x.toInt) : ¬ x < k := fun q => by have := own_lt1 hk q; omega
theorem own_gnlt2 (hk : k.toInt = n) (h : x.toInt ≤ n) : ¬ k < x := fun q => by have := own_lt2 hk q; omega
theorem own_geq (hk : k.toInt = n) (h : x.toInt = n) : x = k := Int32.toInt_inj.mp (by rw [hk, h])
theorem own_gneq (hk : k.toInt = n) (h : x.toInt ≠ n) : ¬ x = k := fun q => h (own_eq hk q)
theorem own_and (hk : k.toInt = n) (h0 : 0 ≤ n) : 0 ≤ (x &&& k).toInt ∧ (x &&& k).toInt ≤ n := by have := c_and x k (by rw [hk]; exact h0); rw [hk] at this; exact this
theorem own_and2 (hk : k.toInt = n) (h0 : 0 ≤ n) : 0 ≤ (k &&& x).toInt ∧ (k &&& x).toInt ≤ n := by have := c_and' k x (by rw [hk]; exact h0); rw [hk] at this; exact this
theorem own_rem (hk : k.toInt = n) (h0 : 0 < n) (hx : 0 ≤ x.toInt) : 0 ≤ (x % k).toInt ∧ (x % k).toInt < n ∧ (x % k).toInt ≤ x.toInt := by
  have := (c_iremV x k).1 hx (by rw [hk]; exact h0); rw [hk] at this; exact ⟨this.1, this.2.1, this.2.2.1⟩
theorem own_add {lo hi : Int} (hk : k.toInt = n) (hx : lo ≤ x.toInt ∧ x.toInt ≤ hi) (h1 : -2147483648 ≤ lo + n) (h2 : hi + n < 2147483648) : lo + n ≤ (x + k).toInt ∧ (x + k).toInt ≤ hi + n := by
  have := c_iadd x k; have := rng32 (x + k); rw [hk] at *; omega
theorem own_add2 {lo hi : Int} (hk : k.toInt = n) (hx : lo ≤ x.toInt ∧ x.toInt ≤ hi) (h1 : -2147483648 ≤ lo + n) (h2 : hi + n < 2147483648) : lo + n ≤ (k + x).toInt ∧ (k + x).toInt ≤ hi + n := by
  have := c_iadd k x; have := rng32 (k + x); rw [hk] at *; omega
end Nums
theorem own_len {Z : State} {args : Array Value} {t : Term} {a : Addr} {c : Cell} {ty : FieldType} {n : Int32} (A : Arr Z Z.heap a c ty) (ev : t.eval args Z none [] Z = some (.ref a)) (h : (Term.length t).eval args Z none [] Z = some (.int n)) : c.slots.size < 2 ^ 31 ∧ c.slots.size.toInt32 = n := by
  have q := A.fin (Vm.Alike.refl _)
  by_cases z : c.slots.size < 2 ^ 31
  · rw [len_f ev q z] at h; exact ⟨z, Value.int.inj (Option.some.inj h)⟩
  · simp [Term.eval, ev, q, z] at h
theorem own_selp {s : State} {args : Array Value} {y z : MethodName} {C : String} (w : (Cond.selects C z z).before args s = true) (hc : z.cls = y.cls) (hp : s.PrivateAt y) (hi : (Cond.instanceMethod y).before args s = true) (hy : y.cls ≠ "java/lang/invoke/MethodHandle" ∧ y.cls ≠ "java/lang/invoke/VarHandle") : (Cond.selects y.cls y y).before args s = true := by
  obtain ⟨c2, r2, m2, -, -, q3, -, kP, hkP, hkPi⟩ := Cond.selects_spec w
  exact selects_self_of_private (by rw [← hc]; exact findClass_of_methodNamed q3) hkP hkPi hp hi hy
theorem own_max64 (x : Int64) : ¬ (9223372036854775807 : Int64) < x := fun h => by have := rng64 x; rw [Int64.lt_iff_toInt_lt, show (9223372036854775807 : Int64).toInt = 9223372036854775807 by decide] at h; omega
theorem own_min64 (x : Int64) : ¬ x < (-9223372036854775808 : Int64) := fun h => by have := rng64 x; rw [Int64.lt_iff_toInt_lt, show (-9223372036854775808 : Int64).toInt = -9223372036854775808 by decide] at h; omega
theorem own_root {Z : State} {a0 : Array Value} {O K : String} {n : Nat} (w : (Cond.noSuperclass O).before a0 Z = true) (wk : (Cond.instantiable K n).before a0 Z = true) (hn : O ≠ K) : NS Z O K := by
  obtain ⟨c, k, h1, h2, h3, -, -⟩ := Cond.noSuperclass_spec w
  obtain ⟨t, kt, g1, -⟩ := Cond.instantiable_spec wk
  have ne := ids_ne h1 g1 hn
  refine ⟨c, t, h1, g1, fun fuel => ?_⟩
  cases fuel with
  | zero => rfl
  | succ f => simp [Vm.isSubclassAux, ne, h2, h3]
theorem own_no {Z : State} {a0 : Array Value} {C S K : String} {n : Nat} (w : (Cond.superclass C S).before a0 Z = true) (wk : (Cond.instantiable K n).before a0 Z = true) (q : NS Z C K) (hn : C ≠ K) : ∃ c t, Z.vm.findClass C = some c ∧ Z.vm.findClass K = some t ∧ Z.vm.assignable c t = false := by
  obtain ⟨c, t, h0, g0, n3⟩ := q
  obtain ⟨p, k, kp, h1, h2, h3, h4, h5, -, h7⟩ := Cond.superclass_spec h0 w
  obtain ⟨t', k', g1, g2, g3, g4, -⟩ := Cond.instantiable_spec wk
  cases g0.symm.trans g1
  have ne := ids_ne h0 g0 hn
  have g5 : k'.isInterface = false := by simp only [Bool.or_eq_false_iff] at g4; exact g4.1
  refine ⟨c, t, h0, g0, ?_⟩
  show Z.vm.assignableAux (255 + 1) c t = false
  simp [Vm.assignableAux, ne, h2, g2, h5, g3, g5, Vm.isSubclass, n3]
theorem own_sub {x k : Int32} {n lo hi : Int} (hk : k.toInt = n) (hx : lo ≤ x.toInt ∧ x.toInt ≤ hi) (h1 : -2147483648 ≤ lo - n) (h2 : hi - n < 2147483648) : lo - n ≤ (x - k).toInt ∧ (x - k).toInt ≤ hi - n := by
  have := c_isub x k; have := rng32 (x - k); rw [hk] at *; omega
theorem own_dbl {x : Int32} {lo hi : Int} (hx : lo ≤ x.toInt ∧ x.toInt ≤ hi) (h1 : -1073741824 ≤ lo) (h2 : hi < 1073741824) : 2 * lo ≤ ((2 : Int32) * x).toInt ∧ ((2 : Int32) * x).toInt ≤ 2 * hi := by
  have := c_imul 2 x; have := rng32 (2 * x); rw [show (2 : Int32).toInt = 2 by decide] at *; omega
theorem own_eqR {Z : State} {args : Array Value} {a b : Term} {idx : List Nat} {w : Addr} (hb : b.eval args Z none idx Z = some (.ref w)) (h : (Cond.eq a b).value args Z none Z idx = some true) : a.eval args Z none idx Z = some (.ref w) := by
  simp only [Cond.value, hb] at h
  cases ht : a.eval args Z none idx Z with
  | none => simp [ht] at h
  | some x => cases x <;> simp [ht] at h ⊢; exact h
abbrev yn0 : MethodName := ⟨"java/util/AbstractCollection", "<init>", "()V"⟩
abbrev yn1 : MethodName := ⟨"java/util/AbstractList", "<init>", "()V"⟩
abbrev yn2 : MethodName := ⟨"java/lang/Math", "min", "(II)I"⟩
abbrev yn3 : MethodName := ⟨"com/example/driftless/driftless/DeleteOperations", "<init>", "(JJI)V"⟩
abbrev yn4 : MethodName := ⟨"com/example/driftless/driftless/DeleteOperations", "append", "(JJ)V"⟩
abbrev yn5 : MethodName := ⟨"com/example/driftless/driftless/DeleteOperations", "size", "()I"⟩
abbrev yn6 : MethodName := ⟨"com/example/driftless/driftless/DeleteOperations", "targetCounter", "(I)J"⟩
abbrev yn7 : MethodName := ⟨"com/example/driftless/driftless/DeleteOperations", "targetReplica", "(I)J"⟩
theorem own_ushr12 {x : Int32} {lo hi : Int} (hx : lo ≤ x.toInt ∧ x.toInt ≤ hi) (h0 : 0 ≤ lo) : lo / 4096 ≤ ((x.toUInt32 >>> ((12 : Int32) &&& 31).toUInt32).toInt32).toInt ∧ ((x.toUInt32 >>> ((12 : Int32) &&& 31).toUInt32).toInt32).toInt ≤ hi / 4096 := by
  rw [c_iushr x 12 12 (by decide) (by decide)]; have := rng32 x
  rw [show ((2 ^ 12 : Nat) : Int) = 4096 by decide]; omega
def Q0 (n0 : Nat) (v : Option Value) (h : Heap) (L : List Loc) : Prop := v = some (.int (1 : Int32)) ∧ Fr n0 L
theorem d0_0 : decode prog_7_method_1_code 0 = .ok (.aload_n 0, 1) := by decide +kernel
theorem d0_1 : decode prog_7_method_1_code 1 = .ok (.invokespecial 3, 3) := by decide +kernel
theorem d1_0 : decode jdk_39_method_1_code 0 = .ok (.aload_n 0, 1) := by decide +kernel
theorem d1_1 : decode jdk_39_method_1_code 1 = .ok (.invokespecial 1, 3) := by decide +kernel
theorem d2_0 : decode jdk_22_method_1_code 0 = .ok (.aload_n 0, 1) := by decide +kernel
theorem d2_1 : decode jdk_22_method_1_code 1 = .ok (.invokespecial 1, 3) := by decide +kernel
theorem d2_4 : decode jdk_22_method_1_code 4 = .ok (.return_, 1) := by decide +kernel
theorem pn0 : plainName "java/util/AbstractCollection" = true := by first | (simp [plainName, overriddenIn]; done) | decide +kernel
theorem ef1 (m : MethodId) (x0 : Addr) : entryFrame m #[(.ref x0)] 1 = mkF m 0 #[.val (.ref x0)] [] := by first | (simp [entryFrame, mkF, argsToLocals, Value.category]; done) | rfl
def Q1 (Z : State) (o1 : Addr) (h0 : Heap) (n0 : Nat) (v : Option Value) (h : Heap) (L : List Loc) : Prop :=
  (v = none ∧ Fr n0 L ∧ h = h0)
set_option maxRecDepth 65536 in
set_option maxHeartbeats 40000000 in
theorem rm1 (l : Launch) (Z : State) (a0 : Array Value) (hw : ∀ d ∈ tables_1, d.before a0 Z = true) (ws : List Jvm.Cond) (o1 : Addr) (h0 : Heap) (n0 : Nat) (O0 : Old Z n0 h0) (g_o1 : n0 ≤ o1) :
    MetFree l yn0 (head1 (Jvm.Cond.code yn0 jdk_22_method_1_code 1 none :: ws) ({ frames := 1, cells := 0, slots := 0, locals := 12 } : Room)) (fun a U => a = #[(.ref o1)] ∧ Z.Warmed39 U.vm ∧ U.heap = h0) (fun _ _ _ _ _ => True) (fun _ U o U' => ∃ v L, o = .returned v ∧ Q1 Z o1 h0 n0 v U'.heap L ∧ FrameEnd U o U' L ({ frames := 1, cells := 0, slots := 0, locals := 12 } : Room).cells ({ frames := 1, cells := 0, slots := 0, locals := 12 } : Room).slots) := by
  refine MetFree.of_bodySF (plainFor_of_name pn0) hisR ?_
  intro p e s m args below meth c s₁ Bd hml0 hP hK
  obtain ⟨rfl, hZ, hh⟩ := hP
  have hx := Bd.exec
  have hby := Bd.bytes
  have hml : c.maxLocals = 1 := hml0
  have hown : s.vm.findClass "java/util/AbstractCollection" = some m.cls := findClass_of_methodNamed Bd.named
  have hnm := (name_of_methodNamed Bd.named Bd.method).1
  have hret := Bd.returns
  have hlk : meth.locks = false := BodyLoose.notSynchronized Bd
  have X0 : Stand p l e ({ frames := 1, cells := 0, slots := 0, locals := 12 } : Room) s m #[(.ref o1)] below meth c s₁ [] 0 0 := Stand.of_body Bd
  have e0 : s₁.heap = h0 := by rw [← hh, Bd.state]; rfl
  have N0 := Fr.nil n0
  have pre0 : ∀ t, Steps p.tables e below (s₁.setTop (mkF m 0 #[.val (.ref o1)] [])) t → Steps p.tables e below (s₁.setTop (entryFrame m #[(.ref o1)] 1)) t := fun t k => castTop (ef1 m o1) k
  obtain ⟨T1, X1, e1, st1⟩ := initO X0 hx hZ hown (own_w hw 17 rfl) (own_w hw 18 rfl) (own_w hw 19 rfl) e0 (g := (mkF m 1 #[.val (.ref o1)] [(.ref o1)])) rfl (by rw [hml]; rfl) rfl (hb hby d2_1) (by decide) (W := 0) (by show 2 * 0 + _ ≤ _; exact Nat.le_of_eq rfl) (by decide)
  obtain ⟨fs, hr, hrun, hended, hW, hsame⟩ := X1.leave (v := none) (fun _ => rfl)
  refine ⟨_, _, pre0 _ ?_, hrun, hended, _, _, rfl, ?_, ⟨_, rfl⟩, hW, hsame.mono (by decide) (by decide)⟩
  ·
    show Steps p.tables e below (s₁.setTop (mkF m 0 #[.val (.ref o1)] [])) _
    refine XS.aloadN X0.here hx rfl (hb hby d2_0) rfl rfl ?_
    refine st1 _ ?_
    show Steps p.tables e below (T1.setTop (mkF m 4 #[.val (.ref o1)] [])) _
    exact X1.returnOut hx hret (hb hby d2_4) hr
  ·
    show Q1 Z o1 h0 n0 _ T1.heap _
    rw [e1]
    exact ⟨rfl, N0, rfl⟩
theorem pd0 : parseMethodDescriptor "()V" = some ⟨[], none⟩ := by decide +kernel
theorem d1_4 : decode jdk_39_method_1_code 4 = .ok (.aload_n 0, 1) := by decide +kernel
theorem d1_5 : decode jdk_39_method_1_code 5 = .ok (.iconst 0, 1) := by decide +kernel
theorem d1_6 : decode jdk_39_method_1_code 6 = .ok (.putfield 7, 3) := by decide +kernel
theorem d1_9 : decode jdk_39_method_1_code 9 = .ok (.return_, 1) := by decide +kernel
theorem pn1 : plainName "java/util/AbstractList" = true := by first | (simp [plainName, overriddenIn]; done) | decide +kernel
theorem ef2 (m : MethodId) (x0 : Addr) : entryFrame m #[(.ref x0)] 1 = mkF m 0 #[.val (.ref x0)] [] := by first | (simp [entryFrame, mkF, argsToLocals, Value.category]; done) | rfl
def Q2 (Z : State) (o1 : Addr) (h0 : Heap) (n0 : Nat) (v : Option Value) (h : Heap) (L : List Loc) : Prop :=
  (v = none ∧ Fr n0 L ∧ Keep h0 h [o1] ∧ (Exa Z h o1 "com/example/driftless/driftless/DeleteOperations") ∧ (Fld Z h o1 "com/example/driftless/driftless/DeleteOperations" "firstCounter" "J" (.long (0 : Int64))) ∧ (Fld Z h o1 "com/example/driftless/driftless/DeleteOperations" "replica" "J" (.long (0 : Int64))) ∧ (Fld Z h o1 "com/example/driftless/driftless/DeleteOperations" "size" "I" (.int (0 : Int32))) ∧ (Fld Z h o1 "com/example/driftless/driftless/DeleteOperations" "targets" "[[J" .null) ∧ (Fld Z h o1 "java/util/AbstractList" "modCount" "I" (.int (0 : Int32))))
set_option maxRecDepth 65536 in
set_option maxHeartbeats 40000000 in
theorem rm2 (l : Launch) (Z : State) (a0 : Array Value) (hw : ∀ d ∈ tables_1, d.before a0 Z = true) (ws : List Jvm.Cond) (o1 : Addr) (h0 : Heap) (n0 : Nat) (O0 : Old Z n0 h0) (g_o1 : n0 ≤ o1) (P0 : Exa Z h0 o1 "com/example/driftless/driftless/DeleteOperations") (P1 : Fld Z h0 o1 "com/example/driftless/driftless/DeleteOperations" "firstCounter" "J" (.long (0 : Int64))) (P2 : Fld Z h0 o1 "com/example/driftless/driftless/DeleteOperations" "replica" "J" (.long (0 : Int64))) (P3 : Fld Z h0 o1 "com/example/driftless/driftless/DeleteOperations" "size" "I" (.int (0 : Int32))) (P4 : Fld Z h0 o1 "com/example/driftless/driftless/DeleteOperations" "targets" "[[J" .null) (P5 : Fld Z h0 o1 "java/util/AbstractList" "modCount" "I" (.int (0 : Int32))) :
    MetFree l yn1 (head1 (Jvm.Cond.code yn1 jdk_39_method_1_code 1 none :: ws) ({ frames := 2, cells := 0, slots := 0, locals := 24 } : Room)) (fun a U => a = #[(.ref o1)] ∧ Z.Warmed39 U.vm ∧ U.heap = h0) (fun _ _ _ _ _ => True) (fun _ U o U' => ∃ v L, o = .returned v ∧ Q2 Z o1 h0 n0 v U'.heap L ∧ FrameEnd U o U' L ({ frames := 2, cells := 0, slots := 0, locals := 24 } : Room).cells ({ frames := 2, cells := 0, slots := 0, locals := 24 } : Room).slots) := by
  refine MetFree.of_bodySF (plainFor_of_name pn1) hisR ?_
  intro p e s m args below meth c s₁ Bd hml0 hP hK
  obtain ⟨rfl, hZ, hh⟩ := hP
  have hx := Bd.exec
  have hby := Bd.bytes
  have hml : c.maxLocals = 1 := hml0
  have hown : s.vm.findClass "java/util/AbstractList" = some m.cls := findClass_of_methodNamed Bd.named
  have hnm := (name_of_methodNamed Bd.named Bd.method).1
  have hret := Bd.returns
  have hlk : meth.locks = false := BodyLoose.notSynchronized Bd
  have X0 : Stand p l e ({ frames := 2, cells := 0, slots := 0, locals := 24 } : Room) s m #[(.ref o1)] below meth c s₁ [] 0 0 := Stand.of_body Bd
  have e0 : s₁.heap = h0 := by rw [← hh, Bd.state]; rfl
  have N0 := Fr.nil n0
  have pre0 : ∀ t, Steps p.tables e below (s₁.setTop (mkF m 0 #[.val (.ref o1)] [])) t → Steps p.tables e below (s₁.setTop (entryFrame m #[(.ref o1)] 1)) t := fun t k => castTop (ef2 m o1) k
  obtain ⟨_, _, ⟨T1, L1, c1, n1⟩, -, X1, ⟨Lc1, hQ1, l1, y1, z1⟩, st1⟩ := X0.specialBack hx (y := yn0) rfl hown (mvT hZ (own_w hw 11 rfl)) (mvT hZ (own_w hw 12 rfl)) (mvT hZ (own_w hw 16 rfl)) (by decide) (backOf (W := 0) (rm1 l Z a0 hw [] o1 h0 n0 O0 g_o1) hZ (own_w hw 16 rfl) (own_w hw 15 rfl) (by decide) (by decide)) (g := (mkF m 1 #[.val (.ref o1)] [(.ref o1)])) rfl (by rw [hml]; rfl) (Steps.refl _) (a := o1) (argsL := []) (rest := []) (lenOf pd0 rfl) rfl (by show 2 * 0 + _ ≤ _; exact Nat.le_of_eq rfl) (hb hby d1_1) (fun _ _ => ⟨rfl, e0, (by decide : 0 + 0 ≤ _), (by decide : 0 + 0 ≤ _)⟩)
  dsimp only [Pt.U, Pt.locs, Pt.cells, Pt.slots] at X1 l1 y1 z1 st1 hQ1
  subst l1 y1 z1
  have X1 : Stand p l e ({ frames := 2, cells := 0, slots := 0, locals := 24 } : Room) s m #[(.ref o1)] below meth c T1 _ 0 0 := X1
  obtain ⟨rfl, Nq2, e3⟩ := hQ1
  have N1 := Fr.app N0 Nq2
  obtain ⟨T4, h4, X4, e4, W4, st4⟩ := putF X1 hx hZ hown (host := "") (Or.inl (own_w hw 20 rfl)) Via.refl e3 P5 P0 (Or.inl (own_w hw 21 rfl)) (own_w hw 1 rfl) (ty := .int) (by decide) rfl rfl (g := (mkF m 6 #[.val (.ref o1)] [(.int (0 : Int32)), (.ref o1)])) rfl rfl (hb hby d1_6)
  have N4 := Fr.snoc X4 N1 g_o1
  have Fw4 := P5.same W4
  have M4 : h0.size ≤ h4.size := Nat.le_trans (Nat.le_refl _) (Nat.le_of_eq W4.size.symm)
  have O4 := Old.wr O0 W4 g_o1
  obtain ⟨fs, hr, hrun, hended, hW, hsame⟩ := X4.leave (v := none) (fun _ => rfl)
  have KL : Keep h0 h4 [o1] := ((Keep.refl h0 [o1]).wr W4 (Or.inl (List.mem_of_getElem? (i := 0) rfl)))
  have f5 := (P0.wr W4)
  have f6 := (P1.other W4 (Or.inr (slot_ne (Or.inr (own_w hw 23 rfl)) (Or.inl (own_w hw 21 rfl)) (by decide) (t := .long) (t' := .int) (by decide) (by decide))))
  have f7 := (P2.other W4 (Or.inr (slot_ne (Or.inr (own_w hw 25 rfl)) (Or.inl (own_w hw 21 rfl)) (by decide) (t := .long) (t' := .int) (by decide) (by decide))))
  have f8 := (P3.other W4 (Or.inr (slot_ne (Or.inl (own_w hw 42 rfl)) (Or.inl (own_w hw 21 rfl)) (by decide) (t := .int) (t' := .int) (by decide) (by decide))))
  have f9 := (P4.other W4 (Or.inr (slot_ne (Or.inr (own_w hw 29 rfl)) (Or.inl (own_w hw 21 rfl)) (by decide) (t := (.array (.array .long))) (t' := .int) (by decide) (by decide))))
  refine ⟨_, _, pre0 _ ?_, hrun, hended, _, _, rfl, ?_, ⟨_, rfl⟩, hW, hsame.mono (by decide) (by decide)⟩
  ·
    show Steps p.tables e below (s₁.setTop (mkF m 0 #[.val (.ref o1)] [])) _
    refine XS.aloadN X0.here hx rfl (hb hby d1_0) rfl rfl ?_
    refine st1.trans ?_
    refine XS.aloadN X1.here hx rfl (hb hby d1_4) rfl rfl ?_
    refine XS.iconst X1.here hx rfl (hb hby d1_5) ?_
    refine st4 _ ?_
    show Steps p.tables e below (T4.setTop (mkF m 9 #[.val (.ref o1)] [])) _
    exact X4.returnOut hx hret (hb hby d1_9) hr
  ·
    show Q2 Z o1 h0 n0 _ T4.heap _
    rw [e4]
    exact ⟨rfl, N4, KL, f5, f6, f7, f8, f9, Fw4⟩
theorem d0_4 : decode prog_7_method_1_code 4 = .ok (.aload_n 0, 1) := by decide +kernel
theorem d0_5 : decode prog_7_method_1_code 5 = .ok (.lload_n 1, 1) := by decide +kernel
theorem d0_6 : decode prog_7_method_1_code 6 = .ok (.putfield 9, 3) := by decide +kernel
theorem d0_9 : decode prog_7_method_1_code 9 = .ok (.aload_n 0, 1) := by decide +kernel
theorem d0_10 : decode prog_7_method_1_code 10 = .ok (.lload_n 3, 1) := by decide +kernel
theorem d0_11 : decode prog_7_method_1_code 11 = .ok (.putfield 13, 3) := by decide +kernel
theorem d0_14 : decode prog_7_method_1_code 14 = .ok (.iload 5, 2) := by decide +kernel
theorem d0_16 : decode prog_7_method_1_code 16 = .ok (.ifCond .ne 7, 3) := by decide +kernel
theorem d0_23 : decode prog_7_method_1_code 23 = .ok (.iload 5, 2) := by decide +kernel
theorem d0_25 : decode prog_7_method_1_code 25 = .ok (.iconst 1, 1) := by decide +kernel
theorem d0_26 : decode prog_7_method_1_code 26 = .ok (.isub, 1) := by decide +kernel
theorem d0_27 : decode prog_7_method_1_code 27 = .ok (.bipush 12, 2) := by decide +kernel
theorem d0_29 : decode prog_7_method_1_code 29 = .ok (.iushr, 1) := by decide +kernel
theorem d0_30 : decode prog_7_method_1_code 30 = .ok (.iconst 1, 1) := by decide +kernel
theorem d0_31 : decode prog_7_method_1_code 31 = .ok (.iadd, 1) := by decide +kernel
theorem d0_32 : decode prog_7_method_1_code 32 = .ok (.istore 6, 2) := by decide +kernel
theorem d0_34 : decode prog_7_method_1_code 34 = .ok (.aload_n 0, 1) := by decide +kernel
theorem d0_35 : decode prog_7_method_1_code 35 = .ok (.iload 6, 2) := by decide +kernel
theorem d0_37 : decode prog_7_method_1_code 37 = .ok (.anewarray 16, 3) := by decide +kernel
theorem d0_40 : decode prog_7_method_1_code 40 = .ok (.putfield 18, 3) := by decide +kernel
theorem d0_43 : decode prog_7_method_1_code 43 = .ok (.iconst 0, 1) := by decide +kernel
theorem d0_44 : decode prog_7_method_1_code 44 = .ok (.istore 7, 2) := by decide +kernel
theorem d0_46 : decode prog_7_method_1_code 46 = .ok (.iload 7, 2) := by decide +kernel
theorem d0_48 : decode prog_7_method_1_code 48 = .ok (.iload 6, 2) := by decide +kernel
theorem d0_50 : decode prog_7_method_1_code 50 = .ok (.if_icmp .ge 34, 3) := by decide +kernel
theorem d0_53 : decode prog_7_method_1_code 53 = .ok (.aload_n 0, 1) := by decide +kernel
theorem d0_54 : decode prog_7_method_1_code 54 = .ok (.getfield 18, 3) := by decide +kernel
theorem d0_57 : decode prog_7_method_1_code 57 = .ok (.iload 7, 2) := by decide +kernel
theorem d0_59 : decode prog_7_method_1_code 59 = .ok (.iconst 2, 1) := by decide +kernel
theorem d0_60 : decode prog_7_method_1_code 60 = .ok (.sipush 4096, 3) := by decide +kernel
theorem d0_63 : decode prog_7_method_1_code 63 = .ok (.iload 5, 2) := by decide +kernel
theorem d0_65 : decode prog_7_method_1_code 65 = .ok (.iload 7, 2) := by decide +kernel
theorem d0_67 : decode prog_7_method_1_code 67 = .ok (.bipush 12, 2) := by decide +kernel
theorem d0_69 : decode prog_7_method_1_code 69 = .ok (.ishl, 1) := by decide +kernel
theorem d0_70 : decode prog_7_method_1_code 70 = .ok (.isub, 1) := by decide +kernel
theorem d0_71 : decode prog_7_method_1_code 71 = .ok (.invokestatic 22, 3) := by decide +kernel
theorem d3_0 : decode jdk_29_method_69_code 0 = .ok (.iload_n 0, 1) := by decide +kernel
theorem d3_1 : decode jdk_29_method_69_code 1 = .ok (.iload_n 1, 1) := by decide +kernel
theorem d3_2 : decode jdk_29_method_69_code 2 = .ok (.if_icmp .gt 7, 3) := by decide +kernel
theorem d3_9 : decode jdk_29_method_69_code 9 = .ok (.iload_n 1, 1) := by decide +kernel
theorem d3_10 : decode jdk_29_method_69_code 10 = .ok (.ireturn, 1) := by decide +kernel
theorem d3_5 : decode jdk_29_method_69_code 5 = .ok (.iload_n 0, 1) := by decide +kernel
theorem d3_6 : decode jdk_29_method_69_code 6 = .ok (.goto 4, 3) := by decide +kernel
theorem ef3 (m : MethodId) (x0 : Int32) (x1 : Int32) : entryFrame m #[(.int x0), (.int x1)] 2 = mkF m 0 #[.val (.int x0), .val (.int x1)] [] := by first | (simp [entryFrame, mkF, argsToLocals, Value.category]; done) | rfl
def Q3 (Z : State) (p1 : Int32) (h0 : Heap) (n0 : Nat) (v : Option Value) (h : Heap) (L : List Loc) : Prop :=
  (∃ r1 : Int32, (3 ≤ r1.toInt ∧ r1.toInt ≤ 4096) ∧ v = some (.int r1) ∧ Fr n0 L ∧ h = h0)
set_option maxRecDepth 65536 in
set_option maxHeartbeats 40000000 in
theorem rm3 (l : Launch) (Z : State) (a0 : Array Value) (hw : ∀ d ∈ tables_1, d.before a0 Z = true) (ws : List Jvm.Cond) (p1 : Int32) (h0 : Heap) (n0 : Nat) (O0 : Old Z n0 h0) (bd_p1 : 3 ≤ p1.toInt ∧ p1.toInt ≤ 4096) :
    MetFree l yn2 (head1 (Jvm.Cond.code yn2 jdk_29_method_69_code 2 (some .int) :: ws) ({ frames := 0, cells := 0, slots := 0, locals := 0 } : Room)) (fun a U => a = #[(.int (4096 : Int32)), (.int p1)] ∧ Z.Warmed39 U.vm ∧ U.heap = h0) (fun _ _ _ _ _ => True) (fun _ U o U' => ∃ v L, o = .returned v ∧ Q3 Z p1 h0 n0 v U'.heap L ∧ FrameEnd U o U' L ({ frames := 0, cells := 0, slots := 0, locals := 0 } : Room).cells ({ frames := 0, cells := 0, slots := 0, locals := 0 } : Room).slots) := by
  refine MetFree.of_bodySF (Jvm.Free.JP.mathPlain rfl (by decide +kernel)) hisR ?_
  intro p e s m args below meth c s₁ Bd hml0 hP hK
  obtain ⟨rfl, hZ, hh⟩ := hP
  have hx := Bd.exec
  have hby := Bd.bytes
  have hml : c.maxLocals = 2 := hml0
  have hown : s.vm.findClass "java/lang/Math" = some m.cls := findClass_of_methodNamed Bd.named
  have hnm := (name_of_methodNamed Bd.named Bd.method).1
  have hret := Bd.returns
  have hlk : meth.locks = false := BodyLoose.notSynchronized Bd
  have X0 : Stand p l e ({ frames := 0, cells := 0, slots := 0, locals := 0 } : Room) s m #[(.int (4096 : Int32)), (.int p1)] below meth c s₁ [] 0 0 := Stand.of_body Bd
  have e0 : s₁.heap = h0 := by rw [← hh, Bd.state]; rfl
  have N0 := Fr.nil n0
  have pre0 : ∀ t, Steps p.tables e below (s₁.setTop (mkF m 0 #[.val (.int (4096 : Int32)), .val (.int p1)] [])) t → Steps p.tables e below (s₁.setTop (entryFrame m #[(.int (4096 : Int32)), (.int p1)] 2)) t := fun t k => castTop (ef3 m (4096 : Int32) p1) k
  have pre1 : ∀ t, Steps p.tables e below (s₁.setTop (mkF m 2 #[.val (.int (4096 : Int32)), .val (.int p1)] [(.int p1), (.int (4096 : Int32))])) t → Steps p.tables e below (s₁.setTop (entryFrame m #[(.int (4096 : Int32)), (.int p1)] 2)) t := fun t k => by
    refine pre0 _ ?_
    show Steps p.tables e below (s₁.setTop (mkF m 0 #[.val (.int (4096 : Int32)), .val (.int p1)] [])) _
    refine XS.iloadN X0.here hx rfl (hb hby d3_0) rfl ?_
    refine XS.iloadN X0.here hx rfl (hb hby d3_1) rfl ?_
    exact k
  by_cases hc2 : p1 < (4096 : Int32)
  ·
    obtain ⟨fs, hr, hrun, hended, hW, hsame⟩ := X0.leave (v := some (.int p1)) (fun h => by rw [hret] at h; cases h)
    refine ⟨_, _, pre1 _ ?_, hrun, hended, _, _, rfl, ?_, ⟨_, rfl⟩, hW, hsame.mono (by decide) (by decide)⟩
    ·
      show Steps p.tables e below (s₁.setTop (mkF m 2 #[.val (.int (4096 : Int32)), .val (.int p1)] [(.int p1), (.int (4096 : Int32))])) _
      refine XS.icmpYes X0.here hx rfl (pc0 := 2) (pc' := 9) rfl (hb hby d3_2) rfl (tlt hc2).2.2.1 (by decide) (by decide) ?_
      refine XS.iloadN X0.here hx rfl (hb hby d3_9) rfl ?_
      show Steps p.tables e below (s₁.setTop (mkF m 10 #[.val (.int (4096 : Int32)), .val (.int p1)] [(.int p1)])) _
      exact retI X0 hx hret (hb hby d3_10) hr
    ·
      show Q3 Z p1 h0 n0 _ s₁.heap _
      rw [e0]
      exact ⟨p1, (by have q0 := bd_p1; have q1 := own_lt1 (n := 4096) (k := (4096 : Int32)) (by decide) hc2; omega), rfl, N0, rfl⟩
  ·
    have hq3 : p1 = (4096 : Int32) := (own_geq (n := 4096) (k := (4096 : Int32)) (by decide) (by have q0 := bd_p1; have q1 := own_nlt1 (n := 4096) (k := (4096 : Int32)) (by decide) hc2; omega))
    have pre4 : ∀ t, Steps p.tables e below (s₁.setTop (mkF m 2 #[.val (.int (4096 : Int32)), .val (.int (4096 : Int32))] [(.int (4096 : Int32)), (.int (4096 : Int32))])) t → Steps p.tables e below (s₁.setTop (entryFrame m #[(.int (4096 : Int32)), (.int p1)] 2)) t := fun t k => pre1 t (by rw [hq3]; exact k)
    obtain ⟨fs, hr, hrun, hended, hW, hsame⟩ := X0.leave (v := some (.int (4096 : Int32))) (fun h => by rw [hret] at h; cases h)
    refine ⟨_, _, pre4 _ ?_, hrun, hended, _, _, rfl, ?_, ⟨_, rfl⟩, hW, hsame.mono (by decide) (by decide)⟩
    ·
      show Steps p.tables e below (s₁.setTop (mkF m 2 #[.val (.int (4096 : Int32)), .val (.int (4096 : Int32))] [(.int (4096 : Int32)), (.int (4096 : Int32))])) _
      refine XS.icmpNo X0.here hx rfl (hb hby d3_2) rfl (flt (by decide : ¬ ((4096 : Int32) < (4096 : Int32)))).2.2.1 ?_
      refine XS.iloadN X0.here hx rfl (hb hby d3_5) rfl ?_
      refine XS.goto X0.here hx rfl (pc0 := 6) (pc' := 10) rfl (hb hby d3_6) (by decide) (by decide) ?_
      show Steps p.tables e below (s₁.setTop (mkF m 10 #[.val (.int (4096 : Int32)), .val (.int (4096 : Int32))] [(.int (4096 : Int32))])) _
      exact retI X0 hx hret (hb hby d3_10) hr
    ·
      show Q3 Z p1 h0 n0 _ s₁.heap _
      rw [e0]
      exact ⟨(4096 : Int32), (by have q0 := (by decide : ((4096 : Int32)).toInt = 4096); omega), rfl, N0, rfl⟩
theorem pd1 : parseMethodDescriptor "(II)I" = some ⟨[.int, .int], some .int⟩ := by decide +kernel
theorem d0_74 : decode prog_7_method_1_code 74 = .ok (.imul, 1) := by decide +kernel
theorem d0_75 : decode prog_7_method_1_code 75 = .ok (.newarray .long, 2) := by decide +kernel
theorem d0_77 : decode prog_7_method_1_code 77 = .ok (.aastore, 1) := by decide +kernel
theorem d0_78 : decode prog_7_method_1_code 78 = .ok (.iinc 7 1, 3) := by decide +kernel
theorem d0_81 : decode prog_7_method_1_code 81 = .ok (.goto (-35), 3) := by decide +kernel
theorem d0_84 : decode prog_7_method_1_code 84 = .ok (.return_, 1) := by decide +kernel
theorem pn2 : plainName "com/example/driftless/driftless/DeleteOperations" = true := by first | (simp [plainName, overriddenIn]; done) | decide +kernel
theorem ef4 (m : MethodId) (x0 : Addr) (x1 : Int64) (x2 : Int64) (x3 : Int32) : entryFrame m #[(.ref x0), (.long x1), (.long x2), (.int x3)] 8 = mkF m 0 #[.val (.ref x0), .val (.long x1), .second, .val (.long x2), .second, .val (.int x3), .unset, .unset] [] := by first | (simp [entryFrame, mkF, argsToLocals, Value.category]; done) | rfl
def Q4 (Z : State) (o1 : Addr) (p4 : Int32) (q2 : Int64) (q3 : Int64) (h0 : Heap) (n0 : Nat) (v : Option Value) (h : Heap) (L : List Loc) : Prop :=
  (∃ z21 : Int32, (3 ≤ z21.toInt ∧ z21.toInt ≤ 4096) ∧ ∃ b15 : Addr, ∃ b25 : Addr, ∃ k15 : ClassId, ∃ k25 : ClassId, v = none ∧ Fr n0 L ∧ Keep h0 h [o1] ∧ h0.size ≤ b15 ∧ h0.size ≤ b25 ∧ b15 ≠ b25 ∧ OvrA Z k15 .long "[J" ∧ (Exa Z h o1 "com/example/driftless/driftless/DeleteOperations") ∧ (Fld Z h o1 "com/example/driftless/driftless/DeleteOperations" "firstCounter" "J" (.long q2)) ∧ (Fld Z h o1 "com/example/driftless/driftless/DeleteOperations" "replica" "J" (.long q3)) ∧ (Fld Z h o1 "com/example/driftless/driftless/DeleteOperations" "size" "I" (.int (0 : Int32))) ∧ (Fld Z h o1 "com/example/driftless/driftless/DeleteOperations" "targets" "[[J" (.ref b15)) ∧ (Fld Z h o1 "java/util/AbstractList" "modCount" "I" (.int (0 : Int32))) ∧ (Arv Z h b15 k15 (.array .long) (1 : Int32) [(.ref b25)] .null) ∧ (Exa Z h b15 "[[J") ∧ (Arv Z h b25 k25 .long ((2 : Int32) * z21) [(.long (0 : Int64)), (.long (0 : Int64)), (.long (0 : Int64)), (.long (0 : Int64)), (.long (0 : Int64)), (.long (0 : Int64))] (.long (0 : Int64))) ∧ (Exa Z h b25 "[J"))
set_option maxRecDepth 65536 in
set_option maxHeartbeats 40000000 in
theorem rm4 (l : Launch) (Z : State) (a0 : Array Value) (hw : ∀ d ∈ tables_1, d.before a0 Z = true) (ws : List Jvm.Cond) (o1 : Addr) (p4 : Int32) (q2 : Int64) (q3 : Int64) (h0 : Heap) (n0 : Nat) (O0 : Old Z n0 h0) (g_o1 : n0 ≤ o1) (bd_p4 : 3 ≤ p4.toInt ∧ p4.toInt ≤ 4096) (P0 : Exa Z h0 o1 "com/example/driftless/driftless/DeleteOperations") (P1 : Fld Z h0 o1 "com/example/driftless/driftless/DeleteOperations" "firstCounter" "J" (.long (0 : Int64))) (P2 : Fld Z h0 o1 "com/example/driftless/driftless/DeleteOperations" "replica" "J" (.long (0 : Int64))) (P3 : Fld Z h0 o1 "com/example/driftless/driftless/DeleteOperations" "size" "I" (.int (0 : Int32))) (P4 : Fld Z h0 o1 "com/example/driftless/driftless/DeleteOperations" "targets" "[[J" .null) (P5 : Fld Z h0 o1 "java/util/AbstractList" "modCount" "I" (.int (0 : Int32))) :
    MetFree l yn3 (head1 (Jvm.Cond.code yn3 prog_7_method_1_code 8 none :: ws) ({ frames := 3, cells := 2, slots := 8193, locals := 36 } : Room)) (fun a U => a = #[(.ref o1), (.long q2), (.long q3), (.int p4)] ∧ Z.Warmed39 U.vm ∧ U.heap = h0) (fun _ _ _ _ _ => True) (fun _ U o U' => ∃ v L, o = .returned v ∧ Q4 Z o1 p4 q2 q3 h0 n0 v U'.heap L ∧ FrameEnd U o U' L ({ frames := 3, cells := 2, slots := 8193, locals := 36 } : Room).cells ({ frames := 3, cells := 2, slots := 8193, locals := 36 } : Room).slots) := by
  refine MetFree.of_bodySF (plainFor_of_name pn2) hisR ?_
  intro p e s m args below meth c s₁ Bd hml0 hP hK
  obtain ⟨rfl, hZ, hh⟩ := hP
  have hx := Bd.exec
  have hby := Bd.bytes
  have hml : c.maxLocals = 8 := hml0
  have hown : s.vm.findClass "com/example/driftless/driftless/DeleteOperations" = some m.cls := findClass_of_methodNamed Bd.named
  have hnm := (name_of_methodNamed Bd.named Bd.method).1
  have hret := Bd.returns
  have hlk : meth.locks = false := BodyLoose.notSynchronized Bd
  have X0 : Stand p l e ({ frames := 3, cells := 2, slots := 8193, locals := 36 } : Room) s m #[(.ref o1), (.long q2), (.long q3), (.int p4)] below meth c s₁ [] 0 0 := Stand.of_body Bd
  have e0 : s₁.heap = h0 := by rw [← hh, Bd.state]; rfl
  have N0 := Fr.nil n0
  have pre0 : ∀ t, Steps p.tables e below (s₁.setTop (mkF m 0 #[.val (.ref o1), .val (.long q2), .second, .val (.long q3), .second, .val (.int p4), .unset, .unset] [])) t → Steps p.tables e below (s₁.setTop (entryFrame m #[(.ref o1), (.long q2), (.long q3), (.int p4)] 8)) t := fun t k => castTop (ef4 m o1 q2 q3 p4) k
  obtain ⟨_, _, ⟨T1, L1, c1, n1⟩, -, X1, ⟨Lc1, hQ1, l1, y1, z1⟩, st1⟩ := X0.specialBack hx (y := yn1) rfl hown (mvT hZ (own_w hw 6 rfl)) (mvT hZ (own_w hw 7 rfl)) (mvT hZ (own_w hw 10 rfl)) (by decide) (backOf (W := 0) (rm2 l Z a0 hw [] o1 h0 n0 O0 g_o1 P0 P1 P2 P3 P4 P5) hZ (own_w hw 10 rfl) (own_w hw 9 rfl) (by decide) (by decide)) (g := (mkF m 1 #[.val (.ref o1), .val (.long q2), .second, .val (.long q3), .second, .val (.int p4), .unset, .unset] [(.ref o1)])) rfl (by rw [hml]; rfl) (Steps.refl _) (a := o1) (argsL := []) (rest := []) (lenOf pd0 rfl) rfl (by show 2 * 0 + _ ≤ _; exact Nat.le_of_eq rfl) (hb hby d0_1) (fun _ _ => ⟨rfl, e0, (by decide : 0 + 0 ≤ _), (by decide : 0 + 0 ≤ _)⟩)
  dsimp only [Pt.U, Pt.locs, Pt.cells, Pt.slots] at X1 l1 y1 z1 st1 hQ1
  subst l1 y1 z1
  have X1 : Stand p l e ({ frames := 3, cells := 2, slots := 8193, locals := 36 } : Room) s m #[(.ref o1), (.long q2), (.long q3), (.int p4)] below meth c T1 _ 0 0 := X1
  obtain ⟨rfl, Nq2, K3, f4, f5, f6, f7, f8, f9⟩ := hQ1
  have N1 := Fr.app N0 Nq2
  have M1 : h0.size ≤ T1.heap.size := Nat.le_trans (Nat.le_refl _) K3.1
  have O1 := Old.keep O0 K3 (allS g_o1 all0)
  obtain ⟨T10, h10, X10, e10, W10, st10⟩ := putF X1 hx hZ hown (host := "") (Or.inl (own_w hw 22 rfl)) Via.refl rfl f5 f4 (Or.inr ⟨(own_w hw 23 rfl), rfl, hnm⟩) (own_w hw 1 rfl) (ty := .long) (by decide) rfl rfl (g := (mkF m 6 #[.val (.ref o1), .val (.long q2), .second, .val (.long q3), .second, .val (.int p4), .unset, .unset] [(.long q2), (.ref o1)])) rfl rfl (hb hby d0_6)
  have N10 := Fr.snoc X10 N1 g_o1
  have Fw10 := f5.same W10
  have M10 : h0.size ≤ h10.size := Nat.le_trans M1 (Nat.le_of_eq W10.size.symm)
  have O10 := Old.wr O1 W10 g_o1
  have f11 := (f6.other W10 (Or.inr (slot_ne (Or.inr (own_w hw 25 rfl)) (Or.inr (own_w hw 23 rfl)) (by decide) (t := .long) (t' := .long) (by decide) (by decide))))
  have f12 := (f4.wr W10)
  obtain ⟨T13, h13, X13, e13, W13, st13⟩ := putF X10 hx hZ hown (host := "") (Or.inl (own_w hw 24 rfl)) Via.refl e10 f11 f12 (Or.inr ⟨(own_w hw 25 rfl), rfl, hnm⟩) (own_w hw 1 rfl) (ty := .long) (by decide) rfl rfl (g := (mkF m 11 #[.val (.ref o1), .val (.long q2), .second, .val (.long q3), .second, .val (.int p4), .unset, .unset] [(.long q3), (.ref o1)])) rfl rfl (hb hby d0_11)
  have N13 := Fr.snoc X13 N10 g_o1
  have Fw13 := f11.same W13
  have M13 : h0.size ≤ h13.size := Nat.le_trans M10 (Nat.le_of_eq W13.size.symm)
  have O13 := Old.wr O10 W13 g_o1
  have hq14 : ((((p4 - (1 : Int32)).toUInt32 >>> ((12 : Int32) &&& 31).toUInt32).toInt32) + (1 : Int32)) = (1 : Int32) := (own_geq (n := 1) (k := (1 : Int32)) (by decide) (by have q0 := own_add (x := (((p4 - (1 : Int32)).toUInt32 >>> ((12 : Int32) &&& 31).toUInt32).toInt32)) (k := (1 : Int32)) (n := 1) (lo := 0) (hi := 0) (by decide) (by have q0 := own_ushr12 (x := (p4 - (1 : Int32))) (lo := 2) (hi := 4095) (by have q0 := own_sub (x := p4) (k := (1 : Int32)) (n := 1) (lo := 3) (hi := 4096) (by decide) (by have q0 := bd_p4; omega) (by decide) (by decide); omega) (by decide); omega) (by decide) (by decide); omega))
  obtain ⟨T15, h15, k15, X15, e15, E15, A15, EX15, OV15, st15⟩ := newRA X13 hx hZ hown (C := "[J") (ty := .long) (by decide) (own_w hw 26 rfl) (own_w hw 27 rfl) e13 (g := (mkF m 37 #[.val (.ref o1), .val (.long q2), .second, .val (.long q3), .second, .val (.int p4), .val (.int ((((p4 - (1 : Int32)).toUInt32 >>> ((12 : Int32) &&& 31).toUInt32).toInt32) + (1 : Int32))), .unset] [(.int ((((p4 - (1 : Int32)).toUInt32 >>> ((12 : Int32) &&& 31).toUInt32).toInt32) + (1 : Int32))), (.ref o1)])) rfl (hb hby d0_37) rfl (by rw [hq14]; decide) (cap := 1) (by rw [hq14]; decide) (by decide) (by decide) (by decide) (ad := "[[J") (by decide)
  obtain ⟨b15, g15⟩ : ∃ z, z = h13.size := ⟨_, rfl⟩
  rw [← g15] at A15 EX15 st15
  rw [hq14] at A15
  have M15 : h0.size ≤ h15.size := Nat.le_trans M13 E15.1
  have O15 := Old.ext O13 E15
  have sz_b15 : h13.size ≤ b15 := Nat.le_of_eq g15.symm
  have g_b15 : n0 ≤ b15 := Nat.le_trans (own_oz O0) (Nat.le_trans M13 sz_b15)
  have V15_0 := Arv.new A15 (by decide)
  have V15 : Arv Z h15 b15 k15 (.array .long) (1 : Int32) [.null] .null := V15_0.pad (pad_rep [] .null 1)
  have f16 := (((f8.other W10 (Or.inr (slot_ne (Or.inr (own_w hw 29 rfl)) (Or.inr (own_w hw 23 rfl)) (by decide) (t := (.array (.array .long))) (t' := .long) (by decide) (by decide)))).other W13 (Or.inr (slot_ne (Or.inr (own_w hw 29 rfl)) (Or.inr (own_w hw 25 rfl)) (by decide) (t := (.array (.array .long))) (t' := .long) (by decide) (by decide)))).ext E15)
  have f17 := ((f12.wr W13).ext E15)
  obtain ⟨T18, h18, X18, e18, W18, st18⟩ := putF X15 hx hZ hown (host := "") (Or.inl (own_w hw 28 rfl)) Via.refl e15 f16 f17 (Or.inr ⟨(own_w hw 29 rfl), rfl, hnm⟩) (own_w hw 1 rfl) (ty := (.array (.array .long))) (by decide) rfl rfl (g := (mkF m 40 #[.val (.ref o1), .val (.long q2), .second, .val (.long q3), .second, .val (.int p4), .val (.int ((((p4 - (1 : Int32)).toUInt32 >>> ((12 : Int32) &&& 31).toUInt32).toInt32) + (1 : Int32))), .unset] [(.ref b15), (.ref o1)])) rfl rfl (hb hby d0_40)
  have N18 := Fr.snoc X18 N13 g_o1
  have Fw18 := f16.same W18
  have M18 : h0.size ≤ h18.size := Nat.le_trans M15 (Nat.le_of_eq W18.size.symm)
  have O18 := Old.wr O15 W18 g_o1
  obtain ⟨T19, X19, e19, st19⟩ := getF X18 hx hZ hown (host := "") (Or.inl (own_w hw 28 rfl)) Via.refl e18 Fw18 (g := (mkF m 54 #[.val (.ref o1), .val (.long q2), .second, .val (.long q3), .second, .val (.int p4), .val (.int ((((p4 - (1 : Int32)).toUInt32 >>> ((12 : Int32) &&& 31).toUInt32).toInt32) + (1 : Int32))), .val (.int (0 : Int32))] [(.ref o1)])) rfl rfl (hb hby d0_54)
  obtain ⟨_, _, ⟨T20, L20, c20, n20⟩, -, X20, ⟨Lc20, hQ20, l20, y20, z20⟩, st20⟩ := Jvm.LawKit.callS X19 hx (y := yn2) hown (mvT hZ (own_w hw 30 rfl)) (mvT hZ (own_w hw 31 rfl)) (mvT hZ (own_w hw 32 rfl)) (mvT hZ (own_w hw 33 rfl)) (by decide) (backOf (W := 3) (rm3 l Z a0 hw [] ((p4 - (0 : Int32))) h18 n0 O18 (by have q0 := own_sub (x := p4) (k := (0 : Int32)) (n := 0) (lo := 3) (hi := 4096) (by decide) (by have q0 := bd_p4; omega) (by decide) (by decide); omega)) hZ (own_w hw 33 rfl) (own_w hw 32 rfl) (by decide) (by decide)) (g := (mkF m 71 #[.val (.ref o1), .val (.long q2), .second, .val (.long q3), .second, .val (.int p4), .val (.int ((((p4 - (1 : Int32)).toUInt32 >>> ((12 : Int32) &&& 31).toUInt32).toInt32) + (1 : Int32))), .val (.int (0 : Int32))] [(.int (p4 - (0 : Int32))), (.int (4096 : Int32)), (.int (2 : Int32)), (.int (0 : Int32)), (.ref b15)])) rfl (by rw [hml]; rfl) (argsL := [(.int (4096 : Int32)), (.int (p4 - (0 : Int32)))]) (rest := [(.int (2 : Int32)), (.int (0 : Int32)), (.ref b15)]) (lenOf pd1 rfl) rfl (by show 2 * 0 + _ ≤ _; exact Nat.le_of_eq rfl) (hb hby d0_71) (fun _ _ => ⟨rfl, e19, (by decide : 1 + 0 ≤ _), (by decide : 1 + 0 ≤ _)⟩)
  dsimp only [Pt.U, Pt.locs, Pt.cells, Pt.slots] at X20 l20 y20 z20 st20 hQ20
  subst l20 y20 z20
  have X20 : Stand p l e ({ frames := 3, cells := 2, slots := 8193, locals := 36 } : Room) s m #[(.ref o1), (.long q2), (.long q3), (.int p4)] below meth c T20 _ 1 1 := X20
  obtain ⟨z21, bz21, rfl, Nq22, e23⟩ := hQ20
  have N20 := Fr.app N18 Nq22
  have nn24 : ¬ (((2 : Int32) * z21) < (0 : Int32)) := own_gnlt1 (n := 0) (k := (0 : Int32)) (by decide) (by have q0 := own_dbl (x := z21) (lo := 3) (hi := 4096) (by have q0 := bz21; omega) (by decide) (by decide); omega)
  obtain ⟨T25, h25, k25, X25, e25, E25, A25, EX25, st25⟩ := newPE X20 hx hZ (own_w hw 34 rfl) e23 (g := (mkF m 75 #[.val (.ref o1), .val (.long q2), .second, .val (.long q3), .second, .val (.int p4), .val (.int ((((p4 - (1 : Int32)).toUInt32 >>> ((12 : Int32) &&& 31).toUInt32).toInt32) + (1 : Int32))), .val (.int (0 : Int32))] [(.int ((2 : Int32) * z21)), (.int (0 : Int32)), (.ref b15)])) rfl (hb hby d0_75) rfl nn24 (cap := 8192) (by have q0 := own_dbl (x := z21) (lo := 3) (hi := 4096) (by have q0 := bz21; omega) (by decide) (by decide); simp only [Int32.toNatClampNeg]; omega) (by decide) (by decide) (by decide) (ad := "[J") (by decide)
  obtain ⟨b25, g25⟩ : ∃ z, z = h18.size := ⟨_, rfl⟩
  rw [← g25] at A25 EX25 st25
  have M25 : h0.size ≤ h25.size := Nat.le_trans M18 E25.1
  have O25 := Old.ext O18 E25
  have sz_b25 : h18.size ≤ b25 := Nat.le_of_eq g25.symm
  have g_b25 : n0 ≤ b25 := Nat.le_trans (own_oz O0) (Nat.le_trans M18 sz_b25)
  have V25_0 := Arv.new A25 nn24
  have V25 : Arv Z h25 b25 k25 .long ((2 : Int32) * z21) [(.long (0 : Int64)), (.long (0 : Int64)), (.long (0 : Int64)), (.long (0 : Int64)), (.long (0 : Int64)), (.long (0 : Int64))] (.long (0 : Int64)) := V25_0.pad (pad_rep [] (.long (0 : Int64)) 6)
  have lt26 : o1 < h13.size := (Nat.lt_of_lt_of_le (Nat.lt_of_lt_of_le (Nat.lt_of_lt_of_le P0.lt K3.1) (Nat.le_of_eq W10.size.symm)) (Nat.le_of_eq W13.size.symm))
  have ne27 : o1 ≠ b15 := Nat.ne_of_lt (Nat.lt_of_lt_of_le lt26 sz_b15)
  have f28 := ((V15.other W18 (Ne.symm ne27)).ext E25)
  obtain ⟨cl29, Ar29, qa29, Sa29, Na29, Ha29, Ga29⟩ := id (f28)
  have hin29 : ¬ ((0 : Int32) < 0 ∨ cl29.slots.size ≤ ((0 : Int32)).toNatClampNeg) := inb_of Sa29 ⟨by decide, by decide⟩
  obtain ⟨T30, h30, X30, e30, W30, st30⟩ := stR X25 hx hZ e25 Ar29 (j := (0 : Int32)) hin29 rfl (Sto.ofVA Ar29 qa29 OV15 (Ins.self EX25)) (g := (mkF m 77 #[.val (.ref o1), .val (.long q2), .second, .val (.long q3), .second, .val (.int p4), .val (.int ((((p4 - (1 : Int32)).toUInt32 >>> ((12 : Int32) &&& 31).toUInt32).toInt32) + (1 : Int32))), .val (.int (0 : Int32))] [(.ref b25), (.int (0 : Int32)), (.ref b15)])) rfl rfl (hb hby d0_77)
  have V30 : Arv Z h30 b15 k15 (.array .long) (1 : Int32) [(.ref b25)] .null := Arv.set Ar29 qa29 Sa29 Na29 Ha29 Ga29 rfl W30 0 rfl (Nat.le_of_ble_eq_true rfl)
  have N30 := Fr.snoc X30 N20 g_b15
  have M30 : h0.size ≤ h30.size := Nat.le_trans M25 (Nat.le_of_eq W30.size.symm)
  have O30 := Old.wr O25 W30 g_b15
  obtain ⟨fs, hr, hrun, hended, hW, hsame⟩ := X30.leave (v := none) (fun _ => rfl)
  have KL : Keep h0 h30 [o1] := ((((((((Keep.refl h0 [o1]).trans K3 (allS (Or.inl (List.mem_of_getElem? (i := 0) rfl)) all0)).wr W10 (Or.inl (List.mem_of_getElem? (i := 0) rfl))).wr W13 (Or.inl (List.mem_of_getElem? (i := 0) rfl))).ext E15).wr W18 (Or.inl (List.mem_of_getElem? (i := 0) rfl))).ext E25).wr W30 (Or.inr (Nat.le_trans M13 sz_b15)))
  have f31 := (((f17.wr W18).ext E25).wr W30)
  have f32 := (((((Fw10.other W13 (Or.inr (slot_ne (Or.inr (own_w hw 23 rfl)) (Or.inr (own_w hw 25 rfl)) (by decide) (t := .long) (t' := .long) (by decide) (by decide)))).ext E15).other W18 (Or.inr (slot_ne (Or.inr (own_w hw 23 rfl)) (Or.inr (own_w hw 29 rfl)) (by decide) (t := .long) (t' := (.array (.array .long))) (by decide) (by decide)))).ext E25).other W30 (Or.inl ne27))
  have f33 := ((((Fw13.ext E15).other W18 (Or.inr (slot_ne (Or.inr (own_w hw 25 rfl)) (Or.inr (own_w hw 29 rfl)) (by decide) (t := .long) (t' := (.array (.array .long))) (by decide) (by decide)))).ext E25).other W30 (Or.inl ne27))
  have f34 := ((((((f7.other W10 (Or.inr (slot_ne (Or.inl (own_w hw 42 rfl)) (Or.inr (own_w hw 23 rfl)) (by decide) (t := .int) (t' := .long) (by decide) (by decide)))).other W13 (Or.inr (slot_ne (Or.inl (own_w hw 42 rfl)) (Or.inr (own_w hw 25 rfl)) (by decide) (t := .int) (t' := .long) (by decide) (by decide)))).ext E15).other W18 (Or.inr (slot_ne (Or.inl (own_w hw 42 rfl)) (Or.inr (own_w hw 29 rfl)) (by decide) (t := .int) (t' := (.array (.array .long))) (by decide) (by decide)))).ext E25).other W30 (Or.inl ne27))
  have f35 := ((Fw18.ext E25).other W30 (Or.inl ne27))
  have f36 := ((((((f9.other W10 (Or.inr (slot_ne (Or.inl (own_w hw 21 rfl)) (Or.inr (own_w hw 23 rfl)) (by decide) (t := .int) (t' := .long) (by decide) (by decide)))).other W13 (Or.inr (slot_ne (Or.inl (own_w hw 21 rfl)) (Or.inr (own_w hw 25 rfl)) (by decide) (t := .int) (t' := .long) (by decide) (by decide)))).ext E15).other W18 (Or.inr (slot_ne (Or.inl (own_w hw 21 rfl)) (Or.inr (own_w hw 29 rfl)) (by decide) (t := .int) (t' := (.array (.array .long))) (by decide) (by decide)))).ext E25).other W30 (Or.inl ne27))
  have f37 := (((EX15.wr W18).ext E25).wr W30)
  have lt38 : b15 < h18.size := (Nat.lt_of_lt_of_le V15.lt (Nat.le_of_eq W18.size.symm))
  have ne39 : b15 ≠ b25 := Nat.ne_of_lt (Nat.lt_of_lt_of_le lt38 sz_b25)
  have f40 := (V25.other W30 (Ne.symm ne39))
  have f41 := (EX25.wr W30)
  refine ⟨_, _, pre0 _ ?_, hrun, hended, _, _, rfl, ?_, ⟨_, rfl⟩, hW, hsame.mono (by decide) (by decide)⟩
  ·
    show Steps p.tables e below (s₁.setTop (mkF m 0 #[.val (.ref o1), .val (.long q2), .second, .val (.long q3), .second, .val (.int p4), .unset, .unset] [])) _
    refine XS.aloadN X0.here hx rfl (hb hby d0_0) rfl rfl ?_
    refine st1.trans ?_
    refine XS.aloadN X1.here hx rfl (hb hby d0_4) rfl rfl ?_
    refine XS.lloadN X1.here hx rfl (hb hby d0_5) rfl ?_
    refine st10 _ ?_
    refine XS.aloadN X10.here hx rfl (hb hby d0_9) rfl rfl ?_
    refine XS.lloadN X10.here hx rfl (hb hby d0_10) rfl ?_
    refine st13 _ ?_
    refine XS.iload X13.here hx rfl (hb hby d0_14) rfl ?_
    refine XS.ifYes X13.here hx rfl (pc0 := 16) (pc' := 23) rfl (hb hby d0_16) rfl ((if0 _ _).trans (feq (own_gneq (n := 0) (k := (0 : Int32)) (by decide) (by have q0 := bd_p4; omega))).2) (by decide) (by decide) ?_
    refine XS.iload X13.here hx rfl (hb hby d0_23) rfl ?_
    refine XS.iconst X13.here hx rfl (hb hby d0_25) ?_
    refine XS.isub X13.here hx rfl (hb hby d0_26) rfl ?_
    refine XS.bipush X13.here hx rfl (hb hby d0_27) ?_
    refine XS.iushr X13.here hx rfl (hb hby d0_29) rfl ?_
    refine XS.iconst X13.here hx rfl (hb hby d0_30) ?_
    refine XS.iadd X13.here hx rfl (hb hby d0_31) rfl ?_
    refine XS.istore X13.here hx rfl (hb hby d0_32) rfl (l' := #[.val (.ref o1), .val (.long q2), .second, .val (.long q3), .second, .val (.int p4), .val (.int ((((p4 - (1 : Int32)).toUInt32 >>> ((12 : Int32) &&& 31).toUInt32).toInt32) + (1 : Int32))), .unset]) rfl ?_
    refine XS.aloadN X13.here hx rfl (hb hby d0_34) rfl rfl ?_
    refine XS.iload X13.here hx rfl (hb hby d0_35) rfl ?_
    refine st15 _ ?_
    refine st18 _ ?_
    refine XS.iconst X18.here hx rfl (hb hby d0_43) ?_
    refine XS.istore X18.here hx rfl (hb hby d0_44) rfl (l' := #[.val (.ref o1), .val (.long q2), .second, .val (.long q3), .second, .val (.int p4), .val (.int ((((p4 - (1 : Int32)).toUInt32 >>> ((12 : Int32) &&& 31).toUInt32).toInt32) + (1 : Int32))), .val (.int (0 : Int32))]) rfl ?_
    refine XS.iload X18.here hx rfl (hb hby d0_46) rfl ?_
    refine XS.iload X18.here hx rfl (hb hby d0_48) rfl ?_
    refine XS.icmpNo X18.here hx rfl (hb hby d0_50) rfl (tlt (by rw [hq14]; first | done | decide : (0 : Int32) < ((((p4 - (1 : Int32)).toUInt32 >>> ((12 : Int32) &&& 31).toUInt32).toInt32) + (1 : Int32)))).2.1 ?_
    refine XS.aloadN X18.here hx rfl (hb hby d0_53) rfl rfl ?_
    refine st19 _ ?_
    refine XS.iload X19.here hx rfl (hb hby d0_57) rfl ?_
    refine XS.iconst X19.here hx rfl (hb hby d0_59) ?_
    refine XS.sipush X19.here hx rfl (hb hby d0_60) ?_
    refine XS.iload X19.here hx rfl (hb hby d0_63) rfl ?_
    refine XS.iload X19.here hx rfl (hb hby d0_65) rfl ?_
    refine XS.bipush X19.here hx rfl (hb hby d0_67) ?_
    refine XS.ishl X19.here hx rfl (hb hby d0_69) rfl ?_
    refine XS.isub X19.here hx rfl (hb hby d0_70) rfl ?_
    refine st20 _ ?_
    refine XS.imul X20.here hx rfl (hb hby d0_74) rfl ?_
    refine st25 _ ?_
    show Steps p.tables e below (T25.setTop (mkF m 77 #[.val (.ref o1), .val (.long q2), .second, .val (.long q3), .second, .val (.int p4), .val (.int ((((p4 - (1 : Int32)).toUInt32 >>> ((12 : Int32) &&& 31).toUInt32).toInt32) + (1 : Int32))), .val (.int (0 : Int32))] [(.ref b25), (.int (0 : Int32)), (.ref b15)])) _
    refine st30 _ ?_
    refine XS.iinc X30.here hx rfl (hb hby d0_78) rfl (l' := #[.val (.ref o1), .val (.long q2), .second, .val (.long q3), .second, .val (.int p4), .val (.int ((((p4 - (1 : Int32)).toUInt32 >>> ((12 : Int32) &&& 31).toUInt32).toInt32) + (1 : Int32))), .val (.int (1 : Int32))]) rfl ?_
    refine XS.goto X30.here hx rfl (pc0 := 81) (pc' := 46) rfl (hb hby d0_81) (by decide) (by decide) ?_
    refine XS.iload X30.here hx rfl (hb hby d0_46) rfl ?_
    refine XS.iload X30.here hx rfl (hb hby d0_48) rfl ?_
    refine XS.icmpYes X30.here hx rfl (pc0 := 50) (pc' := 84) rfl (hb hby d0_50) rfl (flt (by rw [hq14]; first | done | decide : ¬ ((1 : Int32) < ((((p4 - (1 : Int32)).toUInt32 >>> ((12 : Int32) &&& 31).toUInt32).toInt32) + (1 : Int32))))).2.1 (by decide) (by decide) ?_
    show Steps p.tables e below (T30.setTop (mkF m 84 #[.val (.ref o1), .val (.long q2), .second, .val (.long q3), .second, .val (.int p4), .val (.int ((((p4 - (1 : Int32)).toUInt32 >>> ((12 : Int32) &&& 31).toUInt32).toInt32) + (1 : Int32))), .val (.int (1 : Int32))] [])) _
    exact X30.returnOut hx hret (hb hby d0_84) hr
  ·
    show Q4 Z o1 p4 q2 q3 h0 n0 _ T30.heap _
    rw [e30]
    exact ⟨z21, bz21, b15, b25, k15, k25, rfl, N30, KL, (Nat.le_trans M13 sz_b15), (Nat.le_trans M18 sz_b25), ne39, OV15, f31, f32, f33, f34, f35, f36, V30, f37, f40, f41⟩
theorem pd2 : parseMethodDescriptor "(JJI)V" = some ⟨[.long, .long, .int], none⟩ := by decide +kernel
theorem d4_0 : decode prog_7_method_2_code 0 = .ok (.aload_n 0, 1) := by decide +kernel
theorem d4_1 : decode prog_7_method_2_code 1 = .ok (.getfield 18, 3) := by decide +kernel
theorem d4_4 : decode prog_7_method_2_code 4 = .ok (.aload_n 0, 1) := by decide +kernel
theorem d4_5 : decode prog_7_method_2_code 5 = .ok (.getfield 28, 3) := by decide +kernel
theorem d4_8 : decode prog_7_method_2_code 8 = .ok (.bipush 12, 2) := by decide +kernel
theorem d4_10 : decode prog_7_method_2_code 10 = .ok (.iushr, 1) := by decide +kernel
theorem d4_11 : decode prog_7_method_2_code 11 = .ok (.aaload, 1) := by decide +kernel
theorem d4_12 : decode prog_7_method_2_code 12 = .ok (.astore 5, 2) := by decide +kernel
theorem d4_14 : decode prog_7_method_2_code 14 = .ok (.iconst 2, 1) := by decide +kernel
theorem d4_15 : decode prog_7_method_2_code 15 = .ok (.aload_n 0, 1) := by decide +kernel
theorem d4_16 : decode prog_7_method_2_code 16 = .ok (.getfield 28, 3) := by decide +kernel
theorem d4_19 : decode prog_7_method_2_code 19 = .ok (.sipush 4095, 3) := by decide +kernel
theorem d4_22 : decode prog_7_method_2_code 22 = .ok (.iand, 1) := by decide +kernel
theorem d4_23 : decode prog_7_method_2_code 23 = .ok (.imul, 1) := by decide +kernel
theorem d4_24 : decode prog_7_method_2_code 24 = .ok (.istore 6, 2) := by decide +kernel
theorem d4_26 : decode prog_7_method_2_code 26 = .ok (.aload 5, 2) := by decide +kernel
theorem d4_28 : decode prog_7_method_2_code 28 = .ok (.iload 6, 2) := by decide +kernel
theorem d4_30 : decode prog_7_method_2_code 30 = .ok (.lload_n 1, 1) := by decide +kernel
theorem d4_31 : decode prog_7_method_2_code 31 = .ok (.lastore, 1) := by decide +kernel
theorem d4_32 : decode prog_7_method_2_code 32 = .ok (.aload 5, 2) := by decide +kernel
theorem d4_34 : decode prog_7_method_2_code 34 = .ok (.iload 6, 2) := by decide +kernel
theorem d4_36 : decode prog_7_method_2_code 36 = .ok (.iconst 1, 1) := by decide +kernel
theorem d4_37 : decode prog_7_method_2_code 37 = .ok (.iadd, 1) := by decide +kernel
theorem d4_38 : decode prog_7_method_2_code 38 = .ok (.lload_n 3, 1) := by decide +kernel
theorem d4_39 : decode prog_7_method_2_code 39 = .ok (.lastore, 1) := by decide +kernel
theorem d4_40 : decode prog_7_method_2_code 40 = .ok (.aload_n 0, 1) := by decide +kernel
theorem d4_41 : decode prog_7_method_2_code 41 = .ok (.dup, 1) := by decide +kernel
theorem d4_42 : decode prog_7_method_2_code 42 = .ok (.getfield 28, 3) := by decide +kernel
theorem d4_45 : decode prog_7_method_2_code 45 = .ok (.iconst 1, 1) := by decide +kernel
theorem d4_46 : decode prog_7_method_2_code 46 = .ok (.iadd, 1) := by decide +kernel
theorem d4_47 : decode prog_7_method_2_code 47 = .ok (.putfield 28, 3) := by decide +kernel
theorem d4_50 : decode prog_7_method_2_code 50 = .ok (.return_, 1) := by decide +kernel
theorem ef5 (m : MethodId) (x0 : Addr) (x1 : Int64) (x2 : Int64) : entryFrame m #[(.ref x0), (.long x1), (.long x2)] 7 = mkF m 0 #[.val (.ref x0), .val (.long x1), .second, .val (.long x2), .second, .unset, .unset] [] := by first | (simp [entryFrame, mkF, argsToLocals, Value.category]; done) | rfl
def Q5 (Z : State) (o1 : Addr) (o6 : Addr) (o8 : Addr) (kc7 : ClassId) (p10 : Int32) (q4 : Int64) (q5 : Int64) (kc9 : ClassId) (q2 : Int64) (q3 : Int64) (h0 : Heap) (n0 : Nat) (v : Option Value) (h : Heap) (L : List Loc) : Prop :=
  (v = none ∧ Fr n0 L ∧ Keep h0 h [o8, o1] ∧ (Arv Z h o8 kc9 .long p10 [(.long q2), (.long q3), (.long (0 : Int64)), (.long (0 : Int64)), (.long (0 : Int64)), (.long (0 : Int64))] (.long (0 : Int64))) ∧ (Exa Z h o8 "[J") ∧ (Exa Z h o1 "com/example/driftless/driftless/DeleteOperations") ∧ (Fld Z h o1 "com/example/driftless/driftless/DeleteOperations" "firstCounter" "J" (.long q4)) ∧ (Fld Z h o1 "com/example/driftless/driftless/DeleteOperations" "replica" "J" (.long q5)) ∧ (Fld Z h o1 "com/example/driftless/driftless/DeleteOperations" "size" "I" (.int (1 : Int32))) ∧ (Fld Z h o1 "com/example/driftless/driftless/DeleteOperations" "targets" "[[J" (.ref o6)) ∧ (Fld Z h o1 "java/util/AbstractList" "modCount" "I" (.int (0 : Int32))))
set_option maxRecDepth 65536 in
set_option maxHeartbeats 40000000 in
theorem rm5 (l : Launch) (Z : State) (a0 : Array Value) (hw : ∀ d ∈ tables_1, d.before a0 Z = true) (ws : List Jvm.Cond) (o1 : Addr) (o6 : Addr) (o8 : Addr) (kc7 : ClassId) (p10 : Int32) (q4 : Int64) (q5 : Int64) (kc9 : ClassId) (q2 : Int64) (q3 : Int64) (h0 : Heap) (n0 : Nat) (O0 : Old Z n0 h0) (g_o1 : n0 ≤ o1) (g_o6 : n0 ≤ o6) (g_o8 : n0 ≤ o8) (Ov_kc7 : OvrA Z kc7 .long "[J") (bd_p10 : 6 ≤ p10.toInt ∧ p10.toInt ≤ 2147483647) (P0 : Exa Z h0 o1 "com/example/driftless/driftless/DeleteOperations") (P1 : Fld Z h0 o1 "com/example/driftless/driftless/DeleteOperations" "firstCounter" "J" (.long q4)) (P2 : Fld Z h0 o1 "com/example/driftless/driftless/DeleteOperations" "replica" "J" (.long q5)) (P3 : Fld Z h0 o1 "com/example/driftless/driftless/DeleteOperations" "size" "I" (.int (0 : Int32))) (P4 : Fld Z h0 o1 "com/example/driftless/driftless/DeleteOperations" "targets" "[[J" (.ref o6)) (P5 : Fld Z h0 o1 "java/util/AbstractList" "modCount" "I" (.int (0 : Int32))) (P6 : Arv Z h0 o6 kc7 (.array .long) (1 : Int32) [(.ref o8)] .null) (P8 : Arv Z h0 o8 kc9 .long p10 [(.long (0 : Int64)), (.long (0 : Int64)), (.long (0 : Int64)), (.long (0 : Int64)), (.long (0 : Int64)), (.long (0 : Int64))] (.long (0 : Int64))) (P9 : Exa Z h0 o8 "[J") :
    MetFree l yn4 (head1 (Jvm.Cond.code yn4 prog_7_method_2_code 7 none :: ws) ({ frames := 0, cells := 0, slots := 0, locals := 0 } : Room)) (fun a U => a = #[(.ref o1), (.long q2), (.long q3)] ∧ Z.Warmed39 U.vm ∧ U.heap = h0) (fun _ _ _ _ _ => True) (fun _ U o U' => ∃ v L, o = .returned v ∧ Q5 Z o1 o6 o8 kc7 p10 q4 q5 kc9 q2 q3 h0 n0 v U'.heap L ∧ FrameEnd U o U' L ({ frames := 0, cells := 0, slots := 0, locals := 0 } : Room).cells ({ frames := 0, cells := 0, slots := 0, locals := 0 } : Room).slots) := by
  refine MetFree.of_bodySF (plainFor_of_name pn2) hisR ?_
  intro p e s m args below meth c s₁ Bd hml0 hP hK
  obtain ⟨rfl, hZ, hh⟩ := hP
  have hx := Bd.exec
  have hby := Bd.bytes
  have hml : c.maxLocals = 7 := hml0
  have hown : s.vm.findClass "com/example/driftless/driftless/DeleteOperations" = some m.cls := findClass_of_methodNamed Bd.named
  have hnm := (name_of_methodNamed Bd.named Bd.method).1
  have hret := Bd.returns
  have hlk : meth.locks = false := BodyLoose.notSynchronized Bd
  have X0 : Stand p l e ({ frames := 0, cells := 0, slots := 0, locals := 0 } : Room) s m #[(.ref o1), (.long q2), (.long q3)] below meth c s₁ [] 0 0 := Stand.of_body Bd
  have e0 : s₁.heap = h0 := by rw [← hh, Bd.state]; rfl
  have N0 := Fr.nil n0
  have pre0 : ∀ t, Steps p.tables e below (s₁.setTop (mkF m 0 #[.val (.ref o1), .val (.long q2), .second, .val (.long q3), .second, .unset, .unset] [])) t → Steps p.tables e below (s₁.setTop (entryFrame m #[(.ref o1), (.long q2), (.long q3)] 7)) t := fun t k => castTop (ef5 m o1 q2 q3) k
  obtain ⟨T1, X1, e1, st1⟩ := getF X0 hx hZ hown (host := "") (Or.inl (own_w hw 28 rfl)) Via.refl e0 P4 (g := (mkF m 1 #[.val (.ref o1), .val (.long q2), .second, .val (.long q3), .second, .unset, .unset] [(.ref o1)])) rfl rfl (hb hby d4_1)
  obtain ⟨T2, X2, e2, st2⟩ := getF X1 hx hZ hown (host := "") (Or.inl (own_w hw 41 rfl)) Via.refl e1 P3 (g := (mkF m 5 #[.val (.ref o1), .val (.long q2), .second, .val (.long q3), .second, .unset, .unset] [(.ref o1), (.ref o6)])) rfl rfl (hb hby d4_5)
  obtain ⟨cl3, Ar3, qa3, Sa3, Na3, Ha3, Ga3⟩ := id (P6)
  have hin3 : ¬ ((0 : Int32) < 0 ∨ cl3.slots.size ≤ ((0 : Int32)).toNatClampNeg) := inb_of Sa3 ⟨by decide, by decide⟩
  have hat3 : cl3.slots[((0 : Int32)).toNatClampNeg]? = some (.ref o8) := Has.at Ha3 hin3 rfl
  obtain ⟨T4, X4, e4, st4⟩ := getF X2 hx hZ hown (host := "") (Or.inl (own_w hw 41 rfl)) Via.refl e2 P3 (g := (mkF m 16 #[.val (.ref o1), .val (.long q2), .second, .val (.long q3), .second, .val (.ref o8), .unset] [(.ref o1), (.int (2 : Int32))])) rfl rfl (hb hby d4_16)
  obtain ⟨cl5, Ar5, qa5, Sa5, Na5, Ha5, Ga5⟩ := id (P8)
  have hin5 : ¬ ((0 : Int32) < 0 ∨ cl5.slots.size ≤ ((0 : Int32)).toNatClampNeg) := inb_of Sa5 ⟨(by decide : ¬ ((0 : Int32) < (0 : Int32))), (own_glt2 (n := 0) (k := (0 : Int32)) (by decide) (by have q0 := bd_p10; omega))⟩
  obtain ⟨T6, h6, X6, e6, W6, st6⟩ := stJ X4 hx hZ e4 Ar5 (j := (0 : Int32)) hin5 (g := (mkF m 31 #[.val (.ref o1), .val (.long q2), .second, .val (.long q3), .second, .val (.ref o8), .val (.int (0 : Int32))] [(.long q2), (.int (0 : Int32)), (.ref o8)])) rfl rfl (hb hby d4_31)
  have V6 : Arv Z h6 o8 kc9 .long p10 [(.long q2), (.long (0 : Int64)), (.long (0 : Int64)), (.long (0 : Int64)), (.long (0 : Int64)), (.long (0 : Int64))] (.long (0 : Int64)) := Arv.set Ar5 qa5 Sa5 Na5 Ha5 Ga5 rfl W6 0 rfl (Nat.le_of_ble_eq_true rfl)
  have N6 := Fr.snoc X6 N0 g_o8
  have M6 : h0.size ≤ h6.size := Nat.le_trans (Nat.le_refl _) (Nat.le_of_eq W6.size.symm)
  have O6 := Old.wr O0 W6 g_o8
  obtain ⟨cl7, Ar7, qa7, Sa7, Na7, Ha7, Ga7⟩ := id (V6)
  have hin7 : ¬ ((1 : Int32) < 0 ∨ cl7.slots.size ≤ ((1 : Int32)).toNatClampNeg) := inb_of Sa7 ⟨(by decide : ¬ ((1 : Int32) < (0 : Int32))), (own_glt2 (n := 1) (k := (1 : Int32)) (by decide) (by have q0 := bd_p10; omega))⟩
  obtain ⟨T8, h8, X8, e8, W8, st8⟩ := stJ X6 hx hZ e6 Ar7 (j := (1 : Int32)) hin7 (g := (mkF m 39 #[.val (.ref o1), .val (.long q2), .second, .val (.long q3), .second, .val (.ref o8), .val (.int (0 : Int32))] [(.long q3), (.int (1 : Int32)), (.ref o8)])) rfl rfl (hb hby d4_39)
  have V8 : Arv Z h8 o8 kc9 .long p10 [(.long q2), (.long q3), (.long (0 : Int64)), (.long (0 : Int64)), (.long (0 : Int64)), (.long (0 : Int64))] (.long (0 : Int64)) := Arv.set Ar7 qa7 Sa7 Na7 Ha7 Ga7 rfl W8 1 rfl (Nat.le_of_ble_eq_true rfl)
  have N8 := Fr.snoc X8 N6 g_o8
  have M8 : h0.size ≤ h8.size := Nat.le_trans M6 (Nat.le_of_eq W8.size.symm)
  have O8 := Old.wr O6 W8 g_o8
  have f9 := ((P0.wr W6).wr W8)
  have f10 := ((P9.wr W6).wr W8)
  have ne11 : o1 ≠ o8 := ne_exa f9 f10 (by decide)
  have f12 := ((P3.other W6 (Or.inl ne11)).other W8 (Or.inl ne11))
  obtain ⟨T13, X13, e13, st13⟩ := getF X8 hx hZ hown (host := "") (Or.inl (own_w hw 41 rfl)) Via.refl e8 f12 (g := (mkF m 42 #[.val (.ref o1), .val (.long q2), .second, .val (.long q3), .second, .val (.ref o8), .val (.int (0 : Int32))] [(.ref o1), (.ref o1)])) rfl rfl (hb hby d4_42)
  obtain ⟨T14, h14, X14, e14, W14, st14⟩ := putF X13 hx hZ hown (host := "") (Or.inl (own_w hw 41 rfl)) Via.refl e13 f12 f9 (Or.inl (own_w hw 42 rfl)) (own_w hw 1 rfl) (ty := .int) (by decide) rfl rfl (g := (mkF m 47 #[.val (.ref o1), .val (.long q2), .second, .val (.long q3), .second, .val (.ref o8), .val (.int (0 : Int32))] [(.int (1 : Int32)), (.ref o1)])) rfl rfl (hb hby d4_47)
  have N14 := Fr.snoc X14 N8 g_o1
  have Fw14 := f12.same W14
  have M14 : h0.size ≤ h14.size := Nat.le_trans M8 (Nat.le_of_eq W14.size.symm)
  have O14 := Old.wr O8 W14 g_o1
  obtain ⟨fs, hr, hrun, hended, hW, hsame⟩ := X14.leave (v := none) (fun _ => rfl)
  have KL : Keep h0 h14 [o8, o1] := ((((Keep.refl h0 [o8, o1]).wr W6 (Or.inl (List.mem_of_getElem? (i := 0) rfl))).wr W8 (Or.inl (List.mem_of_getElem? (i := 0) rfl))).wr W14 (Or.inl (List.mem_of_getElem? (i := 1) rfl)))
  have f15 := (V8.other W14 (Ne.symm ne11))
  have f16 := (f10.wr W14)
  have f17 := (f9.wr W14)
  have f18 := (((P1.other W6 (Or.inl ne11)).other W8 (Or.inl ne11)).other W14 (Or.inr (slot_ne (Or.inr (own_w hw 23 rfl)) (Or.inl (own_w hw 42 rfl)) (by decide) (t := .long) (t' := .int) (by decide) (by decide))))
  have f19 := (((P2.other W6 (Or.inl ne11)).other W8 (Or.inl ne11)).other W14 (Or.inr (slot_ne (Or.inr (own_w hw 25 rfl)) (Or.inl (own_w hw 42 rfl)) (by decide) (t := .long) (t' := .int) (by decide) (by decide))))
  have f20 := (((P4.other W6 (Or.inl ne11)).other W8 (Or.inl ne11)).other W14 (Or.inr (slot_ne (Or.inr (own_w hw 29 rfl)) (Or.inl (own_w hw 42 rfl)) (by decide) (t := (.array (.array .long))) (t' := .int) (by decide) (by decide))))
  have f21 := (((P5.other W6 (Or.inl ne11)).other W8 (Or.inl ne11)).other W14 (Or.inr (slot_ne (Or.inl (own_w hw 21 rfl)) (Or.inl (own_w hw 42 rfl)) (by decide) (t := .int) (t' := .int) (by decide) (by decide))))
  refine ⟨_, _, pre0 _ ?_, hrun, hended, _, _, rfl, ?_, ⟨_, rfl⟩, hW, hsame.mono (by decide) (by decide)⟩
  ·
    show Steps p.tables e below (s₁.setTop (mkF m 0 #[.val (.ref o1), .val (.long q2), .second, .val (.long q3), .second, .unset, .unset] [])) _
    refine XS.aloadN X0.here hx rfl (hb hby d4_0) rfl rfl ?_
    refine st1 _ ?_
    refine XS.aloadN X1.here hx rfl (hb hby d4_4) rfl rfl ?_
    refine st2 _ ?_
    refine XS.bipush X2.here hx rfl (hb hby d4_8) ?_
    refine XS.iushr X2.here hx rfl (hb hby d4_10) rfl ?_
    refine X2.aaload hx (j := (0 : Int32)) (v := (.ref o8)) (by rw [e2]; exact Ar3.1) (State.isArrayOf_alike hZ.alike Ar3.2.1) rfl Ar3.2.2 hin3 hat3 (g := (mkF m 11 #[.val (.ref o1), .val (.long q2), .second, .val (.long q3), .second, .unset, .unset] [(.int (0 : Int32)), (.ref o6)])) rfl rfl (hb hby d4_11) _ ?_
    refine XS.astore X2.here hx rfl (hb hby d4_12) rfl rfl (l' := #[.val (.ref o1), .val (.long q2), .second, .val (.long q3), .second, .val (.ref o8), .unset]) rfl ?_
    refine XS.iconst X2.here hx rfl (hb hby d4_14) ?_
    refine XS.aloadN X2.here hx rfl (hb hby d4_15) rfl rfl ?_
    refine st4 _ ?_
    refine XS.sipush X4.here hx rfl (hb hby d4_19) ?_
    refine XS.iand X4.here hx rfl (hb hby d4_22) rfl ?_
    refine XS.imul X4.here hx rfl (hb hby d4_23) rfl ?_
    refine XS.istore X4.here hx rfl (hb hby d4_24) rfl (l' := #[.val (.ref o1), .val (.long q2), .second, .val (.long q3), .second, .val (.ref o8), .val (.int (0 : Int32))]) rfl ?_
    refine XS.aload X4.here hx rfl (hb hby d4_26) rfl rfl ?_
    refine XS.iload X4.here hx rfl (hb hby d4_28) rfl ?_
    refine XS.lloadN X4.here hx rfl (hb hby d4_30) rfl ?_
    refine st6 _ ?_
    refine XS.aload X6.here hx rfl (hb hby d4_32) rfl rfl ?_
    refine XS.iload X6.here hx rfl (hb hby d4_34) rfl ?_
    refine XS.iconst X6.here hx rfl (hb hby d4_36) ?_
    refine XS.iadd X6.here hx rfl (hb hby d4_37) rfl ?_
    refine XS.lloadN X6.here hx rfl (hb hby d4_38) rfl ?_
    refine st8 _ ?_
    refine XS.aloadN X8.here hx rfl (hb hby d4_40) rfl rfl ?_
    refine XS.dup X8.here hx rfl (hb hby d4_41) rfl rfl ?_
    refine st13 _ ?_
    refine XS.iconst X13.here hx rfl (hb hby d4_45) ?_
    refine XS.iadd X13.here hx rfl (hb hby d4_46) rfl ?_
    refine st14 _ ?_
    show Steps p.tables e below (T14.setTop (mkF m 50 #[.val (.ref o1), .val (.long q2), .second, .val (.long q3), .second, .val (.ref o8), .val (.int (0 : Int32))] [])) _
    exact X14.returnOut hx hret (hb hby d4_50) hr
  ·
    show Q5 Z o1 o6 o8 kc7 p10 q4 q5 kc9 q2 q3 h0 n0 _ T14.heap _
    rw [e14]
    exact ⟨rfl, N14, KL, f15, f16, f17, f18, f19, Fw14, f20, f21⟩
theorem pd3 : parseMethodDescriptor "(JJ)V" = some ⟨[.long, .long], none⟩ := by decide +kernel
theorem ef6 (m : MethodId) (x0 : Addr) (x1 : Int64) (x2 : Int64) : entryFrame m #[(.ref x0), (.long x1), (.long x2)] 7 = mkF m 0 #[.val (.ref x0), .val (.long x1), .second, .val (.long x2), .second, .unset, .unset] [] := by first | (simp [entryFrame, mkF, argsToLocals, Value.category]; done) | rfl
def Q6 (Z : State) (o1 : Addr) (o6 : Addr) (o8 : Addr) (kc7 : ClassId) (p10 : Int32) (q4 : Int64) (q5 : Int64) (kc9 : ClassId) (q11 : Int64) (q12 : Int64) (q2 : Int64) (q3 : Int64) (h0 : Heap) (n0 : Nat) (v : Option Value) (h : Heap) (L : List Loc) : Prop :=
  (v = none ∧ Fr n0 L ∧ Keep h0 h [o8, o1] ∧ (Arv Z h o8 kc9 .long p10 [(.long q11), (.long q12), (.long q2), (.long q3), (.long (0 : Int64)), (.long (0 : Int64))] (.long (0 : Int64))) ∧ (Exa Z h o8 "[J") ∧ (Exa Z h o1 "com/example/driftless/driftless/DeleteOperations") ∧ (Fld Z h o1 "com/example/driftless/driftless/DeleteOperations" "firstCounter" "J" (.long q4)) ∧ (Fld Z h o1 "com/example/driftless/driftless/DeleteOperations" "replica" "J" (.long q5)) ∧ (Fld Z h o1 "com/example/driftless/driftless/DeleteOperations" "size" "I" (.int (2 : Int32))) ∧ (Fld Z h o1 "com/example/driftless/driftless/DeleteOperations" "targets" "[[J" (.ref o6)) ∧ (Fld Z h o1 "java/util/AbstractList" "modCount" "I" (.int (0 : Int32))))
set_option maxRecDepth 65536 in
set_option maxHeartbeats 40000000 in
theorem rm6 (l : Launch) (Z : State) (a0 : Array Value) (hw : ∀ d ∈ tables_1, d.before a0 Z = true) (ws : List Jvm.Cond) (o1 : Addr) (o6 : Addr) (o8 : Addr) (kc7 : ClassId) (p10 : Int32) (q4 : Int64) (q5 : Int64) (kc9 : ClassId) (q11 : Int64) (q12 : Int64) (q2 : Int64) (q3 : Int64) (h0 : Heap) (n0 : Nat) (O0 : Old Z n0 h0) (g_o1 : n0 ≤ o1) (g_o6 : n0 ≤ o6) (g_o8 : n0 ≤ o8) (Ov_kc7 : OvrA Z kc7 .long "[J") (bd_p10 : 6 ≤ p10.toInt ∧ p10.toInt ≤ 2147483647) (P0 : Exa Z h0 o1 "com/example/driftless/driftless/DeleteOperations") (P1 : Fld Z h0 o1 "com/example/driftless/driftless/DeleteOperations" "firstCounter" "J" (.long q4)) (P2 : Fld Z h0 o1 "com/example/driftless/driftless/DeleteOperations" "replica" "J" (.long q5)) (P3 : Fld Z h0 o1 "com/example/driftless/driftless/DeleteOperations" "size" "I" (.int (1 : Int32))) (P4 : Fld Z h0 o1 "com/example/driftless/driftless/DeleteOperations" "targets" "[[J" (.ref o6)) (P5 : Fld Z h0 o1 "java/util/AbstractList" "modCount" "I" (.int (0 : Int32))) (P6 : Arv Z h0 o6 kc7 (.array .long) (1 : Int32) [(.ref o8)] .null) (P8 : Arv Z h0 o8 kc9 .long p10 [(.long q11), (.long q12), (.long (0 : Int64)), (.long (0 : Int64)), (.long (0 : Int64)), (.long (0 : Int64))] (.long (0 : Int64))) (P9 : Exa Z h0 o8 "[J") :
    MetFree l yn4 (head1 (Jvm.Cond.code yn4 prog_7_method_2_code 7 none :: ws) ({ frames := 0, cells := 0, slots := 0, locals := 0 } : Room)) (fun a U => a = #[(.ref o1), (.long q2), (.long q3)] ∧ Z.Warmed39 U.vm ∧ U.heap = h0) (fun _ _ _ _ _ => True) (fun _ U o U' => ∃ v L, o = .returned v ∧ Q6 Z o1 o6 o8 kc7 p10 q4 q5 kc9 q11 q12 q2 q3 h0 n0 v U'.heap L ∧ FrameEnd U o U' L ({ frames := 0, cells := 0, slots := 0, locals := 0 } : Room).cells ({ frames := 0, cells := 0, slots := 0, locals := 0 } : Room).slots) := by
  refine MetFree.of_bodySF (plainFor_of_name pn2) hisR ?_
  intro p e s m args below meth c s₁ Bd hml0 hP hK
  obtain ⟨rfl, hZ, hh⟩ := hP
  have hx := Bd.exec
  have hby := Bd.bytes
  have hml : c.maxLocals = 7 := hml0
  have hown : s.vm.findClass "com/example/driftless/driftless/DeleteOperations" = some m.cls := findClass_of_methodNamed Bd.named
  have hnm := (name_of_methodNamed Bd.named Bd.method).1
  have hret := Bd.returns
  have hlk : meth.locks = false := BodyLoose.notSynchronized Bd
  have X0 : Stand p l e ({ frames := 0, cells := 0, slots := 0, locals := 0 } : Room) s m #[(.ref o1), (.long q2), (.long q3)] below meth c s₁ [] 0 0 := Stand.of_body Bd
  have e0 : s₁.heap = h0 := by rw [← hh, Bd.state]; rfl
  have N0 := Fr.nil n0
  have pre0 : ∀ t, Steps p.tables e below (s₁.setTop (mkF m 0 #[.val (.ref o1), .val (.long q2), .second, .val (.long q3), .second, .unset, .unset] [])) t → Steps p.tables e below (s₁.setTop (entryFrame m #[(.ref o1), (.long q2), (.long q3)] 7)) t := fun t k => castTop (ef6 m o1 q2 q3) k
  obtain ⟨T1, X1, e1, st1⟩ := getF X0 hx hZ hown (host := "") (Or.inl (own_w hw 28 rfl)) Via.refl e0 P4 (g := (mkF m 1 #[.val (.ref o1), .val (.long q2), .second, .val (.long q3), .second, .unset, .unset] [(.ref o1)])) rfl rfl (hb hby d4_1)
  obtain ⟨T2, X2, e2, st2⟩ := getF X1 hx hZ hown (host := "") (Or.inl (own_w hw 41 rfl)) Via.refl e1 P3 (g := (mkF m 5 #[.val (.ref o1), .val (.long q2), .second, .val (.long q3), .second, .unset, .unset] [(.ref o1), (.ref o6)])) rfl rfl (hb hby d4_5)
  obtain ⟨cl3, Ar3, qa3, Sa3, Na3, Ha3, Ga3⟩ := id (P6)
  have hin3 : ¬ ((0 : Int32) < 0 ∨ cl3.slots.size ≤ ((0 : Int32)).toNatClampNeg) := inb_of Sa3 ⟨by decide, by decide⟩
  have hat3 : cl3.slots[((0 : Int32)).toNatClampNeg]? = some (.ref o8) := Has.at Ha3 hin3 rfl
  obtain ⟨T4, X4, e4, st4⟩ := getF X2 hx hZ hown (host := "") (Or.inl (own_w hw 41 rfl)) Via.refl e2 P3 (g := (mkF m 16 #[.val (.ref o1), .val (.long q2), .second, .val (.long q3), .second, .val (.ref o8), .unset] [(.ref o1), (.int (2 : Int32))])) rfl rfl (hb hby d4_16)
  obtain ⟨cl5, Ar5, qa5, Sa5, Na5, Ha5, Ga5⟩ := id (P8)
  have hin5 : ¬ ((2 : Int32) < 0 ∨ cl5.slots.size ≤ ((2 : Int32)).toNatClampNeg) := inb_of Sa5 ⟨(by decide : ¬ ((2 : Int32) < (0 : Int32))), (own_glt2 (n := 2) (k := (2 : Int32)) (by decide) (by have q0 := bd_p10; omega))⟩
  obtain ⟨T6, h6, X6, e6, W6, st6⟩ := stJ X4 hx hZ e4 Ar5 (j := (2 : Int32)) hin5 (g := (mkF m 31 #[.val (.ref o1), .val (.long q2), .second, .val (.long q3), .second, .val (.ref o8), .val (.int (2 : Int32))] [(.long q2), (.int (2 : Int32)), (.ref o8)])) rfl rfl (hb hby d4_31)
  have V6 : Arv Z h6 o8 kc9 .long p10 [(.long q11), (.long q12), (.long q2), (.long (0 : Int64)), (.long (0 : Int64)), (.long (0 : Int64))] (.long (0 : Int64)) := Arv.set Ar5 qa5 Sa5 Na5 Ha5 Ga5 rfl W6 2 rfl (Nat.le_of_ble_eq_true rfl)
  have N6 := Fr.snoc X6 N0 g_o8
  have M6 : h0.size ≤ h6.size := Nat.le_trans (Nat.le_refl _) (Nat.le_of_eq W6.size.symm)
  have O6 := Old.wr O0 W6 g_o8
  obtain ⟨cl7, Ar7, qa7, Sa7, Na7, Ha7, Ga7⟩ := id (V6)
  have hin7 : ¬ ((3 : Int32) < 0 ∨ cl7.slots.size ≤ ((3 : Int32)).toNatClampNeg) := inb_of Sa7 ⟨(by decide : ¬ ((3 : Int32) < (0 : Int32))), (own_glt2 (n := 3) (k := (3 : Int32)) (by decide) (by have q0 := bd_p10; omega))⟩
  obtain ⟨T8, h8, X8, e8, W8, st8⟩ := stJ X6 hx hZ e6 Ar7 (j := (3 : Int32)) hin7 (g := (mkF m 39 #[.val (.ref o1), .val (.long q2), .second, .val (.long q3), .second, .val (.ref o8), .val (.int (2 : Int32))] [(.long q3), (.int (3 : Int32)), (.ref o8)])) rfl rfl (hb hby d4_39)
  have V8 : Arv Z h8 o8 kc9 .long p10 [(.long q11), (.long q12), (.long q2), (.long q3), (.long (0 : Int64)), (.long (0 : Int64))] (.long (0 : Int64)) := Arv.set Ar7 qa7 Sa7 Na7 Ha7 Ga7 rfl W8 3 rfl (Nat.le_of_ble_eq_true rfl)
  have N8 := Fr.snoc X8 N6 g_o8
  have M8 : h0.size ≤ h8.size := Nat.le_trans M6 (Nat.le_of_eq W8.size.symm)
  have O8 := Old.wr O6 W8 g_o8
  have f9 := ((P0.wr W6).wr W8)
  have f10 := ((P9.wr W6).wr W8)
  have ne11 : o1 ≠ o8 := ne_exa f9 f10 (by decide)
  have f12 := ((P3.other W6 (Or.inl ne11)).other W8 (Or.inl ne11))
  obtain ⟨T13, X13, e13, st13⟩ := getF X8 hx hZ hown (host := "") (Or.inl (own_w hw 41 rfl)) Via.refl e8 f12 (g := (mkF m 42 #[.val (.ref o1), .val (.long q2), .second, .val (.long q3), .second, .val (.ref o8), .val (.int (2 : Int32))] [(.ref o1), (.ref o1)])) rfl rfl (hb hby d4_42)
  obtain ⟨T14, h14, X14, e14, W14, st14⟩ := putF X13 hx hZ hown (host := "") (Or.inl (own_w hw 41 rfl)) Via.refl e13 f12 f9 (Or.inl (own_w hw 42 rfl)) (own_w hw 1 rfl) (ty := .int) (by decide) rfl rfl (g := (mkF m 47 #[.val (.ref o1), .val (.long q2), .second, .val (.long q3), .second, .val (.ref o8), .val (.int (2 : Int32))] [(.int (2 : Int32)), (.ref o1)])) rfl rfl (hb hby d4_47)
  have N14 := Fr.snoc X14 N8 g_o1
  have Fw14 := f12.same W14
  have M14 : h0.size ≤ h14.size := Nat.le_trans M8 (Nat.le_of_eq W14.size.symm)
  have O14 := Old.wr O8 W14 g_o1
  obtain ⟨fs, hr, hrun, hended, hW, hsame⟩ := X14.leave (v := none) (fun _ => rfl)
  have KL : Keep h0 h14 [o8, o1] := ((((Keep.refl h0 [o8, o1]).wr W6 (Or.inl (List.mem_of_getElem? (i := 0) rfl))).wr W8 (Or.inl (List.mem_of_getElem? (i := 0) rfl))).wr W14 (Or.inl (List.mem_of_getElem? (i := 1) rfl)))
  have f15 := (V8.other W14 (Ne.symm ne11))
  have f16 := (f10.wr W14)
  have f17 := (f9.wr W14)
  have f18 := (((P1.other W6 (Or.inl ne11)).other W8 (Or.inl ne11)).other W14 (Or.inr (slot_ne (Or.inr (own_w hw 23 rfl)) (Or.inl (own_w hw 42 rfl)) (by decide) (t := .long) (t' := .int) (by decide) (by decide))))
  have f19 := (((P2.other W6 (Or.inl ne11)).other W8 (Or.inl ne11)).other W14 (Or.inr (slot_ne (Or.inr (own_w hw 25 rfl)) (Or.inl (own_w hw 42 rfl)) (by decide) (t := .long) (t' := .int) (by decide) (by decide))))
  have f20 := (((P4.other W6 (Or.inl ne11)).other W8 (Or.inl ne11)).other W14 (Or.inr (slot_ne (Or.inr (own_w hw 29 rfl)) (Or.inl (own_w hw 42 rfl)) (by decide) (t := (.array (.array .long))) (t' := .int) (by decide) (by decide))))
  have f21 := (((P5.other W6 (Or.inl ne11)).other W8 (Or.inl ne11)).other W14 (Or.inr (slot_ne (Or.inl (own_w hw 21 rfl)) (Or.inl (own_w hw 42 rfl)) (by decide) (t := .int) (t' := .int) (by decide) (by decide))))
  refine ⟨_, _, pre0 _ ?_, hrun, hended, _, _, rfl, ?_, ⟨_, rfl⟩, hW, hsame.mono (by decide) (by decide)⟩
  ·
    show Steps p.tables e below (s₁.setTop (mkF m 0 #[.val (.ref o1), .val (.long q2), .second, .val (.long q3), .second, .unset, .unset] [])) _
    refine XS.aloadN X0.here hx rfl (hb hby d4_0) rfl rfl ?_
    refine st1 _ ?_
    refine XS.aloadN X1.here hx rfl (hb hby d4_4) rfl rfl ?_
    refine st2 _ ?_
    refine XS.bipush X2.here hx rfl (hb hby d4_8) ?_
    refine XS.iushr X2.here hx rfl (hb hby d4_10) rfl ?_
    refine X2.aaload hx (j := (0 : Int32)) (v := (.ref o8)) (by rw [e2]; exact Ar3.1) (State.isArrayOf_alike hZ.alike Ar3.2.1) rfl Ar3.2.2 hin3 hat3 (g := (mkF m 11 #[.val (.ref o1), .val (.long q2), .second, .val (.long q3), .second, .unset, .unset] [(.int (0 : Int32)), (.ref o6)])) rfl rfl (hb hby d4_11) _ ?_
    refine XS.astore X2.here hx rfl (hb hby d4_12) rfl rfl (l' := #[.val (.ref o1), .val (.long q2), .second, .val (.long q3), .second, .val (.ref o8), .unset]) rfl ?_
    refine XS.iconst X2.here hx rfl (hb hby d4_14) ?_
    refine XS.aloadN X2.here hx rfl (hb hby d4_15) rfl rfl ?_
    refine st4 _ ?_
    refine XS.sipush X4.here hx rfl (hb hby d4_19) ?_
    refine XS.iand X4.here hx rfl (hb hby d4_22) rfl ?_
    refine XS.imul X4.here hx rfl (hb hby d4_23) rfl ?_
    refine XS.istore X4.here hx rfl (hb hby d4_24) rfl (l' := #[.val (.ref o1), .val (.long q2), .second, .val (.long q3), .second, .val (.ref o8), .val (.int (2 : Int32))]) rfl ?_
    refine XS.aload X4.here hx rfl (hb hby d4_26) rfl rfl ?_
    refine XS.iload X4.here hx rfl (hb hby d4_28) rfl ?_
    refine XS.lloadN X4.here hx rfl (hb hby d4_30) rfl ?_
    refine st6 _ ?_
    refine XS.aload X6.here hx rfl (hb hby d4_32) rfl rfl ?_
    refine XS.iload X6.here hx rfl (hb hby d4_34) rfl ?_
    refine XS.iconst X6.here hx rfl (hb hby d4_36) ?_
    refine XS.iadd X6.here hx rfl (hb hby d4_37) rfl ?_
    refine XS.lloadN X6.here hx rfl (hb hby d4_38) rfl ?_
    refine st8 _ ?_
    refine XS.aloadN X8.here hx rfl (hb hby d4_40) rfl rfl ?_
    refine XS.dup X8.here hx rfl (hb hby d4_41) rfl rfl ?_
    refine st13 _ ?_
    refine XS.iconst X13.here hx rfl (hb hby d4_45) ?_
    refine XS.iadd X13.here hx rfl (hb hby d4_46) rfl ?_
    refine st14 _ ?_
    show Steps p.tables e below (T14.setTop (mkF m 50 #[.val (.ref o1), .val (.long q2), .second, .val (.long q3), .second, .val (.ref o8), .val (.int (2 : Int32))] [])) _
    exact X14.returnOut hx hret (hb hby d4_50) hr
  ·
    show Q6 Z o1 o6 o8 kc7 p10 q4 q5 kc9 q11 q12 q2 q3 h0 n0 _ T14.heap _
    rw [e14]
    exact ⟨rfl, N14, KL, f15, f16, f17, f18, f19, Fw14, f20, f21⟩
theorem ef7 (m : MethodId) (x0 : Addr) (x1 : Int64) (x2 : Int64) : entryFrame m #[(.ref x0), (.long x1), (.long x2)] 7 = mkF m 0 #[.val (.ref x0), .val (.long x1), .second, .val (.long x2), .second, .unset, .unset] [] := by first | (simp [entryFrame, mkF, argsToLocals, Value.category]; done) | rfl
def Q7 (Z : State) (o1 : Addr) (o6 : Addr) (o8 : Addr) (kc7 : ClassId) (p10 : Int32) (q4 : Int64) (q5 : Int64) (kc9 : ClassId) (q11 : Int64) (q12 : Int64) (q13 : Int64) (q14 : Int64) (q2 : Int64) (q3 : Int64) (h0 : Heap) (n0 : Nat) (v : Option Value) (h : Heap) (L : List Loc) : Prop :=
  (v = none ∧ Fr n0 L ∧ Keep h0 h [o8, o1] ∧ (Arv Z h o8 kc9 .long p10 [(.long q11), (.long q12), (.long q13), (.long q14), (.long q2), (.long q3)] (.long (0 : Int64))) ∧ (Exa Z h o8 "[J") ∧ (Exa Z h o1 "com/example/driftless/driftless/DeleteOperations") ∧ (Fld Z h o1 "com/example/driftless/driftless/DeleteOperations" "firstCounter" "J" (.long q4)) ∧ (Fld Z h o1 "com/example/driftless/driftless/DeleteOperations" "replica" "J" (.long q5)) ∧ (Fld Z h o1 "com/example/driftless/driftless/DeleteOperations" "size" "I" (.int (3 : Int32))) ∧ (Fld Z h o1 "com/example/driftless/driftless/DeleteOperations" "targets" "[[J" (.ref o6)) ∧ (Fld Z h o1 "java/util/AbstractList" "modCount" "I" (.int (0 : Int32))))
set_option maxRecDepth 65536 in
set_option maxHeartbeats 40000000 in
theorem rm7 (l : Launch) (Z : State) (a0 : Array Value) (hw : ∀ d ∈ tables_1, d.before a0 Z = true) (ws : List Jvm.Cond) (o1 : Addr) (o6 : Addr) (o8 : Addr) (kc7 : ClassId) (p10 : Int32) (q4 : Int64) (q5 : Int64) (kc9 : ClassId) (q11 : Int64) (q12 : Int64) (q13 : Int64) (q14 : Int64) (q2 : Int64) (q3 : Int64) (h0 : Heap) (n0 : Nat) (O0 : Old Z n0 h0) (g_o1 : n0 ≤ o1) (g_o6 : n0 ≤ o6) (g_o8 : n0 ≤ o8) (Ov_kc7 : OvrA Z kc7 .long "[J") (bd_p10 : 6 ≤ p10.toInt ∧ p10.toInt ≤ 2147483647) (P0 : Exa Z h0 o1 "com/example/driftless/driftless/DeleteOperations") (P1 : Fld Z h0 o1 "com/example/driftless/driftless/DeleteOperations" "firstCounter" "J" (.long q4)) (P2 : Fld Z h0 o1 "com/example/driftless/driftless/DeleteOperations" "replica" "J" (.long q5)) (P3 : Fld Z h0 o1 "com/example/driftless/driftless/DeleteOperations" "size" "I" (.int (2 : Int32))) (P4 : Fld Z h0 o1 "com/example/driftless/driftless/DeleteOperations" "targets" "[[J" (.ref o6)) (P5 : Fld Z h0 o1 "java/util/AbstractList" "modCount" "I" (.int (0 : Int32))) (P6 : Arv Z h0 o6 kc7 (.array .long) (1 : Int32) [(.ref o8)] .null) (P8 : Arv Z h0 o8 kc9 .long p10 [(.long q11), (.long q12), (.long q13), (.long q14), (.long (0 : Int64)), (.long (0 : Int64))] (.long (0 : Int64))) (P9 : Exa Z h0 o8 "[J") :
    MetFree l yn4 (head1 (Jvm.Cond.code yn4 prog_7_method_2_code 7 none :: ws) ({ frames := 0, cells := 0, slots := 0, locals := 0 } : Room)) (fun a U => a = #[(.ref o1), (.long q2), (.long q3)] ∧ Z.Warmed39 U.vm ∧ U.heap = h0) (fun _ _ _ _ _ => True) (fun _ U o U' => ∃ v L, o = .returned v ∧ Q7 Z o1 o6 o8 kc7 p10 q4 q5 kc9 q11 q12 q13 q14 q2 q3 h0 n0 v U'.heap L ∧ FrameEnd U o U' L ({ frames := 0, cells := 0, slots := 0, locals := 0 } : Room).cells ({ frames := 0, cells := 0, slots := 0, locals := 0 } : Room).slots) := by
  refine MetFree.of_bodySF (plainFor_of_name pn2) hisR ?_
  intro p e s m args below meth c s₁ Bd hml0 hP hK
  obtain ⟨rfl, hZ, hh⟩ := hP
  have hx := Bd.exec
  have hby := Bd.bytes
  have hml : c.maxLocals = 7 := hml0
  have hown : s.vm.findClass "com/example/driftless/driftless/DeleteOperations" = some m.cls := findClass_of_methodNamed Bd.named
  have hnm := (name_of_methodNamed Bd.named Bd.method).1
  have hret := Bd.returns
  have hlk : meth.locks = false := BodyLoose.notSynchronized Bd
  have X0 : Stand p l e ({ frames := 0, cells := 0, slots := 0, locals := 0 } : Room) s m #[(.ref o1), (.long q2), (.long q3)] below meth c s₁ [] 0 0 := Stand.of_body Bd
  have e0 : s₁.heap = h0 := by rw [← hh, Bd.state]; rfl
  have N0 := Fr.nil n0
  have pre0 : ∀ t, Steps p.tables e below (s₁.setTop (mkF m 0 #[.val (.ref o1), .val (.long q2), .second, .val (.long q3), .second, .unset, .unset] [])) t → Steps p.tables e below (s₁.setTop (entryFrame m #[(.ref o1), (.long q2), (.long q3)] 7)) t := fun t k => castTop (ef7 m o1 q2 q3) k
  obtain ⟨T1, X1, e1, st1⟩ := getF X0 hx hZ hown (host := "") (Or.inl (own_w hw 28 rfl)) Via.refl e0 P4 (g := (mkF m 1 #[.val (.ref o1), .val (.long q2), .second, .val (.long q3), .second, .unset, .unset] [(.ref o1)])) rfl rfl (hb hby d4_1)
  obtain ⟨T2, X2, e2, st2⟩ := getF X1 hx hZ hown (host := "") (Or.inl (own_w hw 41 rfl)) Via.refl e1 P3 (g := (mkF m 5 #[.val (.ref o1), .val (.long q2), .second, .val (.long q3), .second, .unset, .unset] [(.ref o1), (.ref o6)])) rfl rfl (hb hby d4_5)
  obtain ⟨cl3, Ar3, qa3, Sa3, Na3, Ha3, Ga3⟩ := id (P6)
  have hin3 : ¬ ((0 : Int32) < 0 ∨ cl3.slots.size ≤ ((0 : Int32)).toNatClampNeg) := inb_of Sa3 ⟨by decide, by decide⟩
  have hat3 : cl3.slots[((0 : Int32)).toNatClampNeg]? = some (.ref o8) := Has.at Ha3 hin3 rfl
  obtain ⟨T4, X4, e4, st4⟩ := getF X2 hx hZ hown (host := "") (Or.inl (own_w hw 41 rfl)) Via.refl e2 P3 (g := (mkF m 16 #[.val (.ref o1), .val (.long q2), .second, .val (.long q3), .second, .val (.ref o8), .unset] [(.ref o1), (.int (2 : Int32))])) rfl rfl (hb hby d4_16)
  obtain ⟨cl5, Ar5, qa5, Sa5, Na5, Ha5, Ga5⟩ := id (P8)
  have hin5 : ¬ ((4 : Int32) < 0 ∨ cl5.slots.size ≤ ((4 : Int32)).toNatClampNeg) := inb_of Sa5 ⟨(by decide : ¬ ((4 : Int32) < (0 : Int32))), (own_glt2 (n := 4) (k := (4 : Int32)) (by decide) (by have q0 := bd_p10; omega))⟩
  obtain ⟨T6, h6, X6, e6, W6, st6⟩ := stJ X4 hx hZ e4 Ar5 (j := (4 : Int32)) hin5 (g := (mkF m 31 #[.val (.ref o1), .val (.long q2), .second, .val (.long q3), .second, .val (.ref o8), .val (.int (4 : Int32))] [(.long q2), (.int (4 : Int32)), (.ref o8)])) rfl rfl (hb hby d4_31)
  have V6 : Arv Z h6 o8 kc9 .long p10 [(.long q11), (.long q12), (.long q13), (.long q14), (.long q2), (.long (0 : Int64))] (.long (0 : Int64)) := Arv.set Ar5 qa5 Sa5 Na5 Ha5 Ga5 rfl W6 4 rfl (Nat.le_of_ble_eq_true rfl)
  have N6 := Fr.snoc X6 N0 g_o8
  have M6 : h0.size ≤ h6.size := Nat.le_trans (Nat.le_refl _) (Nat.le_of_eq W6.size.symm)
  have O6 := Old.wr O0 W6 g_o8
  obtain ⟨cl7, Ar7, qa7, Sa7, Na7, Ha7, Ga7⟩ := id (V6)
  have hin7 : ¬ ((5 : Int32) < 0 ∨ cl7.slots.size ≤ ((5 : Int32)).toNatClampNeg) := inb_of Sa7 ⟨(by decide : ¬ ((5 : Int32) < (0 : Int32))), (own_glt2 (n := 5) (k := (5 : Int32)) (by decide) (by have q0 := bd_p10; omega))⟩
  obtain ⟨T8, h8, X8, e8, W8, st8⟩ := stJ X6 hx hZ e6 Ar7 (j := (5 : Int32)) hin7 (g := (mkF m 39 #[.val (.ref o1), .val (.long q2), .second, .val (.long q3), .second, .val (.ref o8), .val (.int (4 : Int32))] [(.long q3), (.int (5 : Int32)), (.ref o8)])) rfl rfl (hb hby d4_39)
  have V8 : Arv Z h8 o8 kc9 .long p10 [(.long q11), (.long q12), (.long q13), (.long q14), (.long q2), (.long q3)] (.long (0 : Int64)) := Arv.set Ar7 qa7 Sa7 Na7 Ha7 Ga7 rfl W8 5 rfl (Nat.le_of_ble_eq_true rfl)
  have N8 := Fr.snoc X8 N6 g_o8
  have M8 : h0.size ≤ h8.size := Nat.le_trans M6 (Nat.le_of_eq W8.size.symm)
  have O8 := Old.wr O6 W8 g_o8
  have f9 := ((P0.wr W6).wr W8)
  have f10 := ((P9.wr W6).wr W8)
  have ne11 : o1 ≠ o8 := ne_exa f9 f10 (by decide)
  have f12 := ((P3.other W6 (Or.inl ne11)).other W8 (Or.inl ne11))
  obtain ⟨T13, X13, e13, st13⟩ := getF X8 hx hZ hown (host := "") (Or.inl (own_w hw 41 rfl)) Via.refl e8 f12 (g := (mkF m 42 #[.val (.ref o1), .val (.long q2), .second, .val (.long q3), .second, .val (.ref o8), .val (.int (4 : Int32))] [(.ref o1), (.ref o1)])) rfl rfl (hb hby d4_42)
  obtain ⟨T14, h14, X14, e14, W14, st14⟩ := putF X13 hx hZ hown (host := "") (Or.inl (own_w hw 41 rfl)) Via.refl e13 f12 f9 (Or.inl (own_w hw 42 rfl)) (own_w hw 1 rfl) (ty := .int) (by decide) rfl rfl (g := (mkF m 47 #[.val (.ref o1), .val (.long q2), .second, .val (.long q3), .second, .val (.ref o8), .val (.int (4 : Int32))] [(.int (3 : Int32)), (.ref o1)])) rfl rfl (hb hby d4_47)
  have N14 := Fr.snoc X14 N8 g_o1
  have Fw14 := f12.same W14
  have M14 : h0.size ≤ h14.size := Nat.le_trans M8 (Nat.le_of_eq W14.size.symm)
  have O14 := Old.wr O8 W14 g_o1
  obtain ⟨fs, hr, hrun, hended, hW, hsame⟩ := X14.leave (v := none) (fun _ => rfl)
  have KL : Keep h0 h14 [o8, o1] := ((((Keep.refl h0 [o8, o1]).wr W6 (Or.inl (List.mem_of_getElem? (i := 0) rfl))).wr W8 (Or.inl (List.mem_of_getElem? (i := 0) rfl))).wr W14 (Or.inl (List.mem_of_getElem? (i := 1) rfl)))
  have f15 := (V8.other W14 (Ne.symm ne11))
  have f16 := (f10.wr W14)
  have f17 := (f9.wr W14)
  have f18 := (((P1.other W6 (Or.inl ne11)).other W8 (Or.inl ne11)).other W14 (Or.inr (slot_ne (Or.inr (own_w hw 23 rfl)) (Or.inl (own_w hw 42 rfl)) (by decide) (t := .long) (t' := .int) (by decide) (by decide))))
  have f19 := (((P2.other W6 (Or.inl ne11)).other W8 (Or.inl ne11)).other W14 (Or.inr (slot_ne (Or.inr (own_w hw 25 rfl)) (Or.inl (own_w hw 42 rfl)) (by decide) (t := .long) (t' := .int) (by decide) (by decide))))
  have f20 := (((P4.other W6 (Or.inl ne11)).other W8 (Or.inl ne11)).other W14 (Or.inr (slot_ne (Or.inr (own_w hw 29 rfl)) (Or.inl (own_w hw 42 rfl)) (by decide) (t := (.array (.array .long))) (t' := .int) (by decide) (by decide))))
  have f21 := (((P5.other W6 (Or.inl ne11)).other W8 (Or.inl ne11)).other W14 (Or.inr (slot_ne (Or.inl (own_w hw 21 rfl)) (Or.inl (own_w hw 42 rfl)) (by decide) (t := .int) (t' := .int) (by decide) (by decide))))
  refine ⟨_, _, pre0 _ ?_, hrun, hended, _, _, rfl, ?_, ⟨_, rfl⟩, hW, hsame.mono (by decide) (by decide)⟩
  ·
    show Steps p.tables e below (s₁.setTop (mkF m 0 #[.val (.ref o1), .val (.long q2), .second, .val (.long q3), .second, .unset, .unset] [])) _
    refine XS.aloadN X0.here hx rfl (hb hby d4_0) rfl rfl ?_
    refine st1 _ ?_
    refine XS.aloadN X1.here hx rfl (hb hby d4_4) rfl rfl ?_
    refine st2 _ ?_
    refine XS.bipush X2.here hx rfl (hb hby d4_8) ?_
    refine XS.iushr X2.here hx rfl (hb hby d4_10) rfl ?_
    refine X2.aaload hx (j := (0 : Int32)) (v := (.ref o8)) (by rw [e2]; exact Ar3.1) (State.isArrayOf_alike hZ.alike Ar3.2.1) rfl Ar3.2.2 hin3 hat3 (g := (mkF m 11 #[.val (.ref o1), .val (.long q2), .second, .val (.long q3), .second, .unset, .unset] [(.int (0 : Int32)), (.ref o6)])) rfl rfl (hb hby d4_11) _ ?_
    refine XS.astore X2.here hx rfl (hb hby d4_12) rfl rfl (l' := #[.val (.ref o1), .val (.long q2), .second, .val (.long q3), .second, .val (.ref o8), .unset]) rfl ?_
    refine XS.iconst X2.here hx rfl (hb hby d4_14) ?_
    refine XS.aloadN X2.here hx rfl (hb hby d4_15) rfl rfl ?_
    refine st4 _ ?_
    refine XS.sipush X4.here hx rfl (hb hby d4_19) ?_
    refine XS.iand X4.here hx rfl (hb hby d4_22) rfl ?_
    refine XS.imul X4.here hx rfl (hb hby d4_23) rfl ?_
    refine XS.istore X4.here hx rfl (hb hby d4_24) rfl (l' := #[.val (.ref o1), .val (.long q2), .second, .val (.long q3), .second, .val (.ref o8), .val (.int (4 : Int32))]) rfl ?_
    refine XS.aload X4.here hx rfl (hb hby d4_26) rfl rfl ?_
    refine XS.iload X4.here hx rfl (hb hby d4_28) rfl ?_
    refine XS.lloadN X4.here hx rfl (hb hby d4_30) rfl ?_
    refine st6 _ ?_
    refine XS.aload X6.here hx rfl (hb hby d4_32) rfl rfl ?_
    refine XS.iload X6.here hx rfl (hb hby d4_34) rfl ?_
    refine XS.iconst X6.here hx rfl (hb hby d4_36) ?_
    refine XS.iadd X6.here hx rfl (hb hby d4_37) rfl ?_
    refine XS.lloadN X6.here hx rfl (hb hby d4_38) rfl ?_
    refine st8 _ ?_
    refine XS.aloadN X8.here hx rfl (hb hby d4_40) rfl rfl ?_
    refine XS.dup X8.here hx rfl (hb hby d4_41) rfl rfl ?_
    refine st13 _ ?_
    refine XS.iconst X13.here hx rfl (hb hby d4_45) ?_
    refine XS.iadd X13.here hx rfl (hb hby d4_46) rfl ?_
    refine st14 _ ?_
    show Steps p.tables e below (T14.setTop (mkF m 50 #[.val (.ref o1), .val (.long q2), .second, .val (.long q3), .second, .val (.ref o8), .val (.int (4 : Int32))] [])) _
    exact X14.returnOut hx hret (hb hby d4_50) hr
  ·
    show Q7 Z o1 o6 o8 kc7 p10 q4 q5 kc9 q11 q12 q13 q14 q2 q3 h0 n0 _ T14.heap _
    rw [e14]
    exact ⟨rfl, N14, KL, f15, f16, f17, f18, f19, Fw14, f20, f21⟩
theorem d5_0 : decode prog_7_method_8_code 0 = .ok (.aload_n 0, 1) := by decide +kernel
theorem d5_1 : decode prog_7_method_8_code 1 = .ok (.getfield 28, 3) := by decide +kernel
theorem d5_4 : decode prog_7_method_8_code 4 = .ok (.ireturn, 1) := by decide +kernel
theorem ef8 (m : MethodId) (x0 : Addr) : entryFrame m #[(.ref x0)] 1 = mkF m 0 #[.val (.ref x0)] [] := by first | (simp [entryFrame, mkF, argsToLocals, Value.category]; done) | rfl
def Q8 (Z : State) (o1 : Addr) (o4 : Addr) (o6 : Addr) (kc5 : ClassId) (p8 : Int32) (h0 : Heap) (n0 : Nat) (v : Option Value) (h : Heap) (L : List Loc) : Prop :=
  (v = some (.int (3 : Int32)) ∧ Fr n0 L ∧ h = h0)
set_option maxRecDepth 65536 in
set_option maxHeartbeats 40000000 in
theorem rm8 (l : Launch) (Z : State) (a0 : Array Value) (hw : ∀ d ∈ tables_1, d.before a0 Z = true) (ws : List Jvm.Cond) (o1 : Addr) (o4 : Addr) (o6 : Addr) (kc5 : ClassId) (p8 : Int32) (h0 : Heap) (n0 : Nat) (O0 : Old Z n0 h0) (g_o1 : n0 ≤ o1) (g_o4 : n0 ≤ o4) (g_o6 : n0 ≤ o6) (Ov_kc5 : OvrA Z kc5 .long "[J") (bd_p8 : 6 ≤ p8.toInt ∧ p8.toInt ≤ 2147483647) (P3 : Fld Z h0 o1 "com/example/driftless/driftless/DeleteOperations" "size" "I" (.int (3 : Int32))) :
    MetFree l yn5 (head1 (Jvm.Cond.code yn5 prog_7_method_8_code 1 (some .int) :: ws) ({ frames := 0, cells := 0, slots := 0, locals := 0 } : Room)) (fun a U => a = #[(.ref o1)] ∧ Z.Warmed39 U.vm ∧ U.heap = h0) (fun _ _ _ _ _ => True) (fun _ U o U' => ∃ v L, o = .returned v ∧ Q8 Z o1 o4 o6 kc5 p8 h0 n0 v U'.heap L ∧ FrameEnd U o U' L ({ frames := 0, cells := 0, slots := 0, locals := 0 } : Room).cells ({ frames := 0, cells := 0, slots := 0, locals := 0 } : Room).slots) := by
  refine MetFree.of_bodySF (plainFor_of_name pn2) hisR ?_
  intro p e s m args below meth c s₁ Bd hml0 hP hK
  obtain ⟨rfl, hZ, hh⟩ := hP
  have hx := Bd.exec
  have hby := Bd.bytes
  have hml : c.maxLocals = 1 := hml0
  have hown : s.vm.findClass "com/example/driftless/driftless/DeleteOperations" = some m.cls := findClass_of_methodNamed Bd.named
  have hnm := (name_of_methodNamed Bd.named Bd.method).1
  have hret := Bd.returns
  have hlk : meth.locks = false := BodyLoose.notSynchronized Bd
  have X0 : Stand p l e ({ frames := 0, cells := 0, slots := 0, locals := 0 } : Room) s m #[(.ref o1)] below meth c s₁ [] 0 0 := Stand.of_body Bd
  have e0 : s₁.heap = h0 := by rw [← hh, Bd.state]; rfl
  have N0 := Fr.nil n0
  have pre0 : ∀ t, Steps p.tables e below (s₁.setTop (mkF m 0 #[.val (.ref o1)] [])) t → Steps p.tables e below (s₁.setTop (entryFrame m #[(.ref o1)] 1)) t := fun t k => castTop (ef8 m o1) k
  obtain ⟨T1, X1, e1, st1⟩ := getF X0 hx hZ hown (host := "") (Or.inl (own_w hw 41 rfl)) Via.refl e0 P3 (g := (mkF m 1 #[.val (.ref o1)] [(.ref o1)])) rfl rfl (hb hby d5_1)
  obtain ⟨fs, hr, hrun, hended, hW, hsame⟩ := X1.leave (v := some (.int (3 : Int32))) (fun h => by rw [hret] at h; cases h)
  refine ⟨_, _, pre0 _ ?_, hrun, hended, _, _, rfl, ?_, ⟨_, rfl⟩, hW, hsame.mono (by decide) (by decide)⟩
  ·
    show Steps p.tables e below (s₁.setTop (mkF m 0 #[.val (.ref o1)] [])) _
    refine XS.aloadN X0.here hx rfl (hb hby d5_0) rfl rfl ?_
    refine st1 _ ?_
    show Steps p.tables e below (T1.setTop (mkF m 4 #[.val (.ref o1)] [(.int (3 : Int32))])) _
    exact retI X1 hx hret (hb hby d5_4) hr
  ·
    show Q8 Z o1 o4 o6 kc5 p8 h0 n0 _ T1.heap _
    rw [e1]
    exact ⟨rfl, N0, rfl⟩
theorem pd4 : parseMethodDescriptor "()I" = some ⟨[], some .int⟩ := by decide +kernel
theorem d6_0 : decode prog_7_method_6_code 0 = .ok (.aload_n 0, 1) := by decide +kernel
theorem d6_1 : decode prog_7_method_6_code 1 = .ok (.getfield 18, 3) := by decide +kernel
theorem d6_4 : decode prog_7_method_6_code 4 = .ok (.iload_n 1, 1) := by decide +kernel
theorem d6_5 : decode prog_7_method_6_code 5 = .ok (.bipush 12, 2) := by decide +kernel
theorem d6_7 : decode prog_7_method_6_code 7 = .ok (.iushr, 1) := by decide +kernel
theorem d6_8 : decode prog_7_method_6_code 8 = .ok (.aaload, 1) := by decide +kernel
theorem d6_9 : decode prog_7_method_6_code 9 = .ok (.iconst 2, 1) := by decide +kernel
theorem d6_10 : decode prog_7_method_6_code 10 = .ok (.iload_n 1, 1) := by decide +kernel
theorem d6_11 : decode prog_7_method_6_code 11 = .ok (.sipush 4095, 3) := by decide +kernel
theorem d6_14 : decode prog_7_method_6_code 14 = .ok (.iand, 1) := by decide +kernel
theorem d6_15 : decode prog_7_method_6_code 15 = .ok (.imul, 1) := by decide +kernel
theorem d6_16 : decode prog_7_method_6_code 16 = .ok (.laload, 1) := by decide +kernel
theorem d6_17 : decode prog_7_method_6_code 17 = .ok (.lreturn, 1) := by decide +kernel
theorem ef9 (m : MethodId) (x0 : Addr) (x1 : Int32) : entryFrame m #[(.ref x0), (.int x1)] 2 = mkF m 0 #[.val (.ref x0), .val (.int x1)] [] := by first | (simp [entryFrame, mkF, argsToLocals, Value.category]; done) | rfl
def Q9 (Z : State) (o1 : Addr) (o4 : Addr) (o6 : Addr) (kc5 : ClassId) (p8 : Int32) (kc7 : ClassId) (q9 : Int64) (q10 : Int64) (q11 : Int64) (q12 : Int64) (q13 : Int64) (q14 : Int64) (h0 : Heap) (n0 : Nat) (v : Option Value) (h : Heap) (L : List Loc) : Prop :=
  (v = some (.long q9) ∧ Fr n0 L ∧ h = h0)
set_option maxRecDepth 65536 in
set_option maxHeartbeats 40000000 in
theorem rm9 (l : Launch) (Z : State) (a0 : Array Value) (hw : ∀ d ∈ tables_1, d.before a0 Z = true) (ws : List Jvm.Cond) (o1 : Addr) (o4 : Addr) (o6 : Addr) (kc5 : ClassId) (p8 : Int32) (kc7 : ClassId) (q9 : Int64) (q10 : Int64) (q11 : Int64) (q12 : Int64) (q13 : Int64) (q14 : Int64) (h0 : Heap) (n0 : Nat) (O0 : Old Z n0 h0) (g_o1 : n0 ≤ o1) (g_o4 : n0 ≤ o4) (g_o6 : n0 ≤ o6) (Ov_kc5 : OvrA Z kc5 .long "[J") (bd_p8 : 6 ≤ p8.toInt ∧ p8.toInt ≤ 2147483647) (P4 : Fld Z h0 o1 "com/example/driftless/driftless/DeleteOperations" "targets" "[[J" (.ref o4)) (P6 : Arv Z h0 o4 kc5 (.array .long) (1 : Int32) [(.ref o6)] .null) (P8 : Arv Z h0 o6 kc7 .long p8 [(.long q9), (.long q10), (.long q11), (.long q12), (.long q13), (.long q14)] (.long (0 : Int64))) :
    MetFree l yn6 (head1 (Jvm.Cond.code yn6 prog_7_method_6_code 2 (some .long) :: ws) ({ frames := 0, cells := 0, slots := 0, locals := 0 } : Room)) (fun a U => a = #[(.ref o1), (.int (0 : Int32))] ∧ Z.Warmed39 U.vm ∧ U.heap = h0) (fun _ _ _ _ _ => True) (fun _ U o U' => ∃ v L, o = .returned v ∧ Q9 Z o1 o4 o6 kc5 p8 kc7 q9 q10 q11 q12 q13 q14 h0 n0 v U'.heap L ∧ FrameEnd U o U' L ({ frames := 0, cells := 0, slots := 0, locals := 0 } : Room).cells ({ frames := 0, cells := 0, slots := 0, locals := 0 } : Room).slots) := by
  refine MetFree.of_bodySF (plainFor_of_name pn2) hisR ?_
  intro p e s m args below meth c s₁ Bd hml0 hP hK
  obtain ⟨rfl, hZ, hh⟩ := hP
  have hx := Bd.exec
  have hby := Bd.bytes
  have hml : c.maxLocals = 2 := hml0
  have hown : s.vm.findClass "com/example/driftless/driftless/DeleteOperations" = some m.cls := findClass_of_methodNamed Bd.named
  have hnm := (name_of_methodNamed Bd.named Bd.method).1
  have hret := Bd.returns
  have hlk : meth.locks = false := BodyLoose.notSynchronized Bd
  have X0 : Stand p l e ({ frames := 0, cells := 0, slots := 0, locals := 0 } : Room) s m #[(.ref o1), (.int (0 : Int32))] below meth c s₁ [] 0 0 := Stand.of_body Bd
  have e0 : s₁.heap = h0 := by rw [← hh, Bd.state]; rfl
  have N0 := Fr.nil n0
  have pre0 : ∀ t, Steps p.tables e below (s₁.setTop (mkF m 0 #[.val (.ref o1), .val (.int (0 : Int32))] [])) t → Steps p.tables e below (s₁.setTop (entryFrame m #[(.ref o1), (.int (0 : Int32))] 2)) t := fun t k => castTop (ef9 m o1 (0 : Int32)) k
  obtain ⟨T1, X1, e1, st1⟩ := getF X0 hx hZ hown (host := "") (Or.inl (own_w hw 28 rfl)) Via.refl e0 P4 (g := (mkF m 1 #[.val (.ref o1), .val (.int (0 : Int32))] [(.ref o1)])) rfl rfl (hb hby d6_1)
  obtain ⟨cl2, Ar2, qa2, Sa2, Na2, Ha2, Ga2⟩ := id (P6)
  have hin2 : ¬ ((0 : Int32) < 0 ∨ cl2.slots.size ≤ ((0 : Int32)).toNatClampNeg) := inb_of Sa2 ⟨by decide, by decide⟩
  have hat2 : cl2.slots[((0 : Int32)).toNatClampNeg]? = some (.ref o6) := Has.at Ha2 hin2 rfl
  obtain ⟨cl3, Ar3, qa3, Sa3, Na3, Ha3, Ga3⟩ := id (P8)
  have hin3 : ¬ ((0 : Int32) < 0 ∨ cl3.slots.size ≤ ((0 : Int32)).toNatClampNeg) := inb_of Sa3 ⟨(by decide : ¬ ((0 : Int32) < (0 : Int32))), (own_glt2 (n := 0) (k := (0 : Int32)) (by decide) (by have q0 := bd_p8; omega))⟩
  have hat3 : cl3.slots[((0 : Int32)).toNatClampNeg]? = some (.long q9) := Has.at Ha3 hin3 rfl
  obtain ⟨fs, hr, hrun, hended, hW, hsame⟩ := X1.leave (v := some (.long q9)) (fun h => by rw [hret] at h; cases h)
  refine ⟨_, _, pre0 _ ?_, hrun, hended, _, _, rfl, ?_, ⟨_, rfl⟩, hW, hsame.mono (by decide) (by decide)⟩
  ·
    show Steps p.tables e below (s₁.setTop (mkF m 0 #[.val (.ref o1), .val (.int (0 : Int32))] [])) _
    refine XS.aloadN X0.here hx rfl (hb hby d6_0) rfl rfl ?_
    refine st1 _ ?_
    refine XS.iloadN X1.here hx rfl (hb hby d6_4) rfl ?_
    refine XS.bipush X1.here hx rfl (hb hby d6_5) ?_
    refine XS.iushr X1.here hx rfl (hb hby d6_7) rfl ?_
    refine X1.aaload hx (j := (0 : Int32)) (v := (.ref o6)) (by rw [e1]; exact Ar2.1) (State.isArrayOf_alike hZ.alike Ar2.2.1) rfl Ar2.2.2 hin2 hat2 (g := (mkF m 8 #[.val (.ref o1), .val (.int (0 : Int32))] [(.int (0 : Int32)), (.ref o4)])) rfl rfl (hb hby d6_8) _ ?_
    refine XS.iconst X1.here hx rfl (hb hby d6_9) ?_
    refine XS.iloadN X1.here hx rfl (hb hby d6_10) rfl ?_
    refine XS.sipush X1.here hx rfl (hb hby d6_11) ?_
    refine XS.iand X1.here hx rfl (hb hby d6_14) rfl ?_
    refine XS.imul X1.here hx rfl (hb hby d6_15) rfl ?_
    refine X1.laload hx (j := (0 : Int32)) (v := (.long q9)) (by rw [e1]; exact Ar3.1) (State.isArrayOf_alike hZ.alike Ar3.2.1) Ar3.2.2 hin3 hat3 (g := (mkF m 16 #[.val (.ref o1), .val (.int (0 : Int32))] [(.int (0 : Int32)), (.ref o6)])) rfl rfl (hb hby d6_16) _ ?_
    show Steps p.tables e below (T1.setTop (mkF m 17 #[.val (.ref o1), .val (.int (0 : Int32))] [(.long q9)])) _
    exact retOut X1 hx hret rfl (Or.inr (Or.inl ⟨rfl, rfl, _, rfl⟩)) (hb hby d6_17) hr
  ·
    show Q9 Z o1 o4 o6 kc5 p8 kc7 q9 q10 q11 q12 q13 q14 h0 n0 _ T1.heap _
    rw [e1]
    exact ⟨rfl, N0, rfl⟩
theorem pd5 : parseMethodDescriptor "(I)J" = some ⟨[.int], some .long⟩ := by decide +kernel
theorem d7_0 : decode prog_7_method_7_code 0 = .ok (.aload_n 0, 1) := by decide +kernel
theorem d7_1 : decode prog_7_method_7_code 1 = .ok (.getfield 18, 3) := by decide +kernel
theorem d7_4 : decode prog_7_method_7_code 4 = .ok (.iload_n 1, 1) := by decide +kernel
theorem d7_5 : decode prog_7_method_7_code 5 = .ok (.bipush 12, 2) := by decide +kernel
theorem d7_7 : decode prog_7_method_7_code 7 = .ok (.iushr, 1) := by decide +kernel
theorem d7_8 : decode prog_7_method_7_code 8 = .ok (.aaload, 1) := by decide +kernel
theorem d7_9 : decode prog_7_method_7_code 9 = .ok (.iconst 2, 1) := by decide +kernel
theorem d7_10 : decode prog_7_method_7_code 10 = .ok (.iload_n 1, 1) := by decide +kernel
theorem d7_11 : decode prog_7_method_7_code 11 = .ok (.sipush 4095, 3) := by decide +kernel
theorem d7_14 : decode prog_7_method_7_code 14 = .ok (.iand, 1) := by decide +kernel
theorem d7_15 : decode prog_7_method_7_code 15 = .ok (.imul, 1) := by decide +kernel
theorem d7_16 : decode prog_7_method_7_code 16 = .ok (.iconst 1, 1) := by decide +kernel
theorem d7_17 : decode prog_7_method_7_code 17 = .ok (.iadd, 1) := by decide +kernel
theorem d7_18 : decode prog_7_method_7_code 18 = .ok (.laload, 1) := by decide +kernel
theorem d7_19 : decode prog_7_method_7_code 19 = .ok (.lreturn, 1) := by decide +kernel
theorem ef10 (m : MethodId) (x0 : Addr) (x1 : Int32) : entryFrame m #[(.ref x0), (.int x1)] 2 = mkF m 0 #[.val (.ref x0), .val (.int x1)] [] := by first | (simp [entryFrame, mkF, argsToLocals, Value.category]; done) | rfl
def Q10 (Z : State) (o1 : Addr) (o4 : Addr) (o6 : Addr) (kc5 : ClassId) (p8 : Int32) (kc7 : ClassId) (q9 : Int64) (q10 : Int64) (q11 : Int64) (q12 : Int64) (q13 : Int64) (q14 : Int64) (h0 : Heap) (n0 : Nat) (v : Option Value) (h : Heap) (L : List Loc) : Prop :=
  (v = some (.long q10) ∧ Fr n0 L ∧ h = h0)
set_option maxRecDepth 65536 in
set_option maxHeartbeats 40000000 in
theorem rm10 (l : Launch) (Z : State) (a0 : Array Value) (hw : ∀ d ∈ tables_1, d.before a0 Z = true) (ws : List Jvm.Cond) (o1 : Addr) (o4 : Addr) (o6 : Addr) (kc5 : ClassId) (p8 : Int32) (kc7 : ClassId) (q9 : Int64) (q10 : Int64) (q11 : Int64) (q12 : Int64) (q13 : Int64) (q14 : Int64) (h0 : Heap) (n0 : Nat) (O0 : Old Z n0 h0) (g_o1 : n0 ≤ o1) (g_o4 : n0 ≤ o4) (g_o6 : n0 ≤ o6) (Ov_kc5 : OvrA Z kc5 .long "[J") (bd_p8 : 6 ≤ p8.toInt ∧ p8.toInt ≤ 2147483647) (P4 : Fld Z h0 o1 "com/example/driftless/driftless/DeleteOperations" "targets" "[[J" (.ref o4)) (P6 : Arv Z h0 o4 kc5 (.array .long) (1 : Int32) [(.ref o6)] .null) (P8 : Arv Z h0 o6 kc7 .long p8 [(.long q9), (.long q10), (.long q11), (.long q12), (.long q13), (.long q14)] (.long (0 : Int64))) :
    MetFree l yn7 (head1 (Jvm.Cond.code yn7 prog_7_method_7_code 2 (some .long) :: ws) ({ frames := 0, cells := 0, slots := 0, locals := 0 } : Room)) (fun a U => a = #[(.ref o1), (.int (0 : Int32))] ∧ Z.Warmed39 U.vm ∧ U.heap = h0) (fun _ _ _ _ _ => True) (fun _ U o U' => ∃ v L, o = .returned v ∧ Q10 Z o1 o4 o6 kc5 p8 kc7 q9 q10 q11 q12 q13 q14 h0 n0 v U'.heap L ∧ FrameEnd U o U' L ({ frames := 0, cells := 0, slots := 0, locals := 0 } : Room).cells ({ frames := 0, cells := 0, slots := 0, locals := 0 } : Room).slots) := by
  refine MetFree.of_bodySF (plainFor_of_name pn2) hisR ?_
  intro p e s m args below meth c s₁ Bd hml0 hP hK
  obtain ⟨rfl, hZ, hh⟩ := hP
  have hx := Bd.exec
  have hby := Bd.bytes
  have hml : c.maxLocals = 2 := hml0
  have hown : s.vm.findClass "com/example/driftless/driftless/DeleteOperations" = some m.cls := findClass_of_methodNamed Bd.named
  have hnm := (name_of_methodNamed Bd.named Bd.method).1
  have hret := Bd.returns
  have hlk : meth.locks = false := BodyLoose.notSynchronized Bd
  have X0 : Stand p l e ({ frames := 0, cells := 0, slots := 0, locals := 0 } : Room) s m #[(.ref o1), (.int (0 : Int32))] below meth c s₁ [] 0 0 := Stand.of_body Bd
  have e0 : s₁.heap = h0 := by rw [← hh, Bd.state]; rfl
  have N0 := Fr.nil n0
  have pre0 : ∀ t, Steps p.tables e below (s₁.setTop (mkF m 0 #[.val (.ref o1), .val (.int (0 : Int32))] [])) t → Steps p.tables e below (s₁.setTop (entryFrame m #[(.ref o1), (.int (0 : Int32))] 2)) t := fun t k => castTop (ef10 m o1 (0 : Int32)) k
  obtain ⟨T1, X1, e1, st1⟩ := getF X0 hx hZ hown (host := "") (Or.inl (own_w hw 28 rfl)) Via.refl e0 P4 (g := (mkF m 1 #[.val (.ref o1), .val (.int (0 : Int32))] [(.ref o1)])) rfl rfl (hb hby d7_1)
  obtain ⟨cl2, Ar2, qa2, Sa2, Na2, Ha2, Ga2⟩ := id (P6)
  have hin2 : ¬ ((0 : Int32) < 0 ∨ cl2.slots.size ≤ ((0 : Int32)).toNatClampNeg) := inb_of Sa2 ⟨by decide, by decide⟩
  have hat2 : cl2.slots[((0 : Int32)).toNatClampNeg]? = some (.ref o6) := Has.at Ha2 hin2 rfl
  obtain ⟨cl3, Ar3, qa3, Sa3, Na3, Ha3, Ga3⟩ := id (P8)
  have hin3 : ¬ ((1 : Int32) < 0 ∨ cl3.slots.size ≤ ((1 : Int32)).toNatClampNeg) := inb_of Sa3 ⟨(by decide : ¬ ((1 : Int32) < (0 : Int32))), (own_glt2 (n := 1) (k := (1 : Int32)) (by decide) (by have q0 := bd_p8; omega))⟩
  have hat3 : cl3.slots[((1 : Int32)).toNatClampNeg]? = some (.long q10) := Has.at Ha3 hin3 rfl
  obtain ⟨fs, hr, hrun, hended, hW, hsame⟩ := X1.leave (v := some (.long q10)) (fun h => by rw [hret] at h; cases h)
  refine ⟨_, _, pre0 _ ?_, hrun, hended, _, _, rfl, ?_, ⟨_, rfl⟩, hW, hsame.mono (by decide) (by decide)⟩
  ·
    show Steps p.tables e below (s₁.setTop (mkF m 0 #[.val (.ref o1), .val (.int (0 : Int32))] [])) _
    refine XS.aloadN X0.here hx rfl (hb hby d7_0) rfl rfl ?_
    refine st1 _ ?_
    refine XS.iloadN X1.here hx rfl (hb hby d7_4) rfl ?_
    refine XS.bipush X1.here hx rfl (hb hby d7_5) ?_
    refine XS.iushr X1.here hx rfl (hb hby d7_7) rfl ?_
    refine X1.aaload hx (j := (0 : Int32)) (v := (.ref o6)) (by rw [e1]; exact Ar2.1) (State.isArrayOf_alike hZ.alike Ar2.2.1) rfl Ar2.2.2 hin2 hat2 (g := (mkF m 8 #[.val (.ref o1), .val (.int (0 : Int32))] [(.int (0 : Int32)), (.ref o4)])) rfl rfl (hb hby d7_8) _ ?_
    refine XS.iconst X1.here hx rfl (hb hby d7_9) ?_
    refine XS.iloadN X1.here hx rfl (hb hby d7_10) rfl ?_
    refine XS.sipush X1.here hx rfl (hb hby d7_11) ?_
    refine XS.iand X1.here hx rfl (hb hby d7_14) rfl ?_
    refine XS.imul X1.here hx rfl (hb hby d7_15) rfl ?_
    refine XS.iconst X1.here hx rfl (hb hby d7_16) ?_
    refine XS.iadd X1.here hx rfl (hb hby d7_17) rfl ?_
    refine X1.laload hx (j := (1 : Int32)) (v := (.long q10)) (by rw [e1]; exact Ar3.1) (State.isArrayOf_alike hZ.alike Ar3.2.1) Ar3.2.2 hin3 hat3 (g := (mkF m 18 #[.val (.ref o1), .val (.int (0 : Int32))] [(.int (1 : Int32)), (.ref o6)])) rfl rfl (hb hby d7_18) _ ?_
    show Steps p.tables e below (T1.setTop (mkF m 19 #[.val (.ref o1), .val (.int (0 : Int32))] [(.long q10)])) _
    exact retOut X1 hx hret rfl (Or.inr (Or.inl ⟨rfl, rfl, _, rfl⟩)) (hb hby d7_19) hr
  ·
    show Q10 Z o1 o4 o6 kc5 p8 kc7 q9 q10 q11 q12 q13 q14 h0 n0 _ T1.heap _
    rw [e1]
    exact ⟨rfl, N0, rfl⟩
theorem ef11 (m : MethodId) (x0 : Addr) (x1 : Int32) : entryFrame m #[(.ref x0), (.int x1)] 2 = mkF m 0 #[.val (.ref x0), .val (.int x1)] [] := by first | (simp [entryFrame, mkF, argsToLocals, Value.category]; done) | rfl
def Q11 (Z : State) (o1 : Addr) (o4 : Addr) (o6 : Addr) (kc5 : ClassId) (p8 : Int32) (kc7 : ClassId) (q9 : Int64) (q10 : Int64) (q11 : Int64) (q12 : Int64) (q13 : Int64) (q14 : Int64) (h0 : Heap) (n0 : Nat) (v : Option Value) (h : Heap) (L : List Loc) : Prop :=
  (v = some (.long q11) ∧ Fr n0 L ∧ h = h0)
set_option maxRecDepth 65536 in
set_option maxHeartbeats 40000000 in
theorem rm11 (l : Launch) (Z : State) (a0 : Array Value) (hw : ∀ d ∈ tables_1, d.before a0 Z = true) (ws : List Jvm.Cond) (o1 : Addr) (o4 : Addr) (o6 : Addr) (kc5 : ClassId) (p8 : Int32) (kc7 : ClassId) (q9 : Int64) (q10 : Int64) (q11 : Int64) (q12 : Int64) (q13 : Int64) (q14 : Int64) (h0 : Heap) (n0 : Nat) (O0 : Old Z n0 h0) (g_o1 : n0 ≤ o1) (g_o4 : n0 ≤ o4) (g_o6 : n0 ≤ o6) (Ov_kc5 : OvrA Z kc5 .long "[J") (bd_p8 : 6 ≤ p8.toInt ∧ p8.toInt ≤ 2147483647) (P4 : Fld Z h0 o1 "com/example/driftless/driftless/DeleteOperations" "targets" "[[J" (.ref o4)) (P6 : Arv Z h0 o4 kc5 (.array .long) (1 : Int32) [(.ref o6)] .null) (P8 : Arv Z h0 o6 kc7 .long p8 [(.long q9), (.long q10), (.long q11), (.long q12), (.long q13), (.long q14)] (.long (0 : Int64))) :
    MetFree l yn6 (head1 (Jvm.Cond.code yn6 prog_7_method_6_code 2 (some .long) :: ws) ({ frames := 0, cells := 0, slots := 0, locals := 0 } : Room)) (fun a U => a = #[(.ref o1), (.int (1 : Int32))] ∧ Z.Warmed39 U.vm ∧ U.heap = h0) (fun _ _ _ _ _ => True) (fun _ U o U' => ∃ v L, o = .returned v ∧ Q11 Z o1 o4 o6 kc5 p8 kc7 q9 q10 q11 q12 q13 q14 h0 n0 v U'.heap L ∧ FrameEnd U o U' L ({ frames := 0, cells := 0, slots := 0, locals := 0 } : Room).cells ({ frames := 0, cells := 0, slots := 0, locals := 0 } : Room).slots) := by
  refine MetFree.of_bodySF (plainFor_of_name pn2) hisR ?_
  intro p e s m args below meth c s₁ Bd hml0 hP hK
  obtain ⟨rfl, hZ, hh⟩ := hP
  have hx := Bd.exec
  have hby := Bd.bytes
  have hml : c.maxLocals = 2 := hml0
  have hown : s.vm.findClass "com/example/driftless/driftless/DeleteOperations" = some m.cls := findClass_of_methodNamed Bd.named
  have hnm := (name_of_methodNamed Bd.named Bd.method).1
  have hret := Bd.returns
  have hlk : meth.locks = false := BodyLoose.notSynchronized Bd
  have X0 : Stand p l e ({ frames := 0, cells := 0, slots := 0, locals := 0 } : Room) s m #[(.ref o1), (.int (1 : Int32))] below meth c s₁ [] 0 0 := Stand.of_body Bd
  have e0 : s₁.heap = h0 := by rw [← hh, Bd.state]; rfl
  have N0 := Fr.nil n0
  have pre0 : ∀ t, Steps p.tables e below (s₁.setTop (mkF m 0 #[.val (.ref o1), .val (.int (1 : Int32))] [])) t → Steps p.tables e below (s₁.setTop (entryFrame m #[(.ref o1), (.int (1 : Int32))] 2)) t := fun t k => castTop (ef11 m o1 (1 : Int32)) k
  obtain ⟨T1, X1, e1, st1⟩ := getF X0 hx hZ hown (host := "") (Or.inl (own_w hw 28 rfl)) Via.refl e0 P4 (g := (mkF m 1 #[.val (.ref o1), .val (.int (1 : Int32))] [(.ref o1)])) rfl rfl (hb hby d6_1)
  obtain ⟨cl2, Ar2, qa2, Sa2, Na2, Ha2, Ga2⟩ := id (P6)
  have hin2 : ¬ ((0 : Int32) < 0 ∨ cl2.slots.size ≤ ((0 : Int32)).toNatClampNeg) := inb_of Sa2 ⟨by decide, by decide⟩
  have hat2 : cl2.slots[((0 : Int32)).toNatClampNeg]? = some (.ref o6) := Has.at Ha2 hin2 rfl
  obtain ⟨cl3, Ar3, qa3, Sa3, Na3, Ha3, Ga3⟩ := id (P8)
  have hin3 : ¬ ((2 : Int32) < 0 ∨ cl3.slots.size ≤ ((2 : Int32)).toNatClampNeg) := inb_of Sa3 ⟨(by decide : ¬ ((2 : Int32) < (0 : Int32))), (own_glt2 (n := 2) (k := (2 : Int32)) (by decide) (by have q0 := bd_p8; omega))⟩
  have hat3 : cl3.slots[((2 : Int32)).toNatClampNeg]? = some (.long q11) := Has.at Ha3 hin3 rfl
  obtain ⟨fs, hr, hrun, hended, hW, hsame⟩ := X1.leave (v := some (.long q11)) (fun h => by rw [hret] at h; cases h)
  refine ⟨_, _, pre0 _ ?_, hrun, hended, _, _, rfl, ?_, ⟨_, rfl⟩, hW, hsame.mono (by decide) (by decide)⟩
  ·
    show Steps p.tables e below (s₁.setTop (mkF m 0 #[.val (.ref o1), .val (.int (1 : Int32))] [])) _
    refine XS.aloadN X0.here hx rfl (hb hby d6_0) rfl rfl ?_
    refine st1 _ ?_
    refine XS.iloadN X1.here hx rfl (hb hby d6_4) rfl ?_
    refine XS.bipush X1.here hx rfl (hb hby d6_5) ?_
    refine XS.iushr X1.here hx rfl (hb hby d6_7) rfl ?_
    refine X1.aaload hx (j := (0 : Int32)) (v := (.ref o6)) (by rw [e1]; exact Ar2.1) (State.isArrayOf_alike hZ.alike Ar2.2.1) rfl Ar2.2.2 hin2 hat2 (g := (mkF m 8 #[.val (.ref o1), .val (.int (1 : Int32))] [(.int (0 : Int32)), (.ref o4)])) rfl rfl (hb hby d6_8) _ ?_
    refine XS.iconst X1.here hx rfl (hb hby d6_9) ?_
    refine XS.iloadN X1.here hx rfl (hb hby d6_10) rfl ?_
    refine XS.sipush X1.here hx rfl (hb hby d6_11) ?_
    refine XS.iand X1.here hx rfl (hb hby d6_14) rfl ?_
    refine XS.imul X1.here hx rfl (hb hby d6_15) rfl ?_
    refine X1.laload hx (j := (2 : Int32)) (v := (.long q11)) (by rw [e1]; exact Ar3.1) (State.isArrayOf_alike hZ.alike Ar3.2.1) Ar3.2.2 hin3 hat3 (g := (mkF m 16 #[.val (.ref o1), .val (.int (1 : Int32))] [(.int (2 : Int32)), (.ref o6)])) rfl rfl (hb hby d6_16) _ ?_
    show Steps p.tables e below (T1.setTop (mkF m 17 #[.val (.ref o1), .val (.int (1 : Int32))] [(.long q11)])) _
    exact retOut X1 hx hret rfl (Or.inr (Or.inl ⟨rfl, rfl, _, rfl⟩)) (hb hby d6_17) hr
  ·
    show Q11 Z o1 o4 o6 kc5 p8 kc7 q9 q10 q11 q12 q13 q14 h0 n0 _ T1.heap _
    rw [e1]
    exact ⟨rfl, N0, rfl⟩
theorem ef12 (m : MethodId) (x0 : Addr) (x1 : Int32) : entryFrame m #[(.ref x0), (.int x1)] 2 = mkF m 0 #[.val (.ref x0), .val (.int x1)] [] := by first | (simp [entryFrame, mkF, argsToLocals, Value.category]; done) | rfl
def Q12 (Z : State) (o1 : Addr) (o4 : Addr) (o6 : Addr) (kc5 : ClassId) (p8 : Int32) (kc7 : ClassId) (q9 : Int64) (q10 : Int64) (q11 : Int64) (q12 : Int64) (q13 : Int64) (q14 : Int64) (h0 : Heap) (n0 : Nat) (v : Option Value) (h : Heap) (L : List Loc) : Prop :=
  (v = some (.long q12) ∧ Fr n0 L ∧ h = h0)
set_option maxRecDepth 65536 in
set_option maxHeartbeats 40000000 in
theorem rm12 (l : Launch) (Z : State) (a0 : Array Value) (hw : ∀ d ∈ tables_1, d.before a0 Z = true) (ws : List Jvm.Cond) (o1 : Addr) (o4 : Addr) (o6 : Addr) (kc5 : ClassId) (p8 : Int32) (kc7 : ClassId) (q9 : Int64) (q10 : Int64) (q11 : Int64) (q12 : Int64) (q13 : Int64) (q14 : Int64) (h0 : Heap) (n0 : Nat) (O0 : Old Z n0 h0) (g_o1 : n0 ≤ o1) (g_o4 : n0 ≤ o4) (g_o6 : n0 ≤ o6) (Ov_kc5 : OvrA Z kc5 .long "[J") (bd_p8 : 6 ≤ p8.toInt ∧ p8.toInt ≤ 2147483647) (P4 : Fld Z h0 o1 "com/example/driftless/driftless/DeleteOperations" "targets" "[[J" (.ref o4)) (P6 : Arv Z h0 o4 kc5 (.array .long) (1 : Int32) [(.ref o6)] .null) (P8 : Arv Z h0 o6 kc7 .long p8 [(.long q9), (.long q10), (.long q11), (.long q12), (.long q13), (.long q14)] (.long (0 : Int64))) :
    MetFree l yn7 (head1 (Jvm.Cond.code yn7 prog_7_method_7_code 2 (some .long) :: ws) ({ frames := 0, cells := 0, slots := 0, locals := 0 } : Room)) (fun a U => a = #[(.ref o1), (.int (1 : Int32))] ∧ Z.Warmed39 U.vm ∧ U.heap = h0) (fun _ _ _ _ _ => True) (fun _ U o U' => ∃ v L, o = .returned v ∧ Q12 Z o1 o4 o6 kc5 p8 kc7 q9 q10 q11 q12 q13 q14 h0 n0 v U'.heap L ∧ FrameEnd U o U' L ({ frames := 0, cells := 0, slots := 0, locals := 0 } : Room).cells ({ frames := 0, cells := 0, slots := 0, locals := 0 } : Room).slots) := by
  refine MetFree.of_bodySF (plainFor_of_name pn2) hisR ?_
  intro p e s m args below meth c s₁ Bd hml0 hP hK
  obtain ⟨rfl, hZ, hh⟩ := hP
  have hx := Bd.exec
  have hby := Bd.bytes
  have hml : c.maxLocals = 2 := hml0
  have hown : s.vm.findClass "com/example/driftless/driftless/DeleteOperations" = some m.cls := findClass_of_methodNamed Bd.named
  have hnm := (name_of_methodNamed Bd.named Bd.method).1
  have hret := Bd.returns
  have hlk : meth.locks = false := BodyLoose.notSynchronized Bd
  have X0 : Stand p l e ({ frames := 0, cells := 0, slots := 0, locals := 0 } : Room) s m #[(.ref o1), (.int (1 : Int32))] below meth c s₁ [] 0 0 := Stand.of_body Bd
  have e0 : s₁.heap = h0 := by rw [← hh, Bd.state]; rfl
  have N0 := Fr.nil n0
  have pre0 : ∀ t, Steps p.tables e below (s₁.setTop (mkF m 0 #[.val (.ref o1), .val (.int (1 : Int32))] [])) t → Steps p.tables e below (s₁.setTop (entryFrame m #[(.ref o1), (.int (1 : Int32))] 2)) t := fun t k => castTop (ef12 m o1 (1 : Int32)) k
  obtain ⟨T1, X1, e1, st1⟩ := getF X0 hx hZ hown (host := "") (Or.inl (own_w hw 28 rfl)) Via.refl e0 P4 (g := (mkF m 1 #[.val (.ref o1), .val (.int (1 : Int32))] [(.ref o1)])) rfl rfl (hb hby d7_1)
  obtain ⟨cl2, Ar2, qa2, Sa2, Na2, Ha2, Ga2⟩ := id (P6)
  have hin2 : ¬ ((0 : Int32) < 0 ∨ cl2.slots.size ≤ ((0 : Int32)).toNatClampNeg) := inb_of Sa2 ⟨by decide, by decide⟩
  have hat2 : cl2.slots[((0 : Int32)).toNatClampNeg]? = some (.ref o6) := Has.at Ha2 hin2 rfl
  obtain ⟨cl3, Ar3, qa3, Sa3, Na3, Ha3, Ga3⟩ := id (P8)
  have hin3 : ¬ ((3 : Int32) < 0 ∨ cl3.slots.size ≤ ((3 : Int32)).toNatClampNeg) := inb_of Sa3 ⟨(by decide : ¬ ((3 : Int32) < (0 : Int32))), (own_glt2 (n := 3) (k := (3 : Int32)) (by decide) (by have q0 := bd_p8; omega))⟩
  have hat3 : cl3.slots[((3 : Int32)).toNatClampNeg]? = some (.long q12) := Has.at Ha3 hin3 rfl
  obtain ⟨fs, hr, hrun, hended, hW, hsame⟩ := X1.leave (v := some (.long q12)) (fun h => by rw [hret] at h; cases h)
  refine ⟨_, _, pre0 _ ?_, hrun, hended, _, _, rfl, ?_, ⟨_, rfl⟩, hW, hsame.mono (by decide) (by decide)⟩
  ·
    show Steps p.tables e below (s₁.setTop (mkF m 0 #[.val (.ref o1), .val (.int (1 : Int32))] [])) _
    refine XS.aloadN X0.here hx rfl (hb hby d7_0) rfl rfl ?_
    refine st1 _ ?_
    refine XS.iloadN X1.here hx rfl (hb hby d7_4) rfl ?_
    refine XS.bipush X1.here hx rfl (hb hby d7_5) ?_
    refine XS.iushr X1.here hx rfl (hb hby d7_7) rfl ?_
    refine X1.aaload hx (j := (0 : Int32)) (v := (.ref o6)) (by rw [e1]; exact Ar2.1) (State.isArrayOf_alike hZ.alike Ar2.2.1) rfl Ar2.2.2 hin2 hat2 (g := (mkF m 8 #[.val (.ref o1), .val (.int (1 : Int32))] [(.int (0 : Int32)), (.ref o4)])) rfl rfl (hb hby d7_8) _ ?_
    refine XS.iconst X1.here hx rfl (hb hby d7_9) ?_
    refine XS.iloadN X1.here hx rfl (hb hby d7_10) rfl ?_
    refine XS.sipush X1.here hx rfl (hb hby d7_11) ?_
    refine XS.iand X1.here hx rfl (hb hby d7_14) rfl ?_
    refine XS.imul X1.here hx rfl (hb hby d7_15) rfl ?_
    refine XS.iconst X1.here hx rfl (hb hby d7_16) ?_
    refine XS.iadd X1.here hx rfl (hb hby d7_17) rfl ?_
    refine X1.laload hx (j := (3 : Int32)) (v := (.long q12)) (by rw [e1]; exact Ar3.1) (State.isArrayOf_alike hZ.alike Ar3.2.1) Ar3.2.2 hin3 hat3 (g := (mkF m 18 #[.val (.ref o1), .val (.int (1 : Int32))] [(.int (3 : Int32)), (.ref o6)])) rfl rfl (hb hby d7_18) _ ?_
    show Steps p.tables e below (T1.setTop (mkF m 19 #[.val (.ref o1), .val (.int (1 : Int32))] [(.long q12)])) _
    exact retOut X1 hx hret rfl (Or.inr (Or.inl ⟨rfl, rfl, _, rfl⟩)) (hb hby d7_19) hr
  ·
    show Q12 Z o1 o4 o6 kc5 p8 kc7 q9 q10 q11 q12 q13 q14 h0 n0 _ T1.heap _
    rw [e1]
    exact ⟨rfl, N0, rfl⟩
theorem ef13 (m : MethodId) (x0 : Addr) (x1 : Int32) : entryFrame m #[(.ref x0), (.int x1)] 2 = mkF m 0 #[.val (.ref x0), .val (.int x1)] [] := by first | (simp [entryFrame, mkF, argsToLocals, Value.category]; done) | rfl
def Q13 (Z : State) (o1 : Addr) (o4 : Addr) (o6 : Addr) (kc5 : ClassId) (p8 : Int32) (kc7 : ClassId) (q9 : Int64) (q10 : Int64) (q11 : Int64) (q12 : Int64) (q13 : Int64) (q14 : Int64) (h0 : Heap) (n0 : Nat) (v : Option Value) (h : Heap) (L : List Loc) : Prop :=
  (v = some (.long q13) ∧ Fr n0 L ∧ h = h0)
set_option maxRecDepth 65536 in
set_option maxHeartbeats 40000000 in
theorem rm13 (l : Launch) (Z : State) (a0 : Array Value) (hw : ∀ d ∈ tables_1, d.before a0 Z = true) (ws : List Jvm.Cond) (o1 : Addr) (o4 : Addr) (o6 : Addr) (kc5 : ClassId) (p8 : Int32) (kc7 : ClassId) (q9 : Int64) (q10 : Int64) (q11 : Int64) (q12 : Int64) (q13 : Int64) (q14 : Int64) (h0 : Heap) (n0 : Nat) (O0 : Old Z n0 h0) (g_o1 : n0 ≤ o1) (g_o4 : n0 ≤ o4) (g_o6 : n0 ≤ o6) (Ov_kc5 : OvrA Z kc5 .long "[J") (bd_p8 : 6 ≤ p8.toInt ∧ p8.toInt ≤ 2147483647) (P4 : Fld Z h0 o1 "com/example/driftless/driftless/DeleteOperations" "targets" "[[J" (.ref o4)) (P6 : Arv Z h0 o4 kc5 (.array .long) (1 : Int32) [(.ref o6)] .null) (P8 : Arv Z h0 o6 kc7 .long p8 [(.long q9), (.long q10), (.long q11), (.long q12), (.long q13), (.long q14)] (.long (0 : Int64))) :
    MetFree l yn6 (head1 (Jvm.Cond.code yn6 prog_7_method_6_code 2 (some .long) :: ws) ({ frames := 0, cells := 0, slots := 0, locals := 0 } : Room)) (fun a U => a = #[(.ref o1), (.int (2 : Int32))] ∧ Z.Warmed39 U.vm ∧ U.heap = h0) (fun _ _ _ _ _ => True) (fun _ U o U' => ∃ v L, o = .returned v ∧ Q13 Z o1 o4 o6 kc5 p8 kc7 q9 q10 q11 q12 q13 q14 h0 n0 v U'.heap L ∧ FrameEnd U o U' L ({ frames := 0, cells := 0, slots := 0, locals := 0 } : Room).cells ({ frames := 0, cells := 0, slots := 0, locals := 0 } : Room).slots) := by
  refine MetFree.of_bodySF (plainFor_of_name pn2) hisR ?_
  intro p e s m args below meth c s₁ Bd hml0 hP hK
  obtain ⟨rfl, hZ, hh⟩ := hP
  have hx := Bd.exec
  have hby := Bd.bytes
  have hml : c.maxLocals = 2 := hml0
  have hown : s.vm.findClass "com/example/driftless/driftless/DeleteOperations" = some m.cls := findClass_of_methodNamed Bd.named
  have hnm := (name_of_methodNamed Bd.named Bd.method).1
  have hret := Bd.returns
  have hlk : meth.locks = false := BodyLoose.notSynchronized Bd
  have X0 : Stand p l e ({ frames := 0, cells := 0, slots := 0, locals := 0 } : Room) s m #[(.ref o1), (.int (2 : Int32))] below meth c s₁ [] 0 0 := Stand.of_body Bd
  have e0 : s₁.heap = h0 := by rw [← hh, Bd.state]; rfl
  have N0 := Fr.nil n0
  have pre0 : ∀ t, Steps p.tables e below (s₁.setTop (mkF m 0 #[.val (.ref o1), .val (.int (2 : Int32))] [])) t → Steps p.tables e below (s₁.setTop (entryFrame m #[(.ref o1), (.int (2 : Int32))] 2)) t := fun t k => castTop (ef13 m o1 (2 : Int32)) k
  obtain ⟨T1, X1, e1, st1⟩ := getF X0 hx hZ hown (host := "") (Or.inl (own_w hw 28 rfl)) Via.refl e0 P4 (g := (mkF m 1 #[.val (.ref o1), .val (.int (2 : Int32))] [(.ref o1)])) rfl rfl (hb hby d6_1)
  obtain ⟨cl2, Ar2, qa2, Sa2, Na2, Ha2, Ga2⟩ := id (P6)
  have hin2 : ¬ ((0 : Int32) < 0 ∨ cl2.slots.size ≤ ((0 : Int32)).toNatClampNeg) := inb_of Sa2 ⟨by decide, by decide⟩
  have hat2 : cl2.slots[((0 : Int32)).toNatClampNeg]? = some (.ref o6) := Has.at Ha2 hin2 rfl
  obtain ⟨cl3, Ar3, qa3, Sa3, Na3, Ha3, Ga3⟩ := id (P8)
  have hin3 : ¬ ((4 : Int32) < 0 ∨ cl3.slots.size ≤ ((4 : Int32)).toNatClampNeg) := inb_of Sa3 ⟨(by decide : ¬ ((4 : Int32) < (0 : Int32))), (own_glt2 (n := 4) (k := (4 : Int32)) (by decide) (by have q0 := bd_p8; omega))⟩
  have hat3 : cl3.slots[((4 : Int32)).toNatClampNeg]? = some (.long q13) := Has.at Ha3 hin3 rfl
  obtain ⟨fs, hr, hrun, hended, hW, hsame⟩ := X1.leave (v := some (.long q13)) (fun h => by rw [hret] at h; cases h)
  refine ⟨_, _, pre0 _ ?_, hrun, hended, _, _, rfl, ?_, ⟨_, rfl⟩, hW, hsame.mono (by decide) (by decide)⟩
  ·
    show Steps p.tables e below (s₁.setTop (mkF m 0 #[.val (.ref o1), .val (.int (2 : Int32))] [])) _
    refine XS.aloadN X0.here hx rfl (hb hby d6_0) rfl rfl ?_
    refine st1 _ ?_
    refine XS.iloadN X1.here hx rfl (hb hby d6_4) rfl ?_
    refine XS.bipush X1.here hx rfl (hb hby d6_5) ?_
    refine XS.iushr X1.here hx rfl (hb hby d6_7) rfl ?_
    refine X1.aaload hx (j := (0 : Int32)) (v := (.ref o6)) (by rw [e1]; exact Ar2.1) (State.isArrayOf_alike hZ.alike Ar2.2.1) rfl Ar2.2.2 hin2 hat2 (g := (mkF m 8 #[.val (.ref o1), .val (.int (2 : Int32))] [(.int (0 : Int32)), (.ref o4)])) rfl rfl (hb hby d6_8) _ ?_
    refine XS.iconst X1.here hx rfl (hb hby d6_9) ?_
    refine XS.iloadN X1.here hx rfl (hb hby d6_10) rfl ?_
    refine XS.sipush X1.here hx rfl (hb hby d6_11) ?_
    refine XS.iand X1.here hx rfl (hb hby d6_14) rfl ?_
    refine XS.imul X1.here hx rfl (hb hby d6_15) rfl ?_
    refine X1.laload hx (j := (4 : Int32)) (v := (.long q13)) (by rw [e1]; exact Ar3.1) (State.isArrayOf_alike hZ.alike Ar3.2.1) Ar3.2.2 hin3 hat3 (g := (mkF m 16 #[.val (.ref o1), .val (.int (2 : Int32))] [(.int (4 : Int32)), (.ref o6)])) rfl rfl (hb hby d6_16) _ ?_
    show Steps p.tables e below (T1.setTop (mkF m 17 #[.val (.ref o1), .val (.int (2 : Int32))] [(.long q13)])) _
    exact retOut X1 hx hret rfl (Or.inr (Or.inl ⟨rfl, rfl, _, rfl⟩)) (hb hby d6_17) hr
  ·
    show Q13 Z o1 o4 o6 kc5 p8 kc7 q9 q10 q11 q12 q13 q14 h0 n0 _ T1.heap _
    rw [e1]
    exact ⟨rfl, N0, rfl⟩
theorem ef14 (m : MethodId) (x0 : Addr) (x1 : Int32) : entryFrame m #[(.ref x0), (.int x1)] 2 = mkF m 0 #[.val (.ref x0), .val (.int x1)] [] := by first | (simp [entryFrame, mkF, argsToLocals, Value.category]; done) | rfl
def Q14 (Z : State) (o1 : Addr) (o4 : Addr) (o6 : Addr) (kc5 : ClassId) (p8 : Int32) (kc7 : ClassId) (q9 : Int64) (q10 : Int64) (q11 : Int64) (q12 : Int64) (q13 : Int64) (q14 : Int64) (h0 : Heap) (n0 : Nat) (v : Option Value) (h : Heap) (L : List Loc) : Prop :=
  (v = some (.long q14) ∧ Fr n0 L ∧ h = h0)
set_option maxRecDepth 65536 in
set_option maxHeartbeats 40000000 in
theorem rm14 (l : Launch) (Z : State) (a0 : Array Value) (hw : ∀ d ∈ tables_1, d.before a0 Z = true) (ws : List Jvm.Cond) (o1 : Addr) (o4 : Addr) (o6 : Addr) (kc5 : ClassId) (p8 : Int32) (kc7 : ClassId) (q9 : Int64) (q10 : Int64) (q11 : Int64) (q12 : Int64) (q13 : Int64) (q14 : Int64) (h0 : Heap) (n0 : Nat) (O0 : Old Z n0 h0) (g_o1 : n0 ≤ o1) (g_o4 : n0 ≤ o4) (g_o6 : n0 ≤ o6) (Ov_kc5 : OvrA Z kc5 .long "[J") (bd_p8 : 6 ≤ p8.toInt ∧ p8.toInt ≤ 2147483647) (P4 : Fld Z h0 o1 "com/example/driftless/driftless/DeleteOperations" "targets" "[[J" (.ref o4)) (P6 : Arv Z h0 o4 kc5 (.array .long) (1 : Int32) [(.ref o6)] .null) (P8 : Arv Z h0 o6 kc7 .long p8 [(.long q9), (.long q10), (.long q11), (.long q12), (.long q13), (.long q14)] (.long (0 : Int64))) :
    MetFree l yn7 (head1 (Jvm.Cond.code yn7 prog_7_method_7_code 2 (some .long) :: ws) ({ frames := 0, cells := 0, slots := 0, locals := 0 } : Room)) (fun a U => a = #[(.ref o1), (.int (2 : Int32))] ∧ Z.Warmed39 U.vm ∧ U.heap = h0) (fun _ _ _ _ _ => True) (fun _ U o U' => ∃ v L, o = .returned v ∧ Q14 Z o1 o4 o6 kc5 p8 kc7 q9 q10 q11 q12 q13 q14 h0 n0 v U'.heap L ∧ FrameEnd U o U' L ({ frames := 0, cells := 0, slots := 0, locals := 0 } : Room).cells ({ frames := 0, cells := 0, slots := 0, locals := 0 } : Room).slots) := by
  refine MetFree.of_bodySF (plainFor_of_name pn2) hisR ?_
  intro p e s m args below meth c s₁ Bd hml0 hP hK
  obtain ⟨rfl, hZ, hh⟩ := hP
  have hx := Bd.exec
  have hby := Bd.bytes
  have hml : c.maxLocals = 2 := hml0
  have hown : s.vm.findClass "com/example/driftless/driftless/DeleteOperations" = some m.cls := findClass_of_methodNamed Bd.named
  have hnm := (name_of_methodNamed Bd.named Bd.method).1
  have hret := Bd.returns
  have hlk : meth.locks = false := BodyLoose.notSynchronized Bd
  have X0 : Stand p l e ({ frames := 0, cells := 0, slots := 0, locals := 0 } : Room) s m #[(.ref o1), (.int (2 : Int32))] below meth c s₁ [] 0 0 := Stand.of_body Bd
  have e0 : s₁.heap = h0 := by rw [← hh, Bd.state]; rfl
  have N0 := Fr.nil n0
  have pre0 : ∀ t, Steps p.tables e below (s₁.setTop (mkF m 0 #[.val (.ref o1), .val (.int (2 : Int32))] [])) t → Steps p.tables e below (s₁.setTop (entryFrame m #[(.ref o1), (.int (2 : Int32))] 2)) t := fun t k => castTop (ef14 m o1 (2 : Int32)) k
  obtain ⟨T1, X1, e1, st1⟩ := getF X0 hx hZ hown (host := "") (Or.inl (own_w hw 28 rfl)) Via.refl e0 P4 (g := (mkF m 1 #[.val (.ref o1), .val (.int (2 : Int32))] [(.ref o1)])) rfl rfl (hb hby d7_1)
  obtain ⟨cl2, Ar2, qa2, Sa2, Na2, Ha2, Ga2⟩ := id (P6)
  have hin2 : ¬ ((0 : Int32) < 0 ∨ cl2.slots.size ≤ ((0 : Int32)).toNatClampNeg) := inb_of Sa2 ⟨by decide, by decide⟩
  have hat2 : cl2.slots[((0 : Int32)).toNatClampNeg]? = some (.ref o6) := Has.at Ha2 hin2 rfl
  obtain ⟨cl3, Ar3, qa3, Sa3, Na3, Ha3, Ga3⟩ := id (P8)
  have hin3 : ¬ ((5 : Int32) < 0 ∨ cl3.slots.size ≤ ((5 : Int32)).toNatClampNeg) := inb_of Sa3 ⟨(by decide : ¬ ((5 : Int32) < (0 : Int32))), (own_glt2 (n := 5) (k := (5 : Int32)) (by decide) (by have q0 := bd_p8; omega))⟩
  have hat3 : cl3.slots[((5 : Int32)).toNatClampNeg]? = some (.long q14) := Has.at Ha3 hin3 rfl
  obtain ⟨fs, hr, hrun, hended, hW, hsame⟩ := X1.leave (v := some (.long q14)) (fun h => by rw [hret] at h; cases h)
  refine ⟨_, _, pre0 _ ?_, hrun, hended, _, _, rfl, ?_, ⟨_, rfl⟩, hW, hsame.mono (by decide) (by decide)⟩
  ·
    show Steps p.tables e below (s₁.setTop (mkF m 0 #[.val (.ref o1), .val (.int (2 : Int32))] [])) _
    refine XS.aloadN X0.here hx rfl (hb hby d7_0) rfl rfl ?_
    refine st1 _ ?_
    refine XS.iloadN X1.here hx rfl (hb hby d7_4) rfl ?_
    refine XS.bipush X1.here hx rfl (hb hby d7_5) ?_
    refine XS.iushr X1.here hx rfl (hb hby d7_7) rfl ?_
    refine X1.aaload hx (j := (0 : Int32)) (v := (.ref o6)) (by rw [e1]; exact Ar2.1) (State.isArrayOf_alike hZ.alike Ar2.2.1) rfl Ar2.2.2 hin2 hat2 (g := (mkF m 8 #[.val (.ref o1), .val (.int (2 : Int32))] [(.int (0 : Int32)), (.ref o4)])) rfl rfl (hb hby d7_8) _ ?_
    refine XS.iconst X1.here hx rfl (hb hby d7_9) ?_
    refine XS.iloadN X1.here hx rfl (hb hby d7_10) rfl ?_
    refine XS.sipush X1.here hx rfl (hb hby d7_11) ?_
    refine XS.iand X1.here hx rfl (hb hby d7_14) rfl ?_
    refine XS.imul X1.here hx rfl (hb hby d7_15) rfl ?_
    refine XS.iconst X1.here hx rfl (hb hby d7_16) ?_
    refine XS.iadd X1.here hx rfl (hb hby d7_17) rfl ?_
    refine X1.laload hx (j := (5 : Int32)) (v := (.long q14)) (by rw [e1]; exact Ar3.1) (State.isArrayOf_alike hZ.alike Ar3.2.1) Ar3.2.2 hin3 hat3 (g := (mkF m 18 #[.val (.ref o1), .val (.int (2 : Int32))] [(.int (5 : Int32)), (.ref o6)])) rfl rfl (hb hby d7_18) _ ?_
    show Steps p.tables e below (T1.setTop (mkF m 19 #[.val (.ref o1), .val (.int (2 : Int32))] [(.long q14)])) _
    exact retOut X1 hx hret rfl (Or.inr (Or.inl ⟨rfl, rfl, _, rfl⟩)) (hb hby d7_19) hr
  ·
    show Q14 Z o1 o4 o6 kc5 p8 kc7 q9 q10 q11 q12 q13 q14 h0 n0 _ T1.heap _
    rw [e1]
    exact ⟨rfl, N0, rfl⟩
theorem ef15 (m : MethodId) (x0 : Int32) (x1 : Int32) : entryFrame m #[(.int x0), (.int x1)] 2 = mkF m 0 #[.val (.int x0), .val (.int x1)] [] := by first | (simp [entryFrame, mkF, argsToLocals, Value.category]; done) | rfl
def Q15 (Z : State) (p1 : Int32) (h0 : Heap) (n0 : Nat) (v : Option Value) (h : Heap) (L : List Loc) : Prop :=
  (v = some (.int (4096 : Int32)) ∧ Fr n0 L ∧ h = h0)
set_option maxRecDepth 65536 in
set_option maxHeartbeats 40000000 in
theorem rm15 (l : Launch) (Z : State) (a0 : Array Value) (hw : ∀ d ∈ tables_1, d.before a0 Z = true) (ws : List Jvm.Cond) (p1 : Int32) (h0 : Heap) (n0 : Nat) (O0 : Old Z n0 h0) (bd_p1 : 4097 ≤ p1.toInt ∧ p1.toInt ≤ 8192) :
    MetFree l yn2 (head1 (Jvm.Cond.code yn2 jdk_29_method_69_code 2 (some .int) :: ws) ({ frames := 0, cells := 0, slots := 0, locals := 0 } : Room)) (fun a U => a = #[(.int (4096 : Int32)), (.int p1)] ∧ Z.Warmed39 U.vm ∧ U.heap = h0) (fun _ _ _ _ _ => True) (fun _ U o U' => ∃ v L, o = .returned v ∧ Q15 Z p1 h0 n0 v U'.heap L ∧ FrameEnd U o U' L ({ frames := 0, cells := 0, slots := 0, locals := 0 } : Room).cells ({ frames := 0, cells := 0, slots := 0, locals := 0 } : Room).slots) := by
  refine MetFree.of_bodySF (Jvm.Free.JP.mathPlain rfl (by decide +kernel)) hisR ?_
  intro p e s m args below meth c s₁ Bd hml0 hP hK
  obtain ⟨rfl, hZ, hh⟩ := hP
  have hx := Bd.exec
  have hby := Bd.bytes
  have hml : c.maxLocals = 2 := hml0
  have hown : s.vm.findClass "java/lang/Math" = some m.cls := findClass_of_methodNamed Bd.named
  have hnm := (name_of_methodNamed Bd.named Bd.method).1
  have hret := Bd.returns
  have hlk : meth.locks = false := BodyLoose.notSynchronized Bd
  have X0 : Stand p l e ({ frames := 0, cells := 0, slots := 0, locals := 0 } : Room) s m #[(.int (4096 : Int32)), (.int p1)] below meth c s₁ [] 0 0 := Stand.of_body Bd
  have e0 : s₁.heap = h0 := by rw [← hh, Bd.state]; rfl
  have N0 := Fr.nil n0
  have pre0 : ∀ t, Steps p.tables e below (s₁.setTop (mkF m 0 #[.val (.int (4096 : Int32)), .val (.int p1)] [])) t → Steps p.tables e below (s₁.setTop (entryFrame m #[(.int (4096 : Int32)), (.int p1)] 2)) t := fun t k => castTop (ef15 m (4096 : Int32) p1) k
  obtain ⟨fs, hr, hrun, hended, hW, hsame⟩ := X0.leave (v := some (.int (4096 : Int32))) (fun h => by rw [hret] at h; cases h)
  refine ⟨_, _, pre0 _ ?_, hrun, hended, _, _, rfl, ?_, ⟨_, rfl⟩, hW, hsame.mono (by decide) (by decide)⟩
  ·
    show Steps p.tables e below (s₁.setTop (mkF m 0 #[.val (.int (4096 : Int32)), .val (.int p1)] [])) _
    refine XS.iloadN X0.here hx rfl (hb hby d3_0) rfl ?_
    refine XS.iloadN X0.here hx rfl (hb hby d3_1) rfl ?_
    refine XS.icmpNo X0.here hx rfl (hb hby d3_2) rfl (flt (own_gnlt1 (n := 4096) (k := (4096 : Int32)) (by decide) (by have q0 := bd_p1; omega))).2.2.1 ?_
    refine XS.iloadN X0.here hx rfl (hb hby d3_5) rfl ?_
    refine XS.goto X0.here hx rfl (pc0 := 6) (pc' := 10) rfl (hb hby d3_6) (by decide) (by decide) ?_
    show Steps p.tables e below (s₁.setTop (mkF m 10 #[.val (.int (4096 : Int32)), .val (.int p1)] [(.int (4096 : Int32))])) _
    exact retI X0 hx hret (hb hby d3_10) hr
  ·
    show Q15 Z p1 h0 n0 _ s₁.heap _
    rw [e0]
    exact ⟨rfl, N0, rfl⟩
theorem ef16 (m : MethodId) (x0 : Int32) (x1 : Int32) : entryFrame m #[(.int x0), (.int x1)] 2 = mkF m 0 #[.val (.int x0), .val (.int x1)] [] := by first | (simp [entryFrame, mkF, argsToLocals, Value.category]; done) | rfl
def Q16 (Z : State) (p1 : Int32) (h0 : Heap) (n0 : Nat) (v : Option Value) (h : Heap) (L : List Loc) : Prop :=
  (∃ r1 : Int32, (1 ≤ r1.toInt ∧ r1.toInt ≤ 4096) ∧ v = some (.int r1) ∧ Fr n0 L ∧ h = h0)
set_option maxRecDepth 65536 in
set_option maxHeartbeats 40000000 in
theorem rm16 (l : Launch) (Z : State) (a0 : Array Value) (hw : ∀ d ∈ tables_1, d.before a0 Z = true) (ws : List Jvm.Cond) (p1 : Int32) (h0 : Heap) (n0 : Nat) (O0 : Old Z n0 h0) (bd_p1 : 1 ≤ p1.toInt ∧ p1.toInt ≤ 4096) :
    MetFree l yn2 (head1 (Jvm.Cond.code yn2 jdk_29_method_69_code 2 (some .int) :: ws) ({ frames := 0, cells := 0, slots := 0, locals := 0 } : Room)) (fun a U => a = #[(.int (4096 : Int32)), (.int p1)] ∧ Z.Warmed39 U.vm ∧ U.heap = h0) (fun _ _ _ _ _ => True) (fun _ U o U' => ∃ v L, o = .returned v ∧ Q16 Z p1 h0 n0 v U'.heap L ∧ FrameEnd U o U' L ({ frames := 0, cells := 0, slots := 0, locals := 0 } : Room).cells ({ frames := 0, cells := 0, slots := 0, locals := 0 } : Room).slots) := by
  refine MetFree.of_bodySF (Jvm.Free.JP.mathPlain rfl (by decide +kernel)) hisR ?_
  intro p e s m args below meth c s₁ Bd hml0 hP hK
  obtain ⟨rfl, hZ, hh⟩ := hP
  have hx := Bd.exec
  have hby := Bd.bytes
  have hml : c.maxLocals = 2 := hml0
  have hown : s.vm.findClass "java/lang/Math" = some m.cls := findClass_of_methodNamed Bd.named
  have hnm := (name_of_methodNamed Bd.named Bd.method).1
  have hret := Bd.returns
  have hlk : meth.locks = false := BodyLoose.notSynchronized Bd
  have X0 : Stand p l e ({ frames := 0, cells := 0, slots := 0, locals := 0 } : Room) s m #[(.int (4096 : Int32)), (.int p1)] below meth c s₁ [] 0 0 := Stand.of_body Bd
  have e0 : s₁.heap = h0 := by rw [← hh, Bd.state]; rfl
  have N0 := Fr.nil n0
  have pre0 : ∀ t, Steps p.tables e below (s₁.setTop (mkF m 0 #[.val (.int (4096 : Int32)), .val (.int p1)] [])) t → Steps p.tables e below (s₁.setTop (entryFrame m #[(.int (4096 : Int32)), (.int p1)] 2)) t := fun t k => castTop (ef16 m (4096 : Int32) p1) k
  have pre1 : ∀ t, Steps p.tables e below (s₁.setTop (mkF m 2 #[.val (.int (4096 : Int32)), .val (.int p1)] [(.int p1), (.int (4096 : Int32))])) t → Steps p.tables e below (s₁.setTop (entryFrame m #[(.int (4096 : Int32)), (.int p1)] 2)) t := fun t k => by
    refine pre0 _ ?_
    show Steps p.tables e below (s₁.setTop (mkF m 0 #[.val (.int (4096 : Int32)), .val (.int p1)] [])) _
    refine XS.iloadN X0.here hx rfl (hb hby d3_0) rfl ?_
    refine XS.iloadN X0.here hx rfl (hb hby d3_1) rfl ?_
    exact k
  by_cases hc2 : p1 < (4096 : Int32)
  ·
    obtain ⟨fs, hr, hrun, hended, hW, hsame⟩ := X0.leave (v := some (.int p1)) (fun h => by rw [hret] at h; cases h)
    refine ⟨_, _, pre1 _ ?_, hrun, hended, _, _, rfl, ?_, ⟨_, rfl⟩, hW, hsame.mono (by decide) (by decide)⟩
    ·
      show Steps p.tables e below (s₁.setTop (mkF m 2 #[.val (.int (4096 : Int32)), .val (.int p1)] [(.int p1), (.int (4096 : Int32))])) _
      refine XS.icmpYes X0.here hx rfl (pc0 := 2) (pc' := 9) rfl (hb hby d3_2) rfl (tlt hc2).2.2.1 (by decide) (by decide) ?_
      refine XS.iloadN X0.here hx rfl (hb hby d3_9) rfl ?_
      show Steps p.tables e below (s₁.setTop (mkF m 10 #[.val (.int (4096 : Int32)), .val (.int p1)] [(.int p1)])) _
      exact retI X0 hx hret (hb hby d3_10) hr
    ·
      show Q16 Z p1 h0 n0 _ s₁.heap _
      rw [e0]
      exact ⟨p1, (by have q0 := bd_p1; have q1 := own_lt1 (n := 4096) (k := (4096 : Int32)) (by decide) hc2; omega), rfl, N0, rfl⟩
  ·
    have hq3 : p1 = (4096 : Int32) := (own_geq (n := 4096) (k := (4096 : Int32)) (by decide) (by have q0 := bd_p1; have q1 := own_nlt1 (n := 4096) (k := (4096 : Int32)) (by decide) hc2; omega))
    have pre4 : ∀ t, Steps p.tables e below (s₁.setTop (mkF m 2 #[.val (.int (4096 : Int32)), .val (.int (4096 : Int32))] [(.int (4096 : Int32)), (.int (4096 : Int32))])) t → Steps p.tables e below (s₁.setTop (entryFrame m #[(.int (4096 : Int32)), (.int p1)] 2)) t := fun t k => pre1 t (by rw [hq3]; exact k)
    obtain ⟨fs, hr, hrun, hended, hW, hsame⟩ := X0.leave (v := some (.int (4096 : Int32))) (fun h => by rw [hret] at h; cases h)
    refine ⟨_, _, pre4 _ ?_, hrun, hended, _, _, rfl, ?_, ⟨_, rfl⟩, hW, hsame.mono (by decide) (by decide)⟩
    ·
      show Steps p.tables e below (s₁.setTop (mkF m 2 #[.val (.int (4096 : Int32)), .val (.int (4096 : Int32))] [(.int (4096 : Int32)), (.int (4096 : Int32))])) _
      refine XS.icmpNo X0.here hx rfl (hb hby d3_2) rfl (flt (by decide : ¬ ((4096 : Int32) < (4096 : Int32)))).2.2.1 ?_
      refine XS.iloadN X0.here hx rfl (hb hby d3_5) rfl ?_
      refine XS.goto X0.here hx rfl (pc0 := 6) (pc' := 10) rfl (hb hby d3_6) (by decide) (by decide) ?_
      show Steps p.tables e below (s₁.setTop (mkF m 10 #[.val (.int (4096 : Int32)), .val (.int (4096 : Int32))] [(.int (4096 : Int32))])) _
      exact retI X0 hx hret (hb hby d3_10) hr
    ·
      show Q16 Z p1 h0 n0 _ s₁.heap _
      rw [e0]
      exact ⟨(4096 : Int32), (by have q0 := (by decide : ((4096 : Int32)).toInt = 4096); omega), rfl, N0, rfl⟩
theorem ef17 (m : MethodId) (x0 : Addr) (x1 : Int64) (x2 : Int64) (x3 : Int32) : entryFrame m #[(.ref x0), (.long x1), (.long x2), (.int x3)] 8 = mkF m 0 #[.val (.ref x0), .val (.long x1), .second, .val (.long x2), .second, .val (.int x3), .unset, .unset] [] := by first | (simp [entryFrame, mkF, argsToLocals, Value.category]; done) | rfl
def Q17 (Z : State) (o1 : Addr) (p4 : Int32) (q2 : Int64) (q3 : Int64) (h0 : Heap) (n0 : Nat) (v : Option Value) (h : Heap) (L : List Loc) : Prop :=
  (∃ z32 : Int32, (1 ≤ z32.toInt ∧ z32.toInt ≤ 4096) ∧ ∃ b15 : Addr, ∃ b23 : Addr, ∃ b36 : Addr, ∃ k15 : ClassId, ∃ k23 : ClassId, ∃ k36 : ClassId, v = none ∧ Fr n0 L ∧ Keep h0 h [o1] ∧ h0.size ≤ b15 ∧ h0.size ≤ b23 ∧ h0.size ≤ b36 ∧ b15 ≠ b23 ∧ b15 ≠ b36 ∧ b23 ≠ b36 ∧ OvrA Z k15 .long "[J" ∧ (Exa Z h o1 "com/example/driftless/driftless/DeleteOperations") ∧ (Fld Z h o1 "com/example/driftless/driftless/DeleteOperations" "firstCounter" "J" (.long q2)) ∧ (Fld Z h o1 "com/example/driftless/driftless/DeleteOperations" "replica" "J" (.long q3)) ∧ (Fld Z h o1 "com/example/driftless/driftless/DeleteOperations" "size" "I" (.int (0 : Int32))) ∧ (Fld Z h o1 "com/example/driftless/driftless/DeleteOperations" "targets" "[[J" (.ref b15)) ∧ (Fld Z h o1 "java/util/AbstractList" "modCount" "I" (.int (0 : Int32))) ∧ (Arv Z h b15 k15 (.array .long) (2 : Int32) [(.ref b23), (.ref b36)] .null) ∧ (Exa Z h b15 "[[J") ∧ (Arv Z h b23 k23 .long (8192 : Int32) [(.long (0 : Int64)), (.long (0 : Int64)), (.long (0 : Int64)), (.long (0 : Int64)), (.long (0 : Int64)), (.long (0 : Int64))] (.long (0 : Int64))) ∧ (Exa Z h b23 "[J") ∧ (Arv Z h b36 k36 .long ((2 : Int32) * z32) [(.long (0 : Int64)), (.long (0 : Int64))] (.long (0 : Int64))) ∧ (Exa Z h b36 "[J"))
set_option maxRecDepth 65536 in
set_option maxHeartbeats 40000000 in
theorem rm17 (l : Launch) (Z : State) (a0 : Array Value) (hw : ∀ d ∈ tables_1, d.before a0 Z = true) (ws : List Jvm.Cond) (o1 : Addr) (p4 : Int32) (q2 : Int64) (q3 : Int64) (h0 : Heap) (n0 : Nat) (O0 : Old Z n0 h0) (g_o1 : n0 ≤ o1) (bd_p4 : 4097 ≤ p4.toInt ∧ p4.toInt ≤ 8192) (P0 : Exa Z h0 o1 "com/example/driftless/driftless/DeleteOperations") (P1 : Fld Z h0 o1 "com/example/driftless/driftless/DeleteOperations" "firstCounter" "J" (.long (0 : Int64))) (P2 : Fld Z h0 o1 "com/example/driftless/driftless/DeleteOperations" "replica" "J" (.long (0 : Int64))) (P3 : Fld Z h0 o1 "com/example/driftless/driftless/DeleteOperations" "size" "I" (.int (0 : Int32))) (P4 : Fld Z h0 o1 "com/example/driftless/driftless/DeleteOperations" "targets" "[[J" .null) (P5 : Fld Z h0 o1 "java/util/AbstractList" "modCount" "I" (.int (0 : Int32))) :
    MetFree l yn3 (head1 (Jvm.Cond.code yn3 prog_7_method_1_code 8 none :: ws) ({ frames := 3, cells := 3, slots := 16386, locals := 36 } : Room)) (fun a U => a = #[(.ref o1), (.long q2), (.long q3), (.int p4)] ∧ Z.Warmed39 U.vm ∧ U.heap = h0) (fun _ _ _ _ _ => True) (fun _ U o U' => ∃ v L, o = .returned v ∧ Q17 Z o1 p4 q2 q3 h0 n0 v U'.heap L ∧ FrameEnd U o U' L ({ frames := 3, cells := 3, slots := 16386, locals := 36 } : Room).cells ({ frames := 3, cells := 3, slots := 16386, locals := 36 } : Room).slots) := by
  refine MetFree.of_bodySF (plainFor_of_name pn2) hisR ?_
  intro p e s m args below meth c s₁ Bd hml0 hP hK
  obtain ⟨rfl, hZ, hh⟩ := hP
  have hx := Bd.exec
  have hby := Bd.bytes
  have hml : c.maxLocals = 8 := hml0
  have hown : s.vm.findClass "com/example/driftless/driftless/DeleteOperations" = some m.cls := findClass_of_methodNamed Bd.named
  have hnm := (name_of_methodNamed Bd.named Bd.method).1
  have hret := Bd.returns
  have hlk : meth.locks = false := BodyLoose.notSynchronized Bd
  have X0 : Stand p l e ({ frames := 3, cells := 3, slots := 16386, locals := 36 } : Room) s m #[(.ref o1), (.long q2), (.long q3), (.int p4)] below meth c s₁ [] 0 0 := Stand.of_body Bd
  have e0 : s₁.heap = h0 := by rw [← hh, Bd.state]; rfl
  have N0 := Fr.nil n0
  have pre0 : ∀ t, Steps p.tables e below (s₁.setTop (mkF m 0 #[.val (.ref o1), .val (.long q2), .second, .val (.long q3), .second, .val (.int p4), .unset, .unset] [])) t → Steps p.tables e below (s₁.setTop (entryFrame m #[(.ref o1), (.long q2), (.long q3), (.int p4)] 8)) t := fun t k => castTop (ef17 m o1 q2 q3 p4) k
  obtain ⟨_, _, ⟨T1, L1, c1, n1⟩, -, X1, ⟨Lc1, hQ1, l1, y1, z1⟩, st1⟩ := X0.specialBack hx (y := yn1) rfl hown (mvT hZ (own_w hw 6 rfl)) (mvT hZ (own_w hw 7 rfl)) (mvT hZ (own_w hw 10 rfl)) (by decide) (backOf (W := 0) (rm2 l Z a0 hw [] o1 h0 n0 O0 g_o1 P0 P1 P2 P3 P4 P5) hZ (own_w hw 10 rfl) (own_w hw 9 rfl) (by decide) (by decide)) (g := (mkF m 1 #[.val (.ref o1), .val (.long q2), .second, .val (.long q3), .second, .val (.int p4), .unset, .unset] [(.ref o1)])) rfl (by rw [hml]; rfl) (Steps.refl _) (a := o1) (argsL := []) (rest := []) (lenOf pd0 rfl) rfl (by show 2 * 0 + _ ≤ _; exact Nat.le_of_eq rfl) (hb hby d0_1) (fun _ _ => ⟨rfl, e0, (by decide : 0 + 0 ≤ _), (by decide : 0 + 0 ≤ _)⟩)
  dsimp only [Pt.U, Pt.locs, Pt.cells, Pt.slots] at X1 l1 y1 z1 st1 hQ1
  subst l1 y1 z1
  have X1 : Stand p l e ({ frames := 3, cells := 3, slots := 16386, locals := 36 } : Room) s m #[(.ref o1), (.long q2), (.long q3), (.int p4)] below meth c T1 _ 0 0 := X1
  obtain ⟨rfl, Nq2, K3, f4, f5, f6, f7, f8, f9⟩ := hQ1
  have N1 := Fr.app N0 Nq2
  have M1 : h0.size ≤ T1.heap.size := Nat.le_trans (Nat.le_refl _) K3.1
  have O1 := Old.keep O0 K3 (allS g_o1 all0)
  obtain ⟨T10, h10, X10, e10, W10, st10⟩ := putF X1 hx hZ hown (host := "") (Or.inl (own_w hw 22 rfl)) Via.refl rfl f5 f4 (Or.inr ⟨(own_w hw 23 rfl), rfl, hnm⟩) (own_w hw 1 rfl) (ty := .long) (by decide) rfl rfl (g := (mkF m 6 #[.val (.ref o1), .val (.long q2), .second, .val (.long q3), .second, .val (.int p4), .unset, .unset] [(.long q2), (.ref o1)])) rfl rfl (hb hby d0_6)
  have N10 := Fr.snoc X10 N1 g_o1
  have Fw10 := f5.same W10
  have M10 : h0.size ≤ h10.size := Nat.le_trans M1 (Nat.le_of_eq W10.size.symm)
  have O10 := Old.wr O1 W10 g_o1
  have f11 := (f6.other W10 (Or.inr (slot_ne (Or.inr (own_w hw 25 rfl)) (Or.inr (own_w hw 23 rfl)) (by decide) (t := .long) (t' := .long) (by decide) (by decide))))
  have f12 := (f4.wr W10)
  obtain ⟨T13, h13, X13, e13, W13, st13⟩ := putF X10 hx hZ hown (host := "") (Or.inl (own_w hw 24 rfl)) Via.refl e10 f11 f12 (Or.inr ⟨(own_w hw 25 rfl), rfl, hnm⟩) (own_w hw 1 rfl) (ty := .long) (by decide) rfl rfl (g := (mkF m 11 #[.val (.ref o1), .val (.long q2), .second, .val (.long q3), .second, .val (.int p4), .unset, .unset] [(.long q3), (.ref o1)])) rfl rfl (hb hby d0_11)
  have N13 := Fr.snoc X13 N10 g_o1
  have Fw13 := f11.same W13
  have M13 : h0.size ≤ h13.size := Nat.le_trans M10 (Nat.le_of_eq W13.size.symm)
  have O13 := Old.wr O10 W13 g_o1
  have hq14 : ((((p4 - (1 : Int32)).toUInt32 >>> ((12 : Int32) &&& 31).toUInt32).toInt32) + (1 : Int32)) = (2 : Int32) := (own_geq (n := 2) (k := (2 : Int32)) (by decide) (by have q0 := own_add (x := (((p4 - (1 : Int32)).toUInt32 >>> ((12 : Int32) &&& 31).toUInt32).toInt32)) (k := (1 : Int32)) (n := 1) (lo := 1) (hi := 1) (by decide) (by have q0 := own_ushr12 (x := (p4 - (1 : Int32))) (lo := 4096) (hi := 8191) (by have q0 := own_sub (x := p4) (k := (1 : Int32)) (n := 1) (lo := 4097) (hi := 8192) (by decide) (by have q0 := bd_p4; omega) (by decide) (by decide); omega) (by decide); omega) (by decide) (by decide); omega))
  obtain ⟨T15, h15, k15, X15, e15, E15, A15, EX15, OV15, st15⟩ := newRA X13 hx hZ hown (C := "[J") (ty := .long) (by decide) (own_w hw 26 rfl) (own_w hw 27 rfl) e13 (g := (mkF m 37 #[.val (.ref o1), .val (.long q2), .second, .val (.long q3), .second, .val (.int p4), .val (.int ((((p4 - (1 : Int32)).toUInt32 >>> ((12 : Int32) &&& 31).toUInt32).toInt32) + (1 : Int32))), .unset] [(.int ((((p4 - (1 : Int32)).toUInt32 >>> ((12 : Int32) &&& 31).toUInt32).toInt32) + (1 : Int32))), (.ref o1)])) rfl (hb hby d0_37) rfl (by rw [hq14]; decide) (cap := 2) (by rw [hq14]; decide) (by decide) (by decide) (by decide) (ad := "[[J") (by decide)
  obtain ⟨b15, g15⟩ : ∃ z, z = h13.size := ⟨_, rfl⟩
  rw [← g15] at A15 EX15 st15
  rw [hq14] at A15
  have M15 : h0.size ≤ h15.size := Nat.le_trans M13 E15.1
  have O15 := Old.ext O13 E15
  have sz_b15 : h13.size ≤ b15 := Nat.le_of_eq g15.symm
  have g_b15 : n0 ≤ b15 := Nat.le_trans (own_oz O0) (Nat.le_trans M13 sz_b15)
  have V15_0 := Arv.new A15 (by decide)
  have V15 : Arv Z h15 b15 k15 (.array .long) (2 : Int32) [.null, .null] .null := V15_0.pad (pad_rep [] .null 2)
  have f16 := (((f8.other W10 (Or.inr (slot_ne (Or.inr (own_w hw 29 rfl)) (Or.inr (own_w hw 23 rfl)) (by decide) (t := (.array (.array .long))) (t' := .long) (by decide) (by decide)))).other W13 (Or.inr (slot_ne (Or.inr (own_w hw 29 rfl)) (Or.inr (own_w hw 25 rfl)) (by decide) (t := (.array (.array .long))) (t' := .long) (by decide) (by decide)))).ext E15)
  have f17 := ((f12.wr W13).ext E15)
  obtain ⟨T18, h18, X18, e18, W18, st18⟩ := putF X15 hx hZ hown (host := "") (Or.inl (own_w hw 28 rfl)) Via.refl e15 f16 f17 (Or.inr ⟨(own_w hw 29 rfl), rfl, hnm⟩) (own_w hw 1 rfl) (ty := (.array (.array .long))) (by decide) rfl rfl (g := (mkF m 40 #[.val (.ref o1), .val (.long q2), .second, .val (.long q3), .second, .val (.int p4), .val (.int ((((p4 - (1 : Int32)).toUInt32 >>> ((12 : Int32) &&& 31).toUInt32).toInt32) + (1 : Int32))), .unset] [(.ref b15), (.ref o1)])) rfl rfl (hb hby d0_40)
  have N18 := Fr.snoc X18 N13 g_o1
  have Fw18 := f16.same W18
  have M18 : h0.size ≤ h18.size := Nat.le_trans M15 (Nat.le_of_eq W18.size.symm)
  have O18 := Old.wr O15 W18 g_o1
  obtain ⟨T19, X19, e19, st19⟩ := getF X18 hx hZ hown (host := "") (Or.inl (own_w hw 28 rfl)) Via.refl e18 Fw18 (g := (mkF m 54 #[.val (.ref o1), .val (.long q2), .second, .val (.long q3), .second, .val (.int p4), .val (.int ((((p4 - (1 : Int32)).toUInt32 >>> ((12 : Int32) &&& 31).toUInt32).toInt32) + (1 : Int32))), .val (.int (0 : Int32))] [(.ref o1)])) rfl rfl (hb hby d0_54)
  obtain ⟨_, _, ⟨T20, L20, c20, n20⟩, -, X20, ⟨Lc20, hQ20, l20, y20, z20⟩, st20⟩ := Jvm.LawKit.callS X19 hx (y := yn2) hown (mvT hZ (own_w hw 30 rfl)) (mvT hZ (own_w hw 31 rfl)) (mvT hZ (own_w hw 32 rfl)) (mvT hZ (own_w hw 33 rfl)) (by decide) (backOf (W := 3) (rm15 l Z a0 hw [] ((p4 - (0 : Int32))) h18 n0 O18 (by have q0 := own_sub (x := p4) (k := (0 : Int32)) (n := 0) (lo := 4097) (hi := 8192) (by decide) (by have q0 := bd_p4; omega) (by decide) (by decide); omega)) hZ (own_w hw 33 rfl) (own_w hw 32 rfl) (by decide) (by decide)) (g := (mkF m 71 #[.val (.ref o1), .val (.long q2), .second, .val (.long q3), .second, .val (.int p4), .val (.int ((((p4 - (1 : Int32)).toUInt32 >>> ((12 : Int32) &&& 31).toUInt32).toInt32) + (1 : Int32))), .val (.int (0 : Int32))] [(.int (p4 - (0 : Int32))), (.int (4096 : Int32)), (.int (2 : Int32)), (.int (0 : Int32)), (.ref b15)])) rfl (by rw [hml]; rfl) (argsL := [(.int (4096 : Int32)), (.int (p4 - (0 : Int32)))]) (rest := [(.int (2 : Int32)), (.int (0 : Int32)), (.ref b15)]) (lenOf pd1 rfl) rfl (by show 2 * 0 + _ ≤ _; exact Nat.le_of_eq rfl) (hb hby d0_71) (fun _ _ => ⟨rfl, e19, (by decide : 1 + 0 ≤ _), (by decide : 2 + 0 ≤ _)⟩)
  dsimp only [Pt.U, Pt.locs, Pt.cells, Pt.slots] at X20 l20 y20 z20 st20 hQ20
  subst l20 y20 z20
  have X20 : Stand p l e ({ frames := 3, cells := 3, slots := 16386, locals := 36 } : Room) s m #[(.ref o1), (.long q2), (.long q3), (.int p4)] below meth c T20 _ 1 2 := X20
  obtain ⟨rfl, Nq21, e22⟩ := hQ20
  have N20 := Fr.app N18 Nq21
  obtain ⟨T23, h23, k23, X23, e23, E23, A23, EX23, st23⟩ := newPE X20 hx hZ (own_w hw 34 rfl) e22 (g := (mkF m 75 #[.val (.ref o1), .val (.long q2), .second, .val (.long q3), .second, .val (.int p4), .val (.int ((((p4 - (1 : Int32)).toUInt32 >>> ((12 : Int32) &&& 31).toUInt32).toInt32) + (1 : Int32))), .val (.int (0 : Int32))] [(.int (8192 : Int32)), (.int (0 : Int32)), (.ref b15)])) rfl (hb hby d0_75) rfl (by decide) (cap := 8192) (by decide) (by decide) (by decide) (by decide) (ad := "[J") (by decide)
  obtain ⟨b23, g23⟩ : ∃ z, z = h18.size := ⟨_, rfl⟩
  rw [← g23] at A23 EX23 st23
  have M23 : h0.size ≤ h23.size := Nat.le_trans M18 E23.1
  have O23 := Old.ext O18 E23
  have sz_b23 : h18.size ≤ b23 := Nat.le_of_eq g23.symm
  have g_b23 : n0 ≤ b23 := Nat.le_trans (own_oz O0) (Nat.le_trans M18 sz_b23)
  have V23_0 := Arv.new A23 (by decide)
  have V23 : Arv Z h23 b23 k23 .long (8192 : Int32) [(.long (0 : Int64)), (.long (0 : Int64)), (.long (0 : Int64)), (.long (0 : Int64)), (.long (0 : Int64)), (.long (0 : Int64))] (.long (0 : Int64)) := V23_0.pad (pad_rep [] (.long (0 : Int64)) 6)
  have lt24 : o1 < h13.size := (Nat.lt_of_lt_of_le (Nat.lt_of_lt_of_le (Nat.lt_of_lt_of_le P0.lt K3.1) (Nat.le_of_eq W10.size.symm)) (Nat.le_of_eq W13.size.symm))
  have ne25 : o1 ≠ b15 := Nat.ne_of_lt (Nat.lt_of_lt_of_le lt24 sz_b15)
  have f26 := ((V15.other W18 (Ne.symm ne25)).ext E23)
  obtain ⟨cl27, Ar27, qa27, Sa27, Na27, Ha27, Ga27⟩ := id (f26)
  have hin27 : ¬ ((0 : Int32) < 0 ∨ cl27.slots.size ≤ ((0 : Int32)).toNatClampNeg) := inb_of Sa27 ⟨by decide, by decide⟩
  obtain ⟨T28, h28, X28, e28, W28, st28⟩ := stR X23 hx hZ e23 Ar27 (j := (0 : Int32)) hin27 rfl (Sto.ofVA Ar27 qa27 OV15 (Ins.self EX23)) (g := (mkF m 77 #[.val (.ref o1), .val (.long q2), .second, .val (.long q3), .second, .val (.int p4), .val (.int ((((p4 - (1 : Int32)).toUInt32 >>> ((12 : Int32) &&& 31).toUInt32).toInt32) + (1 : Int32))), .val (.int (0 : Int32))] [(.ref b23), (.int (0 : Int32)), (.ref b15)])) rfl rfl (hb hby d0_77)
  have V28 : Arv Z h28 b15 k15 (.array .long) (2 : Int32) [(.ref b23), .null] .null := Arv.set Ar27 qa27 Sa27 Na27 Ha27 Ga27 rfl W28 0 rfl (Nat.le_of_ble_eq_true rfl)
  have N28 := Fr.snoc X28 N20 g_b15
  have M28 : h0.size ≤ h28.size := Nat.le_trans M23 (Nat.le_of_eq W28.size.symm)
  have O28 := Old.wr O23 W28 g_b15
  have f29 := ((Fw18.ext E23).other W28 (Or.inl ne25))
  obtain ⟨T30, X30, e30, st30⟩ := getF X28 hx hZ hown (host := "") (Or.inl (own_w hw 28 rfl)) Via.refl e28 f29 (g := (mkF m 54 #[.val (.ref o1), .val (.long q2), .second, .val (.long q3), .second, .val (.int p4), .val (.int ((((p4 - (1 : Int32)).toUInt32 >>> ((12 : Int32) &&& 31).toUInt32).toInt32) + (1 : Int32))), .val (.int (1 : Int32))] [(.ref o1)])) rfl rfl (hb hby d0_54)
  obtain ⟨_, _, ⟨T31, L31, c31, n31⟩, -, X31, ⟨Lc31, hQ31, l31, y31, z31⟩, st31⟩ := Jvm.LawKit.callS X30 hx (y := yn2) hown (mvT hZ (own_w hw 30 rfl)) (mvT hZ (own_w hw 31 rfl)) (mvT hZ (own_w hw 32 rfl)) (mvT hZ (own_w hw 33 rfl)) (by decide) (backOf (W := 3) (rm16 l Z a0 hw [] ((p4 - (4096 : Int32))) h28 n0 O28 (by have q0 := own_sub (x := p4) (k := (4096 : Int32)) (n := 4096) (lo := 4097) (hi := 8192) (by decide) (by have q0 := bd_p4; omega) (by decide) (by decide); omega)) hZ (own_w hw 33 rfl) (own_w hw 32 rfl) (by decide) (by decide)) (g := (mkF m 71 #[.val (.ref o1), .val (.long q2), .second, .val (.long q3), .second, .val (.int p4), .val (.int ((((p4 - (1 : Int32)).toUInt32 >>> ((12 : Int32) &&& 31).toUInt32).toInt32) + (1 : Int32))), .val (.int (1 : Int32))] [(.int (p4 - (4096 : Int32))), (.int (4096 : Int32)), (.int (2 : Int32)), (.int (1 : Int32)), (.ref b15)])) rfl (by rw [hml]; rfl) (argsL := [(.int (4096 : Int32)), (.int (p4 - (4096 : Int32)))]) (rest := [(.int (2 : Int32)), (.int (1 : Int32)), (.ref b15)]) (lenOf pd1 rfl) rfl (by show 2 * 0 + _ ≤ _; exact Nat.le_of_eq rfl) (hb hby d0_71) (fun _ _ => ⟨rfl, e30, (by decide : 2 + 0 ≤ _), (by decide : 8194 + 0 ≤ _)⟩)
  dsimp only [Pt.U, Pt.locs, Pt.cells, Pt.slots] at X31 l31 y31 z31 st31 hQ31
  subst l31 y31 z31
  have X31 : Stand p l e ({ frames := 3, cells := 3, slots := 16386, locals := 36 } : Room) s m #[(.ref o1), (.long q2), (.long q3), (.int p4)] below meth c T31 _ 2 8194 := X31
  obtain ⟨z32, bz32, rfl, Nq33, e34⟩ := hQ31
  have N31 := Fr.app N28 Nq33
  have nn35 : ¬ (((2 : Int32) * z32) < (0 : Int32)) := own_gnlt1 (n := 0) (k := (0 : Int32)) (by decide) (by have q0 := own_dbl (x := z32) (lo := 1) (hi := 4096) (by have q0 := bz32; omega) (by decide) (by decide); omega)
  obtain ⟨T36, h36, k36, X36, e36, E36, A36, EX36, st36⟩ := newPE X31 hx hZ (own_w hw 34 rfl) e34 (g := (mkF m 75 #[.val (.ref o1), .val (.long q2), .second, .val (.long q3), .second, .val (.int p4), .val (.int ((((p4 - (1 : Int32)).toUInt32 >>> ((12 : Int32) &&& 31).toUInt32).toInt32) + (1 : Int32))), .val (.int (1 : Int32))] [(.int ((2 : Int32) * z32)), (.int (1 : Int32)), (.ref b15)])) rfl (hb hby d0_75) rfl nn35 (cap := 8192) (by have q0 := own_dbl (x := z32) (lo := 1) (hi := 4096) (by have q0 := bz32; omega) (by decide) (by decide); simp only [Int32.toNatClampNeg]; omega) (by decide) (by decide) (by decide) (ad := "[J") (by decide)
  obtain ⟨b36, g36⟩ : ∃ z, z = h28.size := ⟨_, rfl⟩
  rw [← g36] at A36 EX36 st36
  have M36 : h0.size ≤ h36.size := Nat.le_trans M28 E36.1
  have O36 := Old.ext O28 E36
  have sz_b36 : h28.size ≤ b36 := Nat.le_of_eq g36.symm
  have g_b36 : n0 ≤ b36 := Nat.le_trans (own_oz O0) (Nat.le_trans M28 sz_b36)
  have V36_0 := Arv.new A36 nn35
  have V36 : Arv Z h36 b36 k36 .long ((2 : Int32) * z32) [(.long (0 : Int64)), (.long (0 : Int64))] (.long (0 : Int64)) := V36_0.pad (pad_rep [] (.long (0 : Int64)) 2)
  have f37 := (V28.ext E36)
  obtain ⟨cl38, Ar38, qa38, Sa38, Na38, Ha38, Ga38⟩ := id (f37)
  have hin38 : ¬ ((1 : Int32) < 0 ∨ cl38.slots.size ≤ ((1 : Int32)).toNatClampNeg) := inb_of Sa38 ⟨by decide, by decide⟩
  obtain ⟨T39, h39, X39, e39, W39, st39⟩ := stR X36 hx hZ e36 Ar38 (j := (1 : Int32)) hin38 rfl (Sto.ofVA Ar38 qa38 OV15 (Ins.self EX36)) (g := (mkF m 77 #[.val (.ref o1), .val (.long q2), .second, .val (.long q3), .second, .val (.int p4), .val (.int ((((p4 - (1 : Int32)).toUInt32 >>> ((12 : Int32) &&& 31).toUInt32).toInt32) + (1 : Int32))), .val (.int (1 : Int32))] [(.ref b36), (.int (1 : Int32)), (.ref b15)])) rfl rfl (hb hby d0_77)
  have V39 : Arv Z h39 b15 k15 (.array .long) (2 : Int32) [(.ref b23), (.ref b36)] .null := Arv.set Ar38 qa38 Sa38 Na38 Ha38 Ga38 rfl W39 1 rfl (Nat.le_of_ble_eq_true rfl)
  have N39 := Fr.snoc X39 N31 g_b15
  have M39 : h0.size ≤ h39.size := Nat.le_trans M36 (Nat.le_of_eq W39.size.symm)
  have O39 := Old.wr O36 W39 g_b15
  obtain ⟨fs, hr, hrun, hended, hW, hsame⟩ := X39.leave (v := none) (fun _ => rfl)
  have KL : Keep h0 h39 [o1] := ((((((((((Keep.refl h0 [o1]).trans K3 (allS (Or.inl (List.mem_of_getElem? (i := 0) rfl)) all0)).wr W10 (Or.inl (List.mem_of_getElem? (i := 0) rfl))).wr W13 (Or.inl (List.mem_of_getElem? (i := 0) rfl))).ext E15).wr W18 (Or.inl (List.mem_of_getElem? (i := 0) rfl))).ext E23).wr W28 (Or.inr (Nat.le_trans M13 sz_b15))).ext E36).wr W39 (Or.inr (Nat.le_trans M13 sz_b15)))
  have f40 := (((((f17.wr W18).ext E23).wr W28).ext E36).wr W39)
  have f41 := (((((((Fw10.other W13 (Or.inr (slot_ne (Or.inr (own_w hw 23 rfl)) (Or.inr (own_w hw 25 rfl)) (by decide) (t := .long) (t' := .long) (by decide) (by decide)))).ext E15).other W18 (Or.inr (slot_ne (Or.inr (own_w hw 23 rfl)) (Or.inr (own_w hw 29 rfl)) (by decide) (t := .long) (t' := (.array (.array .long))) (by decide) (by decide)))).ext E23).other W28 (Or.inl ne25)).ext E36).other W39 (Or.inl ne25))
  have f42 := ((((((Fw13.ext E15).other W18 (Or.inr (slot_ne (Or.inr (own_w hw 25 rfl)) (Or.inr (own_w hw 29 rfl)) (by decide) (t := .long) (t' := (.array (.array .long))) (by decide) (by decide)))).ext E23).other W28 (Or.inl ne25)).ext E36).other W39 (Or.inl ne25))
  have f43 := ((((((((f7.other W10 (Or.inr (slot_ne (Or.inl (own_w hw 42 rfl)) (Or.inr (own_w hw 23 rfl)) (by decide) (t := .int) (t' := .long) (by decide) (by decide)))).other W13 (Or.inr (slot_ne (Or.inl (own_w hw 42 rfl)) (Or.inr (own_w hw 25 rfl)) (by decide) (t := .int) (t' := .long) (by decide) (by decide)))).ext E15).other W18 (Or.inr (slot_ne (Or.inl (own_w hw 42 rfl)) (Or.inr (own_w hw 29 rfl)) (by decide) (t := .int) (t' := (.array (.array .long))) (by decide) (by decide)))).ext E23).other W28 (Or.inl ne25)).ext E36).other W39 (Or.inl ne25))
  have f44 := ((f29.ext E36).other W39 (Or.inl ne25))
  have f45 := ((((((((f9.other W10 (Or.inr (slot_ne (Or.inl (own_w hw 21 rfl)) (Or.inr (own_w hw 23 rfl)) (by decide) (t := .int) (t' := .long) (by decide) (by decide)))).other W13 (Or.inr (slot_ne (Or.inl (own_w hw 21 rfl)) (Or.inr (own_w hw 25 rfl)) (by decide) (t := .int) (t' := .long) (by decide) (by decide)))).ext E15).other W18 (Or.inr (slot_ne (Or.inl (own_w hw 21 rfl)) (Or.inr (own_w hw 29 rfl)) (by decide) (t := .int) (t' := (.array (.array .long))) (by decide) (by decide)))).ext E23).other W28 (Or.inl ne25)).ext E36).other W39 (Or.inl ne25))
  have f46 := (((((EX15.wr W18).ext E23).wr W28).ext E36).wr W39)
  have lt47 : b15 < h18.size := (Nat.lt_of_lt_of_le V15.lt (Nat.le_of_eq W18.size.symm))
  have ne48 : b15 ≠ b23 := Nat.ne_of_lt (Nat.lt_of_lt_of_le lt47 sz_b23)
  have f49 := (((V23.other W28 (Ne.symm ne48)).ext E36).other W39 (Ne.symm ne48))
  have f50 := (((EX23.wr W28).ext E36).wr W39)
  have lt51 : b15 < h28.size := (Nat.lt_of_lt_of_le (Nat.lt_of_lt_of_le (Nat.lt_of_lt_of_le V15.lt (Nat.le_of_eq W18.size.symm)) E23.1) (Nat.le_of_eq W28.size.symm))
  have ne52 : b15 ≠ b36 := Nat.ne_of_lt (Nat.lt_of_lt_of_le lt51 sz_b36)
  have f53 := (V36.other W39 (Ne.symm ne52))
  have f54 := (EX36.wr W39)
  have lt55 : b23 < h28.size := (Nat.lt_of_lt_of_le V23.lt (Nat.le_of_eq W28.size.symm))
  have ne56 : b23 ≠ b36 := Nat.ne_of_lt (Nat.lt_of_lt_of_le lt55 sz_b36)
  refine ⟨_, _, pre0 _ ?_, hrun, hended, _, _, rfl, ?_, ⟨_, rfl⟩, hW, hsame.mono (by decide) (by decide)⟩
  ·
    show Steps p.tables e below (s₁.setTop (mkF m 0 #[.val (.ref o1), .val (.long q2), .second, .val (.long q3), .second, .val (.int p4), .unset, .unset] [])) _
    refine XS.aloadN X0.here hx rfl (hb hby d0_0) rfl rfl ?_
    refine st1.trans ?_
    refine XS.aloadN X1.here hx rfl (hb hby d0_4) rfl rfl ?_
    refine XS.lloadN X1.here hx rfl (hb hby d0_5) rfl ?_
    refine st10 _ ?_
    refine XS.aloadN X10.here hx rfl (hb hby d0_9) rfl rfl ?_
    refine XS.lloadN X10.here hx rfl (hb hby d0_10) rfl ?_
    refine st13 _ ?_
    refine XS.iload X13.here hx rfl (hb hby d0_14) rfl ?_
    refine XS.ifYes X13.here hx rfl (pc0 := 16) (pc' := 23) rfl (hb hby d0_16) rfl ((if0 _ _).trans (feq (own_gneq (n := 0) (k := (0 : Int32)) (by decide) (by have q0 := bd_p4; omega))).2) (by decide) (by decide) ?_
    refine XS.iload X13.here hx rfl (hb hby d0_23) rfl ?_
    refine XS.iconst X13.here hx rfl (hb hby d0_25) ?_
    refine XS.isub X13.here hx rfl (hb hby d0_26) rfl ?_
    refine XS.bipush X13.here hx rfl (hb hby d0_27) ?_
    refine XS.iushr X13.here hx rfl (hb hby d0_29) rfl ?_
    refine XS.iconst X13.here hx rfl (hb hby d0_30) ?_
    refine XS.iadd X13.here hx rfl (hb hby d0_31) rfl ?_
    refine XS.istore X13.here hx rfl (hb hby d0_32) rfl (l' := #[.val (.ref o1), .val (.long q2), .second, .val (.long q3), .second, .val (.int p4), .val (.int ((((p4 - (1 : Int32)).toUInt32 >>> ((12 : Int32) &&& 31).toUInt32).toInt32) + (1 : Int32))), .unset]) rfl ?_
    refine XS.aloadN X13.here hx rfl (hb hby d0_34) rfl rfl ?_
    refine XS.iload X13.here hx rfl (hb hby d0_35) rfl ?_
    refine st15 _ ?_
    refine st18 _ ?_
    refine XS.iconst X18.here hx rfl (hb hby d0_43) ?_
    refine XS.istore X18.here hx rfl (hb hby d0_44) rfl (l' := #[.val (.ref o1), .val (.long q2), .second, .val (.long q3), .second, .val (.int p4), .val (.int ((((p4 - (1 : Int32)).toUInt32 >>> ((12 : Int32) &&& 31).toUInt32).toInt32) + (1 : Int32))), .val (.int (0 : Int32))]) rfl ?_
    refine XS.iload X18.here hx rfl (hb hby d0_46) rfl ?_
    refine XS.iload X18.here hx rfl (hb hby d0_48) rfl ?_
    refine XS.icmpNo X18.here hx rfl (hb hby d0_50) rfl (tlt (by rw [hq14]; first | done | decide : (0 : Int32) < ((((p4 - (1 : Int32)).toUInt32 >>> ((12 : Int32) &&& 31).toUInt32).toInt32) + (1 : Int32)))).2.1 ?_
    refine XS.aloadN X18.here hx rfl (hb hby d0_53) rfl rfl ?_
    refine st19 _ ?_
    refine XS.iload X19.here hx rfl (hb hby d0_57) rfl ?_
    refine XS.iconst X19.here hx rfl (hb hby d0_59) ?_
    refine XS.sipush X19.here hx rfl (hb hby d0_60) ?_
    refine XS.iload X19.here hx rfl (hb hby d0_63) rfl ?_
    refine XS.iload X19.here hx rfl (hb hby d0_65) rfl ?_
    refine XS.bipush X19.here hx rfl (hb hby d0_67) ?_
    refine XS.ishl X19.here hx rfl (hb hby d0_69) rfl ?_
    refine XS.isub X19.here hx rfl (hb hby d0_70) rfl ?_
    refine st20 _ ?_
    refine XS.imul X20.here hx rfl (hb hby d0_74) rfl ?_
    refine st23 _ ?_
    show Steps p.tables e below (T23.setTop (mkF m 77 #[.val (.ref o1), .val (.long q2), .second, .val (.long q3), .second, .val (.int p4), .val (.int ((((p4 - (1 : Int32)).toUInt32 >>> ((12 : Int32) &&& 31).toUInt32).toInt32) + (1 : Int32))), .val (.int (0 : Int32))] [(.ref b23), (.int (0 : Int32)), (.ref b15)])) _
    refine st28 _ ?_
    refine XS.iinc X28.here hx rfl (hb hby d0_78) rfl (l' := #[.val (.ref o1), .val (.long q2), .second, .val (.long q3), .second, .val (.int p4), .val (.int ((((p4 - (1 : Int32)).toUInt32 >>> ((12 : Int32) &&& 31).toUInt32).toInt32) + (1 : Int32))), .val (.int (1 : Int32))]) rfl ?_
    refine XS.goto X28.here hx rfl (pc0 := 81) (pc' := 46) rfl (hb hby d0_81) (by decide) (by decide) ?_
    refine XS.iload X28.here hx rfl (hb hby d0_46) rfl ?_
    refine XS.iload X28.here hx rfl (hb hby d0_48) rfl ?_
    refine XS.icmpNo X28.here hx rfl (hb hby d0_50) rfl (tlt (by rw [hq14]; first | done | decide : (1 : Int32) < ((((p4 - (1 : Int32)).toUInt32 >>> ((12 : Int32) &&& 31).toUInt32).toInt32) + (1 : Int32)))).2.1 ?_
    refine XS.aloadN X28.here hx rfl (hb hby d0_53) rfl rfl ?_
    refine st30 _ ?_
    refine XS.iload X30.here hx rfl (hb hby d0_57) rfl ?_
    refine XS.iconst X30.here hx rfl (hb hby d0_59) ?_
    refine XS.sipush X30.here hx rfl (hb hby d0_60) ?_
    refine XS.iload X30.here hx rfl (hb hby d0_63) rfl ?_
    refine XS.iload X30.here hx rfl (hb hby d0_65) rfl ?_
    refine XS.bipush X30.here hx rfl (hb hby d0_67) ?_
    refine XS.ishl X30.here hx rfl (hb hby d0_69) rfl ?_
    refine XS.isub X30.here hx rfl (hb hby d0_70) rfl ?_
    refine st31 _ ?_
    refine XS.imul X31.here hx rfl (hb hby d0_74) rfl ?_
    refine st36 _ ?_
    refine st39 _ ?_
    refine XS.iinc X39.here hx rfl (hb hby d0_78) rfl (l' := #[.val (.ref o1), .val (.long q2), .second, .val (.long q3), .second, .val (.int p4), .val (.int ((((p4 - (1 : Int32)).toUInt32 >>> ((12 : Int32) &&& 31).toUInt32).toInt32) + (1 : Int32))), .val (.int (2 : Int32))]) rfl ?_
    refine XS.goto X39.here hx rfl (pc0 := 81) (pc' := 46) rfl (hb hby d0_81) (by decide) (by decide) ?_
    refine XS.iload X39.here hx rfl (hb hby d0_46) rfl ?_
    refine XS.iload X39.here hx rfl (hb hby d0_48) rfl ?_
    refine XS.icmpYes X39.here hx rfl (pc0 := 50) (pc' := 84) rfl (hb hby d0_50) rfl (flt (by rw [hq14]; first | done | decide : ¬ ((2 : Int32) < ((((p4 - (1 : Int32)).toUInt32 >>> ((12 : Int32) &&& 31).toUInt32).toInt32) + (1 : Int32))))).2.1 (by decide) (by decide) ?_
    show Steps p.tables e below (T39.setTop (mkF m 84 #[.val (.ref o1), .val (.long q2), .second, .val (.long q3), .second, .val (.int p4), .val (.int ((((p4 - (1 : Int32)).toUInt32 >>> ((12 : Int32) &&& 31).toUInt32).toInt32) + (1 : Int32))), .val (.int (2 : Int32))] [])) _
    exact X39.returnOut hx hret (hb hby d0_84) hr
  ·
    show Q17 Z o1 p4 q2 q3 h0 n0 _ T39.heap _
    rw [e39]
    exact ⟨z32, bz32, b15, b23, b36, k15, k23, k36, rfl, N39, KL, (Nat.le_trans M13 sz_b15), (Nat.le_trans M18 sz_b23), (Nat.le_trans M28 sz_b36), ne48, ne52, ne56, OV15, f40, f41, f42, f43, f44, f45, V39, f46, f49, f50, f53, f54⟩
theorem ef18 (m : MethodId) (x0 : Addr) (x1 : Int64) (x2 : Int64) : entryFrame m #[(.ref x0), (.long x1), (.long x2)] 7 = mkF m 0 #[.val (.ref x0), .val (.long x1), .second, .val (.long x2), .second, .unset, .unset] [] := by first | (simp [entryFrame, mkF, argsToLocals, Value.category]; done) | rfl
def Q18 (Z : State) (o1 : Addr) (o6 : Addr) (o8 : Addr) (o9 : Addr) (kc7 : ClassId) (p11 : Int32) (p13 : Int32) (q4 : Int64) (q5 : Int64) (kc10 : ClassId) (q2 : Int64) (q3 : Int64) (h0 : Heap) (n0 : Nat) (v : Option Value) (h : Heap) (L : List Loc) : Prop :=
  (v = none ∧ Fr n0 L ∧ Keep h0 h [o8, o1] ∧ (Arv Z h o8 kc10 .long p11 [(.long q2), (.long q3), (.long (0 : Int64)), (.long (0 : Int64)), (.long (0 : Int64)), (.long (0 : Int64))] (.long (0 : Int64))) ∧ (Exa Z h o8 "[J") ∧ (Exa Z h o1 "com/example/driftless/driftless/DeleteOperations") ∧ (Fld Z h o1 "com/example/driftless/driftless/DeleteOperations" "firstCounter" "J" (.long q4)) ∧ (Fld Z h o1 "com/example/driftless/driftless/DeleteOperations" "replica" "J" (.long q5)) ∧ (Fld Z h o1 "com/example/driftless/driftless/DeleteOperations" "size" "I" (.int (1 : Int32))) ∧ (Fld Z h o1 "com/example/driftless/driftless/DeleteOperations" "targets" "[[J" (.ref o6)) ∧ (Fld Z h o1 "java/util/AbstractList" "modCount" "I" (.int (0 : Int32))))
set_option maxRecDepth 65536 in
set_option maxHeartbeats 40000000 in
theorem rm18 (l : Launch) (Z : State) (a0 : Array Value) (hw : ∀ d ∈ tables_1, d.before a0 Z = true) (ws : List Jvm.Cond) (o1 : Addr) (o6 : Addr) (o8 : Addr) (o9 : Addr) (kc7 : ClassId) (p11 : Int32) (p13 : Int32) (q4 : Int64) (q5 : Int64) (kc10 : ClassId) (q2 : Int64) (q3 : Int64) (h0 : Heap) (n0 : Nat) (O0 : Old Z n0 h0) (g_o1 : n0 ≤ o1) (g_o6 : n0 ≤ o6) (g_o8 : n0 ≤ o8) (g_o9 : n0 ≤ o9) (Ov_kc7 : OvrA Z kc7 .long "[J") (bd_p11 : 6 ≤ p11.toInt ∧ p11.toInt ≤ 2147483647) (bd_p13 : 2 ≤ p13.toInt ∧ p13.toInt ≤ 2147483647) (P0 : Exa Z h0 o1 "com/example/driftless/driftless/DeleteOperations") (P1 : Fld Z h0 o1 "com/example/driftless/driftless/DeleteOperations" "firstCounter" "J" (.long q4)) (P2 : Fld Z h0 o1 "com/example/driftless/driftless/DeleteOperations" "replica" "J" (.long q5)) (P3 : Fld Z h0 o1 "com/example/driftless/driftless/DeleteOperations" "size" "I" (.int (0 : Int32))) (P4 : Fld Z h0 o1 "com/example/driftless/driftless/DeleteOperations" "targets" "[[J" (.ref o6)) (P5 : Fld Z h0 o1 "java/util/AbstractList" "modCount" "I" (.int (0 : Int32))) (P6 : Arv Z h0 o6 kc7 (.array .long) (2 : Int32) [(.ref o8), (.ref o9)] .null) (P8 : Arv Z h0 o8 kc10 .long p11 [(.long (0 : Int64)), (.long (0 : Int64)), (.long (0 : Int64)), (.long (0 : Int64)), (.long (0 : Int64)), (.long (0 : Int64))] (.long (0 : Int64))) (P9 : Exa Z h0 o8 "[J") :
    MetFree l yn4 (head1 (Jvm.Cond.code yn4 prog_7_method_2_code 7 none :: ws) ({ frames := 0, cells := 0, slots := 0, locals := 0 } : Room)) (fun a U => a = #[(.ref o1), (.long q2), (.long q3)] ∧ Z.Warmed39 U.vm ∧ U.heap = h0) (fun _ _ _ _ _ => True) (fun _ U o U' => ∃ v L, o = .returned v ∧ Q18 Z o1 o6 o8 o9 kc7 p11 p13 q4 q5 kc10 q2 q3 h0 n0 v U'.heap L ∧ FrameEnd U o U' L ({ frames := 0, cells := 0, slots := 0, locals := 0 } : Room).cells ({ frames := 0, cells := 0, slots := 0, locals := 0 } : Room).slots) := by
  refine MetFree.of_bodySF (plainFor_of_name pn2) hisR ?_
  intro p e s m args below meth c s₁ Bd hml0 hP hK
  obtain ⟨rfl, hZ, hh⟩ := hP
  have hx := Bd.exec
  have hby := Bd.bytes
  have hml : c.maxLocals = 7 := hml0
  have hown : s.vm.findClass "com/example/driftless/driftless/DeleteOperations" = some m.cls := findClass_of_methodNamed Bd.named
  have hnm := (name_of_methodNamed Bd.named Bd.method).1
  have hret := Bd.returns
  have hlk : meth.locks = false := BodyLoose.notSynchronized Bd
  have X0 : Stand p l e ({ frames := 0, cells := 0, slots := 0, locals := 0 } : Room) s m #[(.ref o1), (.long q2), (.long q3)] below meth c s₁ [] 0 0 := Stand.of_body Bd
  have e0 : s₁.heap = h0 := by rw [← hh, Bd.state]; rfl
  have N0 := Fr.nil n0
  have pre0 : ∀ t, Steps p.tables e below (s₁.setTop (mkF m 0 #[.val (.ref o1), .val (.long q2), .second, .val (.long q3), .second, .unset, .unset] [])) t → Steps p.tables e below (s₁.setTop (entryFrame m #[(.ref o1), (.long q2), (.long q3)] 7)) t := fun t k => castTop (ef18 m o1 q2 q3) k
  obtain ⟨T1, X1, e1, st1⟩ := getF X0 hx hZ hown (host := "") (Or.inl (own_w hw 28 rfl)) Via.refl e0 P4 (g := (mkF m 1 #[.val (.ref o1), .val (.long q2), .second, .val (.long q3), .second, .unset, .unset] [(.ref o1)])) rfl rfl (hb hby d4_1)
  obtain ⟨T2, X2, e2, st2⟩ := getF X1 hx hZ hown (host := "") (Or.inl (own_w hw 41 rfl)) Via.refl e1 P3 (g := (mkF m 5 #[.val (.ref o1), .val (.long q2), .second, .val (.long q3), .second, .unset, .unset] [(.ref o1), (.ref o6)])) rfl rfl (hb hby d4_5)
  obtain ⟨cl3, Ar3, qa3, Sa3, Na3, Ha3, Ga3⟩ := id (P6)
  have hin3 : ¬ ((0 : Int32) < 0 ∨ cl3.slots.size ≤ ((0 : Int32)).toNatClampNeg) := inb_of Sa3 ⟨by decide, by decide⟩
  have hat3 : cl3.slots[((0 : Int32)).toNatClampNeg]? = some (.ref o8) := Has.at Ha3 hin3 rfl
  obtain ⟨T4, X4, e4, st4⟩ := getF X2 hx hZ hown (host := "") (Or.inl (own_w hw 41 rfl)) Via.refl e2 P3 (g := (mkF m 16 #[.val (.ref o1), .val (.long q2), .second, .val (.long q3), .second, .val (.ref o8), .unset] [(.ref o1), (.int (2 : Int32))])) rfl rfl (hb hby d4_16)
  obtain ⟨cl5, Ar5, qa5, Sa5, Na5, Ha5, Ga5⟩ := id (P8)
  have hin5 : ¬ ((0 : Int32) < 0 ∨ cl5.slots.size ≤ ((0 : Int32)).toNatClampNeg) := inb_of Sa5 ⟨(by decide : ¬ ((0 : Int32) < (0 : Int32))), (own_glt2 (n := 0) (k := (0 : Int32)) (by decide) (by have q0 := bd_p11; omega))⟩
  obtain ⟨T6, h6, X6, e6, W6, st6⟩ := stJ X4 hx hZ e4 Ar5 (j := (0 : Int32)) hin5 (g := (mkF m 31 #[.val (.ref o1), .val (.long q2), .second, .val (.long q3), .second, .val (.ref o8), .val (.int (0 : Int32))] [(.long q2), (.int (0 : Int32)), (.ref o8)])) rfl rfl (hb hby d4_31)
  have V6 : Arv Z h6 o8 kc10 .long p11 [(.long q2), (.long (0 : Int64)), (.long (0 : Int64)), (.long (0 : Int64)), (.long (0 : Int64)), (.long (0 : Int64))] (.long (0 : Int64)) := Arv.set Ar5 qa5 Sa5 Na5 Ha5 Ga5 rfl W6 0 rfl (Nat.le_of_ble_eq_true rfl)
  have N6 := Fr.snoc X6 N0 g_o8
  have M6 : h0.size ≤ h6.size := Nat.le_trans (Nat.le_refl _) (Nat.le_of_eq W6.size.symm)
  have O6 := Old.wr O0 W6 g_o8
  obtain ⟨cl7, Ar7, qa7, Sa7, Na7, Ha7, Ga7⟩ := id (V6)
  have hin7 : ¬ ((1 : Int32) < 0 ∨ cl7.slots.size ≤ ((1 : Int32)).toNatClampNeg) := inb_of Sa7 ⟨(by decide : ¬ ((1 : Int32) < (0 : Int32))), (own_glt2 (n := 1) (k := (1 : Int32)) (by decide) (by have q0 := bd_p11; omega))⟩
  obtain ⟨T8, h8, X8, e8, W8, st8⟩ := stJ X6 hx hZ e6 Ar7 (j := (1 : Int32)) hin7 (g := (mkF m 39 #[.val (.ref o1), .val (.long q2), .second, .val (.long q3), .second, .val (.ref o8), .val (.int (0 : Int32))] [(.long q3), (.int (1 : Int32)), (.ref o8)])) rfl rfl (hb hby d4_39)
  have V8 : Arv Z h8 o8 kc10 .long p11 [(.long q2), (.long q3), (.long (0 : Int64)), (.long (0 : Int64)), (.long (0 : Int64)), (.long (0 : Int64))] (.long (0 : Int64)) := Arv.set Ar7 qa7 Sa7 Na7 Ha7 Ga7 rfl W8 1 rfl (Nat.le_of_ble_eq_true rfl)
  have N8 := Fr.snoc X8 N6 g_o8
  have M8 : h0.size ≤ h8.size := Nat.le_trans M6 (Nat.le_of_eq W8.size.symm)
  have O8 := Old.wr O6 W8 g_o8
  have f9 := ((P0.wr W6).wr W8)
  have f10 := ((P9.wr W6).wr W8)
  have ne11 : o1 ≠ o8 := ne_exa f9 f10 (by decide)
  have f12 := ((P3.other W6 (Or.inl ne11)).other W8 (Or.inl ne11))
  obtain ⟨T13, X13, e13, st13⟩ := getF X8 hx hZ hown (host := "") (Or.inl (own_w hw 41 rfl)) Via.refl e8 f12 (g := (mkF m 42 #[.val (.ref o1), .val (.long q2), .second, .val (.long q3), .second, .val (.ref o8), .val (.int (0 : Int32))] [(.ref o1), (.ref o1)])) rfl rfl (hb hby d4_42)
  obtain ⟨T14, h14, X14, e14, W14, st14⟩ := putF X13 hx hZ hown (host := "") (Or.inl (own_w hw 41 rfl)) Via.refl e13 f12 f9 (Or.inl (own_w hw 42 rfl)) (own_w hw 1 rfl) (ty := .int) (by decide) rfl rfl (g := (mkF m 47 #[.val (.ref o1), .val (.long q2), .second, .val (.long q3), .second, .val (.ref o8), .val (.int (0 : Int32))] [(.int (1 : Int32)), (.ref o1)])) rfl rfl (hb hby d4_47)
  have N14 := Fr.snoc X14 N8 g_o1
  have Fw14 := f12.same W14
  have M14 : h0.size ≤ h14.size := Nat.le_trans M8 (Nat.le_of_eq W14.size.symm)
  have O14 := Old.wr O8 W14 g_o1
  obtain ⟨fs, hr, hrun, hended, hW, hsame⟩ := X14.leave (v := none) (fun _ => rfl)
  have KL : Keep h0 h14 [o8, o1] := ((((Keep.refl h0 [o8, o1]).wr W6 (Or.inl (List.mem_of_getElem? (i := 0) rfl))).wr W8 (Or.inl (List.mem_of_getElem? (i := 0) rfl))).wr W14 (Or.inl (List.mem_of_getElem? (i := 1) rfl)))
  have f15 := (V8.other W14 (Ne.symm ne11))
  have f16 := (f10.wr W14)
  have f17 := (f9.wr W14)
  have f18 := (((P1.other W6 (Or.inl ne11)).other W8 (Or.inl ne11)).other W14 (Or.inr (slot_ne (Or.inr (own_w hw 23 rfl)) (Or.inl (own_w hw 42 rfl)) (by decide) (t := .long) (t' := .int) (by decide) (by decide))))
  have f19 := (((P2.other W6 (Or.inl ne11)).other W8 (Or.inl ne11)).other W14 (Or.inr (slot_ne (Or.inr (own_w hw 25 rfl)) (Or.inl (own_w hw 42 rfl)) (by decide) (t := .long) (t' := .int) (by decide) (by decide))))
  have f20 := (((P4.other W6 (Or.inl ne11)).other W8 (Or.inl ne11)).other W14 (Or.inr (slot_ne (Or.inr (own_w hw 29 rfl)) (Or.inl (own_w hw 42 rfl)) (by decide) (t := (.array (.array .long))) (t' := .int) (by decide) (by decide))))
  have f21 := (((P5.other W6 (Or.inl ne11)).other W8 (Or.inl ne11)).other W14 (Or.inr (slot_ne (Or.inl (own_w hw 21 rfl)) (Or.inl (own_w hw 42 rfl)) (by decide) (t := .int) (t' := .int) (by decide) (by decide))))
  refine ⟨_, _, pre0 _ ?_, hrun, hended, _, _, rfl, ?_, ⟨_, rfl⟩, hW, hsame.mono (by decide) (by decide)⟩
  ·
    show Steps p.tables e below (s₁.setTop (mkF m 0 #[.val (.ref o1), .val (.long q2), .second, .val (.long q3), .second, .unset, .unset] [])) _
    refine XS.aloadN X0.here hx rfl (hb hby d4_0) rfl rfl ?_
    refine st1 _ ?_
    refine XS.aloadN X1.here hx rfl (hb hby d4_4) rfl rfl ?_
    refine st2 _ ?_
    refine XS.bipush X2.here hx rfl (hb hby d4_8) ?_
    refine XS.iushr X2.here hx rfl (hb hby d4_10) rfl ?_
    refine X2.aaload hx (j := (0 : Int32)) (v := (.ref o8)) (by rw [e2]; exact Ar3.1) (State.isArrayOf_alike hZ.alike Ar3.2.1) rfl Ar3.2.2 hin3 hat3 (g := (mkF m 11 #[.val (.ref o1), .val (.long q2), .second, .val (.long q3), .second, .unset, .unset] [(.int (0 : Int32)), (.ref o6)])) rfl rfl (hb hby d4_11) _ ?_
    refine XS.astore X2.here hx rfl (hb hby d4_12) rfl rfl (l' := #[.val (.ref o1), .val (.long q2), .second, .val (.long q3), .second, .val (.ref o8), .unset]) rfl ?_
    refine XS.iconst X2.here hx rfl (hb hby d4_14) ?_
    refine XS.aloadN X2.here hx rfl (hb hby d4_15) rfl rfl ?_
    refine st4 _ ?_
    refine XS.sipush X4.here hx rfl (hb hby d4_19) ?_
    refine XS.iand X4.here hx rfl (hb hby d4_22) rfl ?_
    refine XS.imul X4.here hx rfl (hb hby d4_23) rfl ?_
    refine XS.istore X4.here hx rfl (hb hby d4_24) rfl (l' := #[.val (.ref o1), .val (.long q2), .second, .val (.long q3), .second, .val (.ref o8), .val (.int (0 : Int32))]) rfl ?_
    refine XS.aload X4.here hx rfl (hb hby d4_26) rfl rfl ?_
    refine XS.iload X4.here hx rfl (hb hby d4_28) rfl ?_
    refine XS.lloadN X4.here hx rfl (hb hby d4_30) rfl ?_
    refine st6 _ ?_
    refine XS.aload X6.here hx rfl (hb hby d4_32) rfl rfl ?_
    refine XS.iload X6.here hx rfl (hb hby d4_34) rfl ?_
    refine XS.iconst X6.here hx rfl (hb hby d4_36) ?_
    refine XS.iadd X6.here hx rfl (hb hby d4_37) rfl ?_
    refine XS.lloadN X6.here hx rfl (hb hby d4_38) rfl ?_
    refine st8 _ ?_
    refine XS.aloadN X8.here hx rfl (hb hby d4_40) rfl rfl ?_
    refine XS.dup X8.here hx rfl (hb hby d4_41) rfl rfl ?_
    refine st13 _ ?_
    refine XS.iconst X13.here hx rfl (hb hby d4_45) ?_
    refine XS.iadd X13.here hx rfl (hb hby d4_46) rfl ?_
    refine st14 _ ?_
    show Steps p.tables e below (T14.setTop (mkF m 50 #[.val (.ref o1), .val (.long q2), .second, .val (.long q3), .second, .val (.ref o8), .val (.int (0 : Int32))] [])) _
    exact X14.returnOut hx hret (hb hby d4_50) hr
  ·
    show Q18 Z o1 o6 o8 o9 kc7 p11 p13 q4 q5 kc10 q2 q3 h0 n0 _ T14.heap _
    rw [e14]
    exact ⟨rfl, N14, KL, f15, f16, f17, f18, f19, Fw14, f20, f21⟩
theorem ef19 (m : MethodId) (x0 : Addr) (x1 : Int64) (x2 : Int64) : entryFrame m #[(.ref x0), (.long x1), (.long x2)] 7 = mkF m 0 #[.val (.ref x0), .val (.long x1), .second, .val (.long x2), .second, .unset, .unset] [] := by first | (simp [entryFrame, mkF, argsToLocals, Value.category]; done) | rfl
def Q19 (Z : State) (o1 : Addr) (o6 : Addr) (o8 : Addr) (o9 : Addr) (kc7 : ClassId) (p11 : Int32) (p15 : Int32) (q4 : Int64) (q5 : Int64) (kc10 : ClassId) (q12 : Int64) (q13 : Int64) (q2 : Int64) (q3 : Int64) (h0 : Heap) (n0 : Nat) (v : Option Value) (h : Heap) (L : List Loc) : Prop :=
  (v = none ∧ Fr n0 L ∧ Keep h0 h [o8, o1] ∧ (Arv Z h o8 kc10 .long p11 [(.long q12), (.long q13), (.long q2), (.long q3), (.long (0 : Int64)), (.long (0 : Int64))] (.long (0 : Int64))) ∧ (Exa Z h o8 "[J") ∧ (Exa Z h o1 "com/example/driftless/driftless/DeleteOperations") ∧ (Fld Z h o1 "com/example/driftless/driftless/DeleteOperations" "firstCounter" "J" (.long q4)) ∧ (Fld Z h o1 "com/example/driftless/driftless/DeleteOperations" "replica" "J" (.long q5)) ∧ (Fld Z h o1 "com/example/driftless/driftless/DeleteOperations" "size" "I" (.int (2 : Int32))) ∧ (Fld Z h o1 "com/example/driftless/driftless/DeleteOperations" "targets" "[[J" (.ref o6)) ∧ (Fld Z h o1 "java/util/AbstractList" "modCount" "I" (.int (0 : Int32))))
set_option maxRecDepth 65536 in
set_option maxHeartbeats 40000000 in
theorem rm19 (l : Launch) (Z : State) (a0 : Array Value) (hw : ∀ d ∈ tables_1, d.before a0 Z = true) (ws : List Jvm.Cond) (o1 : Addr) (o6 : Addr) (o8 : Addr) (o9 : Addr) (kc7 : ClassId) (p11 : Int32) (p15 : Int32) (q4 : Int64) (q5 : Int64) (kc10 : ClassId) (q12 : Int64) (q13 : Int64) (q2 : Int64) (q3 : Int64) (h0 : Heap) (n0 : Nat) (O0 : Old Z n0 h0) (g_o1 : n0 ≤ o1) (g_o6 : n0 ≤ o6) (g_o8 : n0 ≤ o8) (g_o9 : n0 ≤ o9) (Ov_kc7 : OvrA Z kc7 .long "[J") (bd_p11 : 6 ≤ p11.toInt ∧ p11.toInt ≤ 2147483647) (bd_p15 : 2 ≤ p15.toInt ∧ p15.toInt ≤ 2147483647) (P0 : Exa Z h0 o1 "com/example/driftless/driftless/DeleteOperations") (P1 : Fld Z h0 o1 "com/example/driftless/driftless/DeleteOperations" "firstCounter" "J" (.long q4)) (P2 : Fld Z h0 o1 "com/example/driftless/driftless/DeleteOperations" "replica" "J" (.long q5)) (P3 : Fld Z h0 o1 "com/example/driftless/driftless/DeleteOperations" "size" "I" (.int (1 : Int32))) (P4 : Fld Z h0 o1 "com/example/driftless/driftless/DeleteOperations" "targets" "[[J" (.ref o6)) (P5 : Fld Z h0 o1 "java/util/AbstractList" "modCount" "I" (.int (0 : Int32))) (P6 : Arv Z h0 o6 kc7 (.array .long) (2 : Int32) [(.ref o8), (.ref o9)] .null) (P8 : Arv Z h0 o8 kc10 .long p11 [(.long q12), (.long q13), (.long (0 : Int64)), (.long (0 : Int64)), (.long (0 : Int64)), (.long (0 : Int64))] (.long (0 : Int64))) (P9 : Exa Z h0 o8 "[J") :
    MetFree l yn4 (head1 (Jvm.Cond.code yn4 prog_7_method_2_code 7 none :: ws) ({ frames := 0, cells := 0, slots := 0, locals := 0 } : Room)) (fun a U => a = #[(.ref o1), (.long q2), (.long q3)] ∧ Z.Warmed39 U.vm ∧ U.heap = h0) (fun _ _ _ _ _ => True) (fun _ U o U' => ∃ v L, o = .returned v ∧ Q19 Z o1 o6 o8 o9 kc7 p11 p15 q4 q5 kc10 q12 q13 q2 q3 h0 n0 v U'.heap L ∧ FrameEnd U o U' L ({ frames := 0, cells := 0, slots := 0, locals := 0 } : Room).cells ({ frames := 0, cells := 0, slots := 0, locals := 0 } : Room).slots) := by
  refine MetFree.of_bodySF (plainFor_of_name pn2) hisR ?_
  intro p e s m args below meth c s₁ Bd hml0 hP hK
  obtain ⟨rfl, hZ, hh⟩ := hP
  have hx := Bd.exec
  have hby := Bd.bytes
  have hml : c.maxLocals = 7 := hml0
  have hown : s.vm.findClass "com/example/driftless/driftless/DeleteOperations" = some m.cls := findClass_of_methodNamed Bd.named
  have hnm := (name_of_methodNamed Bd.named Bd.method).1
  have hret := Bd.returns
  have hlk : meth.locks = false := BodyLoose.notSynchronized Bd
  have X0 : Stand p l e ({ frames := 0, cells := 0, slots := 0, locals := 0 } : Room) s m #[(.ref o1), (.long q2), (.long q3)] below meth c s₁ [] 0 0 := Stand.of_body Bd
  have e0 : s₁.heap = h0 := by rw [← hh, Bd.state]; rfl
  have N0 := Fr.nil n0
  have pre0 : ∀ t, Steps p.tables e below (s₁.setTop (mkF m 0 #[.val (.ref o1), .val (.long q2), .second, .val (.long q3), .second, .unset, .unset] [])) t → Steps p.tables e below (s₁.setTop (entryFrame m #[(.ref o1), (.long q2), (.long q3)] 7)) t := fun t k => castTop (ef19 m o1 q2 q3) k
  obtain ⟨T1, X1, e1, st1⟩ := getF X0 hx hZ hown (host := "") (Or.inl (own_w hw 28 rfl)) Via.refl e0 P4 (g := (mkF m 1 #[.val (.ref o1), .val (.long q2), .second, .val (.long q3), .second, .unset, .unset] [(.ref o1)])) rfl rfl (hb hby d4_1)
  obtain ⟨T2, X2, e2, st2⟩ := getF X1 hx hZ hown (host := "") (Or.inl (own_w hw 41 rfl)) Via.refl e1 P3 (g := (mkF m 5 #[.val (.ref o1), .val (.long q2), .second, .val (.long q3), .second, .unset, .unset] [(.ref o1), (.ref o6)])) rfl rfl (hb hby d4_5)
  obtain ⟨cl3, Ar3, qa3, Sa3, Na3, Ha3, Ga3⟩ := id (P6)
  have hin3 : ¬ ((0 : Int32) < 0 ∨ cl3.slots.size ≤ ((0 : Int32)).toNatClampNeg) := inb_of Sa3 ⟨by decide, by decide⟩
  have hat3 : cl3.slots[((0 : Int32)).toNatClampNeg]? = some (.ref o8) := Has.at Ha3 hin3 rfl
  obtain ⟨T4, X4, e4, st4⟩ := getF X2 hx hZ hown (host := "") (Or.inl (own_w hw 41 rfl)) Via.refl e2 P3 (g := (mkF m 16 #[.val (.ref o1), .val (.long q2), .second, .val (.long q3), .second, .val (.ref o8), .unset] [(.ref o1), (.int (2 : Int32))])) rfl rfl (hb hby d4_16)
  obtain ⟨cl5, Ar5, qa5, Sa5, Na5, Ha5, Ga5⟩ := id (P8)
  have hin5 : ¬ ((2 : Int32) < 0 ∨ cl5.slots.size ≤ ((2 : Int32)).toNatClampNeg) := inb_of Sa5 ⟨(by decide : ¬ ((2 : Int32) < (0 : Int32))), (own_glt2 (n := 2) (k := (2 : Int32)) (by decide) (by have q0 := bd_p11; omega))⟩
  obtain ⟨T6, h6, X6, e6, W6, st6⟩ := stJ X4 hx hZ e4 Ar5 (j := (2 : Int32)) hin5 (g := (mkF m 31 #[.val (.ref o1), .val (.long q2), .second, .val (.long q3), .second, .val (.ref o8), .val (.int (2 : Int32))] [(.long q2), (.int (2 : Int32)), (.ref o8)])) rfl rfl (hb hby d4_31)
  have V6 : Arv Z h6 o8 kc10 .long p11 [(.long q12), (.long q13), (.long q2), (.long (0 : Int64)), (.long (0 : Int64)), (.long (0 : Int64))] (.long (0 : Int64)) := Arv.set Ar5 qa5 Sa5 Na5 Ha5 Ga5 rfl W6 2 rfl (Nat.le_of_ble_eq_true rfl)
  have N6 := Fr.snoc X6 N0 g_o8
  have M6 : h0.size ≤ h6.size := Nat.le_trans (Nat.le_refl _) (Nat.le_of_eq W6.size.symm)
  have O6 := Old.wr O0 W6 g_o8
  obtain ⟨cl7, Ar7, qa7, Sa7, Na7, Ha7, Ga7⟩ := id (V6)
  have hin7 : ¬ ((3 : Int32) < 0 ∨ cl7.slots.size ≤ ((3 : Int32)).toNatClampNeg) := inb_of Sa7 ⟨(by decide : ¬ ((3 : Int32) < (0 : Int32))), (own_glt2 (n := 3) (k := (3 : Int32)) (by decide) (by have q0 := bd_p11; omega))⟩
  obtain ⟨T8, h8, X8, e8, W8, st8⟩ := stJ X6 hx hZ e6 Ar7 (j := (3 : Int32)) hin7 (g := (mkF m 39 #[.val (.ref o1), .val (.long q2), .second, .val (.long q3), .second, .val (.ref o8), .val (.int (2 : Int32))] [(.long q3), (.int (3 : Int32)), (.ref o8)])) rfl rfl (hb hby d4_39)
  have V8 : Arv Z h8 o8 kc10 .long p11 [(.long q12), (.long q13), (.long q2), (.long q3), (.long (0 : Int64)), (.long (0 : Int64))] (.long (0 : Int64)) := Arv.set Ar7 qa7 Sa7 Na7 Ha7 Ga7 rfl W8 3 rfl (Nat.le_of_ble_eq_true rfl)
  have N8 := Fr.snoc X8 N6 g_o8
  have M8 : h0.size ≤ h8.size := Nat.le_trans M6 (Nat.le_of_eq W8.size.symm)
  have O8 := Old.wr O6 W8 g_o8
  have f9 := ((P0.wr W6).wr W8)
  have f10 := ((P9.wr W6).wr W8)
  have ne11 : o1 ≠ o8 := ne_exa f9 f10 (by decide)
  have f12 := ((P3.other W6 (Or.inl ne11)).other W8 (Or.inl ne11))
  obtain ⟨T13, X13, e13, st13⟩ := getF X8 hx hZ hown (host := "") (Or.inl (own_w hw 41 rfl)) Via.refl e8 f12 (g := (mkF m 42 #[.val (.ref o1), .val (.long q2), .second, .val (.long q3), .second, .val (.ref o8), .val (.int (2 : Int32))] [(.ref o1), (.ref o1)])) rfl rfl (hb hby d4_42)
  obtain ⟨T14, h14, X14, e14, W14, st14⟩ := putF X13 hx hZ hown (host := "") (Or.inl (own_w hw 41 rfl)) Via.refl e13 f12 f9 (Or.inl (own_w hw 42 rfl)) (own_w hw 1 rfl) (ty := .int) (by decide) rfl rfl (g := (mkF m 47 #[.val (.ref o1), .val (.long q2), .second, .val (.long q3), .second, .val (.ref o8), .val (.int (2 : Int32))] [(.int (2 : Int32)), (.ref o1)])) rfl rfl (hb hby d4_47)
  have N14 := Fr.snoc X14 N8 g_o1
  have Fw14 := f12.same W14
  have M14 : h0.size ≤ h14.size := Nat.le_trans M8 (Nat.le_of_eq W14.size.symm)
  have O14 := Old.wr O8 W14 g_o1
  obtain ⟨fs, hr, hrun, hended, hW, hsame⟩ := X14.leave (v := none) (fun _ => rfl)
  have KL : Keep h0 h14 [o8, o1] := ((((Keep.refl h0 [o8, o1]).wr W6 (Or.inl (List.mem_of_getElem? (i := 0) rfl))).wr W8 (Or.inl (List.mem_of_getElem? (i := 0) rfl))).wr W14 (Or.inl (List.mem_of_getElem? (i := 1) rfl)))
  have f15 := (V8.other W14 (Ne.symm ne11))
  have f16 := (f10.wr W14)
  have f17 := (f9.wr W14)
  have f18 := (((P1.other W6 (Or.inl ne11)).other W8 (Or.inl ne11)).other W14 (Or.inr (slot_ne (Or.inr (own_w hw 23 rfl)) (Or.inl (own_w hw 42 rfl)) (by decide) (t := .long) (t' := .int) (by decide) (by decide))))
  have f19 := (((P2.other W6 (Or.inl ne11)).other W8 (Or.inl ne11)).other W14 (Or.inr (slot_ne (Or.inr (own_w hw 25 rfl)) (Or.inl (own_w hw 42 rfl)) (by decide) (t := .long) (t' := .int) (by decide) (by decide))))
  have f20 := (((P4.other W6 (Or.inl ne11)).other W8 (Or.inl ne11)).other W14 (Or.inr (slot_ne (Or.inr (own_w hw 29 rfl)) (Or.inl (own_w hw 42 rfl)) (by decide) (t := (.array (.array .long))) (t' := .int) (by decide) (by decide))))
  have f21 := (((P5.other W6 (Or.inl ne11)).other W8 (Or.inl ne11)).other W14 (Or.inr (slot_ne (Or.inl (own_w hw 21 rfl)) (Or.inl (own_w hw 42 rfl)) (by decide) (t := .int) (t' := .int) (by decide) (by decide))))
  refine ⟨_, _, pre0 _ ?_, hrun, hended, _, _, rfl, ?_, ⟨_, rfl⟩, hW, hsame.mono (by decide) (by decide)⟩
  ·
    show Steps p.tables e below (s₁.setTop (mkF m 0 #[.val (.ref o1), .val (.long q2), .second, .val (.long q3), .second, .unset, .unset] [])) _
    refine XS.aloadN X0.here hx rfl (hb hby d4_0) rfl rfl ?_
    refine st1 _ ?_
    refine XS.aloadN X1.here hx rfl (hb hby d4_4) rfl rfl ?_
    refine st2 _ ?_
    refine XS.bipush X2.here hx rfl (hb hby d4_8) ?_
    refine XS.iushr X2.here hx rfl (hb hby d4_10) rfl ?_
    refine X2.aaload hx (j := (0 : Int32)) (v := (.ref o8)) (by rw [e2]; exact Ar3.1) (State.isArrayOf_alike hZ.alike Ar3.2.1) rfl Ar3.2.2 hin3 hat3 (g := (mkF m 11 #[.val (.ref o1), .val (.long q2), .second, .val (.long q3), .second, .unset, .unset] [(.int (0 : Int32)), (.ref o6)])) rfl rfl (hb hby d4_11) _ ?_
    refine XS.astore X2.here hx rfl (hb hby d4_12) rfl rfl (l' := #[.val (.ref o1), .val (.long q2), .second, .val (.long q3), .second, .val (.ref o8), .unset]) rfl ?_
    refine XS.iconst X2.here hx rfl (hb hby d4_14) ?_
    refine XS.aloadN X2.here hx rfl (hb hby d4_15) rfl rfl ?_
    refine st4 _ ?_
    refine XS.sipush X4.here hx rfl (hb hby d4_19) ?_
    refine XS.iand X4.here hx rfl (hb hby d4_22) rfl ?_
    refine XS.imul X4.here hx rfl (hb hby d4_23) rfl ?_
    refine XS.istore X4.here hx rfl (hb hby d4_24) rfl (l' := #[.val (.ref o1), .val (.long q2), .second, .val (.long q3), .second, .val (.ref o8), .val (.int (2 : Int32))]) rfl ?_
    refine XS.aload X4.here hx rfl (hb hby d4_26) rfl rfl ?_
    refine XS.iload X4.here hx rfl (hb hby d4_28) rfl ?_
    refine XS.lloadN X4.here hx rfl (hb hby d4_30) rfl ?_
    refine st6 _ ?_
    refine XS.aload X6.here hx rfl (hb hby d4_32) rfl rfl ?_
    refine XS.iload X6.here hx rfl (hb hby d4_34) rfl ?_
    refine XS.iconst X6.here hx rfl (hb hby d4_36) ?_
    refine XS.iadd X6.here hx rfl (hb hby d4_37) rfl ?_
    refine XS.lloadN X6.here hx rfl (hb hby d4_38) rfl ?_
    refine st8 _ ?_
    refine XS.aloadN X8.here hx rfl (hb hby d4_40) rfl rfl ?_
    refine XS.dup X8.here hx rfl (hb hby d4_41) rfl rfl ?_
    refine st13 _ ?_
    refine XS.iconst X13.here hx rfl (hb hby d4_45) ?_
    refine XS.iadd X13.here hx rfl (hb hby d4_46) rfl ?_
    refine st14 _ ?_
    show Steps p.tables e below (T14.setTop (mkF m 50 #[.val (.ref o1), .val (.long q2), .second, .val (.long q3), .second, .val (.ref o8), .val (.int (2 : Int32))] [])) _
    exact X14.returnOut hx hret (hb hby d4_50) hr
  ·
    show Q19 Z o1 o6 o8 o9 kc7 p11 p15 q4 q5 kc10 q12 q13 q2 q3 h0 n0 _ T14.heap _
    rw [e14]
    exact ⟨rfl, N14, KL, f15, f16, f17, f18, f19, Fw14, f20, f21⟩
theorem ef20 (m : MethodId) (x0 : Addr) (x1 : Int64) (x2 : Int64) : entryFrame m #[(.ref x0), (.long x1), (.long x2)] 7 = mkF m 0 #[.val (.ref x0), .val (.long x1), .second, .val (.long x2), .second, .unset, .unset] [] := by first | (simp [entryFrame, mkF, argsToLocals, Value.category]; done) | rfl
def Q20 (Z : State) (o1 : Addr) (o6 : Addr) (o8 : Addr) (o9 : Addr) (kc7 : ClassId) (p11 : Int32) (p17 : Int32) (q4 : Int64) (q5 : Int64) (kc10 : ClassId) (q12 : Int64) (q13 : Int64) (q14 : Int64) (q15 : Int64) (q2 : Int64) (q3 : Int64) (h0 : Heap) (n0 : Nat) (v : Option Value) (h : Heap) (L : List Loc) : Prop :=
  (v = none ∧ Fr n0 L ∧ Keep h0 h [o8, o1] ∧ (Arv Z h o8 kc10 .long p11 [(.long q12), (.long q13), (.long q14), (.long q15), (.long q2), (.long q3)] (.long (0 : Int64))) ∧ (Exa Z h o8 "[J") ∧ (Exa Z h o1 "com/example/driftless/driftless/DeleteOperations") ∧ (Fld Z h o1 "com/example/driftless/driftless/DeleteOperations" "firstCounter" "J" (.long q4)) ∧ (Fld Z h o1 "com/example/driftless/driftless/DeleteOperations" "replica" "J" (.long q5)) ∧ (Fld Z h o1 "com/example/driftless/driftless/DeleteOperations" "size" "I" (.int (3 : Int32))) ∧ (Fld Z h o1 "com/example/driftless/driftless/DeleteOperations" "targets" "[[J" (.ref o6)) ∧ (Fld Z h o1 "java/util/AbstractList" "modCount" "I" (.int (0 : Int32))))
set_option maxRecDepth 65536 in
set_option maxHeartbeats 40000000 in
theorem rm20 (l : Launch) (Z : State) (a0 : Array Value) (hw : ∀ d ∈ tables_1, d.before a0 Z = true) (ws : List Jvm.Cond) (o1 : Addr) (o6 : Addr) (o8 : Addr) (o9 : Addr) (kc7 : ClassId) (p11 : Int32) (p17 : Int32) (q4 : Int64) (q5 : Int64) (kc10 : ClassId) (q12 : Int64) (q13 : Int64) (q14 : Int64) (q15 : Int64) (q2 : Int64) (q3 : Int64) (h0 : Heap) (n0 : Nat) (O0 : Old Z n0 h0) (g_o1 : n0 ≤ o1) (g_o6 : n0 ≤ o6) (g_o8 : n0 ≤ o8) (g_o9 : n0 ≤ o9) (Ov_kc7 : OvrA Z kc7 .long "[J") (bd_p11 : 6 ≤ p11.toInt ∧ p11.toInt ≤ 2147483647) (bd_p17 : 2 ≤ p17.toInt ∧ p17.toInt ≤ 2147483647) (P0 : Exa Z h0 o1 "com/example/driftless/driftless/DeleteOperations") (P1 : Fld Z h0 o1 "com/example/driftless/driftless/DeleteOperations" "firstCounter" "J" (.long q4)) (P2 : Fld Z h0 o1 "com/example/driftless/driftless/DeleteOperations" "replica" "J" (.long q5)) (P3 : Fld Z h0 o1 "com/example/driftless/driftless/DeleteOperations" "size" "I" (.int (2 : Int32))) (P4 : Fld Z h0 o1 "com/example/driftless/driftless/DeleteOperations" "targets" "[[J" (.ref o6)) (P5 : Fld Z h0 o1 "java/util/AbstractList" "modCount" "I" (.int (0 : Int32))) (P6 : Arv Z h0 o6 kc7 (.array .long) (2 : Int32) [(.ref o8), (.ref o9)] .null) (P8 : Arv Z h0 o8 kc10 .long p11 [(.long q12), (.long q13), (.long q14), (.long q15), (.long (0 : Int64)), (.long (0 : Int64))] (.long (0 : Int64))) (P9 : Exa Z h0 o8 "[J") :
    MetFree l yn4 (head1 (Jvm.Cond.code yn4 prog_7_method_2_code 7 none :: ws) ({ frames := 0, cells := 0, slots := 0, locals := 0 } : Room)) (fun a U => a = #[(.ref o1), (.long q2), (.long q3)] ∧ Z.Warmed39 U.vm ∧ U.heap = h0) (fun _ _ _ _ _ => True) (fun _ U o U' => ∃ v L, o = .returned v ∧ Q20 Z o1 o6 o8 o9 kc7 p11 p17 q4 q5 kc10 q12 q13 q14 q15 q2 q3 h0 n0 v U'.heap L ∧ FrameEnd U o U' L ({ frames := 0, cells := 0, slots := 0, locals := 0 } : Room).cells ({ frames := 0, cells := 0, slots := 0, locals := 0 } : Room).slots) := by
  refine MetFree.of_bodySF (plainFor_of_name pn2) hisR ?_
  intro p e s m args below meth c s₁ Bd hml0 hP hK
  obtain ⟨rfl, hZ, hh⟩ := hP
  have hx := Bd.exec
  have hby := Bd.bytes
  have hml : c.maxLocals = 7 := hml0
  have hown : s.vm.findClass "com/example/driftless/driftless/DeleteOperations" = some m.cls := findClass_of_methodNamed Bd.named
  have hnm := (name_of_methodNamed Bd.named Bd.method).1
  have hret := Bd.returns
  have hlk : meth.locks = false := BodyLoose.notSynchronized Bd
  have X0 : Stand p l e ({ frames := 0, cells := 0, slots := 0, locals := 0 } : Room) s m #[(.ref o1), (.long q2), (.long q3)] below meth c s₁ [] 0 0 := Stand.of_body Bd
  have e0 : s₁.heap = h0 := by rw [← hh, Bd.state]; rfl
  have N0 := Fr.nil n0
  have pre0 : ∀ t, Steps p.tables e below (s₁.setTop (mkF m 0 #[.val (.ref o1), .val (.long q2), .second, .val (.long q3), .second, .unset, .unset] [])) t → Steps p.tables e below (s₁.setTop (entryFrame m #[(.ref o1), (.long q2), (.long q3)] 7)) t := fun t k => castTop (ef20 m o1 q2 q3) k
  obtain ⟨T1, X1, e1, st1⟩ := getF X0 hx hZ hown (host := "") (Or.inl (own_w hw 28 rfl)) Via.refl e0 P4 (g := (mkF m 1 #[.val (.ref o1), .val (.long q2), .second, .val (.long q3), .second, .unset, .unset] [(.ref o1)])) rfl rfl (hb hby d4_1)
  obtain ⟨T2, X2, e2, st2⟩ := getF X1 hx hZ hown (host := "") (Or.inl (own_w hw 41 rfl)) Via.refl e1 P3 (g := (mkF m 5 #[.val (.ref o1), .val (.long q2), .second, .val (.long q3), .second, .unset, .unset] [(.ref o1), (.ref o6)])) rfl rfl (hb hby d4_5)
  obtain ⟨cl3, Ar3, qa3, Sa3, Na3, Ha3, Ga3⟩ := id (P6)
  have hin3 : ¬ ((0 : Int32) < 0 ∨ cl3.slots.size ≤ ((0 : Int32)).toNatClampNeg) := inb_of Sa3 ⟨by decide, by decide⟩
  have hat3 : cl3.slots[((0 : Int32)).toNatClampNeg]? = some (.ref o8) := Has.at Ha3 hin3 rfl
  obtain ⟨T4, X4, e4, st4⟩ := getF X2 hx hZ hown (host := "") (Or.inl (own_w hw 41 rfl)) Via.refl e2 P3 (g := (mkF m 16 #[.val (.ref o1), .val (.long q2), .second, .val (.long q3), .second, .val (.ref o8), .unset] [(.ref o1), (.int (2 : Int32))])) rfl rfl (hb hby d4_16)
  obtain ⟨cl5, Ar5, qa5, Sa5, Na5, Ha5, Ga5⟩ := id (P8)
  have hin5 : ¬ ((4 : Int32) < 0 ∨ cl5.slots.size ≤ ((4 : Int32)).toNatClampNeg) := inb_of Sa5 ⟨(by decide : ¬ ((4 : Int32) < (0 : Int32))), (own_glt2 (n := 4) (k := (4 : Int32)) (by decide) (by have q0 := bd_p11; omega))⟩
  obtain ⟨T6, h6, X6, e6, W6, st6⟩ := stJ X4 hx hZ e4 Ar5 (j := (4 : Int32)) hin5 (g := (mkF m 31 #[.val (.ref o1), .val (.long q2), .second, .val (.long q3), .second, .val (.ref o8), .val (.int (4 : Int32))] [(.long q2), (.int (4 : Int32)), (.ref o8)])) rfl rfl (hb hby d4_31)
  have V6 : Arv Z h6 o8 kc10 .long p11 [(.long q12), (.long q13), (.long q14), (.long q15), (.long q2), (.long (0 : Int64))] (.long (0 : Int64)) := Arv.set Ar5 qa5 Sa5 Na5 Ha5 Ga5 rfl W6 4 rfl (Nat.le_of_ble_eq_true rfl)
  have N6 := Fr.snoc X6 N0 g_o8
  have M6 : h0.size ≤ h6.size := Nat.le_trans (Nat.le_refl _) (Nat.le_of_eq W6.size.symm)
  have O6 := Old.wr O0 W6 g_o8
  obtain ⟨cl7, Ar7, qa7, Sa7, Na7, Ha7, Ga7⟩ := id (V6)
  have hin7 : ¬ ((5 : Int32) < 0 ∨ cl7.slots.size ≤ ((5 : Int32)).toNatClampNeg) := inb_of Sa7 ⟨(by decide : ¬ ((5 : Int32) < (0 : Int32))), (own_glt2 (n := 5) (k := (5 : Int32)) (by decide) (by have q0 := bd_p11; omega))⟩
  obtain ⟨T8, h8, X8, e8, W8, st8⟩ := stJ X6 hx hZ e6 Ar7 (j := (5 : Int32)) hin7 (g := (mkF m 39 #[.val (.ref o1), .val (.long q2), .second, .val (.long q3), .second, .val (.ref o8), .val (.int (4 : Int32))] [(.long q3), (.int (5 : Int32)), (.ref o8)])) rfl rfl (hb hby d4_39)
  have V8 : Arv Z h8 o8 kc10 .long p11 [(.long q12), (.long q13), (.long q14), (.long q15), (.long q2), (.long q3)] (.long (0 : Int64)) := Arv.set Ar7 qa7 Sa7 Na7 Ha7 Ga7 rfl W8 5 rfl (Nat.le_of_ble_eq_true rfl)
  have N8 := Fr.snoc X8 N6 g_o8
  have M8 : h0.size ≤ h8.size := Nat.le_trans M6 (Nat.le_of_eq W8.size.symm)
  have O8 := Old.wr O6 W8 g_o8
  have f9 := ((P0.wr W6).wr W8)
  have f10 := ((P9.wr W6).wr W8)
  have ne11 : o1 ≠ o8 := ne_exa f9 f10 (by decide)
  have f12 := ((P3.other W6 (Or.inl ne11)).other W8 (Or.inl ne11))
  obtain ⟨T13, X13, e13, st13⟩ := getF X8 hx hZ hown (host := "") (Or.inl (own_w hw 41 rfl)) Via.refl e8 f12 (g := (mkF m 42 #[.val (.ref o1), .val (.long q2), .second, .val (.long q3), .second, .val (.ref o8), .val (.int (4 : Int32))] [(.ref o1), (.ref o1)])) rfl rfl (hb hby d4_42)
  obtain ⟨T14, h14, X14, e14, W14, st14⟩ := putF X13 hx hZ hown (host := "") (Or.inl (own_w hw 41 rfl)) Via.refl e13 f12 f9 (Or.inl (own_w hw 42 rfl)) (own_w hw 1 rfl) (ty := .int) (by decide) rfl rfl (g := (mkF m 47 #[.val (.ref o1), .val (.long q2), .second, .val (.long q3), .second, .val (.ref o8), .val (.int (4 : Int32))] [(.int (3 : Int32)), (.ref o1)])) rfl rfl (hb hby d4_47)
  have N14 := Fr.snoc X14 N8 g_o1
  have Fw14 := f12.same W14
  have M14 : h0.size ≤ h14.size := Nat.le_trans M8 (Nat.le_of_eq W14.size.symm)
  have O14 := Old.wr O8 W14 g_o1
  obtain ⟨fs, hr, hrun, hended, hW, hsame⟩ := X14.leave (v := none) (fun _ => rfl)
  have KL : Keep h0 h14 [o8, o1] := ((((Keep.refl h0 [o8, o1]).wr W6 (Or.inl (List.mem_of_getElem? (i := 0) rfl))).wr W8 (Or.inl (List.mem_of_getElem? (i := 0) rfl))).wr W14 (Or.inl (List.mem_of_getElem? (i := 1) rfl)))
  have f15 := (V8.other W14 (Ne.symm ne11))
  have f16 := (f10.wr W14)
  have f17 := (f9.wr W14)
  have f18 := (((P1.other W6 (Or.inl ne11)).other W8 (Or.inl ne11)).other W14 (Or.inr (slot_ne (Or.inr (own_w hw 23 rfl)) (Or.inl (own_w hw 42 rfl)) (by decide) (t := .long) (t' := .int) (by decide) (by decide))))
  have f19 := (((P2.other W6 (Or.inl ne11)).other W8 (Or.inl ne11)).other W14 (Or.inr (slot_ne (Or.inr (own_w hw 25 rfl)) (Or.inl (own_w hw 42 rfl)) (by decide) (t := .long) (t' := .int) (by decide) (by decide))))
  have f20 := (((P4.other W6 (Or.inl ne11)).other W8 (Or.inl ne11)).other W14 (Or.inr (slot_ne (Or.inr (own_w hw 29 rfl)) (Or.inl (own_w hw 42 rfl)) (by decide) (t := (.array (.array .long))) (t' := .int) (by decide) (by decide))))
  have f21 := (((P5.other W6 (Or.inl ne11)).other W8 (Or.inl ne11)).other W14 (Or.inr (slot_ne (Or.inl (own_w hw 21 rfl)) (Or.inl (own_w hw 42 rfl)) (by decide) (t := .int) (t' := .int) (by decide) (by decide))))
  refine ⟨_, _, pre0 _ ?_, hrun, hended, _, _, rfl, ?_, ⟨_, rfl⟩, hW, hsame.mono (by decide) (by decide)⟩
  ·
    show Steps p.tables e below (s₁.setTop (mkF m 0 #[.val (.ref o1), .val (.long q2), .second, .val (.long q3), .second, .unset, .unset] [])) _
    refine XS.aloadN X0.here hx rfl (hb hby d4_0) rfl rfl ?_
    refine st1 _ ?_
    refine XS.aloadN X1.here hx rfl (hb hby d4_4) rfl rfl ?_
    refine st2 _ ?_
    refine XS.bipush X2.here hx rfl (hb hby d4_8) ?_
    refine XS.iushr X2.here hx rfl (hb hby d4_10) rfl ?_
    refine X2.aaload hx (j := (0 : Int32)) (v := (.ref o8)) (by rw [e2]; exact Ar3.1) (State.isArrayOf_alike hZ.alike Ar3.2.1) rfl Ar3.2.2 hin3 hat3 (g := (mkF m 11 #[.val (.ref o1), .val (.long q2), .second, .val (.long q3), .second, .unset, .unset] [(.int (0 : Int32)), (.ref o6)])) rfl rfl (hb hby d4_11) _ ?_
    refine XS.astore X2.here hx rfl (hb hby d4_12) rfl rfl (l' := #[.val (.ref o1), .val (.long q2), .second, .val (.long q3), .second, .val (.ref o8), .unset]) rfl ?_
    refine XS.iconst X2.here hx rfl (hb hby d4_14) ?_
    refine XS.aloadN X2.here hx rfl (hb hby d4_15) rfl rfl ?_
    refine st4 _ ?_
    refine XS.sipush X4.here hx rfl (hb hby d4_19) ?_
    refine XS.iand X4.here hx rfl (hb hby d4_22) rfl ?_
    refine XS.imul X4.here hx rfl (hb hby d4_23) rfl ?_
    refine XS.istore X4.here hx rfl (hb hby d4_24) rfl (l' := #[.val (.ref o1), .val (.long q2), .second, .val (.long q3), .second, .val (.ref o8), .val (.int (4 : Int32))]) rfl ?_
    refine XS.aload X4.here hx rfl (hb hby d4_26) rfl rfl ?_
    refine XS.iload X4.here hx rfl (hb hby d4_28) rfl ?_
    refine XS.lloadN X4.here hx rfl (hb hby d4_30) rfl ?_
    refine st6 _ ?_
    refine XS.aload X6.here hx rfl (hb hby d4_32) rfl rfl ?_
    refine XS.iload X6.here hx rfl (hb hby d4_34) rfl ?_
    refine XS.iconst X6.here hx rfl (hb hby d4_36) ?_
    refine XS.iadd X6.here hx rfl (hb hby d4_37) rfl ?_
    refine XS.lloadN X6.here hx rfl (hb hby d4_38) rfl ?_
    refine st8 _ ?_
    refine XS.aloadN X8.here hx rfl (hb hby d4_40) rfl rfl ?_
    refine XS.dup X8.here hx rfl (hb hby d4_41) rfl rfl ?_
    refine st13 _ ?_
    refine XS.iconst X13.here hx rfl (hb hby d4_45) ?_
    refine XS.iadd X13.here hx rfl (hb hby d4_46) rfl ?_
    refine st14 _ ?_
    show Steps p.tables e below (T14.setTop (mkF m 50 #[.val (.ref o1), .val (.long q2), .second, .val (.long q3), .second, .val (.ref o8), .val (.int (4 : Int32))] [])) _
    exact X14.returnOut hx hret (hb hby d4_50) hr
  ·
    show Q20 Z o1 o6 o8 o9 kc7 p11 p17 q4 q5 kc10 q12 q13 q14 q15 q2 q3 h0 n0 _ T14.heap _
    rw [e14]
    exact ⟨rfl, N14, KL, f15, f16, f17, f18, f19, Fw14, f20, f21⟩
theorem ef21 (m : MethodId) (x0 : Addr) : entryFrame m #[(.ref x0)] 1 = mkF m 0 #[.val (.ref x0)] [] := by first | (simp [entryFrame, mkF, argsToLocals, Value.category]; done) | rfl
def Q21 (Z : State) (o1 : Addr) (o4 : Addr) (o6 : Addr) (o7 : Addr) (kc5 : ClassId) (p9 : Int32) (p17 : Int32) (h0 : Heap) (n0 : Nat) (v : Option Value) (h : Heap) (L : List Loc) : Prop :=
  (v = some (.int (3 : Int32)) ∧ Fr n0 L ∧ h = h0)
set_option maxRecDepth 65536 in
set_option maxHeartbeats 40000000 in
theorem rm21 (l : Launch) (Z : State) (a0 : Array Value) (hw : ∀ d ∈ tables_1, d.before a0 Z = true) (ws : List Jvm.Cond) (o1 : Addr) (o4 : Addr) (o6 : Addr) (o7 : Addr) (kc5 : ClassId) (p9 : Int32) (p17 : Int32) (h0 : Heap) (n0 : Nat) (O0 : Old Z n0 h0) (g_o1 : n0 ≤ o1) (g_o4 : n0 ≤ o4) (g_o6 : n0 ≤ o6) (g_o7 : n0 ≤ o7) (Ov_kc5 : OvrA Z kc5 .long "[J") (bd_p9 : 6 ≤ p9.toInt ∧ p9.toInt ≤ 2147483647) (bd_p17 : 2 ≤ p17.toInt ∧ p17.toInt ≤ 2147483647) (P3 : Fld Z h0 o1 "com/example/driftless/driftless/DeleteOperations" "size" "I" (.int (3 : Int32))) :
    MetFree l yn5 (head1 (Jvm.Cond.code yn5 prog_7_method_8_code 1 (some .int) :: ws) ({ frames := 0, cells := 0, slots := 0, locals := 0 } : Room)) (fun a U => a = #[(.ref o1)] ∧ Z.Warmed39 U.vm ∧ U.heap = h0) (fun _ _ _ _ _ => True) (fun _ U o U' => ∃ v L, o = .returned v ∧ Q21 Z o1 o4 o6 o7 kc5 p9 p17 h0 n0 v U'.heap L ∧ FrameEnd U o U' L ({ frames := 0, cells := 0, slots := 0, locals := 0 } : Room).cells ({ frames := 0, cells := 0, slots := 0, locals := 0 } : Room).slots) := by
  refine MetFree.of_bodySF (plainFor_of_name pn2) hisR ?_
  intro p e s m args below meth c s₁ Bd hml0 hP hK
  obtain ⟨rfl, hZ, hh⟩ := hP
  have hx := Bd.exec
  have hby := Bd.bytes
  have hml : c.maxLocals = 1 := hml0
  have hown : s.vm.findClass "com/example/driftless/driftless/DeleteOperations" = some m.cls := findClass_of_methodNamed Bd.named
  have hnm := (name_of_methodNamed Bd.named Bd.method).1
  have hret := Bd.returns
  have hlk : meth.locks = false := BodyLoose.notSynchronized Bd
  have X0 : Stand p l e ({ frames := 0, cells := 0, slots := 0, locals := 0 } : Room) s m #[(.ref o1)] below meth c s₁ [] 0 0 := Stand.of_body Bd
  have e0 : s₁.heap = h0 := by rw [← hh, Bd.state]; rfl
  have N0 := Fr.nil n0
  have pre0 : ∀ t, Steps p.tables e below (s₁.setTop (mkF m 0 #[.val (.ref o1)] [])) t → Steps p.tables e below (s₁.setTop (entryFrame m #[(.ref o1)] 1)) t := fun t k => castTop (ef21 m o1) k
  obtain ⟨T1, X1, e1, st1⟩ := getF X0 hx hZ hown (host := "") (Or.inl (own_w hw 41 rfl)) Via.refl e0 P3 (g := (mkF m 1 #[.val (.ref o1)] [(.ref o1)])) rfl rfl (hb hby d5_1)
  obtain ⟨fs, hr, hrun, hended, hW, hsame⟩ := X1.leave (v := some (.int (3 : Int32))) (fun h => by rw [hret] at h; cases h)
  refine ⟨_, _, pre0 _ ?_, hrun, hended, _, _, rfl, ?_, ⟨_, rfl⟩, hW, hsame.mono (by decide) (by decide)⟩
  ·
    show Steps p.tables e below (s₁.setTop (mkF m 0 #[.val (.ref o1)] [])) _
    refine XS.aloadN X0.here hx rfl (hb hby d5_0) rfl rfl ?_
    refine st1 _ ?_
    show Steps p.tables e below (T1.setTop (mkF m 4 #[.val (.ref o1)] [(.int (3 : Int32))])) _
    exact retI X1 hx hret (hb hby d5_4) hr
  ·
    show Q21 Z o1 o4 o6 o7 kc5 p9 p17 h0 n0 _ T1.heap _
    rw [e1]
    exact ⟨rfl, N0, rfl⟩
theorem ef22 (m : MethodId) (x0 : Addr) (x1 : Int32) : entryFrame m #[(.ref x0), (.int x1)] 2 = mkF m 0 #[.val (.ref x0), .val (.int x1)] [] := by first | (simp [entryFrame, mkF, argsToLocals, Value.category]; done) | rfl
def Q22 (Z : State) (o1 : Addr) (o4 : Addr) (o6 : Addr) (o7 : Addr) (kc5 : ClassId) (p9 : Int32) (p17 : Int32) (kc8 : ClassId) (q10 : Int64) (q11 : Int64) (q12 : Int64) (q13 : Int64) (q14 : Int64) (q15 : Int64) (h0 : Heap) (n0 : Nat) (v : Option Value) (h : Heap) (L : List Loc) : Prop :=
  (v = some (.long q10) ∧ Fr n0 L ∧ h = h0)
set_option maxRecDepth 65536 in
set_option maxHeartbeats 40000000 in
theorem rm22 (l : Launch) (Z : State) (a0 : Array Value) (hw : ∀ d ∈ tables_1, d.before a0 Z = true) (ws : List Jvm.Cond) (o1 : Addr) (o4 : Addr) (o6 : Addr) (o7 : Addr) (kc5 : ClassId) (p9 : Int32) (p17 : Int32) (kc8 : ClassId) (q10 : Int64) (q11 : Int64) (q12 : Int64) (q13 : Int64) (q14 : Int64) (q15 : Int64) (h0 : Heap) (n0 : Nat) (O0 : Old Z n0 h0) (g_o1 : n0 ≤ o1) (g_o4 : n0 ≤ o4) (g_o6 : n0 ≤ o6) (g_o7 : n0 ≤ o7) (Ov_kc5 : OvrA Z kc5 .long "[J") (bd_p9 : 6 ≤ p9.toInt ∧ p9.toInt ≤ 2147483647) (bd_p17 : 2 ≤ p17.toInt ∧ p17.toInt ≤ 2147483647) (P4 : Fld Z h0 o1 "com/example/driftless/driftless/DeleteOperations" "targets" "[[J" (.ref o4)) (P6 : Arv Z h0 o4 kc5 (.array .long) (2 : Int32) [(.ref o6), (.ref o7)] .null) (P8 : Arv Z h0 o6 kc8 .long p9 [(.long q10), (.long q11), (.long q12), (.long q13), (.long q14), (.long q15)] (.long (0 : Int64))) :
    MetFree l yn6 (head1 (Jvm.Cond.code yn6 prog_7_method_6_code 2 (some .long) :: ws) ({ frames := 0, cells := 0, slots := 0, locals := 0 } : Room)) (fun a U => a = #[(.ref o1), (.int (0 : Int32))] ∧ Z.Warmed39 U.vm ∧ U.heap = h0) (fun _ _ _ _ _ => True) (fun _ U o U' => ∃ v L, o = .returned v ∧ Q22 Z o1 o4 o6 o7 kc5 p9 p17 kc8 q10 q11 q12 q13 q14 q15 h0 n0 v U'.heap L ∧ FrameEnd U o U' L ({ frames := 0, cells := 0, slots := 0, locals := 0 } : Room).cells ({ frames := 0, cells := 0, slots := 0, locals := 0 } : Room).slots) := by
  refine MetFree.of_bodySF (plainFor_of_name pn2) hisR ?_
  intro p e s m args below meth c s₁ Bd hml0 hP hK
  obtain ⟨rfl, hZ, hh⟩ := hP
  have hx := Bd.exec
  have hby := Bd.bytes
  have hml : c.maxLocals = 2 := hml0
  have hown : s.vm.findClass "com/example/driftless/driftless/DeleteOperations" = some m.cls := findClass_of_methodNamed Bd.named
  have hnm := (name_of_methodNamed Bd.named Bd.method).1
  have hret := Bd.returns
  have hlk : meth.locks = false := BodyLoose.notSynchronized Bd
  have X0 : Stand p l e ({ frames := 0, cells := 0, slots := 0, locals := 0 } : Room) s m #[(.ref o1), (.int (0 : Int32))] below meth c s₁ [] 0 0 := Stand.of_body Bd
  have e0 : s₁.heap = h0 := by rw [← hh, Bd.state]; rfl
  have N0 := Fr.nil n0
  have pre0 : ∀ t, Steps p.tables e below (s₁.setTop (mkF m 0 #[.val (.ref o1), .val (.int (0 : Int32))] [])) t → Steps p.tables e below (s₁.setTop (entryFrame m #[(.ref o1), (.int (0 : Int32))] 2)) t := fun t k => castTop (ef22 m o1 (0 : Int32)) k
  obtain ⟨T1, X1, e1, st1⟩ := getF X0 hx hZ hown (host := "") (Or.inl (own_w hw 28 rfl)) Via.refl e0 P4 (g := (mkF m 1 #[.val (.ref o1), .val (.int (0 : Int32))] [(.ref o1)])) rfl rfl (hb hby d6_1)
  obtain ⟨cl2, Ar2, qa2, Sa2, Na2, Ha2, Ga2⟩ := id (P6)
  have hin2 : ¬ ((0 : Int32) < 0 ∨ cl2.slots.size ≤ ((0 : Int32)).toNatClampNeg) := inb_of Sa2 ⟨by decide, by decide⟩
  have hat2 : cl2.slots[((0 : Int32)).toNatClampNeg]? = some (.ref o6) := Has.at Ha2 hin2 rfl
  obtain ⟨cl3, Ar3, qa3, Sa3, Na3, Ha3, Ga3⟩ := id (P8)
  have hin3 : ¬ ((0 : Int32) < 0 ∨ cl3.slots.size ≤ ((0 : Int32)).toNatClampNeg) := inb_of Sa3 ⟨(by decide : ¬ ((0 : Int32) < (0 : Int32))), (own_glt2 (n := 0) (k := (0 : Int32)) (by decide) (by have q0 := bd_p9; omega))⟩
  have hat3 : cl3.slots[((0 : Int32)).toNatClampNeg]? = some (.long q10) := Has.at Ha3 hin3 rfl
  obtain ⟨fs, hr, hrun, hended, hW, hsame⟩ := X1.leave (v := some (.long q10)) (fun h => by rw [hret] at h; cases h)
  refine ⟨_, _, pre0 _ ?_, hrun, hended, _, _, rfl, ?_, ⟨_, rfl⟩, hW, hsame.mono (by decide) (by decide)⟩
  ·
    show Steps p.tables e below (s₁.setTop (mkF m 0 #[.val (.ref o1), .val (.int (0 : Int32))] [])) _
    refine XS.aloadN X0.here hx rfl (hb hby d6_0) rfl rfl ?_
    refine st1 _ ?_
    refine XS.iloadN X1.here hx rfl (hb hby d6_4) rfl ?_
    refine XS.bipush X1.here hx rfl (hb hby d6_5) ?_
    refine XS.iushr X1.here hx rfl (hb hby d6_7) rfl ?_
    refine X1.aaload hx (j := (0 : Int32)) (v := (.ref o6)) (by rw [e1]; exact Ar2.1) (State.isArrayOf_alike hZ.alike Ar2.2.1) rfl Ar2.2.2 hin2 hat2 (g := (mkF m 8 #[.val (.ref o1), .val (.int (0 : Int32))] [(.int (0 : Int32)), (.ref o4)])) rfl rfl (hb hby d6_8) _ ?_
    refine XS.iconst X1.here hx rfl (hb hby d6_9) ?_
    refine XS.iloadN X1.here hx rfl (hb hby d6_10) rfl ?_
    refine XS.sipush X1.here hx rfl (hb hby d6_11) ?_
    refine XS.iand X1.here hx rfl (hb hby d6_14) rfl ?_
    refine XS.imul X1.here hx rfl (hb hby d6_15) rfl ?_
    refine X1.laload hx (j := (0 : Int32)) (v := (.long q10)) (by rw [e1]; exact Ar3.1) (State.isArrayOf_alike hZ.alike Ar3.2.1) Ar3.2.2 hin3 hat3 (g := (mkF m 16 #[.val (.ref o1), .val (.int (0 : Int32))] [(.int (0 : Int32)), (.ref o6)])) rfl rfl (hb hby d6_16) _ ?_
    show Steps p.tables e below (T1.setTop (mkF m 17 #[.val (.ref o1), .val (.int (0 : Int32))] [(.long q10)])) _
    exact retOut X1 hx hret rfl (Or.inr (Or.inl ⟨rfl, rfl, _, rfl⟩)) (hb hby d6_17) hr
  ·
    show Q22 Z o1 o4 o6 o7 kc5 p9 p17 kc8 q10 q11 q12 q13 q14 q15 h0 n0 _ T1.heap _
    rw [e1]
    exact ⟨rfl, N0, rfl⟩
theorem ef23 (m : MethodId) (x0 : Addr) (x1 : Int32) : entryFrame m #[(.ref x0), (.int x1)] 2 = mkF m 0 #[.val (.ref x0), .val (.int x1)] [] := by first | (simp [entryFrame, mkF, argsToLocals, Value.category]; done) | rfl
def Q23 (Z : State) (o1 : Addr) (o4 : Addr) (o6 : Addr) (o7 : Addr) (kc5 : ClassId) (p9 : Int32) (p17 : Int32) (kc8 : ClassId) (q10 : Int64) (q11 : Int64) (q12 : Int64) (q13 : Int64) (q14 : Int64) (q15 : Int64) (h0 : Heap) (n0 : Nat) (v : Option Value) (h : Heap) (L : List Loc) : Prop :=
  (v = some (.long q11) ∧ Fr n0 L ∧ h = h0)
set_option maxRecDepth 65536 in
set_option maxHeartbeats 40000000 in
theorem rm23 (l : Launch) (Z : State) (a0 : Array Value) (hw : ∀ d ∈ tables_1, d.before a0 Z = true) (ws : List Jvm.Cond) (o1 : Addr) (o4 : Addr) (o6 : Addr) (o7 : Addr) (kc5 : ClassId) (p9 : Int32) (p17 : Int32) (kc8 : ClassId) (q10 : Int64) (q11 : Int64) (q12 : Int64) (q13 : Int64) (q14 : Int64) (q15 : Int64) (h0 : Heap) (n0 : Nat) (O0 : Old Z n0 h0) (g_o1 : n0 ≤ o1) (g_o4 : n0 ≤ o4) (g_o6 : n0 ≤ o6) (g_o7 : n0 ≤ o7) (Ov_kc5 : OvrA Z kc5 .long "[J") (bd_p9 : 6 ≤ p9.toInt ∧ p9.toInt ≤ 2147483647) (bd_p17 : 2 ≤ p17.toInt ∧ p17.toInt ≤ 2147483647) (P4 : Fld Z h0 o1 "com/example/driftless/driftless/DeleteOperations" "targets" "[[J" (.ref o4)) (P6 : Arv Z h0 o4 kc5 (.array .long) (2 : Int32) [(.ref o6), (.ref o7)] .null) (P8 : Arv Z h0 o6 kc8 .long p9 [(.long q10), (.long q11), (.long q12), (.long q13), (.long q14), (.long q15)] (.long (0 : Int64))) :
    MetFree l yn7 (head1 (Jvm.Cond.code yn7 prog_7_method_7_code 2 (some .long) :: ws) ({ frames := 0, cells := 0, slots := 0, locals := 0 } : Room)) (fun a U => a = #[(.ref o1), (.int (0 : Int32))] ∧ Z.Warmed39 U.vm ∧ U.heap = h0) (fun _ _ _ _ _ => True) (fun _ U o U' => ∃ v L, o = .returned v ∧ Q23 Z o1 o4 o6 o7 kc5 p9 p17 kc8 q10 q11 q12 q13 q14 q15 h0 n0 v U'.heap L ∧ FrameEnd U o U' L ({ frames := 0, cells := 0, slots := 0, locals := 0 } : Room).cells ({ frames := 0, cells := 0, slots := 0, locals := 0 } : Room).slots) := by
  refine MetFree.of_bodySF (plainFor_of_name pn2) hisR ?_
  intro p e s m args below meth c s₁ Bd hml0 hP hK
  obtain ⟨rfl, hZ, hh⟩ := hP
  have hx := Bd.exec
  have hby := Bd.bytes
  have hml : c.maxLocals = 2 := hml0
  have hown : s.vm.findClass "com/example/driftless/driftless/DeleteOperations" = some m.cls := findClass_of_methodNamed Bd.named
  have hnm := (name_of_methodNamed Bd.named Bd.method).1
  have hret := Bd.returns
  have hlk : meth.locks = false := BodyLoose.notSynchronized Bd
  have X0 : Stand p l e ({ frames := 0, cells := 0, slots := 0, locals := 0 } : Room) s m #[(.ref o1), (.int (0 : Int32))] below meth c s₁ [] 0 0 := Stand.of_body Bd
  have e0 : s₁.heap = h0 := by rw [← hh, Bd.state]; rfl
  have N0 := Fr.nil n0
  have pre0 : ∀ t, Steps p.tables e below (s₁.setTop (mkF m 0 #[.val (.ref o1), .val (.int (0 : Int32))] [])) t → Steps p.tables e below (s₁.setTop (entryFrame m #[(.ref o1), (.int (0 : Int32))] 2)) t := fun t k => castTop (ef23 m o1 (0 : Int32)) k
  obtain ⟨T1, X1, e1, st1⟩ := getF X0 hx hZ hown (host := "") (Or.inl (own_w hw 28 rfl)) Via.refl e0 P4 (g := (mkF m 1 #[.val (.ref o1), .val (.int (0 : Int32))] [(.ref o1)])) rfl rfl (hb hby d7_1)
  obtain ⟨cl2, Ar2, qa2, Sa2, Na2, Ha2, Ga2⟩ := id (P6)
  have hin2 : ¬ ((0 : Int32) < 0 ∨ cl2.slots.size ≤ ((0 : Int32)).toNatClampNeg) := inb_of Sa2 ⟨by decide, by decide⟩
  have hat2 : cl2.slots[((0 : Int32)).toNatClampNeg]? = some (.ref o6) := Has.at Ha2 hin2 rfl
  obtain ⟨cl3, Ar3, qa3, Sa3, Na3, Ha3, Ga3⟩ := id (P8)
  have hin3 : ¬ ((1 : Int32) < 0 ∨ cl3.slots.size ≤ ((1 : Int32)).toNatClampNeg) := inb_of Sa3 ⟨(by decide : ¬ ((1 : Int32) < (0 : Int32))), (own_glt2 (n := 1) (k := (1 : Int32)) (by decide) (by have q0 := bd_p9; omega))⟩
  have hat3 : cl3.slots[((1 : Int32)).toNatClampNeg]? = some (.long q11) := Has.at Ha3 hin3 rfl
  obtain ⟨fs, hr, hrun, hended, hW, hsame⟩ := X1.leave (v := some (.long q11)) (fun h => by rw [hret] at h; cases h)
  refine ⟨_, _, pre0 _ ?_, hrun, hended, _, _, rfl, ?_, ⟨_, rfl⟩, hW, hsame.mono (by decide) (by decide)⟩
  ·
    show Steps p.tables e below (s₁.setTop (mkF m 0 #[.val (.ref o1), .val (.int (0 : Int32))] [])) _
    refine XS.aloadN X0.here hx rfl (hb hby d7_0) rfl rfl ?_
    refine st1 _ ?_
    refine XS.iloadN X1.here hx rfl (hb hby d7_4) rfl ?_
    refine XS.bipush X1.here hx rfl (hb hby d7_5) ?_
    refine XS.iushr X1.here hx rfl (hb hby d7_7) rfl ?_
    refine X1.aaload hx (j := (0 : Int32)) (v := (.ref o6)) (by rw [e1]; exact Ar2.1) (State.isArrayOf_alike hZ.alike Ar2.2.1) rfl Ar2.2.2 hin2 hat2 (g := (mkF m 8 #[.val (.ref o1), .val (.int (0 : Int32))] [(.int (0 : Int32)), (.ref o4)])) rfl rfl (hb hby d7_8) _ ?_
    refine XS.iconst X1.here hx rfl (hb hby d7_9) ?_
    refine XS.iloadN X1.here hx rfl (hb hby d7_10) rfl ?_
    refine XS.sipush X1.here hx rfl (hb hby d7_11) ?_
    refine XS.iand X1.here hx rfl (hb hby d7_14) rfl ?_
    refine XS.imul X1.here hx rfl (hb hby d7_15) rfl ?_
    refine XS.iconst X1.here hx rfl (hb hby d7_16) ?_
    refine XS.iadd X1.here hx rfl (hb hby d7_17) rfl ?_
    refine X1.laload hx (j := (1 : Int32)) (v := (.long q11)) (by rw [e1]; exact Ar3.1) (State.isArrayOf_alike hZ.alike Ar3.2.1) Ar3.2.2 hin3 hat3 (g := (mkF m 18 #[.val (.ref o1), .val (.int (0 : Int32))] [(.int (1 : Int32)), (.ref o6)])) rfl rfl (hb hby d7_18) _ ?_
    show Steps p.tables e below (T1.setTop (mkF m 19 #[.val (.ref o1), .val (.int (0 : Int32))] [(.long q11)])) _
    exact retOut X1 hx hret rfl (Or.inr (Or.inl ⟨rfl, rfl, _, rfl⟩)) (hb hby d7_19) hr
  ·
    show Q23 Z o1 o4 o6 o7 kc5 p9 p17 kc8 q10 q11 q12 q13 q14 q15 h0 n0 _ T1.heap _
    rw [e1]
    exact ⟨rfl, N0, rfl⟩
theorem ef24 (m : MethodId) (x0 : Addr) (x1 : Int32) : entryFrame m #[(.ref x0), (.int x1)] 2 = mkF m 0 #[.val (.ref x0), .val (.int x1)] [] := by first | (simp [entryFrame, mkF, argsToLocals, Value.category]; done) | rfl
def Q24 (Z : State) (o1 : Addr) (o4 : Addr) (o6 : Addr) (o7 : Addr) (kc5 : ClassId) (p9 : Int32) (p17 : Int32) (kc8 : ClassId) (q10 : Int64) (q11 : Int64) (q12 : Int64) (q13 : Int64) (q14 : Int64) (q15 : Int64) (h0 : Heap) (n0 : Nat) (v : Option Value) (h : Heap) (L : List Loc) : Prop :=
  (v = some (.long q12) ∧ Fr n0 L ∧ h = h0)
set_option maxRecDepth 65536 in
set_option maxHeartbeats 40000000 in
theorem rm24 (l : Launch) (Z : State) (a0 : Array Value) (hw : ∀ d ∈ tables_1, d.before a0 Z = true) (ws : List Jvm.Cond) (o1 : Addr) (o4 : Addr) (o6 : Addr) (o7 : Addr) (kc5 : ClassId) (p9 : Int32) (p17 : Int32) (kc8 : ClassId) (q10 : Int64) (q11 : Int64) (q12 : Int64) (q13 : Int64) (q14 : Int64) (q15 : Int64) (h0 : Heap) (n0 : Nat) (O0 : Old Z n0 h0) (g_o1 : n0 ≤ o1) (g_o4 : n0 ≤ o4) (g_o6 : n0 ≤ o6) (g_o7 : n0 ≤ o7) (Ov_kc5 : OvrA Z kc5 .long "[J") (bd_p9 : 6 ≤ p9.toInt ∧ p9.toInt ≤ 2147483647) (bd_p17 : 2 ≤ p17.toInt ∧ p17.toInt ≤ 2147483647) (P4 : Fld Z h0 o1 "com/example/driftless/driftless/DeleteOperations" "targets" "[[J" (.ref o4)) (P6 : Arv Z h0 o4 kc5 (.array .long) (2 : Int32) [(.ref o6), (.ref o7)] .null) (P8 : Arv Z h0 o6 kc8 .long p9 [(.long q10), (.long q11), (.long q12), (.long q13), (.long q14), (.long q15)] (.long (0 : Int64))) :
    MetFree l yn6 (head1 (Jvm.Cond.code yn6 prog_7_method_6_code 2 (some .long) :: ws) ({ frames := 0, cells := 0, slots := 0, locals := 0 } : Room)) (fun a U => a = #[(.ref o1), (.int (1 : Int32))] ∧ Z.Warmed39 U.vm ∧ U.heap = h0) (fun _ _ _ _ _ => True) (fun _ U o U' => ∃ v L, o = .returned v ∧ Q24 Z o1 o4 o6 o7 kc5 p9 p17 kc8 q10 q11 q12 q13 q14 q15 h0 n0 v U'.heap L ∧ FrameEnd U o U' L ({ frames := 0, cells := 0, slots := 0, locals := 0 } : Room).cells ({ frames := 0, cells := 0, slots := 0, locals := 0 } : Room).slots) := by
  refine MetFree.of_bodySF (plainFor_of_name pn2) hisR ?_
  intro p e s m args below meth c s₁ Bd hml0 hP hK
  obtain ⟨rfl, hZ, hh⟩ := hP
  have hx := Bd.exec
  have hby := Bd.bytes
  have hml : c.maxLocals = 2 := hml0
  have hown : s.vm.findClass "com/example/driftless/driftless/DeleteOperations" = some m.cls := findClass_of_methodNamed Bd.named
  have hnm := (name_of_methodNamed Bd.named Bd.method).1
  have hret := Bd.returns
  have hlk : meth.locks = false := BodyLoose.notSynchronized Bd
  have X0 : Stand p l e ({ frames := 0, cells := 0, slots := 0, locals := 0 } : Room) s m #[(.ref o1), (.int (1 : Int32))] below meth c s₁ [] 0 0 := Stand.of_body Bd
  have e0 : s₁.heap = h0 := by rw [← hh, Bd.state]; rfl
  have N0 := Fr.nil n0
  have pre0 : ∀ t, Steps p.tables e below (s₁.setTop (mkF m 0 #[.val (.ref o1), .val (.int (1 : Int32))] [])) t → Steps p.tables e below (s₁.setTop (entryFrame m #[(.ref o1), (.int (1 : Int32))] 2)) t := fun t k => castTop (ef24 m o1 (1 : Int32)) k
  obtain ⟨T1, X1, e1, st1⟩ := getF X0 hx hZ hown (host := "") (Or.inl (own_w hw 28 rfl)) Via.refl e0 P4 (g := (mkF m 1 #[.val (.ref o1), .val (.int (1 : Int32))] [(.ref o1)])) rfl rfl (hb hby d6_1)
  obtain ⟨cl2, Ar2, qa2, Sa2, Na2, Ha2, Ga2⟩ := id (P6)
  have hin2 : ¬ ((0 : Int32) < 0 ∨ cl2.slots.size ≤ ((0 : Int32)).toNatClampNeg) := inb_of Sa2 ⟨by decide, by decide⟩
  have hat2 : cl2.slots[((0 : Int32)).toNatClampNeg]? = some (.ref o6) := Has.at Ha2 hin2 rfl
  obtain ⟨cl3, Ar3, qa3, Sa3, Na3, Ha3, Ga3⟩ := id (P8)
  have hin3 : ¬ ((2 : Int32) < 0 ∨ cl3.slots.size ≤ ((2 : Int32)).toNatClampNeg) := inb_of Sa3 ⟨(by decide : ¬ ((2 : Int32) < (0 : Int32))), (own_glt2 (n := 2) (k := (2 : Int32)) (by decide) (by have q0 := bd_p9; omega))⟩
  have hat3 : cl3.slots[((2 : Int32)).toNatClampNeg]? = some (.long q12) := Has.at Ha3 hin3 rfl
  obtain ⟨fs, hr, hrun, hended, hW, hsame⟩ := X1.leave (v := some (.long q12)) (fun h => by rw [hret] at h; cases h)
  refine ⟨_, _, pre0 _ ?_, hrun, hended, _, _, rfl, ?_, ⟨_, rfl⟩, hW, hsame.mono (by decide) (by decide)⟩
  ·
    show Steps p.tables e below (s₁.setTop (mkF m 0 #[.val (.ref o1), .val (.int (1 : Int32))] [])) _
    refine XS.aloadN X0.here hx rfl (hb hby d6_0) rfl rfl ?_
    refine st1 _ ?_
    refine XS.iloadN X1.here hx rfl (hb hby d6_4) rfl ?_
    refine XS.bipush X1.here hx rfl (hb hby d6_5) ?_
    refine XS.iushr X1.here hx rfl (hb hby d6_7) rfl ?_
    refine X1.aaload hx (j := (0 : Int32)) (v := (.ref o6)) (by rw [e1]; exact Ar2.1) (State.isArrayOf_alike hZ.alike Ar2.2.1) rfl Ar2.2.2 hin2 hat2 (g := (mkF m 8 #[.val (.ref o1), .val (.int (1 : Int32))] [(.int (0 : Int32)), (.ref o4)])) rfl rfl (hb hby d6_8) _ ?_
    refine XS.iconst X1.here hx rfl (hb hby d6_9) ?_
    refine XS.iloadN X1.here hx rfl (hb hby d6_10) rfl ?_
    refine XS.sipush X1.here hx rfl (hb hby d6_11) ?_
    refine XS.iand X1.here hx rfl (hb hby d6_14) rfl ?_
    refine XS.imul X1.here hx rfl (hb hby d6_15) rfl ?_
    refine X1.laload hx (j := (2 : Int32)) (v := (.long q12)) (by rw [e1]; exact Ar3.1) (State.isArrayOf_alike hZ.alike Ar3.2.1) Ar3.2.2 hin3 hat3 (g := (mkF m 16 #[.val (.ref o1), .val (.int (1 : Int32))] [(.int (2 : Int32)), (.ref o6)])) rfl rfl (hb hby d6_16) _ ?_
    show Steps p.tables e below (T1.setTop (mkF m 17 #[.val (.ref o1), .val (.int (1 : Int32))] [(.long q12)])) _
    exact retOut X1 hx hret rfl (Or.inr (Or.inl ⟨rfl, rfl, _, rfl⟩)) (hb hby d6_17) hr
  ·
    show Q24 Z o1 o4 o6 o7 kc5 p9 p17 kc8 q10 q11 q12 q13 q14 q15 h0 n0 _ T1.heap _
    rw [e1]
    exact ⟨rfl, N0, rfl⟩
theorem ef25 (m : MethodId) (x0 : Addr) (x1 : Int32) : entryFrame m #[(.ref x0), (.int x1)] 2 = mkF m 0 #[.val (.ref x0), .val (.int x1)] [] := by first | (simp [entryFrame, mkF, argsToLocals, Value.category]; done) | rfl
def Q25 (Z : State) (o1 : Addr) (o4 : Addr) (o6 : Addr) (o7 : Addr) (kc5 : ClassId) (p9 : Int32) (p17 : Int32) (kc8 : ClassId) (q10 : Int64) (q11 : Int64) (q12 : Int64) (q13 : Int64) (q14 : Int64) (q15 : Int64) (h0 : Heap) (n0 : Nat) (v : Option Value) (h : Heap) (L : List Loc) : Prop :=
  (v = some (.long q13) ∧ Fr n0 L ∧ h = h0)
set_option maxRecDepth 65536 in
set_option maxHeartbeats 40000000 in
theorem rm25 (l : Launch) (Z : State) (a0 : Array Value) (hw : ∀ d ∈ tables_1, d.before a0 Z = true) (ws : List Jvm.Cond) (o1 : Addr) (o4 : Addr) (o6 : Addr) (o7 : Addr) (kc5 : ClassId) (p9 : Int32) (p17 : Int32) (kc8 : ClassId) (q10 : Int64) (q11 : Int64) (q12 : Int64) (q13 : Int64) (q14 : Int64) (q15 : Int64) (h0 : Heap) (n0 : Nat) (O0 : Old Z n0 h0) (g_o1 : n0 ≤ o1) (g_o4 : n0 ≤ o4) (g_o6 : n0 ≤ o6) (g_o7 : n0 ≤ o7) (Ov_kc5 : OvrA Z kc5 .long "[J") (bd_p9 : 6 ≤ p9.toInt ∧ p9.toInt ≤ 2147483647) (bd_p17 : 2 ≤ p17.toInt ∧ p17.toInt ≤ 2147483647) (P4 : Fld Z h0 o1 "com/example/driftless/driftless/DeleteOperations" "targets" "[[J" (.ref o4)) (P6 : Arv Z h0 o4 kc5 (.array .long) (2 : Int32) [(.ref o6), (.ref o7)] .null) (P8 : Arv Z h0 o6 kc8 .long p9 [(.long q10), (.long q11), (.long q12), (.long q13), (.long q14), (.long q15)] (.long (0 : Int64))) :
    MetFree l yn7 (head1 (Jvm.Cond.code yn7 prog_7_method_7_code 2 (some .long) :: ws) ({ frames := 0, cells := 0, slots := 0, locals := 0 } : Room)) (fun a U => a = #[(.ref o1), (.int (1 : Int32))] ∧ Z.Warmed39 U.vm ∧ U.heap = h0) (fun _ _ _ _ _ => True) (fun _ U o U' => ∃ v L, o = .returned v ∧ Q25 Z o1 o4 o6 o7 kc5 p9 p17 kc8 q10 q11 q12 q13 q14 q15 h0 n0 v U'.heap L ∧ FrameEnd U o U' L ({ frames := 0, cells := 0, slots := 0, locals := 0 } : Room).cells ({ frames := 0, cells := 0, slots := 0, locals := 0 } : Room).slots) := by
  refine MetFree.of_bodySF (plainFor_of_name pn2) hisR ?_
  intro p e s m args below meth c s₁ Bd hml0 hP hK
  obtain ⟨rfl, hZ, hh⟩ := hP
  have hx := Bd.exec
  have hby := Bd.bytes
  have hml : c.maxLocals = 2 := hml0
  have hown : s.vm.findClass "com/example/driftless/driftless/DeleteOperations" = some m.cls := findClass_of_methodNamed Bd.named
  have hnm := (name_of_methodNamed Bd.named Bd.method).1
  have hret := Bd.returns
  have hlk : meth.locks = false := BodyLoose.notSynchronized Bd
  have X0 : Stand p l e ({ frames := 0, cells := 0, slots := 0, locals := 0 } : Room) s m #[(.ref o1), (.int (1 : Int32))] below meth c s₁ [] 0 0 := Stand.of_body Bd
  have e0 : s₁.heap = h0 := by rw [← hh, Bd.state]; rfl
  have N0 := Fr.nil n0
  have pre0 : ∀ t, Steps p.tables e below (s₁.setTop (mkF m 0 #[.val (.ref o1), .val (.int (1 : Int32))] [])) t → Steps p.tables e below (s₁.setTop (entryFrame m #[(.ref o1), (.int (1 : Int32))] 2)) t := fun t k => castTop (ef25 m o1 (1 : Int32)) k
  obtain ⟨T1, X1, e1, st1⟩ := getF X0 hx hZ hown (host := "") (Or.inl (own_w hw 28 rfl)) Via.refl e0 P4 (g := (mkF m 1 #[.val (.ref o1), .val (.int (1 : Int32))] [(.ref o1)])) rfl rfl (hb hby d7_1)
  obtain ⟨cl2, Ar2, qa2, Sa2, Na2, Ha2, Ga2⟩ := id (P6)
  have hin2 : ¬ ((0 : Int32) < 0 ∨ cl2.slots.size ≤ ((0 : Int32)).toNatClampNeg) := inb_of Sa2 ⟨by decide, by decide⟩
  have hat2 : cl2.slots[((0 : Int32)).toNatClampNeg]? = some (.ref o6) := Has.at Ha2 hin2 rfl
  obtain ⟨cl3, Ar3, qa3, Sa3, Na3, Ha3, Ga3⟩ := id (P8)
  have hin3 : ¬ ((3 : Int32) < 0 ∨ cl3.slots.size ≤ ((3 : Int32)).toNatClampNeg) := inb_of Sa3 ⟨(by decide : ¬ ((3 : Int32) < (0 : Int32))), (own_glt2 (n := 3) (k := (3 : Int32)) (by decide) (by have q0 := bd_p9; omega))⟩
  have hat3 : cl3.slots[((3 : Int32)).toNatClampNeg]? = some (.long q13) := Has.at Ha3 hin3 rfl
  obtain ⟨fs, hr, hrun, hended, hW, hsame⟩ := X1.leave (v := some (.long q13)) (fun h => by rw [hret] at h; cases h)
  refine ⟨_, _, pre0 _ ?_, hrun, hended, _, _, rfl, ?_, ⟨_, rfl⟩, hW, hsame.mono (by decide) (by decide)⟩
  ·
    show Steps p.tables e below (s₁.setTop (mkF m 0 #[.val (.ref o1), .val (.int (1 : Int32))] [])) _
    refine XS.aloadN X0.here hx rfl (hb hby d7_0) rfl rfl ?_
    refine st1 _ ?_
    refine XS.iloadN X1.here hx rfl (hb hby d7_4) rfl ?_
    refine XS.bipush X1.here hx rfl (hb hby d7_5) ?_
    refine XS.iushr X1.here hx rfl (hb hby d7_7) rfl ?_
    refine X1.aaload hx (j := (0 : Int32)) (v := (.ref o6)) (by rw [e1]; exact Ar2.1) (State.isArrayOf_alike hZ.alike Ar2.2.1) rfl Ar2.2.2 hin2 hat2 (g := (mkF m 8 #[.val (.ref o1), .val (.int (1 : Int32))] [(.int (0 : Int32)), (.ref o4)])) rfl rfl (hb hby d7_8) _ ?_
    refine XS.iconst X1.here hx rfl (hb hby d7_9) ?_
    refine XS.iloadN X1.here hx rfl (hb hby d7_10) rfl ?_
    refine XS.sipush X1.here hx rfl (hb hby d7_11) ?_
    refine XS.iand X1.here hx rfl (hb hby d7_14) rfl ?_
    refine XS.imul X1.here hx rfl (hb hby d7_15) rfl ?_
    refine XS.iconst X1.here hx rfl (hb hby d7_16) ?_
    refine XS.iadd X1.here hx rfl (hb hby d7_17) rfl ?_
    refine X1.laload hx (j := (3 : Int32)) (v := (.long q13)) (by rw [e1]; exact Ar3.1) (State.isArrayOf_alike hZ.alike Ar3.2.1) Ar3.2.2 hin3 hat3 (g := (mkF m 18 #[.val (.ref o1), .val (.int (1 : Int32))] [(.int (3 : Int32)), (.ref o6)])) rfl rfl (hb hby d7_18) _ ?_
    show Steps p.tables e below (T1.setTop (mkF m 19 #[.val (.ref o1), .val (.int (1 : Int32))] [(.long q13)])) _
    exact retOut X1 hx hret rfl (Or.inr (Or.inl ⟨rfl, rfl, _, rfl⟩)) (hb hby d7_19) hr
  ·
    show Q25 Z o1 o4 o6 o7 kc5 p9 p17 kc8 q10 q11 q12 q13 q14 q15 h0 n0 _ T1.heap _
    rw [e1]
    exact ⟨rfl, N0, rfl⟩
theorem ef26 (m : MethodId) (x0 : Addr) (x1 : Int32) : entryFrame m #[(.ref x0), (.int x1)] 2 = mkF m 0 #[.val (.ref x0), .val (.int x1)] [] := by first | (simp [entryFrame, mkF, argsToLocals, Value.category]; done) | rfl
def Q26 (Z : State) (o1 : Addr) (o4 : Addr) (o6 : Addr) (o7 : Addr) (kc5 : ClassId) (p9 : Int32) (p17 : Int32) (kc8 : ClassId) (q10 : Int64) (q11 : Int64) (q12 : Int64) (q13 : Int64) (q14 : Int64) (q15 : Int64) (h0 : Heap) (n0 : Nat) (v : Option Value) (h : Heap) (L : List Loc) : Prop :=
  (v = some (.long q14) ∧ Fr n0 L ∧ h = h0)
set_option maxRecDepth 65536 in
set_option maxHeartbeats 40000000 in
theorem rm26 (l : Launch) (Z : State) (a0 : Array Value) (hw : ∀ d ∈ tables_1, d.before a0 Z = true) (ws : List Jvm.Cond) (o1 : Addr) (o4 : Addr) (o6 : Addr) (o7 : Addr) (kc5 : ClassId) (p9 : Int32) (p17 : Int32) (kc8 : ClassId) (q10 : Int64) (q11 : Int64) (q12 : Int64) (q13 : Int64) (q14 : Int64) (q15 : Int64) (h0 : Heap) (n0 : Nat) (O0 : Old Z n0 h0) (g_o1 : n0 ≤ o1) (g_o4 : n0 ≤ o4) (g_o6 : n0 ≤ o6) (g_o7 : n0 ≤ o7) (Ov_kc5 : OvrA Z kc5 .long "[J") (bd_p9 : 6 ≤ p9.toInt ∧ p9.toInt ≤ 2147483647) (bd_p17 : 2 ≤ p17.toInt ∧ p17.toInt ≤ 2147483647) (P4 : Fld Z h0 o1 "com/example/driftless/driftless/DeleteOperations" "targets" "[[J" (.ref o4)) (P6 : Arv Z h0 o4 kc5 (.array .long) (2 : Int32) [(.ref o6), (.ref o7)] .null) (P8 : Arv Z h0 o6 kc8 .long p9 [(.long q10), (.long q11), (.long q12), (.long q13), (.long q14), (.long q15)] (.long (0 : Int64))) :
    MetFree l yn6 (head1 (Jvm.Cond.code yn6 prog_7_method_6_code 2 (some .long) :: ws) ({ frames := 0, cells := 0, slots := 0, locals := 0 } : Room)) (fun a U => a = #[(.ref o1), (.int (2 : Int32))] ∧ Z.Warmed39 U.vm ∧ U.heap = h0) (fun _ _ _ _ _ => True) (fun _ U o U' => ∃ v L, o = .returned v ∧ Q26 Z o1 o4 o6 o7 kc5 p9 p17 kc8 q10 q11 q12 q13 q14 q15 h0 n0 v U'.heap L ∧ FrameEnd U o U' L ({ frames := 0, cells := 0, slots := 0, locals := 0 } : Room).cells ({ frames := 0, cells := 0, slots := 0, locals := 0 } : Room).slots) := by
  refine MetFree.of_bodySF (plainFor_of_name pn2) hisR ?_
  intro p e s m args below meth c s₁ Bd hml0 hP hK
  obtain ⟨rfl, hZ, hh⟩ := hP
  have hx := Bd.exec
  have hby := Bd.bytes
  have hml : c.maxLocals = 2 := hml0
  have hown : s.vm.findClass "com/example/driftless/driftless/DeleteOperations" = some m.cls := findClass_of_methodNamed Bd.named
  have hnm := (name_of_methodNamed Bd.named Bd.method).1
  have hret := Bd.returns
  have hlk : meth.locks = false := BodyLoose.notSynchronized Bd
  have X0 : Stand p l e ({ frames := 0, cells := 0, slots := 0, locals := 0 } : Room) s m #[(.ref o1), (.int (2 : Int32))] below meth c s₁ [] 0 0 := Stand.of_body Bd
  have e0 : s₁.heap = h0 := by rw [← hh, Bd.state]; rfl
  have N0 := Fr.nil n0
  have pre0 : ∀ t, Steps p.tables e below (s₁.setTop (mkF m 0 #[.val (.ref o1), .val (.int (2 : Int32))] [])) t → Steps p.tables e below (s₁.setTop (entryFrame m #[(.ref o1), (.int (2 : Int32))] 2)) t := fun t k => castTop (ef26 m o1 (2 : Int32)) k
  obtain ⟨T1, X1, e1, st1⟩ := getF X0 hx hZ hown (host := "") (Or.inl (own_w hw 28 rfl)) Via.refl e0 P4 (g := (mkF m 1 #[.val (.ref o1), .val (.int (2 : Int32))] [(.ref o1)])) rfl rfl (hb hby d6_1)
  obtain ⟨cl2, Ar2, qa2, Sa2, Na2, Ha2, Ga2⟩ := id (P6)
  have hin2 : ¬ ((0 : Int32) < 0 ∨ cl2.slots.size ≤ ((0 : Int32)).toNatClampNeg) := inb_of Sa2 ⟨by decide, by decide⟩
  have hat2 : cl2.slots[((0 : Int32)).toNatClampNeg]? = some (.ref o6) := Has.at Ha2 hin2 rfl
  obtain ⟨cl3, Ar3, qa3, Sa3, Na3, Ha3, Ga3⟩ := id (P8)
  have hin3 : ¬ ((4 : Int32) < 0 ∨ cl3.slots.size ≤ ((4 : Int32)).toNatClampNeg) := inb_of Sa3 ⟨(by decide : ¬ ((4 : Int32) < (0 : Int32))), (own_glt2 (n := 4) (k := (4 : Int32)) (by decide) (by have q0 := bd_p9; omega))⟩
  have hat3 : cl3.slots[((4 : Int32)).toNatClampNeg]? = some (.long q14) := Has.at Ha3 hin3 rfl
  obtain ⟨fs, hr, hrun, hended, hW, hsame⟩ := X1.leave (v := some (.long q14)) (fun h => by rw [hret] at h; cases h)
  refine ⟨_, _, pre0 _ ?_, hrun, hended, _, _, rfl, ?_, ⟨_, rfl⟩, hW, hsame.mono (by decide) (by decide)⟩
  ·
    show Steps p.tables e below (s₁.setTop (mkF m 0 #[.val (.ref o1), .val (.int (2 : Int32))] [])) _
    refine XS.aloadN X0.here hx rfl (hb hby d6_0) rfl rfl ?_
    refine st1 _ ?_
    refine XS.iloadN X1.here hx rfl (hb hby d6_4) rfl ?_
    refine XS.bipush X1.here hx rfl (hb hby d6_5) ?_
    refine XS.iushr X1.here hx rfl (hb hby d6_7) rfl ?_
    refine X1.aaload hx (j := (0 : Int32)) (v := (.ref o6)) (by rw [e1]; exact Ar2.1) (State.isArrayOf_alike hZ.alike Ar2.2.1) rfl Ar2.2.2 hin2 hat2 (g := (mkF m 8 #[.val (.ref o1), .val (.int (2 : Int32))] [(.int (0 : Int32)), (.ref o4)])) rfl rfl (hb hby d6_8) _ ?_
    refine XS.iconst X1.here hx rfl (hb hby d6_9) ?_
    refine XS.iloadN X1.here hx rfl (hb hby d6_10) rfl ?_
    refine XS.sipush X1.here hx rfl (hb hby d6_11) ?_
    refine XS.iand X1.here hx rfl (hb hby d6_14) rfl ?_
    refine XS.imul X1.here hx rfl (hb hby d6_15) rfl ?_
    refine X1.laload hx (j := (4 : Int32)) (v := (.long q14)) (by rw [e1]; exact Ar3.1) (State.isArrayOf_alike hZ.alike Ar3.2.1) Ar3.2.2 hin3 hat3 (g := (mkF m 16 #[.val (.ref o1), .val (.int (2 : Int32))] [(.int (4 : Int32)), (.ref o6)])) rfl rfl (hb hby d6_16) _ ?_
    show Steps p.tables e below (T1.setTop (mkF m 17 #[.val (.ref o1), .val (.int (2 : Int32))] [(.long q14)])) _
    exact retOut X1 hx hret rfl (Or.inr (Or.inl ⟨rfl, rfl, _, rfl⟩)) (hb hby d6_17) hr
  ·
    show Q26 Z o1 o4 o6 o7 kc5 p9 p17 kc8 q10 q11 q12 q13 q14 q15 h0 n0 _ T1.heap _
    rw [e1]
    exact ⟨rfl, N0, rfl⟩
theorem ef27 (m : MethodId) (x0 : Addr) (x1 : Int32) : entryFrame m #[(.ref x0), (.int x1)] 2 = mkF m 0 #[.val (.ref x0), .val (.int x1)] [] := by first | (simp [entryFrame, mkF, argsToLocals, Value.category]; done) | rfl
def Q27 (Z : State) (o1 : Addr) (o4 : Addr) (o6 : Addr) (o7 : Addr) (kc5 : ClassId) (p9 : Int32) (p17 : Int32) (kc8 : ClassId) (q10 : Int64) (q11 : Int64) (q12 : Int64) (q13 : Int64) (q14 : Int64) (q15 : Int64) (h0 : Heap) (n0 : Nat) (v : Option Value) (h : Heap) (L : List Loc) : Prop :=
  (v = some (.long q15) ∧ Fr n0 L ∧ h = h0)
set_option maxRecDepth 65536 in
set_option maxHeartbeats 40000000 in
theorem rm27 (l : Launch) (Z : State) (a0 : Array Value) (hw : ∀ d ∈ tables_1, d.before a0 Z = true) (ws : List Jvm.Cond) (o1 : Addr) (o4 : Addr) (o6 : Addr) (o7 : Addr) (kc5 : ClassId) (p9 : Int32) (p17 : Int32) (kc8 : ClassId) (q10 : Int64) (q11 : Int64) (q12 : Int64) (q13 : Int64) (q14 : Int64) (q15 : Int64) (h0 : Heap) (n0 : Nat) (O0 : Old Z n0 h0) (g_o1 : n0 ≤ o1) (g_o4 : n0 ≤ o4) (g_o6 : n0 ≤ o6) (g_o7 : n0 ≤ o7) (Ov_kc5 : OvrA Z kc5 .long "[J") (bd_p9 : 6 ≤ p9.toInt ∧ p9.toInt ≤ 2147483647) (bd_p17 : 2 ≤ p17.toInt ∧ p17.toInt ≤ 2147483647) (P4 : Fld Z h0 o1 "com/example/driftless/driftless/DeleteOperations" "targets" "[[J" (.ref o4)) (P6 : Arv Z h0 o4 kc5 (.array .long) (2 : Int32) [(.ref o6), (.ref o7)] .null) (P8 : Arv Z h0 o6 kc8 .long p9 [(.long q10), (.long q11), (.long q12), (.long q13), (.long q14), (.long q15)] (.long (0 : Int64))) :
    MetFree l yn7 (head1 (Jvm.Cond.code yn7 prog_7_method_7_code 2 (some .long) :: ws) ({ frames := 0, cells := 0, slots := 0, locals := 0 } : Room)) (fun a U => a = #[(.ref o1), (.int (2 : Int32))] ∧ Z.Warmed39 U.vm ∧ U.heap = h0) (fun _ _ _ _ _ => True) (fun _ U o U' => ∃ v L, o = .returned v ∧ Q27 Z o1 o4 o6 o7 kc5 p9 p17 kc8 q10 q11 q12 q13 q14 q15 h0 n0 v U'.heap L ∧ FrameEnd U o U' L ({ frames := 0, cells := 0, slots := 0, locals := 0 } : Room).cells ({ frames := 0, cells := 0, slots := 0, locals := 0 } : Room).slots) := by
  refine MetFree.of_bodySF (plainFor_of_name pn2) hisR ?_
  intro p e s m args below meth c s₁ Bd hml0 hP hK
  obtain ⟨rfl, hZ, hh⟩ := hP
  have hx := Bd.exec
  have hby := Bd.bytes
  have hml : c.maxLocals = 2 := hml0
  have hown : s.vm.findClass "com/example/driftless/driftless/DeleteOperations" = some m.cls := findClass_of_methodNamed Bd.named
  have hnm := (name_of_methodNamed Bd.named Bd.method).1
  have hret := Bd.returns
  have hlk : meth.locks = false := BodyLoose.notSynchronized Bd
  have X0 : Stand p l e ({ frames := 0, cells := 0, slots := 0, locals := 0 } : Room) s m #[(.ref o1), (.int (2 : Int32))] below meth c s₁ [] 0 0 := Stand.of_body Bd
  have e0 : s₁.heap = h0 := by rw [← hh, Bd.state]; rfl
  have N0 := Fr.nil n0
  have pre0 : ∀ t, Steps p.tables e below (s₁.setTop (mkF m 0 #[.val (.ref o1), .val (.int (2 : Int32))] [])) t → Steps p.tables e below (s₁.setTop (entryFrame m #[(.ref o1), (.int (2 : Int32))] 2)) t := fun t k => castTop (ef27 m o1 (2 : Int32)) k
  obtain ⟨T1, X1, e1, st1⟩ := getF X0 hx hZ hown (host := "") (Or.inl (own_w hw 28 rfl)) Via.refl e0 P4 (g := (mkF m 1 #[.val (.ref o1), .val (.int (2 : Int32))] [(.ref o1)])) rfl rfl (hb hby d7_1)
  obtain ⟨cl2, Ar2, qa2, Sa2, Na2, Ha2, Ga2⟩ := id (P6)
  have hin2 : ¬ ((0 : Int32) < 0 ∨ cl2.slots.size ≤ ((0 : Int32)).toNatClampNeg) := inb_of Sa2 ⟨by decide, by decide⟩
  have hat2 : cl2.slots[((0 : Int32)).toNatClampNeg]? = some (.ref o6) := Has.at Ha2 hin2 rfl
  obtain ⟨cl3, Ar3, qa3, Sa3, Na3, Ha3, Ga3⟩ := id (P8)
  have hin3 : ¬ ((5 : Int32) < 0 ∨ cl3.slots.size ≤ ((5 : Int32)).toNatClampNeg) := inb_of Sa3 ⟨(by decide : ¬ ((5 : Int32) < (0 : Int32))), (own_glt2 (n := 5) (k := (5 : Int32)) (by decide) (by have q0 := bd_p9; omega))⟩
  have hat3 : cl3.slots[((5 : Int32)).toNatClampNeg]? = some (.long q15) := Has.at Ha3 hin3 rfl
  obtain ⟨fs, hr, hrun, hended, hW, hsame⟩ := X1.leave (v := some (.long q15)) (fun h => by rw [hret] at h; cases h)
  refine ⟨_, _, pre0 _ ?_, hrun, hended, _, _, rfl, ?_, ⟨_, rfl⟩, hW, hsame.mono (by decide) (by decide)⟩
  ·
    show Steps p.tables e below (s₁.setTop (mkF m 0 #[.val (.ref o1), .val (.int (2 : Int32))] [])) _
    refine XS.aloadN X0.here hx rfl (hb hby d7_0) rfl rfl ?_
    refine st1 _ ?_
    refine XS.iloadN X1.here hx rfl (hb hby d7_4) rfl ?_
    refine XS.bipush X1.here hx rfl (hb hby d7_5) ?_
    refine XS.iushr X1.here hx rfl (hb hby d7_7) rfl ?_
    refine X1.aaload hx (j := (0 : Int32)) (v := (.ref o6)) (by rw [e1]; exact Ar2.1) (State.isArrayOf_alike hZ.alike Ar2.2.1) rfl Ar2.2.2 hin2 hat2 (g := (mkF m 8 #[.val (.ref o1), .val (.int (2 : Int32))] [(.int (0 : Int32)), (.ref o4)])) rfl rfl (hb hby d7_8) _ ?_
    refine XS.iconst X1.here hx rfl (hb hby d7_9) ?_
    refine XS.iloadN X1.here hx rfl (hb hby d7_10) rfl ?_
    refine XS.sipush X1.here hx rfl (hb hby d7_11) ?_
    refine XS.iand X1.here hx rfl (hb hby d7_14) rfl ?_
    refine XS.imul X1.here hx rfl (hb hby d7_15) rfl ?_
    refine XS.iconst X1.here hx rfl (hb hby d7_16) ?_
    refine XS.iadd X1.here hx rfl (hb hby d7_17) rfl ?_
    refine X1.laload hx (j := (5 : Int32)) (v := (.long q15)) (by rw [e1]; exact Ar3.1) (State.isArrayOf_alike hZ.alike Ar3.2.1) Ar3.2.2 hin3 hat3 (g := (mkF m 18 #[.val (.ref o1), .val (.int (2 : Int32))] [(.int (5 : Int32)), (.ref o6)])) rfl rfl (hb hby d7_18) _ ?_
    show Steps p.tables e below (T1.setTop (mkF m 19 #[.val (.ref o1), .val (.int (2 : Int32))] [(.long q15)])) _
    exact retOut X1 hx hret rfl (Or.inr (Or.inl ⟨rfl, rfl, _, rfl⟩)) (hb hby d7_19) hr
  ·
    show Q27 Z o1 o4 o6 o7 kc5 p9 p17 kc8 q10 q11 q12 q13 q14 q15 h0 n0 _ T1.heap _
    rw [e1]
    exact ⟨rfl, N0, rfl⟩
theorem ef28 (m : MethodId) (x0 : Int32) (x1 : Int32) : entryFrame m #[(.int x0), (.int x1)] 2 = mkF m 0 #[.val (.int x0), .val (.int x1)] [] := by first | (simp [entryFrame, mkF, argsToLocals, Value.category]; done) | rfl
def Q28 (Z : State) (p1 : Int32) (h0 : Heap) (n0 : Nat) (v : Option Value) (h : Heap) (L : List Loc) : Prop :=
  (v = some (.int (4096 : Int32)) ∧ Fr n0 L ∧ h = h0)
set_option maxRecDepth 65536 in
set_option maxHeartbeats 40000000 in
theorem rm28 (l : Launch) (Z : State) (a0 : Array Value) (hw : ∀ d ∈ tables_1, d.before a0 Z = true) (ws : List Jvm.Cond) (p1 : Int32) (h0 : Heap) (n0 : Nat) (O0 : Old Z n0 h0) (bd_p1 : 8193 ≤ p1.toInt ∧ p1.toInt ≤ 8194) :
    MetFree l yn2 (head1 (Jvm.Cond.code yn2 jdk_29_method_69_code 2 (some .int) :: ws) ({ frames := 0, cells := 0, slots := 0, locals := 0 } : Room)) (fun a U => a = #[(.int (4096 : Int32)), (.int p1)] ∧ Z.Warmed39 U.vm ∧ U.heap = h0) (fun _ _ _ _ _ => True) (fun _ U o U' => ∃ v L, o = .returned v ∧ Q28 Z p1 h0 n0 v U'.heap L ∧ FrameEnd U o U' L ({ frames := 0, cells := 0, slots := 0, locals := 0 } : Room).cells ({ frames := 0, cells := 0, slots := 0, locals := 0 } : Room).slots) := by
  refine MetFree.of_bodySF (Jvm.Free.JP.mathPlain rfl (by decide +kernel)) hisR ?_
  intro p e s m args below meth c s₁ Bd hml0 hP hK
  obtain ⟨rfl, hZ, hh⟩ := hP
  have hx := Bd.exec
  have hby := Bd.bytes
  have hml : c.maxLocals = 2 := hml0
  have hown : s.vm.findClass "java/lang/Math" = some m.cls := findClass_of_methodNamed Bd.named
  have hnm := (name_of_methodNamed Bd.named Bd.method).1
  have hret := Bd.returns
  have hlk : meth.locks = false := BodyLoose.notSynchronized Bd
  have X0 : Stand p l e ({ frames := 0, cells := 0, slots := 0, locals := 0 } : Room) s m #[(.int (4096 : Int32)), (.int p1)] below meth c s₁ [] 0 0 := Stand.of_body Bd
  have e0 : s₁.heap = h0 := by rw [← hh, Bd.state]; rfl
  have N0 := Fr.nil n0
  have pre0 : ∀ t, Steps p.tables e below (s₁.setTop (mkF m 0 #[.val (.int (4096 : Int32)), .val (.int p1)] [])) t → Steps p.tables e below (s₁.setTop (entryFrame m #[(.int (4096 : Int32)), (.int p1)] 2)) t := fun t k => castTop (ef28 m (4096 : Int32) p1) k
  obtain ⟨fs, hr, hrun, hended, hW, hsame⟩ := X0.leave (v := some (.int (4096 : Int32))) (fun h => by rw [hret] at h; cases h)
  refine ⟨_, _, pre0 _ ?_, hrun, hended, _, _, rfl, ?_, ⟨_, rfl⟩, hW, hsame.mono (by decide) (by decide)⟩
  ·
    show Steps p.tables e below (s₁.setTop (mkF m 0 #[.val (.int (4096 : Int32)), .val (.int p1)] [])) _
    refine XS.iloadN X0.here hx rfl (hb hby d3_0) rfl ?_
    refine XS.iloadN X0.here hx rfl (hb hby d3_1) rfl ?_
    refine XS.icmpNo X0.here hx rfl (hb hby d3_2) rfl (flt (own_gnlt1 (n := 4096) (k := (4096 : Int32)) (by decide) (by have q0 := bd_p1; omega))).2.2.1 ?_
    refine XS.iloadN X0.here hx rfl (hb hby d3_5) rfl ?_
    refine XS.goto X0.here hx rfl (pc0 := 6) (pc' := 10) rfl (hb hby d3_6) (by decide) (by decide) ?_
    show Steps p.tables e below (s₁.setTop (mkF m 10 #[.val (.int (4096 : Int32)), .val (.int p1)] [(.int (4096 : Int32))])) _
    exact retI X0 hx hret (hb hby d3_10) hr
  ·
    show Q28 Z p1 h0 n0 _ s₁.heap _
    rw [e0]
    exact ⟨rfl, N0, rfl⟩
theorem ef29 (m : MethodId) (x0 : Int32) (x1 : Int32) : entryFrame m #[(.int x0), (.int x1)] 2 = mkF m 0 #[.val (.int x0), .val (.int x1)] [] := by first | (simp [entryFrame, mkF, argsToLocals, Value.category]; done) | rfl
def Q29 (Z : State) (p1 : Int32) (h0 : Heap) (n0 : Nat) (v : Option Value) (h : Heap) (L : List Loc) : Prop :=
  (v = some (.int (4096 : Int32)) ∧ Fr n0 L ∧ h = h0)
set_option maxRecDepth 65536 in
set_option maxHeartbeats 40000000 in
theorem rm29 (l : Launch) (Z : State) (a0 : Array Value) (hw : ∀ d ∈ tables_1, d.before a0 Z = true) (ws : List Jvm.Cond) (p1 : Int32) (h0 : Heap) (n0 : Nat) (O0 : Old Z n0 h0) (bd_p1 : 4097 ≤ p1.toInt ∧ p1.toInt ≤ 4098) :
    MetFree l yn2 (head1 (Jvm.Cond.code yn2 jdk_29_method_69_code 2 (some .int) :: ws) ({ frames := 0, cells := 0, slots := 0, locals := 0 } : Room)) (fun a U => a = #[(.int (4096 : Int32)), (.int p1)] ∧ Z.Warmed39 U.vm ∧ U.heap = h0) (fun _ _ _ _ _ => True) (fun _ U o U' => ∃ v L, o = .returned v ∧ Q29 Z p1 h0 n0 v U'.heap L ∧ FrameEnd U o U' L ({ frames := 0, cells := 0, slots := 0, locals := 0 } : Room).cells ({ frames := 0, cells := 0, slots := 0, locals := 0 } : Room).slots) := by
  refine MetFree.of_bodySF (Jvm.Free.JP.mathPlain rfl (by decide +kernel)) hisR ?_
  intro p e s m args below meth c s₁ Bd hml0 hP hK
  obtain ⟨rfl, hZ, hh⟩ := hP
  have hx := Bd.exec
  have hby := Bd.bytes
  have hml : c.maxLocals = 2 := hml0
  have hown : s.vm.findClass "java/lang/Math" = some m.cls := findClass_of_methodNamed Bd.named
  have hnm := (name_of_methodNamed Bd.named Bd.method).1
  have hret := Bd.returns
  have hlk : meth.locks = false := BodyLoose.notSynchronized Bd
  have X0 : Stand p l e ({ frames := 0, cells := 0, slots := 0, locals := 0 } : Room) s m #[(.int (4096 : Int32)), (.int p1)] below meth c s₁ [] 0 0 := Stand.of_body Bd
  have e0 : s₁.heap = h0 := by rw [← hh, Bd.state]; rfl
  have N0 := Fr.nil n0
  have pre0 : ∀ t, Steps p.tables e below (s₁.setTop (mkF m 0 #[.val (.int (4096 : Int32)), .val (.int p1)] [])) t → Steps p.tables e below (s₁.setTop (entryFrame m #[(.int (4096 : Int32)), (.int p1)] 2)) t := fun t k => castTop (ef29 m (4096 : Int32) p1) k
  obtain ⟨fs, hr, hrun, hended, hW, hsame⟩ := X0.leave (v := some (.int (4096 : Int32))) (fun h => by rw [hret] at h; cases h)
  refine ⟨_, _, pre0 _ ?_, hrun, hended, _, _, rfl, ?_, ⟨_, rfl⟩, hW, hsame.mono (by decide) (by decide)⟩
  ·
    show Steps p.tables e below (s₁.setTop (mkF m 0 #[.val (.int (4096 : Int32)), .val (.int p1)] [])) _
    refine XS.iloadN X0.here hx rfl (hb hby d3_0) rfl ?_
    refine XS.iloadN X0.here hx rfl (hb hby d3_1) rfl ?_
    refine XS.icmpNo X0.here hx rfl (hb hby d3_2) rfl (flt (own_gnlt1 (n := 4096) (k := (4096 : Int32)) (by decide) (by have q0 := bd_p1; omega))).2.2.1 ?_
    refine XS.iloadN X0.here hx rfl (hb hby d3_5) rfl ?_
    refine XS.goto X0.here hx rfl (pc0 := 6) (pc' := 10) rfl (hb hby d3_6) (by decide) (by decide) ?_
    show Steps p.tables e below (s₁.setTop (mkF m 10 #[.val (.int (4096 : Int32)), .val (.int p1)] [(.int (4096 : Int32))])) _
    exact retI X0 hx hret (hb hby d3_10) hr
  ·
    show Q29 Z p1 h0 n0 _ s₁.heap _
    rw [e0]
    exact ⟨rfl, N0, rfl⟩
theorem ef30 (m : MethodId) (x0 : Int32) (x1 : Int32) : entryFrame m #[(.int x0), (.int x1)] 2 = mkF m 0 #[.val (.int x0), .val (.int x1)] [] := by first | (simp [entryFrame, mkF, argsToLocals, Value.category]; done) | rfl
def Q30 (Z : State) (p1 : Int32) (h0 : Heap) (n0 : Nat) (v : Option Value) (h : Heap) (L : List Loc) : Prop :=
  (v = some (.int p1) ∧ Fr n0 L ∧ h = h0)
set_option maxRecDepth 65536 in
set_option maxHeartbeats 40000000 in
theorem rm30 (l : Launch) (Z : State) (a0 : Array Value) (hw : ∀ d ∈ tables_1, d.before a0 Z = true) (ws : List Jvm.Cond) (p1 : Int32) (h0 : Heap) (n0 : Nat) (O0 : Old Z n0 h0) (bd_p1 : 1 ≤ p1.toInt ∧ p1.toInt ≤ 2) :
    MetFree l yn2 (head1 (Jvm.Cond.code yn2 jdk_29_method_69_code 2 (some .int) :: ws) ({ frames := 0, cells := 0, slots := 0, locals := 0 } : Room)) (fun a U => a = #[(.int (4096 : Int32)), (.int p1)] ∧ Z.Warmed39 U.vm ∧ U.heap = h0) (fun _ _ _ _ _ => True) (fun _ U o U' => ∃ v L, o = .returned v ∧ Q30 Z p1 h0 n0 v U'.heap L ∧ FrameEnd U o U' L ({ frames := 0, cells := 0, slots := 0, locals := 0 } : Room).cells ({ frames := 0, cells := 0, slots := 0, locals := 0 } : Room).slots) := by
  refine MetFree.of_bodySF (Jvm.Free.JP.mathPlain rfl (by decide +kernel)) hisR ?_
  intro p e s m args below meth c s₁ Bd hml0 hP hK
  obtain ⟨rfl, hZ, hh⟩ := hP
  have hx := Bd.exec
  have hby := Bd.bytes
  have hml : c.maxLocals = 2 := hml0
  have hown : s.vm.findClass "java/lang/Math" = some m.cls := findClass_of_methodNamed Bd.named
  have hnm := (name_of_methodNamed Bd.named Bd.method).1
  have hret := Bd.returns
  have hlk : meth.locks = false := BodyLoose.notSynchronized Bd
  have X0 : Stand p l e ({ frames := 0, cells := 0, slots := 0, locals := 0 } : Room) s m #[(.int (4096 : Int32)), (.int p1)] below meth c s₁ [] 0 0 := Stand.of_body Bd
  have e0 : s₁.heap = h0 := by rw [← hh, Bd.state]; rfl
  have N0 := Fr.nil n0
  have pre0 : ∀ t, Steps p.tables e below (s₁.setTop (mkF m 0 #[.val (.int (4096 : Int32)), .val (.int p1)] [])) t → Steps p.tables e below (s₁.setTop (entryFrame m #[(.int (4096 : Int32)), (.int p1)] 2)) t := fun t k => castTop (ef30 m (4096 : Int32) p1) k
  obtain ⟨fs, hr, hrun, hended, hW, hsame⟩ := X0.leave (v := some (.int p1)) (fun h => by rw [hret] at h; cases h)
  refine ⟨_, _, pre0 _ ?_, hrun, hended, _, _, rfl, ?_, ⟨_, rfl⟩, hW, hsame.mono (by decide) (by decide)⟩
  ·
    show Steps p.tables e below (s₁.setTop (mkF m 0 #[.val (.int (4096 : Int32)), .val (.int p1)] [])) _
    refine XS.iloadN X0.here hx rfl (hb hby d3_0) rfl ?_
    refine XS.iloadN X0.here hx rfl (hb hby d3_1) rfl ?_
    refine XS.icmpYes X0.here hx rfl (pc0 := 2) (pc' := 9) rfl (hb hby d3_2) rfl (tlt (own_glt1 (n := 4096) (k := (4096 : Int32)) (by decide) (by have q0 := bd_p1; omega))).2.2.1 (by decide) (by decide) ?_
    refine XS.iloadN X0.here hx rfl (hb hby d3_9) rfl ?_
    show Steps p.tables e below (s₁.setTop (mkF m 10 #[.val (.int (4096 : Int32)), .val (.int p1)] [(.int p1)])) _
    exact retI X0 hx hret (hb hby d3_10) hr
  ·
    show Q30 Z p1 h0 n0 _ s₁.heap _
    rw [e0]
    exact ⟨rfl, N0, rfl⟩
theorem ef31 (m : MethodId) (x0 : Addr) (x1 : Int64) (x2 : Int64) (x3 : Int32) : entryFrame m #[(.ref x0), (.long x1), (.long x2), (.int x3)] 8 = mkF m 0 #[.val (.ref x0), .val (.long x1), .second, .val (.long x2), .second, .val (.int x3), .unset, .unset] [] := by first | (simp [entryFrame, mkF, argsToLocals, Value.category]; done) | rfl
def Q31 (Z : State) (o1 : Addr) (p4 : Int32) (q2 : Int64) (q3 : Int64) (h0 : Heap) (n0 : Nat) (v : Option Value) (h : Heap) (L : List Loc) : Prop :=
  (∃ b15 : Addr, ∃ b23 : Addr, ∃ b34 : Addr, ∃ b44 : Addr, ∃ k15 : ClassId, ∃ k23 : ClassId, ∃ k34 : ClassId, ∃ k44 : ClassId, v = none ∧ Fr n0 L ∧ Keep h0 h [o1] ∧ h0.size ≤ b15 ∧ h0.size ≤ b23 ∧ h0.size ≤ b34 ∧ h0.size ≤ b44 ∧ b15 ≠ b23 ∧ b15 ≠ b34 ∧ b15 ≠ b44 ∧ b23 ≠ b34 ∧ b23 ≠ b44 ∧ b34 ≠ b44 ∧ OvrA Z k15 .long "[J" ∧ (Exa Z h o1 "com/example/driftless/driftless/DeleteOperations") ∧ (Fld Z h o1 "com/example/driftless/driftless/DeleteOperations" "firstCounter" "J" (.long q2)) ∧ (Fld Z h o1 "com/example/driftless/driftless/DeleteOperations" "replica" "J" (.long q3)) ∧ (Fld Z h o1 "com/example/driftless/driftless/DeleteOperations" "size" "I" (.int (0 : Int32))) ∧ (Fld Z h o1 "com/example/driftless/driftless/DeleteOperations" "targets" "[[J" (.ref b15)) ∧ (Fld Z h o1 "java/util/AbstractList" "modCount" "I" (.int (0 : Int32))) ∧ (Arv Z h b15 k15 (.array .long) (3 : Int32) [(.ref b23), (.ref b34), (.ref b44)] .null) ∧ (Exa Z h b15 "[[J") ∧ (Arv Z h b23 k23 .long (8192 : Int32) [(.long (0 : Int64)), (.long (0 : Int64)), (.long (0 : Int64)), (.long (0 : Int64)), (.long (0 : Int64)), (.long (0 : Int64))] (.long (0 : Int64))) ∧ (Exa Z h b23 "[J") ∧ (Arv Z h b34 k34 .long (8192 : Int32) [(.long (0 : Int64)), (.long (0 : Int64)), (.long (0 : Int64)), (.long (0 : Int64)), (.long (0 : Int64)), (.long (0 : Int64))] (.long (0 : Int64))) ∧ (Exa Z h b34 "[J") ∧ (Arv Z h b44 k44 .long ((2 : Int32) * (p4 - (8192 : Int32))) [(.long (0 : Int64)), (.long (0 : Int64))] (.long (0 : Int64))) ∧ (Exa Z h b44 "[J"))
set_option maxRecDepth 65536 in
set_option maxHeartbeats 40000000 in
theorem rm31 (l : Launch) (Z : State) (a0 : Array Value) (hw : ∀ d ∈ tables_1, d.before a0 Z = true) (ws : List Jvm.Cond) (o1 : Addr) (p4 : Int32) (q2 : Int64) (q3 : Int64) (h0 : Heap) (n0 : Nat) (O0 : Old Z n0 h0) (g_o1 : n0 ≤ o1) (bd_p4 : 8193 ≤ p4.toInt ∧ p4.toInt ≤ 8194) (P0 : Exa Z h0 o1 "com/example/driftless/driftless/DeleteOperations") (P1 : Fld Z h0 o1 "com/example/driftless/driftless/DeleteOperations" "firstCounter" "J" (.long (0 : Int64))) (P2 : Fld Z h0 o1 "com/example/driftless/driftless/DeleteOperations" "replica" "J" (.long (0 : Int64))) (P3 : Fld Z h0 o1 "com/example/driftless/driftless/DeleteOperations" "size" "I" (.int (0 : Int32))) (P4 : Fld Z h0 o1 "com/example/driftless/driftless/DeleteOperations" "targets" "[[J" .null) (P5 : Fld Z h0 o1 "java/util/AbstractList" "modCount" "I" (.int (0 : Int32))) :
    MetFree l yn3 (head1 (Jvm.Cond.code yn3 prog_7_method_1_code 8 none :: ws) ({ frames := 3, cells := 4, slots := 16391, locals := 36 } : Room)) (fun a U => a = #[(.ref o1), (.long q2), (.long q3), (.int p4)] ∧ Z.Warmed39 U.vm ∧ U.heap = h0) (fun _ _ _ _ _ => True) (fun _ U o U' => ∃ v L, o = .returned v ∧ Q31 Z o1 p4 q2 q3 h0 n0 v U'.heap L ∧ FrameEnd U o U' L ({ frames := 3, cells := 4, slots := 16391, locals := 36 } : Room).cells ({ frames := 3, cells := 4, slots := 16391, locals := 36 } : Room).slots) := by
  refine MetFree.of_bodySF (plainFor_of_name pn2) hisR ?_
  intro p e s m args below meth c s₁ Bd hml0 hP hK
  obtain ⟨rfl, hZ, hh⟩ := hP
  have hx := Bd.exec
  have hby := Bd.bytes
  have hml : c.maxLocals = 8 := hml0
  have hown : s.vm.findClass "com/example/driftless/driftless/DeleteOperations" = some m.cls := findClass_of_methodNamed Bd.named
  have hnm := (name_of_methodNamed Bd.named Bd.method).1
  have hret := Bd.returns
  have hlk : meth.locks = false := BodyLoose.notSynchronized Bd
  have X0 : Stand p l e ({ frames := 3, cells := 4, slots := 16391, locals := 36 } : Room) s m #[(.ref o1), (.long q2), (.long q3), (.int p4)] below meth c s₁ [] 0 0 := Stand.of_body Bd
  have e0 : s₁.heap = h0 := by rw [← hh, Bd.state]; rfl
  have N0 := Fr.nil n0
  have pre0 : ∀ t, Steps p.tables e below (s₁.setTop (mkF m 0 #[.val (.ref o1), .val (.long q2), .second, .val (.long q3), .second, .val (.int p4), .unset, .unset] [])) t → Steps p.tables e below (s₁.setTop (entryFrame m #[(.ref o1), (.long q2), (.long q3), (.int p4)] 8)) t := fun t k => castTop (ef31 m o1 q2 q3 p4) k
  obtain ⟨_, _, ⟨T1, L1, c1, n1⟩, -, X1, ⟨Lc1, hQ1, l1, y1, z1⟩, st1⟩ := X0.specialBack hx (y := yn1) rfl hown (mvT hZ (own_w hw 6 rfl)) (mvT hZ (own_w hw 7 rfl)) (mvT hZ (own_w hw 10 rfl)) (by decide) (backOf (W := 0) (rm2 l Z a0 hw [] o1 h0 n0 O0 g_o1 P0 P1 P2 P3 P4 P5) hZ (own_w hw 10 rfl) (own_w hw 9 rfl) (by decide) (by decide)) (g := (mkF m 1 #[.val (.ref o1), .val (.long q2), .second, .val (.long q3), .second, .val (.int p4), .unset, .unset] [(.ref o1)])) rfl (by rw [hml]; rfl) (Steps.refl _) (a := o1) (argsL := []) (rest := []) (lenOf pd0 rfl) rfl (by show 2 * 0 + _ ≤ _; exact Nat.le_of_eq rfl) (hb hby d0_1) (fun _ _ => ⟨rfl, e0, (by decide : 0 + 0 ≤ _), (by decide : 0 + 0 ≤ _)⟩)
  dsimp only [Pt.U, Pt.locs, Pt.cells, Pt.slots] at X1 l1 y1 z1 st1 hQ1
  subst l1 y1 z1
  have X1 : Stand p l e ({ frames := 3, cells := 4, slots := 16391, locals := 36 } : Room) s m #[(.ref o1), (.long q2), (.long q3), (.int p4)] below meth c T1 _ 0 0 := X1
  obtain ⟨rfl, Nq2, K3, f4, f5, f6, f7, f8, f9⟩ := hQ1
  have N1 := Fr.app N0 Nq2
  have M1 : h0.size ≤ T1.heap.size := Nat.le_trans (Nat.le_refl _) K3.1
  have O1 := Old.keep O0 K3 (allS g_o1 all0)
  obtain ⟨T10, h10, X10, e10, W10, st10⟩ := putF X1 hx hZ hown (host := "") (Or.inl (own_w hw 22 rfl)) Via.refl rfl f5 f4 (Or.inr ⟨(own_w hw 23 rfl), rfl, hnm⟩) (own_w hw 1 rfl) (ty := .long) (by decide) rfl rfl (g := (mkF m 6 #[.val (.ref o1), .val (.long q2), .second, .val (.long q3), .second, .val (.int p4), .unset, .unset] [(.long q2), (.ref o1)])) rfl rfl (hb hby d0_6)
  have N10 := Fr.snoc X10 N1 g_o1
  have Fw10 := f5.same W10
  have M10 : h0.size ≤ h10.size := Nat.le_trans M1 (Nat.le_of_eq W10.size.symm)
  have O10 := Old.wr O1 W10 g_o1
  have f11 := (f6.other W10 (Or.inr (slot_ne (Or.inr (own_w hw 25 rfl)) (Or.inr (own_w hw 23 rfl)) (by decide) (t := .long) (t' := .long) (by decide) (by decide))))
  have f12 := (f4.wr W10)
  obtain ⟨T13, h13, X13, e13, W13, st13⟩ := putF X10 hx hZ hown (host := "") (Or.inl (own_w hw 24 rfl)) Via.refl e10 f11 f12 (Or.inr ⟨(own_w hw 25 rfl), rfl, hnm⟩) (own_w hw 1 rfl) (ty := .long) (by decide) rfl rfl (g := (mkF m 11 #[.val (.ref o1), .val (.long q2), .second, .val (.long q3), .second, .val (.int p4), .unset, .unset] [(.long q3), (.ref o1)])) rfl rfl (hb hby d0_11)
  have N13 := Fr.snoc X13 N10 g_o1
  have Fw13 := f11.same W13
  have M13 : h0.size ≤ h13.size := Nat.le_trans M10 (Nat.le_of_eq W13.size.symm)
  have O13 := Old.wr O10 W13 g_o1
  have hq14 : ((((p4 - (1 : Int32)).toUInt32 >>> ((12 : Int32) &&& 31).toUInt32).toInt32) + (1 : Int32)) = (3 : Int32) := (own_geq (n := 3) (k := (3 : Int32)) (by decide) (by have q0 := own_add (x := (((p4 - (1 : Int32)).toUInt32 >>> ((12 : Int32) &&& 31).toUInt32).toInt32)) (k := (1 : Int32)) (n := 1) (lo := 2) (hi := 2) (by decide) (by have q0 := own_ushr12 (x := (p4 - (1 : Int32))) (lo := 8192) (hi := 8193) (by have q0 := own_sub (x := p4) (k := (1 : Int32)) (n := 1) (lo := 8193) (hi := 8194) (by decide) (by have q0 := bd_p4; omega) (by decide) (by decide); omega) (by decide); omega) (by decide) (by decide); omega))
  obtain ⟨T15, h15, k15, X15, e15, E15, A15, EX15, OV15, st15⟩ := newRA X13 hx hZ hown (C := "[J") (ty := .long) (by decide) (own_w hw 26 rfl) (own_w hw 27 rfl) e13 (g := (mkF m 37 #[.val (.ref o1), .val (.long q2), .second, .val (.long q3), .second, .val (.int p4), .val (.int ((((p4 - (1 : Int32)).toUInt32 >>> ((12 : Int32) &&& 31).toUInt32).toInt32) + (1 : Int32))), .unset] [(.int ((((p4 - (1 : Int32)).toUInt32 >>> ((12 : Int32) &&& 31).toUInt32).toInt32) + (1 : Int32))), (.ref o1)])) rfl (hb hby d0_37) rfl (by rw [hq14]; decide) (cap := 3) (by rw [hq14]; decide) (by decide) (by decide) (by decide) (ad := "[[J") (by decide)
  obtain ⟨b15, g15⟩ : ∃ z, z = h13.size := ⟨_, rfl⟩
  rw [← g15] at A15 EX15 st15
  rw [hq14] at A15
  have M15 : h0.size ≤ h15.size := Nat.le_trans M13 E15.1
  have O15 := Old.ext O13 E15
  have sz_b15 : h13.size ≤ b15 := Nat.le_of_eq g15.symm
  have g_b15 : n0 ≤ b15 := Nat.le_trans (own_oz O0) (Nat.le_trans M13 sz_b15)
  have V15_0 := Arv.new A15 (by decide)
  have V15 : Arv Z h15 b15 k15 (.array .long) (3 : Int32) [.null, .null, .null] .null := V15_0.pad (pad_rep [] .null 3)
  have f16 := (((f8.other W10 (Or.inr (slot_ne (Or.inr (own_w hw 29 rfl)) (Or.inr (own_w hw 23 rfl)) (by decide) (t := (.array (.array .long))) (t' := .long) (by decide) (by decide)))).other W13 (Or.inr (slot_ne (Or.inr (own_w hw 29 rfl)) (Or.inr (own_w hw 25 rfl)) (by decide) (t := (.array (.array .long))) (t' := .long) (by decide) (by decide)))).ext E15)
  have f17 := ((f12.wr W13).ext E15)
  obtain ⟨T18, h18, X18, e18, W18, st18⟩ := putF X15 hx hZ hown (host := "") (Or.inl (own_w hw 28 rfl)) Via.refl e15 f16 f17 (Or.inr ⟨(own_w hw 29 rfl), rfl, hnm⟩) (own_w hw 1 rfl) (ty := (.array (.array .long))) (by decide) rfl rfl (g := (mkF m 40 #[.val (.ref o1), .val (.long q2), .second, .val (.long q3), .second, .val (.int p4), .val (.int ((((p4 - (1 : Int32)).toUInt32 >>> ((12 : Int32) &&& 31).toUInt32).toInt32) + (1 : Int32))), .unset] [(.ref b15), (.ref o1)])) rfl rfl (hb hby d0_40)
  have N18 := Fr.snoc X18 N13 g_o1
  have Fw18 := f16.same W18
  have M18 : h0.size ≤ h18.size := Nat.le_trans M15 (Nat.le_of_eq W18.size.symm)
  have O18 := Old.wr O15 W18 g_o1
  obtain ⟨T19, X19, e19, st19⟩ := getF X18 hx hZ hown (host := "") (Or.inl (own_w hw 28 rfl)) Via.refl e18 Fw18 (g := (mkF m 54 #[.val (.ref o1), .val (.long q2), .second, .val (.long q3), .second, .val (.int p4), .val (.int ((((p4 - (1 : Int32)).toUInt32 >>> ((12 : Int32) &&& 31).toUInt32).toInt32) + (1 : Int32))), .val (.int (0 : Int32))] [(.ref o1)])) rfl rfl (hb hby d0_54)
  obtain ⟨_, _, ⟨T20, L20, c20, n20⟩, -, X20, ⟨Lc20, hQ20, l20, y20, z20⟩, st20⟩ := Jvm.LawKit.callS X19 hx (y := yn2) hown (mvT hZ (own_w hw 30 rfl)) (mvT hZ (own_w hw 31 rfl)) (mvT hZ (own_w hw 32 rfl)) (mvT hZ (own_w hw 33 rfl)) (by decide) (backOf (W := 3) (rm28 l Z a0 hw [] ((p4 - (0 : Int32))) h18 n0 O18 (by have q0 := own_sub (x := p4) (k := (0 : Int32)) (n := 0) (lo := 8193) (hi := 8194) (by decide) (by have q0 := bd_p4; omega) (by decide) (by decide); omega)) hZ (own_w hw 33 rfl) (own_w hw 32 rfl) (by decide) (by decide)) (g := (mkF m 71 #[.val (.ref o1), .val (.long q2), .second, .val (.long q3), .second, .val (.int p4), .val (.int ((((p4 - (1 : Int32)).toUInt32 >>> ((12 : Int32) &&& 31).toUInt32).toInt32) + (1 : Int32))), .val (.int (0 : Int32))] [(.int (p4 - (0 : Int32))), (.int (4096 : Int32)), (.int (2 : Int32)), (.int (0 : Int32)), (.ref b15)])) rfl (by rw [hml]; rfl) (argsL := [(.int (4096 : Int32)), (.int (p4 - (0 : Int32)))]) (rest := [(.int (2 : Int32)), (.int (0 : Int32)), (.ref b15)]) (lenOf pd1 rfl) rfl (by show 2 * 0 + _ ≤ _; exact Nat.le_of_eq rfl) (hb hby d0_71) (fun _ _ => ⟨rfl, e19, (by decide : 1 + 0 ≤ _), (by decide : 3 + 0 ≤ _)⟩)
  dsimp only [Pt.U, Pt.locs, Pt.cells, Pt.slots] at X20 l20 y20 z20 st20 hQ20
  subst l20 y20 z20
  have X20 : Stand p l e ({ frames := 3, cells := 4, slots := 16391, locals := 36 } : Room) s m #[(.ref o1), (.long q2), (.long q3), (.int p4)] below meth c T20 _ 1 3 := X20
  obtain ⟨rfl, Nq21, e22⟩ := hQ20
  have N20 := Fr.app N18 Nq21
  obtain ⟨T23, h23, k23, X23, e23, E23, A23, EX23, st23⟩ := newPE X20 hx hZ (own_w hw 34 rfl) e22 (g := (mkF m 75 #[.val (.ref o1), .val (.long q2), .second, .val (.long q3), .second, .val (.int p4), .val (.int ((((p4 - (1 : Int32)).toUInt32 >>> ((12 : Int32) &&& 31).toUInt32).toInt32) + (1 : Int32))), .val (.int (0 : Int32))] [(.int (8192 : Int32)), (.int (0 : Int32)), (.ref b15)])) rfl (hb hby d0_75) rfl (by decide) (cap := 8192) (by decide) (by decide) (by decide) (by decide) (ad := "[J") (by decide)
  obtain ⟨b23, g23⟩ : ∃ z, z = h18.size := ⟨_, rfl⟩
  rw [← g23] at A23 EX23 st23
  have M23 : h0.size ≤ h23.size := Nat.le_trans M18 E23.1
  have O23 := Old.ext O18 E23
  have sz_b23 : h18.size ≤ b23 := Nat.le_of_eq g23.symm
  have g_b23 : n0 ≤ b23 := Nat.le_trans (own_oz O0) (Nat.le_trans M18 sz_b23)
  have V23_0 := Arv.new A23 (by decide)
  have V23 : Arv Z h23 b23 k23 .long (8192 : Int32) [(.long (0 : Int64)), (.long (0 : Int64)), (.long (0 : Int64)), (.long (0 : Int64)), (.long (0 : Int64)), (.long (0 : Int64))] (.long (0 : Int64)) := V23_0.pad (pad_rep [] (.long (0 : Int64)) 6)
  have lt24 : o1 < h13.size := (Nat.lt_of_lt_of_le (Nat.lt_of_lt_of_le (Nat.lt_of_lt_of_le P0.lt K3.1) (Nat.le_of_eq W10.size.symm)) (Nat.le_of_eq W13.size.symm))
  have ne25 : o1 ≠ b15 := Nat.ne_of_lt (Nat.lt_of_lt_of_le lt24 sz_b15)
  have f26 := ((V15.other W18 (Ne.symm ne25)).ext E23)
  obtain ⟨cl27, Ar27, qa27, Sa27, Na27, Ha27, Ga27⟩ := id (f26)
  have hin27 : ¬ ((0 : Int32) < 0 ∨ cl27.slots.size ≤ ((0 : Int32)).toNatClampNeg) := inb_of Sa27 ⟨by decide, by decide⟩
  obtain ⟨T28, h28, X28, e28, W28, st28⟩ := stR X23 hx hZ e23 Ar27 (j := (0 : Int32)) hin27 rfl (Sto.ofVA Ar27 qa27 OV15 (Ins.self EX23)) (g := (mkF m 77 #[.val (.ref o1), .val (.long q2), .second, .val (.long q3), .second, .val (.int p4), .val (.int ((((p4 - (1 : Int32)).toUInt32 >>> ((12 : Int32) &&& 31).toUInt32).toInt32) + (1 : Int32))), .val (.int (0 : Int32))] [(.ref b23), (.int (0 : Int32)), (.ref b15)])) rfl rfl (hb hby d0_77)
  have V28 : Arv Z h28 b15 k15 (.array .long) (3 : Int32) [(.ref b23), .null, .null] .null := Arv.set Ar27 qa27 Sa27 Na27 Ha27 Ga27 rfl W28 0 rfl (Nat.le_of_ble_eq_true rfl)
  have N28 := Fr.snoc X28 N20 g_b15
  have M28 : h0.size ≤ h28.size := Nat.le_trans M23 (Nat.le_of_eq W28.size.symm)
  have O28 := Old.wr O23 W28 g_b15
  have f29 := ((Fw18.ext E23).other W28 (Or.inl ne25))
  obtain ⟨T30, X30, e30, st30⟩ := getF X28 hx hZ hown (host := "") (Or.inl (own_w hw 28 rfl)) Via.refl e28 f29 (g := (mkF m 54 #[.val (.ref o1), .val (.long q2), .second, .val (.long q3), .second, .val (.int p4), .val (.int ((((p4 - (1 : Int32)).toUInt32 >>> ((12 : Int32) &&& 31).toUInt32).toInt32) + (1 : Int32))), .val (.int (1 : Int32))] [(.ref o1)])) rfl rfl (hb hby d0_54)
  obtain ⟨_, _, ⟨T31, L31, c31, n31⟩, -, X31, ⟨Lc31, hQ31, l31, y31, z31⟩, st31⟩ := Jvm.LawKit.callS X30 hx (y := yn2) hown (mvT hZ (own_w hw 30 rfl)) (mvT hZ (own_w hw 31 rfl)) (mvT hZ (own_w hw 32 rfl)) (mvT hZ (own_w hw 33 rfl)) (by decide) (backOf (W := 3) (rm29 l Z a0 hw [] ((p4 - (4096 : Int32))) h28 n0 O28 (by have q0 := own_sub (x := p4) (k := (4096 : Int32)) (n := 4096) (lo := 8193) (hi := 8194) (by decide) (by have q0 := bd_p4; omega) (by decide) (by decide); omega)) hZ (own_w hw 33 rfl) (own_w hw 32 rfl) (by decide) (by decide)) (g := (mkF m 71 #[.val (.ref o1), .val (.long q2), .second, .val (.long q3), .second, .val (.int p4), .val (.int ((((p4 - (1 : Int32)).toUInt32 >>> ((12 : Int32) &&& 31).toUInt32).toInt32) + (1 : Int32))), .val (.int (1 : Int32))] [(.int (p4 - (4096 : Int32))), (.int (4096 : Int32)), (.int (2 : Int32)), (.int (1 : Int32)), (.ref b15)])) rfl (by rw [hml]; rfl) (argsL := [(.int (4096 : Int32)), (.int (p4 - (4096 : Int32)))]) (rest := [(.int (2 : Int32)), (.int (1 : Int32)), (.ref b15)]) (lenOf pd1 rfl) rfl (by show 2 * 0 + _ ≤ _; exact Nat.le_of_eq rfl) (hb hby d0_71) (fun _ _ => ⟨rfl, e30, (by decide : 2 + 0 ≤ _), (by decide : 8195 + 0 ≤ _)⟩)
  dsimp only [Pt.U, Pt.locs, Pt.cells, Pt.slots] at X31 l31 y31 z31 st31 hQ31
  subst l31 y31 z31
  have X31 : Stand p l e ({ frames := 3, cells := 4, slots := 16391, locals := 36 } : Room) s m #[(.ref o1), (.long q2), (.long q3), (.int p4)] below meth c T31 _ 2 8195 := X31
  obtain ⟨rfl, Nq32, e33⟩ := hQ31
  have N31 := Fr.app N28 Nq32
  obtain ⟨T34, h34, k34, X34, e34, E34, A34, EX34, st34⟩ := newPE X31 hx hZ (own_w hw 34 rfl) e33 (g := (mkF m 75 #[.val (.ref o1), .val (.long q2), .second, .val (.long q3), .second, .val (.int p4), .val (.int ((((p4 - (1 : Int32)).toUInt32 >>> ((12 : Int32) &&& 31).toUInt32).toInt32) + (1 : Int32))), .val (.int (1 : Int32))] [(.int (8192 : Int32)), (.int (1 : Int32)), (.ref b15)])) rfl (hb hby d0_75) rfl (by decide) (cap := 8192) (by decide) (by decide) (by decide) (by decide) (ad := "[J") (by decide)
  obtain ⟨b34, g34⟩ : ∃ z, z = h28.size := ⟨_, rfl⟩
  rw [← g34] at A34 EX34 st34
  have M34 : h0.size ≤ h34.size := Nat.le_trans M28 E34.1
  have O34 := Old.ext O28 E34
  have sz_b34 : h28.size ≤ b34 := Nat.le_of_eq g34.symm
  have g_b34 : n0 ≤ b34 := Nat.le_trans (own_oz O0) (Nat.le_trans M28 sz_b34)
  have V34_0 := Arv.new A34 (by decide)
  have V34 : Arv Z h34 b34 k34 .long (8192 : Int32) [(.long (0 : Int64)), (.long (0 : Int64)), (.long (0 : Int64)), (.long (0 : Int64)), (.long (0 : Int64)), (.long (0 : Int64))] (.long (0 : Int64)) := V34_0.pad (pad_rep [] (.long (0 : Int64)) 6)
  have f35 := (V28.ext E34)
  obtain ⟨cl36, Ar36, qa36, Sa36, Na36, Ha36, Ga36⟩ := id (f35)
  have hin36 : ¬ ((1 : Int32) < 0 ∨ cl36.slots.size ≤ ((1 : Int32)).toNatClampNeg) := inb_of Sa36 ⟨by decide, by decide⟩
  obtain ⟨T37, h37, X37, e37, W37, st37⟩ := stR X34 hx hZ e34 Ar36 (j := (1 : Int32)) hin36 rfl (Sto.ofVA Ar36 qa36 OV15 (Ins.self EX34)) (g := (mkF m 77 #[.val (.ref o1), .val (.long q2), .second, .val (.long q3), .second, .val (.int p4), .val (.int ((((p4 - (1 : Int32)).toUInt32 >>> ((12 : Int32) &&& 31).toUInt32).toInt32) + (1 : Int32))), .val (.int (1 : Int32))] [(.ref b34), (.int (1 : Int32)), (.ref b15)])) rfl rfl (hb hby d0_77)
  have V37 : Arv Z h37 b15 k15 (.array .long) (3 : Int32) [(.ref b23), (.ref b34), .null] .null := Arv.set Ar36 qa36 Sa36 Na36 Ha36 Ga36 rfl W37 1 rfl (Nat.le_of_ble_eq_true rfl)
  have N37 := Fr.snoc X37 N31 g_b15
  have M37 : h0.size ≤ h37.size := Nat.le_trans M34 (Nat.le_of_eq W37.size.symm)
  have O37 := Old.wr O34 W37 g_b15
  have f38 := ((f29.ext E34).other W37 (Or.inl ne25))
  obtain ⟨T39, X39, e39, st39⟩ := getF X37 hx hZ hown (host := "") (Or.inl (own_w hw 28 rfl)) Via.refl e37 f38 (g := (mkF m 54 #[.val (.ref o1), .val (.long q2), .second, .val (.long q3), .second, .val (.int p4), .val (.int ((((p4 - (1 : Int32)).toUInt32 >>> ((12 : Int32) &&& 31).toUInt32).toInt32) + (1 : Int32))), .val (.int (2 : Int32))] [(.ref o1)])) rfl rfl (hb hby d0_54)
  obtain ⟨_, _, ⟨T40, L40, c40, n40⟩, -, X40, ⟨Lc40, hQ40, l40, y40, z40⟩, st40⟩ := Jvm.LawKit.callS X39 hx (y := yn2) hown (mvT hZ (own_w hw 30 rfl)) (mvT hZ (own_w hw 31 rfl)) (mvT hZ (own_w hw 32 rfl)) (mvT hZ (own_w hw 33 rfl)) (by decide) (backOf (W := 3) (rm30 l Z a0 hw [] ((p4 - (8192 : Int32))) h37 n0 O37 (by have q0 := own_sub (x := p4) (k := (8192 : Int32)) (n := 8192) (lo := 8193) (hi := 8194) (by decide) (by have q0 := bd_p4; omega) (by decide) (by decide); omega)) hZ (own_w hw 33 rfl) (own_w hw 32 rfl) (by decide) (by decide)) (g := (mkF m 71 #[.val (.ref o1), .val (.long q2), .second, .val (.long q3), .second, .val (.int p4), .val (.int ((((p4 - (1 : Int32)).toUInt32 >>> ((12 : Int32) &&& 31).toUInt32).toInt32) + (1 : Int32))), .val (.int (2 : Int32))] [(.int (p4 - (8192 : Int32))), (.int (4096 : Int32)), (.int (2 : Int32)), (.int (2 : Int32)), (.ref b15)])) rfl (by rw [hml]; rfl) (argsL := [(.int (4096 : Int32)), (.int (p4 - (8192 : Int32)))]) (rest := [(.int (2 : Int32)), (.int (2 : Int32)), (.ref b15)]) (lenOf pd1 rfl) rfl (by show 2 * 0 + _ ≤ _; exact Nat.le_of_eq rfl) (hb hby d0_71) (fun _ _ => ⟨rfl, e39, (by decide : 3 + 0 ≤ _), (by decide : 16387 + 0 ≤ _)⟩)
  dsimp only [Pt.U, Pt.locs, Pt.cells, Pt.slots] at X40 l40 y40 z40 st40 hQ40
  subst l40 y40 z40
  have X40 : Stand p l e ({ frames := 3, cells := 4, slots := 16391, locals := 36 } : Room) s m #[(.ref o1), (.long q2), (.long q3), (.int p4)] below meth c T40 _ 3 16387 := X40
  obtain ⟨rfl, Nq41, e42⟩ := hQ40
  have N40 := Fr.app N37 Nq41
  have nn43 : ¬ (((2 : Int32) * (p4 - (8192 : Int32))) < (0 : Int32)) := own_gnlt1 (n := 0) (k := (0 : Int32)) (by decide) (by have q0 := own_dbl (x := (p4 - (8192 : Int32))) (lo := 1) (hi := 2) (by have q0 := own_sub (x := p4) (k := (8192 : Int32)) (n := 8192) (lo := 8193) (hi := 8194) (by decide) (by have q0 := bd_p4; omega) (by decide) (by decide); omega) (by decide) (by decide); omega)
  obtain ⟨T44, h44, k44, X44, e44, E44, A44, EX44, st44⟩ := newPE X40 hx hZ (own_w hw 34 rfl) e42 (g := (mkF m 75 #[.val (.ref o1), .val (.long q2), .second, .val (.long q3), .second, .val (.int p4), .val (.int ((((p4 - (1 : Int32)).toUInt32 >>> ((12 : Int32) &&& 31).toUInt32).toInt32) + (1 : Int32))), .val (.int (2 : Int32))] [(.int ((2 : Int32) * (p4 - (8192 : Int32)))), (.int (2 : Int32)), (.ref b15)])) rfl (hb hby d0_75) rfl nn43 (cap := 4) (by have q0 := own_dbl (x := (p4 - (8192 : Int32))) (lo := 1) (hi := 2) (by have q0 := own_sub (x := p4) (k := (8192 : Int32)) (n := 8192) (lo := 8193) (hi := 8194) (by decide) (by have q0 := bd_p4; omega) (by decide) (by decide); omega) (by decide) (by decide); simp only [Int32.toNatClampNeg]; omega) (by decide) (by decide) (by decide) (ad := "[J") (by decide)
  obtain ⟨b44, g44⟩ : ∃ z, z = h37.size := ⟨_, rfl⟩
  rw [← g44] at A44 EX44 st44
  have M44 : h0.size ≤ h44.size := Nat.le_trans M37 E44.1
  have O44 := Old.ext O37 E44
  have sz_b44 : h37.size ≤ b44 := Nat.le_of_eq g44.symm
  have g_b44 : n0 ≤ b44 := Nat.le_trans (own_oz O0) (Nat.le_trans M37 sz_b44)
  have V44_0 := Arv.new A44 nn43
  have V44 : Arv Z h44 b44 k44 .long ((2 : Int32) * (p4 - (8192 : Int32))) [(.long (0 : Int64)), (.long (0 : Int64))] (.long (0 : Int64)) := V44_0.pad (pad_rep [] (.long (0 : Int64)) 2)
  have f45 := (V37.ext E44)
  obtain ⟨cl46, Ar46, qa46, Sa46, Na46, Ha46, Ga46⟩ := id (f45)
  have hin46 : ¬ ((2 : Int32) < 0 ∨ cl46.slots.size ≤ ((2 : Int32)).toNatClampNeg) := inb_of Sa46 ⟨by decide, by decide⟩
  obtain ⟨T47, h47, X47, e47, W47, st47⟩ := stR X44 hx hZ e44 Ar46 (j := (2 : Int32)) hin46 rfl (Sto.ofVA Ar46 qa46 OV15 (Ins.self EX44)) (g := (mkF m 77 #[.val (.ref o1), .val (.long q2), .second, .val (.long q3), .second, .val (.int p4), .val (.int ((((p4 - (1 : Int32)).toUInt32 >>> ((12 : Int32) &&& 31).toUInt32).toInt32) + (1 : Int32))), .val (.int (2 : Int32))] [(.ref b44), (.int (2 : Int32)), (.ref b15)])) rfl rfl (hb hby d0_77)
  have V47 : Arv Z h47 b15 k15 (.array .long) (3 : Int32) [(.ref b23), (.ref b34), (.ref b44)] .null := Arv.set Ar46 qa46 Sa46 Na46 Ha46 Ga46 rfl W47 2 rfl (Nat.le_of_ble_eq_true rfl)
  have N47 := Fr.snoc X47 N40 g_b15
  have M47 : h0.size ≤ h47.size := Nat.le_trans M44 (Nat.le_of_eq W47.size.symm)
  have O47 := Old.wr O44 W47 g_b15
  obtain ⟨fs, hr, hrun, hended, hW, hsame⟩ := X47.leave (v := none) (fun _ => rfl)
  have KL : Keep h0 h47 [o1] := ((((((((((((Keep.refl h0 [o1]).trans K3 (allS (Or.inl (List.mem_of_getElem? (i := 0) rfl)) all0)).wr W10 (Or.inl (List.mem_of_getElem? (i := 0) rfl))).wr W13 (Or.inl (List.mem_of_getElem? (i := 0) rfl))).ext E15).wr W18 (Or.inl (List.mem_of_getElem? (i := 0) rfl))).ext E23).wr W28 (Or.inr (Nat.le_trans M13 sz_b15))).ext E34).wr W37 (Or.inr (Nat.le_trans M13 sz_b15))).ext E44).wr W47 (Or.inr (Nat.le_trans M13 sz_b15)))
  have f48 := (((((((f17.wr W18).ext E23).wr W28).ext E34).wr W37).ext E44).wr W47)
  have f49 := (((((((((Fw10.other W13 (Or.inr (slot_ne (Or.inr (own_w hw 23 rfl)) (Or.inr (own_w hw 25 rfl)) (by decide) (t := .long) (t' := .long) (by decide) (by decide)))).ext E15).other W18 (Or.inr (slot_ne (Or.inr (own_w hw 23 rfl)) (Or.inr (own_w hw 29 rfl)) (by decide) (t := .long) (t' := (.array (.array .long))) (by decide) (by decide)))).ext E23).other W28 (Or.inl ne25)).ext E34).other W37 (Or.inl ne25)).ext E44).other W47 (Or.inl ne25))
  have f50 := ((((((((Fw13.ext E15).other W18 (Or.inr (slot_ne (Or.inr (own_w hw 25 rfl)) (Or.inr (own_w hw 29 rfl)) (by decide) (t := .long) (t' := (.array (.array .long))) (by decide) (by decide)))).ext E23).other W28 (Or.inl ne25)).ext E34).other W37 (Or.inl ne25)).ext E44).other W47 (Or.inl ne25))
  have f51 := ((((((((((f7.other W10 (Or.inr (slot_ne (Or.inl (own_w hw 42 rfl)) (Or.inr (own_w hw 23 rfl)) (by decide) (t := .int) (t' := .long) (by decide) (by decide)))).other W13 (Or.inr (slot_ne (Or.inl (own_w hw 42 rfl)) (Or.inr (own_w hw 25 rfl)) (by decide) (t := .int) (t' := .long) (by decide) (by decide)))).ext E15).other W18 (Or.inr (slot_ne (Or.inl (own_w hw 42 rfl)) (Or.inr (own_w hw 29 rfl)) (by decide) (t := .int) (t' := (.array (.array .long))) (by decide) (by decide)))).ext E23).other W28 (Or.inl ne25)).ext E34).other W37 (Or.inl ne25)).ext E44).other W47 (Or.inl ne25))
  have f52 := ((f38.ext E44).other W47 (Or.inl ne25))
  have f53 := ((((((((((f9.other W10 (Or.inr (slot_ne (Or.inl (own_w hw 21 rfl)) (Or.inr (own_w hw 23 rfl)) (by decide) (t := .int) (t' := .long) (by decide) (by decide)))).other W13 (Or.inr (slot_ne (Or.inl (own_w hw 21 rfl)) (Or.inr (own_w hw 25 rfl)) (by decide) (t := .int) (t' := .long) (by decide) (by decide)))).ext E15).other W18 (Or.inr (slot_ne (Or.inl (own_w hw 21 rfl)) (Or.inr (own_w hw 29 rfl)) (by decide) (t := .int) (t' := (.array (.array .long))) (by decide) (by decide)))).ext E23).other W28 (Or.inl ne25)).ext E34).other W37 (Or.inl ne25)).ext E44).other W47 (Or.inl ne25))
  have f54 := (((((((EX15.wr W18).ext E23).wr W28).ext E34).wr W37).ext E44).wr W47)
  have lt55 : b15 < h18.size := (Nat.lt_of_lt_of_le V15.lt (Nat.le_of_eq W18.size.symm))
  have ne56 : b15 ≠ b23 := Nat.ne_of_lt (Nat.lt_of_lt_of_le lt55 sz_b23)
  have f57 := (((((V23.other W28 (Ne.symm ne56)).ext E34).other W37 (Ne.symm ne56)).ext E44).other W47 (Ne.symm ne56))
  have f58 := (((((EX23.wr W28).ext E34).wr W37).ext E44).wr W47)
  have lt59 : b15 < h28.size := (Nat.lt_of_lt_of_le (Nat.lt_of_lt_of_le (Nat.lt_of_lt_of_le V15.lt (Nat.le_of_eq W18.size.symm)) E23.1) (Nat.le_of_eq W28.size.symm))
  have ne60 : b15 ≠ b34 := Nat.ne_of_lt (Nat.lt_of_lt_of_le lt59 sz_b34)
  have f61 := (((V34.other W37 (Ne.symm ne60)).ext E44).other W47 (Ne.symm ne60))
  have f62 := (((EX34.wr W37).ext E44).wr W47)
  have lt63 : b15 < h37.size := (Nat.lt_of_lt_of_le (Nat.lt_of_lt_of_le (Nat.lt_of_lt_of_le (Nat.lt_of_lt_of_le (Nat.lt_of_lt_of_le V15.lt (Nat.le_of_eq W18.size.symm)) E23.1) (Nat.le_of_eq W28.size.symm)) E34.1) (Nat.le_of_eq W37.size.symm))
  have ne64 : b15 ≠ b44 := Nat.ne_of_lt (Nat.lt_of_lt_of_le lt63 sz_b44)
  have f65 := (V44.other W47 (Ne.symm ne64))
  have f66 := (EX44.wr W47)
  have lt67 : b23 < h28.size := (Nat.lt_of_lt_of_le V23.lt (Nat.le_of_eq W28.size.symm))
  have ne68 : b23 ≠ b34 := Nat.ne_of_lt (Nat.lt_of_lt_of_le lt67 sz_b34)
  have lt69 : b23 < h37.size := (Nat.lt_of_lt_of_le (Nat.lt_of_lt_of_le (Nat.lt_of_lt_of_le V23.lt (Nat.le_of_eq W28.size.symm)) E34.1) (Nat.le_of_eq W37.size.symm))
  have ne70 : b23 ≠ b44 := Nat.ne_of_lt (Nat.lt_of_lt_of_le lt69 sz_b44)
  have lt71 : b34 < h37.size := (Nat.lt_of_lt_of_le V34.lt (Nat.le_of_eq W37.size.symm))
  have ne72 : b34 ≠ b44 := Nat.ne_of_lt (Nat.lt_of_lt_of_le lt71 sz_b44)
  refine ⟨_, _, pre0 _ ?_, hrun, hended, _, _, rfl, ?_, ⟨_, rfl⟩, hW, hsame.mono (by decide) (by decide)⟩
  ·
    show Steps p.tables e below (s₁.setTop (mkF m 0 #[.val (.ref o1), .val (.long q2), .second, .val (.long q3), .second, .val (.int p4), .unset, .unset] [])) _
    refine XS.aloadN X0.here hx rfl (hb hby d0_0) rfl rfl ?_
    refine st1.trans ?_
    refine XS.aloadN X1.here hx rfl (hb hby d0_4) rfl rfl ?_
    refine XS.lloadN X1.here hx rfl (hb hby d0_5) rfl ?_
    refine st10 _ ?_
    refine XS.aloadN X10.here hx rfl (hb hby d0_9) rfl rfl ?_
    refine XS.lloadN X10.here hx rfl (hb hby d0_10) rfl ?_
    refine st13 _ ?_
    refine XS.iload X13.here hx rfl (hb hby d0_14) rfl ?_
    refine XS.ifYes X13.here hx rfl (pc0 := 16) (pc' := 23) rfl (hb hby d0_16) rfl ((if0 _ _).trans (feq (own_gneq (n := 0) (k := (0 : Int32)) (by decide) (by have q0 := bd_p4; omega))).2) (by decide) (by decide) ?_
    refine XS.iload X13.here hx rfl (hb hby d0_23) rfl ?_
    refine XS.iconst X13.here hx rfl (hb hby d0_25) ?_
    refine XS.isub X13.here hx rfl (hb hby d0_26) rfl ?_
    refine XS.bipush X13.here hx rfl (hb hby d0_27) ?_
    refine XS.iushr X13.here hx rfl (hb hby d0_29) rfl ?_
    refine XS.iconst X13.here hx rfl (hb hby d0_30) ?_
    refine XS.iadd X13.here hx rfl (hb hby d0_31) rfl ?_
    refine XS.istore X13.here hx rfl (hb hby d0_32) rfl (l' := #[.val (.ref o1), .val (.long q2), .second, .val (.long q3), .second, .val (.int p4), .val (.int ((((p4 - (1 : Int32)).toUInt32 >>> ((12 : Int32) &&& 31).toUInt32).toInt32) + (1 : Int32))), .unset]) rfl ?_
    refine XS.aloadN X13.here hx rfl (hb hby d0_34) rfl rfl ?_
    refine XS.iload X13.here hx rfl (hb hby d0_35) rfl ?_
    refine st15 _ ?_
    refine st18 _ ?_
    refine XS.iconst X18.here hx rfl (hb hby d0_43) ?_
    refine XS.istore X18.here hx rfl (hb hby d0_44) rfl (l' := #[.val (.ref o1), .val (.long q2), .second, .val (.long q3), .second, .val (.int p4), .val (.int ((((p4 - (1 : Int32)).toUInt32 >>> ((12 : Int32) &&& 31).toUInt32).toInt32) + (1 : Int32))), .val (.int (0 : Int32))]) rfl ?_
    refine XS.iload X18.here hx rfl (hb hby d0_46) rfl ?_
    refine XS.iload X18.here hx rfl (hb hby d0_48) rfl ?_
    refine XS.icmpNo X18.here hx rfl (hb hby d0_50) rfl (tlt (by rw [hq14]; first | done | decide : (0 : Int32) < ((((p4 - (1 : Int32)).toUInt32 >>> ((12 : Int32) &&& 31).toUInt32).toInt32) + (1 : Int32)))).2.1 ?_
    refine XS.aloadN X18.here hx rfl (hb hby d0_53) rfl rfl ?_
    refine st19 _ ?_
    refine XS.iload X19.here hx rfl (hb hby d0_57) rfl ?_
    refine XS.iconst X19.here hx rfl (hb hby d0_59) ?_
    refine XS.sipush X19.here hx rfl (hb hby d0_60) ?_
    refine XS.iload X19.here hx rfl (hb hby d0_63) rfl ?_
    refine XS.iload X19.here hx rfl (hb hby d0_65) rfl ?_
    refine XS.bipush X19.here hx rfl (hb hby d0_67) ?_
    refine XS.ishl X19.here hx rfl (hb hby d0_69) rfl ?_
    refine XS.isub X19.here hx rfl (hb hby d0_70) rfl ?_
    refine st20 _ ?_
    refine XS.imul X20.here hx rfl (hb hby d0_74) rfl ?_
    refine st23 _ ?_
    show Steps p.tables e below (T23.setTop (mkF m 77 #[.val (.ref o1), .val (.long q2), .second, .val (.long q3), .second, .val (.int p4), .val (.int ((((p4 - (1 : Int32)).toUInt32 >>> ((12 : Int32) &&& 31).toUInt32).toInt32) + (1 : Int32))), .val (.int (0 : Int32))] [(.ref b23), (.int (0 : Int32)), (.ref b15)])) _
    refine st28 _ ?_
    refine XS.iinc X28.here hx rfl (hb hby d0_78) rfl (l' := #[.val (.ref o1), .val (.long q2), .second, .val (.long q3), .second, .val (.int p4), .val (.int ((((p4 - (1 : Int32)).toUInt32 >>> ((12 : Int32) &&& 31).toUInt32).toInt32) + (1 : Int32))), .val (.int (1 : Int32))]) rfl ?_
    refine XS.goto X28.here hx rfl (pc0 := 81) (pc' := 46) rfl (hb hby d0_81) (by decide) (by decide) ?_
    refine XS.iload X28.here hx rfl (hb hby d0_46) rfl ?_
    refine XS.iload X28.here hx rfl (hb hby d0_48) rfl ?_
    refine XS.icmpNo X28.here hx rfl (hb hby d0_50) rfl (tlt (by rw [hq14]; first | done | decide : (1 : Int32) < ((((p4 - (1 : Int32)).toUInt32 >>> ((12 : Int32) &&& 31).toUInt32).toInt32) + (1 : Int32)))).2.1 ?_
    refine XS.aloadN X28.here hx rfl (hb hby d0_53) rfl rfl ?_
    refine st30 _ ?_
    refine XS.iload X30.here hx rfl (hb hby d0_57) rfl ?_
    refine XS.iconst X30.here hx rfl (hb hby d0_59) ?_
    refine XS.sipush X30.here hx rfl (hb hby d0_60) ?_
    refine XS.iload X30.here hx rfl (hb hby d0_63) rfl ?_
    refine XS.iload X30.here hx rfl (hb hby d0_65) rfl ?_
    refine XS.bipush X30.here hx rfl (hb hby d0_67) ?_
    refine XS.ishl X30.here hx rfl (hb hby d0_69) rfl ?_
    refine XS.isub X30.here hx rfl (hb hby d0_70) rfl ?_
    refine st31 _ ?_
    refine XS.imul X31.here hx rfl (hb hby d0_74) rfl ?_
    refine st34 _ ?_
    refine st37 _ ?_
    refine XS.iinc X37.here hx rfl (hb hby d0_78) rfl (l' := #[.val (.ref o1), .val (.long q2), .second, .val (.long q3), .second, .val (.int p4), .val (.int ((((p4 - (1 : Int32)).toUInt32 >>> ((12 : Int32) &&& 31).toUInt32).toInt32) + (1 : Int32))), .val (.int (2 : Int32))]) rfl ?_
    refine XS.goto X37.here hx rfl (pc0 := 81) (pc' := 46) rfl (hb hby d0_81) (by decide) (by decide) ?_
    refine XS.iload X37.here hx rfl (hb hby d0_46) rfl ?_
    refine XS.iload X37.here hx rfl (hb hby d0_48) rfl ?_
    refine XS.icmpNo X37.here hx rfl (hb hby d0_50) rfl (tlt (by rw [hq14]; first | done | decide : (2 : Int32) < ((((p4 - (1 : Int32)).toUInt32 >>> ((12 : Int32) &&& 31).toUInt32).toInt32) + (1 : Int32)))).2.1 ?_
    refine XS.aloadN X37.here hx rfl (hb hby d0_53) rfl rfl ?_
    refine st39 _ ?_
    refine XS.iload X39.here hx rfl (hb hby d0_57) rfl ?_
    refine XS.iconst X39.here hx rfl (hb hby d0_59) ?_
    refine XS.sipush X39.here hx rfl (hb hby d0_60) ?_
    refine XS.iload X39.here hx rfl (hb hby d0_63) rfl ?_
    refine XS.iload X39.here hx rfl (hb hby d0_65) rfl ?_
    refine XS.bipush X39.here hx rfl (hb hby d0_67) ?_
    refine XS.ishl X39.here hx rfl (hb hby d0_69) rfl ?_
    refine XS.isub X39.here hx rfl (hb hby d0_70) rfl ?_
    refine st40 _ ?_
    refine XS.imul X40.here hx rfl (hb hby d0_74) rfl ?_
    refine st44 _ ?_
    refine st47 _ ?_
    refine XS.iinc X47.here hx rfl (hb hby d0_78) rfl (l' := #[.val (.ref o1), .val (.long q2), .second, .val (.long q3), .second, .val (.int p4), .val (.int ((((p4 - (1 : Int32)).toUInt32 >>> ((12 : Int32) &&& 31).toUInt32).toInt32) + (1 : Int32))), .val (.int (3 : Int32))]) rfl ?_
    show Steps p.tables e below (T47.setTop (mkF m 81 #[.val (.ref o1), .val (.long q2), .second, .val (.long q3), .second, .val (.int p4), .val (.int ((((p4 - (1 : Int32)).toUInt32 >>> ((12 : Int32) &&& 31).toUInt32).toInt32) + (1 : Int32))), .val (.int (3 : Int32))] [])) _
    refine XS.goto X47.here hx rfl (pc0 := 81) (pc' := 46) rfl (hb hby d0_81) (by decide) (by decide) ?_
    refine XS.iload X47.here hx rfl (hb hby d0_46) rfl ?_
    refine XS.iload X47.here hx rfl (hb hby d0_48) rfl ?_
    refine XS.icmpYes X47.here hx rfl (pc0 := 50) (pc' := 84) rfl (hb hby d0_50) rfl (flt (by rw [hq14]; first | done | decide : ¬ ((3 : Int32) < ((((p4 - (1 : Int32)).toUInt32 >>> ((12 : Int32) &&& 31).toUInt32).toInt32) + (1 : Int32))))).2.1 (by decide) (by decide) ?_
    show Steps p.tables e below (T47.setTop (mkF m 84 #[.val (.ref o1), .val (.long q2), .second, .val (.long q3), .second, .val (.int p4), .val (.int ((((p4 - (1 : Int32)).toUInt32 >>> ((12 : Int32) &&& 31).toUInt32).toInt32) + (1 : Int32))), .val (.int (3 : Int32))] [])) _
    exact X47.returnOut hx hret (hb hby d0_84) hr
  ·
    show Q31 Z o1 p4 q2 q3 h0 n0 _ T47.heap _
    rw [e47]
    exact ⟨b15, b23, b34, b44, k15, k23, k34, k44, rfl, N47, KL, (Nat.le_trans M13 sz_b15), (Nat.le_trans M18 sz_b23), (Nat.le_trans M28 sz_b34), (Nat.le_trans M37 sz_b44), ne56, ne60, ne64, ne68, ne70, ne72, OV15, f48, f49, f50, f51, f52, f53, V47, f54, f57, f58, f61, f62, f65, f66⟩
theorem ef32 (m : MethodId) (x0 : Addr) (x1 : Int64) (x2 : Int64) : entryFrame m #[(.ref x0), (.long x1), (.long x2)] 7 = mkF m 0 #[.val (.ref x0), .val (.long x1), .second, .val (.long x2), .second, .unset, .unset] [] := by first | (simp [entryFrame, mkF, argsToLocals, Value.category]; done) | rfl
def Q32 (Z : State) (o1 : Addr) (o6 : Addr) (o8 : Addr) (o9 : Addr) (o10 : Addr) (kc7 : ClassId) (p12 : Int32) (p14 : Int32) (p16 : Int32) (q4 : Int64) (q5 : Int64) (kc11 : ClassId) (q2 : Int64) (q3 : Int64) (h0 : Heap) (n0 : Nat) (v : Option Value) (h : Heap) (L : List Loc) : Prop :=
  (v = none ∧ Fr n0 L ∧ Keep h0 h [o8, o1] ∧ (Arv Z h o8 kc11 .long p12 [(.long q2), (.long q3), (.long (0 : Int64)), (.long (0 : Int64)), (.long (0 : Int64)), (.long (0 : Int64))] (.long (0 : Int64))) ∧ (Exa Z h o8 "[J") ∧ (Exa Z h o1 "com/example/driftless/driftless/DeleteOperations") ∧ (Fld Z h o1 "com/example/driftless/driftless/DeleteOperations" "firstCounter" "J" (.long q4)) ∧ (Fld Z h o1 "com/example/driftless/driftless/DeleteOperations" "replica" "J" (.long q5)) ∧ (Fld Z h o1 "com/example/driftless/driftless/DeleteOperations" "size" "I" (.int (1 : Int32))) ∧ (Fld Z h o1 "com/example/driftless/driftless/DeleteOperations" "targets" "[[J" (.ref o6)) ∧ (Fld Z h o1 "java/util/AbstractList" "modCount" "I" (.int (0 : Int32))))
set_option maxRecDepth 65536 in
set_option maxHeartbeats 40000000 in
theorem rm32 (l : Launch) (Z : State) (a0 : Array Value) (hw : ∀ d ∈ tables_1, d.before a0 Z = true) (ws : List Jvm.Cond) (o1 : Addr) (o6 : Addr) (o8 : Addr) (o9 : Addr) (o10 : Addr) (kc7 : ClassId) (p12 : Int32) (p14 : Int32) (p16 : Int32) (q4 : Int64) (q5 : Int64) (kc11 : ClassId) (q2 : Int64) (q3 : Int64) (h0 : Heap) (n0 : Nat) (O0 : Old Z n0 h0) (g_o1 : n0 ≤ o1) (g_o6 : n0 ≤ o6) (g_o8 : n0 ≤ o8) (g_o9 : n0 ≤ o9) (g_o10 : n0 ≤ o10) (Ov_kc7 : OvrA Z kc7 .long "[J") (bd_p12 : 6 ≤ p12.toInt ∧ p12.toInt ≤ 2147483647) (bd_p14 : 6 ≤ p14.toInt ∧ p14.toInt ≤ 2147483647) (bd_p16 : 2 ≤ p16.toInt ∧ p16.toInt ≤ 2147483647) (P0 : Exa Z h0 o1 "com/example/driftless/driftless/DeleteOperations") (P1 : Fld Z h0 o1 "com/example/driftless/driftless/DeleteOperations" "firstCounter" "J" (.long q4)) (P2 : Fld Z h0 o1 "com/example/driftless/driftless/DeleteOperations" "replica" "J" (.long q5)) (P3 : Fld Z h0 o1 "com/example/driftless/driftless/DeleteOperations" "size" "I" (.int (0 : Int32))) (P4 : Fld Z h0 o1 "com/example/driftless/driftless/DeleteOperations" "targets" "[[J" (.ref o6)) (P5 : Fld Z h0 o1 "java/util/AbstractList" "modCount" "I" (.int (0 : Int32))) (P6 : Arv Z h0 o6 kc7 (.array .long) (3 : Int32) [(.ref o8), (.ref o9), (.ref o10)] .null) (P8 : Arv Z h0 o8 kc11 .long p12 [(.long (0 : Int64)), (.long (0 : Int64)), (.long (0 : Int64)), (.long (0 : Int64)), (.long (0 : Int64)), (.long (0 : Int64))] (.long (0 : Int64))) (P9 : Exa Z h0 o8 "[J") :
    MetFree l yn4 (head1 (Jvm.Cond.code yn4 prog_7_method_2_code 7 none :: ws) ({ frames := 0, cells := 0, slots := 0, locals := 0 } : Room)) (fun a U => a = #[(.ref o1), (.long q2), (.long q3)] ∧ Z.Warmed39 U.vm ∧ U.heap = h0) (fun _ _ _ _ _ => True) (fun _ U o U' => ∃ v L, o = .returned v ∧ Q32 Z o1 o6 o8 o9 o10 kc7 p12 p14 p16 q4 q5 kc11 q2 q3 h0 n0 v U'.heap L ∧ FrameEnd U o U' L ({ frames := 0, cells := 0, slots := 0, locals := 0 } : Room).cells ({ frames := 0, cells := 0, slots := 0, locals := 0 } : Room).slots) := by
  refine MetFree.of_bodySF (plainFor_of_name pn2) hisR ?_
  intro p e s m args below meth c s₁ Bd hml0 hP hK
  obtain ⟨rfl, hZ, hh⟩ := hP
  have hx := Bd.exec
  have hby := Bd.bytes
  have hml : c.maxLocals = 7 := hml0
  have hown : s.vm.findClass "com/example/driftless/driftless/DeleteOperations" = some m.cls := findClass_of_methodNamed Bd.named
  have hnm := (name_of_methodNamed Bd.named Bd.method).1
  have hret := Bd.returns
  have hlk : meth.locks = false := BodyLoose.notSynchronized Bd
  have X0 : Stand p l e ({ frames := 0, cells := 0, slots := 0, locals := 0 } : Room) s m #[(.ref o1), (.long q2), (.long q3)] below meth c s₁ [] 0 0 := Stand.of_body Bd
  have e0 : s₁.heap = h0 := by rw [← hh, Bd.state]; rfl
  have N0 := Fr.nil n0
  have pre0 : ∀ t, Steps p.tables e below (s₁.setTop (mkF m 0 #[.val (.ref o1), .val (.long q2), .second, .val (.long q3), .second, .unset, .unset] [])) t → Steps p.tables e below (s₁.setTop (entryFrame m #[(.ref o1), (.long q2), (.long q3)] 7)) t := fun t k => castTop (ef32 m o1 q2 q3) k
  obtain ⟨T1, X1, e1, st1⟩ := getF X0 hx hZ hown (host := "") (Or.inl (own_w hw 28 rfl)) Via.refl e0 P4 (g := (mkF m 1 #[.val (.ref o1), .val (.long q2), .second, .val (.long q3), .second, .unset, .unset] [(.ref o1)])) rfl rfl (hb hby d4_1)
  obtain ⟨T2, X2, e2, st2⟩ := getF X1 hx hZ hown (host := "") (Or.inl (own_w hw 41 rfl)) Via.refl e1 P3 (g := (mkF m 5 #[.val (.ref o1), .val (.long q2), .second, .val (.long q3), .second, .unset, .unset] [(.ref o1), (.ref o6)])) rfl rfl (hb hby d4_5)
  obtain ⟨cl3, Ar3, qa3, Sa3, Na3, Ha3, Ga3⟩ := id (P6)
  have hin3 : ¬ ((0 : Int32) < 0 ∨ cl3.slots.size ≤ ((0 : Int32)).toNatClampNeg) := inb_of Sa3 ⟨by decide, by decide⟩
  have hat3 : cl3.slots[((0 : Int32)).toNatClampNeg]? = some (.ref o8) := Has.at Ha3 hin3 rfl
  obtain ⟨T4, X4, e4, st4⟩ := getF X2 hx hZ hown (host := "") (Or.inl (own_w hw 41 rfl)) Via.refl e2 P3 (g := (mkF m 16 #[.val (.ref o1), .val (.long q2), .second, .val (.long q3), .second, .val (.ref o8), .unset] [(.ref o1), (.int (2 : Int32))])) rfl rfl (hb hby d4_16)
  obtain ⟨cl5, Ar5, qa5, Sa5, Na5, Ha5, Ga5⟩ := id (P8)
  have hin5 : ¬ ((0 : Int32) < 0 ∨ cl5.slots.size ≤ ((0 : Int32)).toNatClampNeg) := inb_of Sa5 ⟨(by decide : ¬ ((0 : Int32) < (0 : Int32))), (own_glt2 (n := 0) (k := (0 : Int32)) (by decide) (by have q0 := bd_p12; omega))⟩
  obtain ⟨T6, h6, X6, e6, W6, st6⟩ := stJ X4 hx hZ e4 Ar5 (j := (0 : Int32)) hin5 (g := (mkF m 31 #[.val (.ref o1), .val (.long q2), .second, .val (.long q3), .second, .val (.ref o8), .val (.int (0 : Int32))] [(.long q2), (.int (0 : Int32)), (.ref o8)])) rfl rfl (hb hby d4_31)
  have V6 : Arv Z h6 o8 kc11 .long p12 [(.long q2), (.long (0 : Int64)), (.long (0 : Int64)), (.long (0 : Int64)), (.long (0 : Int64)), (.long (0 : Int64))] (.long (0 : Int64)) := Arv.set Ar5 qa5 Sa5 Na5 Ha5 Ga5 rfl W6 0 rfl (Nat.le_of_ble_eq_true rfl)
  have N6 := Fr.snoc X6 N0 g_o8
  have M6 : h0.size ≤ h6.size := Nat.le_trans (Nat.le_refl _) (Nat.le_of_eq W6.size.symm)
  have O6 := Old.wr O0 W6 g_o8
  obtain ⟨cl7, Ar7, qa7, Sa7, Na7, Ha7, Ga7⟩ := id (V6)
  have hin7 : ¬ ((1 : Int32) < 0 ∨ cl7.slots.size ≤ ((1 : Int32)).toNatClampNeg) := inb_of Sa7 ⟨(by decide : ¬ ((1 : Int32) < (0 : Int32))), (own_glt2 (n := 1) (k := (1 : Int32)) (by decide) (by have q0 := bd_p12; omega))⟩
  obtain ⟨T8, h8, X8, e8, W8, st8⟩ := stJ X6 hx hZ e6 Ar7 (j := (1 : Int32)) hin7 (g := (mkF m 39 #[.val (.ref o1), .val (.long q2), .second, .val (.long q3), .second, .val (.ref o8), .val (.int (0 : Int32))] [(.long q3), (.int (1 : Int32)), (.ref o8)])) rfl rfl (hb hby d4_39)
  have V8 : Arv Z h8 o8 kc11 .long p12 [(.long q2), (.long q3), (.long (0 : Int64)), (.long (0 : Int64)), (.long (0 : Int64)), (.long (0 : Int64))] (.long (0 : Int64)) := Arv.set Ar7 qa7 Sa7 Na7 Ha7 Ga7 rfl W8 1 rfl (Nat.le_of_ble_eq_true rfl)
  have N8 := Fr.snoc X8 N6 g_o8
  have M8 : h0.size ≤ h8.size := Nat.le_trans M6 (Nat.le_of_eq W8.size.symm)
  have O8 := Old.wr O6 W8 g_o8
  have f9 := ((P0.wr W6).wr W8)
  have f10 := ((P9.wr W6).wr W8)
  have ne11 : o1 ≠ o8 := ne_exa f9 f10 (by decide)
  have f12 := ((P3.other W6 (Or.inl ne11)).other W8 (Or.inl ne11))
  obtain ⟨T13, X13, e13, st13⟩ := getF X8 hx hZ hown (host := "") (Or.inl (own_w hw 41 rfl)) Via.refl e8 f12 (g := (mkF m 42 #[.val (.ref o1), .val (.long q2), .second, .val (.long q3), .second, .val (.ref o8), .val (.int (0 : Int32))] [(.ref o1), (.ref o1)])) rfl rfl (hb hby d4_42)
  obtain ⟨T14, h14, X14, e14, W14, st14⟩ := putF X13 hx hZ hown (host := "") (Or.inl (own_w hw 41 rfl)) Via.refl e13 f12 f9 (Or.inl (own_w hw 42 rfl)) (own_w hw 1 rfl) (ty := .int) (by decide) rfl rfl (g := (mkF m 47 #[.val (.ref o1), .val (.long q2), .second, .val (.long q3), .second, .val (.ref o8), .val (.int (0 : Int32))] [(.int (1 : Int32)), (.ref o1)])) rfl rfl (hb hby d4_47)
  have N14 := Fr.snoc X14 N8 g_o1
  have Fw14 := f12.same W14
  have M14 : h0.size ≤ h14.size := Nat.le_trans M8 (Nat.le_of_eq W14.size.symm)
  have O14 := Old.wr O8 W14 g_o1
  obtain ⟨fs, hr, hrun, hended, hW, hsame⟩ := X14.leave (v := none) (fun _ => rfl)
  have KL : Keep h0 h14 [o8, o1] := ((((Keep.refl h0 [o8, o1]).wr W6 (Or.inl (List.mem_of_getElem? (i := 0) rfl))).wr W8 (Or.inl (List.mem_of_getElem? (i := 0) rfl))).wr W14 (Or.inl (List.mem_of_getElem? (i := 1) rfl)))
  have f15 := (V8.other W14 (Ne.symm ne11))
  have f16 := (f10.wr W14)
  have f17 := (f9.wr W14)
  have f18 := (((P1.other W6 (Or.inl ne11)).other W8 (Or.inl ne11)).other W14 (Or.inr (slot_ne (Or.inr (own_w hw 23 rfl)) (Or.inl (own_w hw 42 rfl)) (by decide) (t := .long) (t' := .int) (by decide) (by decide))))
  have f19 := (((P2.other W6 (Or.inl ne11)).other W8 (Or.inl ne11)).other W14 (Or.inr (slot_ne (Or.inr (own_w hw 25 rfl)) (Or.inl (own_w hw 42 rfl)) (by decide) (t := .long) (t' := .int) (by decide) (by decide))))
  have f20 := (((P4.other W6 (Or.inl ne11)).other W8 (Or.inl ne11)).other W14 (Or.inr (slot_ne (Or.inr (own_w hw 29 rfl)) (Or.inl (own_w hw 42 rfl)) (by decide) (t := (.array (.array .long))) (t' := .int) (by decide) (by decide))))
  have f21 := (((P5.other W6 (Or.inl ne11)).other W8 (Or.inl ne11)).other W14 (Or.inr (slot_ne (Or.inl (own_w hw 21 rfl)) (Or.inl (own_w hw 42 rfl)) (by decide) (t := .int) (t' := .int) (by decide) (by decide))))
  refine ⟨_, _, pre0 _ ?_, hrun, hended, _, _, rfl, ?_, ⟨_, rfl⟩, hW, hsame.mono (by decide) (by decide)⟩
  ·
    show Steps p.tables e below (s₁.setTop (mkF m 0 #[.val (.ref o1), .val (.long q2), .second, .val (.long q3), .second, .unset, .unset] [])) _
    refine XS.aloadN X0.here hx rfl (hb hby d4_0) rfl rfl ?_
    refine st1 _ ?_
    refine XS.aloadN X1.here hx rfl (hb hby d4_4) rfl rfl ?_
    refine st2 _ ?_
    refine XS.bipush X2.here hx rfl (hb hby d4_8) ?_
    refine XS.iushr X2.here hx rfl (hb hby d4_10) rfl ?_
    refine X2.aaload hx (j := (0 : Int32)) (v := (.ref o8)) (by rw [e2]; exact Ar3.1) (State.isArrayOf_alike hZ.alike Ar3.2.1) rfl Ar3.2.2 hin3 hat3 (g := (mkF m 11 #[.val (.ref o1), .val (.long q2), .second, .val (.long q3), .second, .unset, .unset] [(.int (0 : Int32)), (.ref o6)])) rfl rfl (hb hby d4_11) _ ?_
    refine XS.astore X2.here hx rfl (hb hby d4_12) rfl rfl (l' := #[.val (.ref o1), .val (.long q2), .second, .val (.long q3), .second, .val (.ref o8), .unset]) rfl ?_
    refine XS.iconst X2.here hx rfl (hb hby d4_14) ?_
    refine XS.aloadN X2.here hx rfl (hb hby d4_15) rfl rfl ?_
    refine st4 _ ?_
    refine XS.sipush X4.here hx rfl (hb hby d4_19) ?_
    refine XS.iand X4.here hx rfl (hb hby d4_22) rfl ?_
    refine XS.imul X4.here hx rfl (hb hby d4_23) rfl ?_
    refine XS.istore X4.here hx rfl (hb hby d4_24) rfl (l' := #[.val (.ref o1), .val (.long q2), .second, .val (.long q3), .second, .val (.ref o8), .val (.int (0 : Int32))]) rfl ?_
    refine XS.aload X4.here hx rfl (hb hby d4_26) rfl rfl ?_
    refine XS.iload X4.here hx rfl (hb hby d4_28) rfl ?_
    refine XS.lloadN X4.here hx rfl (hb hby d4_30) rfl ?_
    refine st6 _ ?_
    refine XS.aload X6.here hx rfl (hb hby d4_32) rfl rfl ?_
    refine XS.iload X6.here hx rfl (hb hby d4_34) rfl ?_
    refine XS.iconst X6.here hx rfl (hb hby d4_36) ?_
    refine XS.iadd X6.here hx rfl (hb hby d4_37) rfl ?_
    refine XS.lloadN X6.here hx rfl (hb hby d4_38) rfl ?_
    refine st8 _ ?_
    refine XS.aloadN X8.here hx rfl (hb hby d4_40) rfl rfl ?_
    refine XS.dup X8.here hx rfl (hb hby d4_41) rfl rfl ?_
    refine st13 _ ?_
    refine XS.iconst X13.here hx rfl (hb hby d4_45) ?_
    refine XS.iadd X13.here hx rfl (hb hby d4_46) rfl ?_
    refine st14 _ ?_
    show Steps p.tables e below (T14.setTop (mkF m 50 #[.val (.ref o1), .val (.long q2), .second, .val (.long q3), .second, .val (.ref o8), .val (.int (0 : Int32))] [])) _
    exact X14.returnOut hx hret (hb hby d4_50) hr
  ·
    show Q32 Z o1 o6 o8 o9 o10 kc7 p12 p14 p16 q4 q5 kc11 q2 q3 h0 n0 _ T14.heap _
    rw [e14]
    exact ⟨rfl, N14, KL, f15, f16, f17, f18, f19, Fw14, f20, f21⟩
theorem ef33 (m : MethodId) (x0 : Addr) (x1 : Int64) (x2 : Int64) : entryFrame m #[(.ref x0), (.long x1), (.long x2)] 7 = mkF m 0 #[.val (.ref x0), .val (.long x1), .second, .val (.long x2), .second, .unset, .unset] [] := by first | (simp [entryFrame, mkF, argsToLocals, Value.category]; done) | rfl
def Q33 (Z : State) (o1 : Addr) (o6 : Addr) (o8 : Addr) (o9 : Addr) (o10 : Addr) (kc7 : ClassId) (p12 : Int32) (p16 : Int32) (p18 : Int32) (q4 : Int64) (q5 : Int64) (kc11 : ClassId) (q13 : Int64) (q14 : Int64) (q2 : Int64) (q3 : Int64) (h0 : Heap) (n0 : Nat) (v : Option Value) (h : Heap) (L : List Loc) : Prop :=
  (v = none ∧ Fr n0 L ∧ Keep h0 h [o8, o1] ∧ (Arv Z h o8 kc11 .long p12 [(.long q13), (.long q14), (.long q2), (.long q3), (.long (0 : Int64)), (.long (0 : Int64))] (.long (0 : Int64))) ∧ (Exa Z h o8 "[J") ∧ (Exa Z h o1 "com/example/driftless/driftless/DeleteOperations") ∧ (Fld Z h o1 "com/example/driftless/driftless/DeleteOperations" "firstCounter" "J" (.long q4)) ∧ (Fld Z h o1 "com/example/driftless/driftless/DeleteOperations" "replica" "J" (.long q5)) ∧ (Fld Z h o1 "com/example/driftless/driftless/DeleteOperations" "size" "I" (.int (2 : Int32))) ∧ (Fld Z h o1 "com/example/driftless/driftless/DeleteOperations" "targets" "[[J" (.ref o6)) ∧ (Fld Z h o1 "java/util/AbstractList" "modCount" "I" (.int (0 : Int32))))
set_option maxRecDepth 65536 in
set_option maxHeartbeats 40000000 in
theorem rm33 (l : Launch) (Z : State) (a0 : Array Value) (hw : ∀ d ∈ tables_1, d.before a0 Z = true) (ws : List Jvm.Cond) (o1 : Addr) (o6 : Addr) (o8 : Addr) (o9 : Addr) (o10 : Addr) (kc7 : ClassId) (p12 : Int32) (p16 : Int32) (p18 : Int32) (q4 : Int64) (q5 : Int64) (kc11 : ClassId) (q13 : Int64) (q14 : Int64) (q2 : Int64) (q3 : Int64) (h0 : Heap) (n0 : Nat) (O0 : Old Z n0 h0) (g_o1 : n0 ≤ o1) (g_o6 : n0 ≤ o6) (g_o8 : n0 ≤ o8) (g_o9 : n0 ≤ o9) (g_o10 : n0 ≤ o10) (Ov_kc7 : OvrA Z kc7 .long "[J") (bd_p12 : 6 ≤ p12.toInt ∧ p12.toInt ≤ 2147483647) (bd_p16 : 6 ≤ p16.toInt ∧ p16.toInt ≤ 2147483647) (bd_p18 : 2 ≤ p18.toInt ∧ p18.toInt ≤ 2147483647) (P0 : Exa Z h0 o1 "com/example/driftless/driftless/DeleteOperations") (P1 : Fld Z h0 o1 "com/example/driftless/driftless/DeleteOperations" "firstCounter" "J" (.long q4)) (P2 : Fld Z h0 o1 "com/example/driftless/driftless/DeleteOperations" "replica" "J" (.long q5)) (P3 : Fld Z h0 o1 "com/example/driftless/driftless/DeleteOperations" "size" "I" (.int (1 : Int32))) (P4 : Fld Z h0 o1 "com/example/driftless/driftless/DeleteOperations" "targets" "[[J" (.ref o6)) (P5 : Fld Z h0 o1 "java/util/AbstractList" "modCount" "I" (.int (0 : Int32))) (P6 : Arv Z h0 o6 kc7 (.array .long) (3 : Int32) [(.ref o8), (.ref o9), (.ref o10)] .null) (P8 : Arv Z h0 o8 kc11 .long p12 [(.long q13), (.long q14), (.long (0 : Int64)), (.long (0 : Int64)), (.long (0 : Int64)), (.long (0 : Int64))] (.long (0 : Int64))) (P9 : Exa Z h0 o8 "[J") :
    MetFree l yn4 (head1 (Jvm.Cond.code yn4 prog_7_method_2_code 7 none :: ws) ({ frames := 0, cells := 0, slots := 0, locals := 0 } : Room)) (fun a U => a = #[(.ref o1), (.long q2), (.long q3)] ∧ Z.Warmed39 U.vm ∧ U.heap = h0) (fun _ _ _ _ _ => True) (fun _ U o U' => ∃ v L, o = .returned v ∧ Q33 Z o1 o6 o8 o9 o10 kc7 p12 p16 p18 q4 q5 kc11 q13 q14 q2 q3 h0 n0 v U'.heap L ∧ FrameEnd U o U' L ({ frames := 0, cells := 0, slots := 0, locals := 0 } : Room).cells ({ frames := 0, cells := 0, slots := 0, locals := 0 } : Room).slots) := by
  refine MetFree.of_bodySF (plainFor_of_name pn2) hisR ?_
  intro p e s m args below meth c s₁ Bd hml0 hP hK
  obtain ⟨rfl, hZ, hh⟩ := hP
  have hx := Bd.exec
  have hby := Bd.bytes
  have hml : c.maxLocals = 7 := hml0
  have hown : s.vm.findClass "com/example/driftless/driftless/DeleteOperations" = some m.cls := findClass_of_methodNamed Bd.named
  have hnm := (name_of_methodNamed Bd.named Bd.method).1
  have hret := Bd.returns
  have hlk : meth.locks = false := BodyLoose.notSynchronized Bd
  have X0 : Stand p l e ({ frames := 0, cells := 0, slots := 0, locals := 0 } : Room) s m #[(.ref o1), (.long q2), (.long q3)] below meth c s₁ [] 0 0 := Stand.of_body Bd
  have e0 : s₁.heap = h0 := by rw [← hh, Bd.state]; rfl
  have N0 := Fr.nil n0
  have pre0 : ∀ t, Steps p.tables e below (s₁.setTop (mkF m 0 #[.val (.ref o1), .val (.long q2), .second, .val (.long q3), .second, .unset, .unset] [])) t → Steps p.tables e below (s₁.setTop (entryFrame m #[(.ref o1), (.long q2), (.long q3)] 7)) t := fun t k => castTop (ef33 m o1 q2 q3) k
  obtain ⟨T1, X1, e1, st1⟩ := getF X0 hx hZ hown (host := "") (Or.inl (own_w hw 28 rfl)) Via.refl e0 P4 (g := (mkF m 1 #[.val (.ref o1), .val (.long q2), .second, .val (.long q3), .second, .unset, .unset] [(.ref o1)])) rfl rfl (hb hby d4_1)
  obtain ⟨T2, X2, e2, st2⟩ := getF X1 hx hZ hown (host := "") (Or.inl (own_w hw 41 rfl)) Via.refl e1 P3 (g := (mkF m 5 #[.val (.ref o1), .val (.long q2), .second, .val (.long q3), .second, .unset, .unset] [(.ref o1), (.ref o6)])) rfl rfl (hb hby d4_5)
  obtain ⟨cl3, Ar3, qa3, Sa3, Na3, Ha3, Ga3⟩ := id (P6)
  have hin3 : ¬ ((0 : Int32) < 0 ∨ cl3.slots.size ≤ ((0 : Int32)).toNatClampNeg) := inb_of Sa3 ⟨by decide, by decide⟩
  have hat3 : cl3.slots[((0 : Int32)).toNatClampNeg]? = some (.ref o8) := Has.at Ha3 hin3 rfl
  obtain ⟨T4, X4, e4, st4⟩ := getF X2 hx hZ hown (host := "") (Or.inl (own_w hw 41 rfl)) Via.refl e2 P3 (g := (mkF m 16 #[.val (.ref o1), .val (.long q2), .second, .val (.long q3), .second, .val (.ref o8), .unset] [(.ref o1), (.int (2 : Int32))])) rfl rfl (hb hby d4_16)
  obtain ⟨cl5, Ar5, qa5, Sa5, Na5, Ha5, Ga5⟩ := id (P8)
  have hin5 : ¬ ((2 : Int32) < 0 ∨ cl5.slots.size ≤ ((2 : Int32)).toNatClampNeg) := inb_of Sa5 ⟨(by decide : ¬ ((2 : Int32) < (0 : Int32))), (own_glt2 (n := 2) (k := (2 : Int32)) (by decide) (by have q0 := bd_p12; omega))⟩
  obtain ⟨T6, h6, X6, e6, W6, st6⟩ := stJ X4 hx hZ e4 Ar5 (j := (2 : Int32)) hin5 (g := (mkF m 31 #[.val (.ref o1), .val (.long q2), .second, .val (.long q3), .second, .val (.ref o8), .val (.int (2 : Int32))] [(.long q2), (.int (2 : Int32)), (.ref o8)])) rfl rfl (hb hby d4_31)
  have V6 : Arv Z h6 o8 kc11 .long p12 [(.long q13), (.long q14), (.long q2), (.long (0 : Int64)), (.long (0 : Int64)), (.long (0 : Int64))] (.long (0 : Int64)) := Arv.set Ar5 qa5 Sa5 Na5 Ha5 Ga5 rfl W6 2 rfl (Nat.le_of_ble_eq_true rfl)
  have N6 := Fr.snoc X6 N0 g_o8
  have M6 : h0.size ≤ h6.size := Nat.le_trans (Nat.le_refl _) (Nat.le_of_eq W6.size.symm)
  have O6 := Old.wr O0 W6 g_o8
  obtain ⟨cl7, Ar7, qa7, Sa7, Na7, Ha7, Ga7⟩ := id (V6)
  have hin7 : ¬ ((3 : Int32) < 0 ∨ cl7.slots.size ≤ ((3 : Int32)).toNatClampNeg) := inb_of Sa7 ⟨(by decide : ¬ ((3 : Int32) < (0 : Int32))), (own_glt2 (n := 3) (k := (3 : Int32)) (by decide) (by have q0 := bd_p12; omega))⟩
  obtain ⟨T8, h8, X8, e8, W8, st8⟩ := stJ X6 hx hZ e6 Ar7 (j := (3 : Int32)) hin7 (g := (mkF m 39 #[.val (.ref o1), .val (.long q2), .second, .val (.long q3), .second, .val (.ref o8), .val (.int (2 : Int32))] [(.long q3), (.int (3 : Int32)), (.ref o8)])) rfl rfl (hb hby d4_39)
  have V8 : Arv Z h8 o8 kc11 .long p12 [(.long q13), (.long q14), (.long q2), (.long q3), (.long (0 : Int64)), (.long (0 : Int64))] (.long (0 : Int64)) := Arv.set Ar7 qa7 Sa7 Na7 Ha7 Ga7 rfl W8 3 rfl (Nat.le_of_ble_eq_true rfl)
  have N8 := Fr.snoc X8 N6 g_o8
  have M8 : h0.size ≤ h8.size := Nat.le_trans M6 (Nat.le_of_eq W8.size.symm)
  have O8 := Old.wr O6 W8 g_o8
  have f9 := ((P0.wr W6).wr W8)
  have f10 := ((P9.wr W6).wr W8)
  have ne11 : o1 ≠ o8 := ne_exa f9 f10 (by decide)
  have f12 := ((P3.other W6 (Or.inl ne11)).other W8 (Or.inl ne11))
  obtain ⟨T13, X13, e13, st13⟩ := getF X8 hx hZ hown (host := "") (Or.inl (own_w hw 41 rfl)) Via.refl e8 f12 (g := (mkF m 42 #[.val (.ref o1), .val (.long q2), .second, .val (.long q3), .second, .val (.ref o8), .val (.int (2 : Int32))] [(.ref o1), (.ref o1)])) rfl rfl (hb hby d4_42)
  obtain ⟨T14, h14, X14, e14, W14, st14⟩ := putF X13 hx hZ hown (host := "") (Or.inl (own_w hw 41 rfl)) Via.refl e13 f12 f9 (Or.inl (own_w hw 42 rfl)) (own_w hw 1 rfl) (ty := .int) (by decide) rfl rfl (g := (mkF m 47 #[.val (.ref o1), .val (.long q2), .second, .val (.long q3), .second, .val (.ref o8), .val (.int (2 : Int32))] [(.int (2 : Int32)), (.ref o1)])) rfl rfl (hb hby d4_47)
  have N14 := Fr.snoc X14 N8 g_o1
  have Fw14 := f12.same W14
  have M14 : h0.size ≤ h14.size := Nat.le_trans M8 (Nat.le_of_eq W14.size.symm)
  have O14 := Old.wr O8 W14 g_o1
  obtain ⟨fs, hr, hrun, hended, hW, hsame⟩ := X14.leave (v := none) (fun _ => rfl)
  have KL : Keep h0 h14 [o8, o1] := ((((Keep.refl h0 [o8, o1]).wr W6 (Or.inl (List.mem_of_getElem? (i := 0) rfl))).wr W8 (Or.inl (List.mem_of_getElem? (i := 0) rfl))).wr W14 (Or.inl (List.mem_of_getElem? (i := 1) rfl)))
  have f15 := (V8.other W14 (Ne.symm ne11))
  have f16 := (f10.wr W14)
  have f17 := (f9.wr W14)
  have f18 := (((P1.other W6 (Or.inl ne11)).other W8 (Or.inl ne11)).other W14 (Or.inr (slot_ne (Or.inr (own_w hw 23 rfl)) (Or.inl (own_w hw 42 rfl)) (by decide) (t := .long) (t' := .int) (by decide) (by decide))))
  have f19 := (((P2.other W6 (Or.inl ne11)).other W8 (Or.inl ne11)).other W14 (Or.inr (slot_ne (Or.inr (own_w hw 25 rfl)) (Or.inl (own_w hw 42 rfl)) (by decide) (t := .long) (t' := .int) (by decide) (by decide))))
  have f20 := (((P4.other W6 (Or.inl ne11)).other W8 (Or.inl ne11)).other W14 (Or.inr (slot_ne (Or.inr (own_w hw 29 rfl)) (Or.inl (own_w hw 42 rfl)) (by decide) (t := (.array (.array .long))) (t' := .int) (by decide) (by decide))))
  have f21 := (((P5.other W6 (Or.inl ne11)).other W8 (Or.inl ne11)).other W14 (Or.inr (slot_ne (Or.inl (own_w hw 21 rfl)) (Or.inl (own_w hw 42 rfl)) (by decide) (t := .int) (t' := .int) (by decide) (by decide))))
  refine ⟨_, _, pre0 _ ?_, hrun, hended, _, _, rfl, ?_, ⟨_, rfl⟩, hW, hsame.mono (by decide) (by decide)⟩
  ·
    show Steps p.tables e below (s₁.setTop (mkF m 0 #[.val (.ref o1), .val (.long q2), .second, .val (.long q3), .second, .unset, .unset] [])) _
    refine XS.aloadN X0.here hx rfl (hb hby d4_0) rfl rfl ?_
    refine st1 _ ?_
    refine XS.aloadN X1.here hx rfl (hb hby d4_4) rfl rfl ?_
    refine st2 _ ?_
    refine XS.bipush X2.here hx rfl (hb hby d4_8) ?_
    refine XS.iushr X2.here hx rfl (hb hby d4_10) rfl ?_
    refine X2.aaload hx (j := (0 : Int32)) (v := (.ref o8)) (by rw [e2]; exact Ar3.1) (State.isArrayOf_alike hZ.alike Ar3.2.1) rfl Ar3.2.2 hin3 hat3 (g := (mkF m 11 #[.val (.ref o1), .val (.long q2), .second, .val (.long q3), .second, .unset, .unset] [(.int (0 : Int32)), (.ref o6)])) rfl rfl (hb hby d4_11) _ ?_
    refine XS.astore X2.here hx rfl (hb hby d4_12) rfl rfl (l' := #[.val (.ref o1), .val (.long q2), .second, .val (.long q3), .second, .val (.ref o8), .unset]) rfl ?_
    refine XS.iconst X2.here hx rfl (hb hby d4_14) ?_
    refine XS.aloadN X2.here hx rfl (hb hby d4_15) rfl rfl ?_
    refine st4 _ ?_
    refine XS.sipush X4.here hx rfl (hb hby d4_19) ?_
    refine XS.iand X4.here hx rfl (hb hby d4_22) rfl ?_
    refine XS.imul X4.here hx rfl (hb hby d4_23) rfl ?_
    refine XS.istore X4.here hx rfl (hb hby d4_24) rfl (l' := #[.val (.ref o1), .val (.long q2), .second, .val (.long q3), .second, .val (.ref o8), .val (.int (2 : Int32))]) rfl ?_
    refine XS.aload X4.here hx rfl (hb hby d4_26) rfl rfl ?_
    refine XS.iload X4.here hx rfl (hb hby d4_28) rfl ?_
    refine XS.lloadN X4.here hx rfl (hb hby d4_30) rfl ?_
    refine st6 _ ?_
    refine XS.aload X6.here hx rfl (hb hby d4_32) rfl rfl ?_
    refine XS.iload X6.here hx rfl (hb hby d4_34) rfl ?_
    refine XS.iconst X6.here hx rfl (hb hby d4_36) ?_
    refine XS.iadd X6.here hx rfl (hb hby d4_37) rfl ?_
    refine XS.lloadN X6.here hx rfl (hb hby d4_38) rfl ?_
    refine st8 _ ?_
    refine XS.aloadN X8.here hx rfl (hb hby d4_40) rfl rfl ?_
    refine XS.dup X8.here hx rfl (hb hby d4_41) rfl rfl ?_
    refine st13 _ ?_
    refine XS.iconst X13.here hx rfl (hb hby d4_45) ?_
    refine XS.iadd X13.here hx rfl (hb hby d4_46) rfl ?_
    refine st14 _ ?_
    show Steps p.tables e below (T14.setTop (mkF m 50 #[.val (.ref o1), .val (.long q2), .second, .val (.long q3), .second, .val (.ref o8), .val (.int (2 : Int32))] [])) _
    exact X14.returnOut hx hret (hb hby d4_50) hr
  ·
    show Q33 Z o1 o6 o8 o9 o10 kc7 p12 p16 p18 q4 q5 kc11 q13 q14 q2 q3 h0 n0 _ T14.heap _
    rw [e14]
    exact ⟨rfl, N14, KL, f15, f16, f17, f18, f19, Fw14, f20, f21⟩
theorem ef34 (m : MethodId) (x0 : Addr) (x1 : Int64) (x2 : Int64) : entryFrame m #[(.ref x0), (.long x1), (.long x2)] 7 = mkF m 0 #[.val (.ref x0), .val (.long x1), .second, .val (.long x2), .second, .unset, .unset] [] := by first | (simp [entryFrame, mkF, argsToLocals, Value.category]; done) | rfl
def Q34 (Z : State) (o1 : Addr) (o6 : Addr) (o8 : Addr) (o9 : Addr) (o10 : Addr) (kc7 : ClassId) (p12 : Int32) (p18 : Int32) (p20 : Int32) (q4 : Int64) (q5 : Int64) (kc11 : ClassId) (q13 : Int64) (q14 : Int64) (q15 : Int64) (q16 : Int64) (q2 : Int64) (q3 : Int64) (h0 : Heap) (n0 : Nat) (v : Option Value) (h : Heap) (L : List Loc) : Prop :=
  (v = none ∧ Fr n0 L ∧ Keep h0 h [o8, o1] ∧ (Arv Z h o8 kc11 .long p12 [(.long q13), (.long q14), (.long q15), (.long q16), (.long q2), (.long q3)] (.long (0 : Int64))) ∧ (Exa Z h o8 "[J") ∧ (Exa Z h o1 "com/example/driftless/driftless/DeleteOperations") ∧ (Fld Z h o1 "com/example/driftless/driftless/DeleteOperations" "firstCounter" "J" (.long q4)) ∧ (Fld Z h o1 "com/example/driftless/driftless/DeleteOperations" "replica" "J" (.long q5)) ∧ (Fld Z h o1 "com/example/driftless/driftless/DeleteOperations" "size" "I" (.int (3 : Int32))) ∧ (Fld Z h o1 "com/example/driftless/driftless/DeleteOperations" "targets" "[[J" (.ref o6)) ∧ (Fld Z h o1 "java/util/AbstractList" "modCount" "I" (.int (0 : Int32))))
set_option maxRecDepth 65536 in
set_option maxHeartbeats 40000000 in
theorem rm34 (l : Launch) (Z : State) (a0 : Array Value) (hw : ∀ d ∈ tables_1, d.before a0 Z = true) (ws : List Jvm.Cond) (o1 : Addr) (o6 : Addr) (o8 : Addr) (o9 : Addr) (o10 : Addr) (kc7 : ClassId) (p12 : Int32) (p18 : Int32) (p20 : Int32) (q4 : Int64) (q5 : Int64) (kc11 : ClassId) (q13 : Int64) (q14 : Int64) (q15 : Int64) (q16 : Int64) (q2 : Int64) (q3 : Int64) (h0 : Heap) (n0 : Nat) (O0 : Old Z n0 h0) (g_o1 : n0 ≤ o1) (g_o6 : n0 ≤ o6) (g_o8 : n0 ≤ o8) (g_o9 : n0 ≤ o9) (g_o10 : n0 ≤ o10) (Ov_kc7 : OvrA Z kc7 .long "[J") (bd_p12 : 6 ≤ p12.toInt ∧ p12.toInt ≤ 2147483647) (bd_p18 : 6 ≤ p18.toInt ∧ p18.toInt ≤ 2147483647) (bd_p20 : 2 ≤ p20.toInt ∧ p20.toInt ≤ 2147483647) (P0 : Exa Z h0 o1 "com/example/driftless/driftless/DeleteOperations") (P1 : Fld Z h0 o1 "com/example/driftless/driftless/DeleteOperations" "firstCounter" "J" (.long q4)) (P2 : Fld Z h0 o1 "com/example/driftless/driftless/DeleteOperations" "replica" "J" (.long q5)) (P3 : Fld Z h0 o1 "com/example/driftless/driftless/DeleteOperations" "size" "I" (.int (2 : Int32))) (P4 : Fld Z h0 o1 "com/example/driftless/driftless/DeleteOperations" "targets" "[[J" (.ref o6)) (P5 : Fld Z h0 o1 "java/util/AbstractList" "modCount" "I" (.int (0 : Int32))) (P6 : Arv Z h0 o6 kc7 (.array .long) (3 : Int32) [(.ref o8), (.ref o9), (.ref o10)] .null) (P8 : Arv Z h0 o8 kc11 .long p12 [(.long q13), (.long q14), (.long q15), (.long q16), (.long (0 : Int64)), (.long (0 : Int64))] (.long (0 : Int64))) (P9 : Exa Z h0 o8 "[J") :
    MetFree l yn4 (head1 (Jvm.Cond.code yn4 prog_7_method_2_code 7 none :: ws) ({ frames := 0, cells := 0, slots := 0, locals := 0 } : Room)) (fun a U => a = #[(.ref o1), (.long q2), (.long q3)] ∧ Z.Warmed39 U.vm ∧ U.heap = h0) (fun _ _ _ _ _ => True) (fun _ U o U' => ∃ v L, o = .returned v ∧ Q34 Z o1 o6 o8 o9 o10 kc7 p12 p18 p20 q4 q5 kc11 q13 q14 q15 q16 q2 q3 h0 n0 v U'.heap L ∧ FrameEnd U o U' L ({ frames := 0, cells := 0, slots := 0, locals := 0 } : Room).cells ({ frames := 0, cells := 0, slots := 0, locals := 0 } : Room).slots) := by
  refine MetFree.of_bodySF (plainFor_of_name pn2) hisR ?_
  intro p e s m args below meth c s₁ Bd hml0 hP hK
  obtain ⟨rfl, hZ, hh⟩ := hP
  have hx := Bd.exec
  have hby := Bd.bytes
  have hml : c.maxLocals = 7 := hml0
  have hown : s.vm.findClass "com/example/driftless/driftless/DeleteOperations" = some m.cls := findClass_of_methodNamed Bd.named
  have hnm := (name_of_methodNamed Bd.named Bd.method).1
  have hret := Bd.returns
  have hlk : meth.locks = false := BodyLoose.notSynchronized Bd
  have X0 : Stand p l e ({ frames := 0, cells := 0, slots := 0, locals := 0 } : Room) s m #[(.ref o1), (.long q2), (.long q3)] below meth c s₁ [] 0 0 := Stand.of_body Bd
  have e0 : s₁.heap = h0 := by rw [← hh, Bd.state]; rfl
  have N0 := Fr.nil n0
  have pre0 : ∀ t, Steps p.tables e below (s₁.setTop (mkF m 0 #[.val (.ref o1), .val (.long q2), .second, .val (.long q3), .second, .unset, .unset] [])) t → Steps p.tables e below (s₁.setTop (entryFrame m #[(.ref o1), (.long q2), (.long q3)] 7)) t := fun t k => castTop (ef34 m o1 q2 q3) k
  obtain ⟨T1, X1, e1, st1⟩ := getF X0 hx hZ hown (host := "") (Or.inl (own_w hw 28 rfl)) Via.refl e0 P4 (g := (mkF m 1 #[.val (.ref o1), .val (.long q2), .second, .val (.long q3), .second, .unset, .unset] [(.ref o1)])) rfl rfl (hb hby d4_1)
  obtain ⟨T2, X2, e2, st2⟩ := getF X1 hx hZ hown (host := "") (Or.inl (own_w hw 41 rfl)) Via.refl e1 P3 (g := (mkF m 5 #[.val (.ref o1), .val (.long q2), .second, .val (.long q3), .second, .unset, .unset] [(.ref o1), (.ref o6)])) rfl rfl (hb hby d4_5)
  obtain ⟨cl3, Ar3, qa3, Sa3, Na3, Ha3, Ga3⟩ := id (P6)
  have hin3 : ¬ ((0 : Int32) < 0 ∨ cl3.slots.size ≤ ((0 : Int32)).toNatClampNeg) := inb_of Sa3 ⟨by decide, by decide⟩
  have hat3 : cl3.slots[((0 : Int32)).toNatClampNeg]? = some (.ref o8) := Has.at Ha3 hin3 rfl
  obtain ⟨T4, X4, e4, st4⟩ := getF X2 hx hZ hown (host := "") (Or.inl (own_w hw 41 rfl)) Via.refl e2 P3 (g := (mkF m 16 #[.val (.ref o1), .val (.long q2), .second, .val (.long q3), .second, .val (.ref o8), .unset] [(.ref o1), (.int (2 : Int32))])) rfl rfl (hb hby d4_16)
  obtain ⟨cl5, Ar5, qa5, Sa5, Na5, Ha5, Ga5⟩ := id (P8)
  have hin5 : ¬ ((4 : Int32) < 0 ∨ cl5.slots.size ≤ ((4 : Int32)).toNatClampNeg) := inb_of Sa5 ⟨(by decide : ¬ ((4 : Int32) < (0 : Int32))), (own_glt2 (n := 4) (k := (4 : Int32)) (by decide) (by have q0 := bd_p12; omega))⟩
  obtain ⟨T6, h6, X6, e6, W6, st6⟩ := stJ X4 hx hZ e4 Ar5 (j := (4 : Int32)) hin5 (g := (mkF m 31 #[.val (.ref o1), .val (.long q2), .second, .val (.long q3), .second, .val (.ref o8), .val (.int (4 : Int32))] [(.long q2), (.int (4 : Int32)), (.ref o8)])) rfl rfl (hb hby d4_31)
  have V6 : Arv Z h6 o8 kc11 .long p12 [(.long q13), (.long q14), (.long q15), (.long q16), (.long q2), (.long (0 : Int64))] (.long (0 : Int64)) := Arv.set Ar5 qa5 Sa5 Na5 Ha5 Ga5 rfl W6 4 rfl (Nat.le_of_ble_eq_true rfl)
  have N6 := Fr.snoc X6 N0 g_o8
  have M6 : h0.size ≤ h6.size := Nat.le_trans (Nat.le_refl _) (Nat.le_of_eq W6.size.symm)
  have O6 := Old.wr O0 W6 g_o8
  obtain ⟨cl7, Ar7, qa7, Sa7, Na7, Ha7, Ga7⟩ := id (V6)
  have hin7 : ¬ ((5 : Int32) < 0 ∨ cl7.slots.size ≤ ((5 : Int32)).toNatClampNeg) := inb_of Sa7 ⟨(by decide : ¬ ((5 : Int32) < (0 : Int32))), (own_glt2 (n := 5) (k := (5 : Int32)) (by decide) (by have q0 := bd_p12; omega))⟩
  obtain ⟨T8, h8, X8, e8, W8, st8⟩ := stJ X6 hx hZ e6 Ar7 (j := (5 : Int32)) hin7 (g := (mkF m 39 #[.val (.ref o1), .val (.long q2), .second, .val (.long q3), .second, .val (.ref o8), .val (.int (4 : Int32))] [(.long q3), (.int (5 : Int32)), (.ref o8)])) rfl rfl (hb hby d4_39)
  have V8 : Arv Z h8 o8 kc11 .long p12 [(.long q13), (.long q14), (.long q15), (.long q16), (.long q2), (.long q3)] (.long (0 : Int64)) := Arv.set Ar7 qa7 Sa7 Na7 Ha7 Ga7 rfl W8 5 rfl (Nat.le_of_ble_eq_true rfl)
  have N8 := Fr.snoc X8 N6 g_o8
  have M8 : h0.size ≤ h8.size := Nat.le_trans M6 (Nat.le_of_eq W8.size.symm)
  have O8 := Old.wr O6 W8 g_o8
  have f9 := ((P0.wr W6).wr W8)
  have f10 := ((P9.wr W6).wr W8)
  have ne11 : o1 ≠ o8 := ne_exa f9 f10 (by decide)
  have f12 := ((P3.other W6 (Or.inl ne11)).other W8 (Or.inl ne11))
  obtain ⟨T13, X13, e13, st13⟩ := getF X8 hx hZ hown (host := "") (Or.inl (own_w hw 41 rfl)) Via.refl e8 f12 (g := (mkF m 42 #[.val (.ref o1), .val (.long q2), .second, .val (.long q3), .second, .val (.ref o8), .val (.int (4 : Int32))] [(.ref o1), (.ref o1)])) rfl rfl (hb hby d4_42)
  obtain ⟨T14, h14, X14, e14, W14, st14⟩ := putF X13 hx hZ hown (host := "") (Or.inl (own_w hw 41 rfl)) Via.refl e13 f12 f9 (Or.inl (own_w hw 42 rfl)) (own_w hw 1 rfl) (ty := .int) (by decide) rfl rfl (g := (mkF m 47 #[.val (.ref o1), .val (.long q2), .second, .val (.long q3), .second, .val (.ref o8), .val (.int (4 : Int32))] [(.int (3 : Int32)), (.ref o1)])) rfl rfl (hb hby d4_47)
  have N14 := Fr.snoc X14 N8 g_o1
  have Fw14 := f12.same W14
  have M14 : h0.size ≤ h14.size := Nat.le_trans M8 (Nat.le_of_eq W14.size.symm)
  have O14 := Old.wr O8 W14 g_o1
  obtain ⟨fs, hr, hrun, hended, hW, hsame⟩ := X14.leave (v := none) (fun _ => rfl)
  have KL : Keep h0 h14 [o8, o1] := ((((Keep.refl h0 [o8, o1]).wr W6 (Or.inl (List.mem_of_getElem? (i := 0) rfl))).wr W8 (Or.inl (List.mem_of_getElem? (i := 0) rfl))).wr W14 (Or.inl (List.mem_of_getElem? (i := 1) rfl)))
  have f15 := (V8.other W14 (Ne.symm ne11))
  have f16 := (f10.wr W14)
  have f17 := (f9.wr W14)
  have f18 := (((P1.other W6 (Or.inl ne11)).other W8 (Or.inl ne11)).other W14 (Or.inr (slot_ne (Or.inr (own_w hw 23 rfl)) (Or.inl (own_w hw 42 rfl)) (by decide) (t := .long) (t' := .int) (by decide) (by decide))))
  have f19 := (((P2.other W6 (Or.inl ne11)).other W8 (Or.inl ne11)).other W14 (Or.inr (slot_ne (Or.inr (own_w hw 25 rfl)) (Or.inl (own_w hw 42 rfl)) (by decide) (t := .long) (t' := .int) (by decide) (by decide))))
  have f20 := (((P4.other W6 (Or.inl ne11)).other W8 (Or.inl ne11)).other W14 (Or.inr (slot_ne (Or.inr (own_w hw 29 rfl)) (Or.inl (own_w hw 42 rfl)) (by decide) (t := (.array (.array .long))) (t' := .int) (by decide) (by decide))))
  have f21 := (((P5.other W6 (Or.inl ne11)).other W8 (Or.inl ne11)).other W14 (Or.inr (slot_ne (Or.inl (own_w hw 21 rfl)) (Or.inl (own_w hw 42 rfl)) (by decide) (t := .int) (t' := .int) (by decide) (by decide))))
  refine ⟨_, _, pre0 _ ?_, hrun, hended, _, _, rfl, ?_, ⟨_, rfl⟩, hW, hsame.mono (by decide) (by decide)⟩
  ·
    show Steps p.tables e below (s₁.setTop (mkF m 0 #[.val (.ref o1), .val (.long q2), .second, .val (.long q3), .second, .unset, .unset] [])) _
    refine XS.aloadN X0.here hx rfl (hb hby d4_0) rfl rfl ?_
    refine st1 _ ?_
    refine XS.aloadN X1.here hx rfl (hb hby d4_4) rfl rfl ?_
    refine st2 _ ?_
    refine XS.bipush X2.here hx rfl (hb hby d4_8) ?_
    refine XS.iushr X2.here hx rfl (hb hby d4_10) rfl ?_
    refine X2.aaload hx (j := (0 : Int32)) (v := (.ref o8)) (by rw [e2]; exact Ar3.1) (State.isArrayOf_alike hZ.alike Ar3.2.1) rfl Ar3.2.2 hin3 hat3 (g := (mkF m 11 #[.val (.ref o1), .val (.long q2), .second, .val (.long q3), .second, .unset, .unset] [(.int (0 : Int32)), (.ref o6)])) rfl rfl (hb hby d4_11) _ ?_
    refine XS.astore X2.here hx rfl (hb hby d4_12) rfl rfl (l' := #[.val (.ref o1), .val (.long q2), .second, .val (.long q3), .second, .val (.ref o8), .unset]) rfl ?_
    refine XS.iconst X2.here hx rfl (hb hby d4_14) ?_
    refine XS.aloadN X2.here hx rfl (hb hby d4_15) rfl rfl ?_
    refine st4 _ ?_
    refine XS.sipush X4.here hx rfl (hb hby d4_19) ?_
    refine XS.iand X4.here hx rfl (hb hby d4_22) rfl ?_
    refine XS.imul X4.here hx rfl (hb hby d4_23) rfl ?_
    refine XS.istore X4.here hx rfl (hb hby d4_24) rfl (l' := #[.val (.ref o1), .val (.long q2), .second, .val (.long q3), .second, .val (.ref o8), .val (.int (4 : Int32))]) rfl ?_
    refine XS.aload X4.here hx rfl (hb hby d4_26) rfl rfl ?_
    refine XS.iload X4.here hx rfl (hb hby d4_28) rfl ?_
    refine XS.lloadN X4.here hx rfl (hb hby d4_30) rfl ?_
    refine st6 _ ?_
    refine XS.aload X6.here hx rfl (hb hby d4_32) rfl rfl ?_
    refine XS.iload X6.here hx rfl (hb hby d4_34) rfl ?_
    refine XS.iconst X6.here hx rfl (hb hby d4_36) ?_
    refine XS.iadd X6.here hx rfl (hb hby d4_37) rfl ?_
    refine XS.lloadN X6.here hx rfl (hb hby d4_38) rfl ?_
    refine st8 _ ?_
    refine XS.aloadN X8.here hx rfl (hb hby d4_40) rfl rfl ?_
    refine XS.dup X8.here hx rfl (hb hby d4_41) rfl rfl ?_
    refine st13 _ ?_
    refine XS.iconst X13.here hx rfl (hb hby d4_45) ?_
    refine XS.iadd X13.here hx rfl (hb hby d4_46) rfl ?_
    refine st14 _ ?_
    show Steps p.tables e below (T14.setTop (mkF m 50 #[.val (.ref o1), .val (.long q2), .second, .val (.long q3), .second, .val (.ref o8), .val (.int (4 : Int32))] [])) _
    exact X14.returnOut hx hret (hb hby d4_50) hr
  ·
    show Q34 Z o1 o6 o8 o9 o10 kc7 p12 p18 p20 q4 q5 kc11 q13 q14 q15 q16 q2 q3 h0 n0 _ T14.heap _
    rw [e14]
    exact ⟨rfl, N14, KL, f15, f16, f17, f18, f19, Fw14, f20, f21⟩
theorem ef35 (m : MethodId) (x0 : Addr) : entryFrame m #[(.ref x0)] 1 = mkF m 0 #[.val (.ref x0)] [] := by first | (simp [entryFrame, mkF, argsToLocals, Value.category]; done) | rfl
def Q35 (Z : State) (o1 : Addr) (o4 : Addr) (o6 : Addr) (o7 : Addr) (o8 : Addr) (kc5 : ClassId) (p10 : Int32) (p18 : Int32) (p20 : Int32) (h0 : Heap) (n0 : Nat) (v : Option Value) (h : Heap) (L : List Loc) : Prop :=
  (v = some (.int (3 : Int32)) ∧ Fr n0 L ∧ h = h0)
set_option maxRecDepth 65536 in
set_option maxHeartbeats 40000000 in
theorem rm35 (l : Launch) (Z : State) (a0 : Array Value) (hw : ∀ d ∈ tables_1, d.before a0 Z = true) (ws : List Jvm.Cond) (o1 : Addr) (o4 : Addr) (o6 : Addr) (o7 : Addr) (o8 : Addr) (kc5 : ClassId) (p10 : Int32) (p18 : Int32) (p20 : Int32) (h0 : Heap) (n0 : Nat) (O0 : Old Z n0 h0) (g_o1 : n0 ≤ o1) (g_o4 : n0 ≤ o4) (g_o6 : n0 ≤ o6) (g_o7 : n0 ≤ o7) (g_o8 : n0 ≤ o8) (Ov_kc5 : OvrA Z kc5 .long "[J") (bd_p10 : 6 ≤ p10.toInt ∧ p10.toInt ≤ 2147483647) (bd_p18 : 6 ≤ p18.toInt ∧ p18.toInt ≤ 2147483647) (bd_p20 : 2 ≤ p20.toInt ∧ p20.toInt ≤ 2147483647) (P3 : Fld Z h0 o1 "com/example/driftless/driftless/DeleteOperations" "size" "I" (.int (3 : Int32))) :
    MetFree l yn5 (head1 (Jvm.Cond.code yn5 prog_7_method_8_code 1 (some .int) :: ws) ({ frames := 0, cells := 0, slots := 0, locals := 0 } : Room)) (fun a U => a = #[(.ref o1)] ∧ Z.Warmed39 U.vm ∧ U.heap = h0) (fun _ _ _ _ _ => True) (fun _ U o U' => ∃ v L, o = .returned v ∧ Q35 Z o1 o4 o6 o7 o8 kc5 p10 p18 p20 h0 n0 v U'.heap L ∧ FrameEnd U o U' L ({ frames := 0, cells := 0, slots := 0, locals := 0 } : Room).cells ({ frames := 0, cells := 0, slots := 0, locals := 0 } : Room).slots) := by
  refine MetFree.of_bodySF (plainFor_of_name pn2) hisR ?_
  intro p e s m args below meth c s₁ Bd hml0 hP hK
  obtain ⟨rfl, hZ, hh⟩ := hP
  have hx := Bd.exec
  have hby := Bd.bytes
  have hml : c.maxLocals = 1 := hml0
  have hown : s.vm.findClass "com/example/driftless/driftless/DeleteOperations" = some m.cls := findClass_of_methodNamed Bd.named
  have hnm := (name_of_methodNamed Bd.named Bd.method).1
  have hret := Bd.returns
  have hlk : meth.locks = false := BodyLoose.notSynchronized Bd
  have X0 : Stand p l e ({ frames := 0, cells := 0, slots := 0, locals := 0 } : Room) s m #[(.ref o1)] below meth c s₁ [] 0 0 := Stand.of_body Bd
  have e0 : s₁.heap = h0 := by rw [← hh, Bd.state]; rfl
  have N0 := Fr.nil n0
  have pre0 : ∀ t, Steps p.tables e below (s₁.setTop (mkF m 0 #[.val (.ref o1)] [])) t → Steps p.tables e below (s₁.setTop (entryFrame m #[(.ref o1)] 1)) t := fun t k => castTop (ef35 m o1) k
  obtain ⟨T1, X1, e1, st1⟩ := getF X0 hx hZ hown (host := "") (Or.inl (own_w hw 41 rfl)) Via.refl e0 P3 (g := (mkF m 1 #[.val (.ref o1)] [(.ref o1)])) rfl rfl (hb hby d5_1)
  obtain ⟨fs, hr, hrun, hended, hW, hsame⟩ := X1.leave (v := some (.int (3 : Int32))) (fun h => by rw [hret] at h; cases h)
  refine ⟨_, _, pre0 _ ?_, hrun, hended, _, _, rfl, ?_, ⟨_, rfl⟩, hW, hsame.mono (by decide) (by decide)⟩
  ·
    show Steps p.tables e below (s₁.setTop (mkF m 0 #[.val (.ref o1)] [])) _
    refine XS.aloadN X0.here hx rfl (hb hby d5_0) rfl rfl ?_
    refine st1 _ ?_
    show Steps p.tables e below (T1.setTop (mkF m 4 #[.val (.ref o1)] [(.int (3 : Int32))])) _
    exact retI X1 hx hret (hb hby d5_4) hr
  ·
    show Q35 Z o1 o4 o6 o7 o8 kc5 p10 p18 p20 h0 n0 _ T1.heap _
    rw [e1]
    exact ⟨rfl, N0, rfl⟩
theorem ef36 (m : MethodId) (x0 : Addr) (x1 : Int32) : entryFrame m #[(.ref x0), (.int x1)] 2 = mkF m 0 #[.val (.ref x0), .val (.int x1)] [] := by first | (simp [entryFrame, mkF, argsToLocals, Value.category]; done) | rfl
def Q36 (Z : State) (o1 : Addr) (o4 : Addr) (o6 : Addr) (o7 : Addr) (o8 : Addr) (kc5 : ClassId) (p10 : Int32) (p18 : Int32) (p20 : Int32) (kc9 : ClassId) (q11 : Int64) (q12 : Int64) (q13 : Int64) (q14 : Int64) (q15 : Int64) (q16 : Int64) (h0 : Heap) (n0 : Nat) (v : Option Value) (h : Heap) (L : List Loc) : Prop :=
  (v = some (.long q11) ∧ Fr n0 L ∧ h = h0)
set_option maxRecDepth 65536 in
set_option maxHeartbeats 40000000 in
theorem rm36 (l : Launch) (Z : State) (a0 : Array Value) (hw : ∀ d ∈ tables_1, d.before a0 Z = true) (ws : List Jvm.Cond) (o1 : Addr) (o4 : Addr) (o6 : Addr) (o7 : Addr) (o8 : Addr) (kc5 : ClassId) (p10 : Int32) (p18 : Int32) (p20 : Int32) (kc9 : ClassId) (q11 : Int64) (q12 : Int64) (q13 : Int64) (q14 : Int64) (q15 : Int64) (q16 : Int64) (h0 : Heap) (n0 : Nat) (O0 : Old Z n0 h0) (g_o1 : n0 ≤ o1) (g_o4 : n0 ≤ o4) (g_o6 : n0 ≤ o6) (g_o7 : n0 ≤ o7) (g_o8 : n0 ≤ o8) (Ov_kc5 : OvrA Z kc5 .long "[J") (bd_p10 : 6 ≤ p10.toInt ∧ p10.toInt ≤ 2147483647) (bd_p18 : 6 ≤ p18.toInt ∧ p18.toInt ≤ 2147483647) (bd_p20 : 2 ≤ p20.toInt ∧ p20.toInt ≤ 2147483647) (P4 : Fld Z h0 o1 "com/example/driftless/driftless/DeleteOperations" "targets" "[[J" (.ref o4)) (P6 : Arv Z h0 o4 kc5 (.array .long) (3 : Int32) [(.ref o6), (.ref o7), (.ref o8)] .null) (P8 : Arv Z h0 o6 kc9 .long p10 [(.long q11), (.long q12), (.long q13), (.long q14), (.long q15), (.long q16)] (.long (0 : Int64))) :
    MetFree l yn6 (head1 (Jvm.Cond.code yn6 prog_7_method_6_code 2 (some .long) :: ws) ({ frames := 0, cells := 0, slots := 0, locals := 0 } : Room)) (fun a U => a = #[(.ref o1), (.int (0 : Int32))] ∧ Z.Warmed39 U.vm ∧ U.heap = h0) (fun _ _ _ _ _ => True) (fun _ U o U' => ∃ v L, o = .returned v ∧ Q36 Z o1 o4 o6 o7 o8 kc5 p10 p18 p20 kc9 q11 q12 q13 q14 q15 q16 h0 n0 v U'.heap L ∧ FrameEnd U o U' L ({ frames := 0, cells := 0, slots := 0, locals := 0 } : Room).cells ({ frames := 0, cells := 0, slots := 0, locals := 0 } : Room).slots) := by
  refine MetFree.of_bodySF (plainFor_of_name pn2) hisR ?_
  intro p e s m args below meth c s₁ Bd hml0 hP hK
  obtain ⟨rfl, hZ, hh⟩ := hP
  have hx := Bd.exec
  have hby := Bd.bytes
  have hml : c.maxLocals = 2 := hml0
  have hown : s.vm.findClass "com/example/driftless/driftless/DeleteOperations" = some m.cls := findClass_of_methodNamed Bd.named
  have hnm := (name_of_methodNamed Bd.named Bd.method).1
  have hret := Bd.returns
  have hlk : meth.locks = false := BodyLoose.notSynchronized Bd
  have X0 : Stand p l e ({ frames := 0, cells := 0, slots := 0, locals := 0 } : Room) s m #[(.ref o1), (.int (0 : Int32))] below meth c s₁ [] 0 0 := Stand.of_body Bd
  have e0 : s₁.heap = h0 := by rw [← hh, Bd.state]; rfl
  have N0 := Fr.nil n0
  have pre0 : ∀ t, Steps p.tables e below (s₁.setTop (mkF m 0 #[.val (.ref o1), .val (.int (0 : Int32))] [])) t → Steps p.tables e below (s₁.setTop (entryFrame m #[(.ref o1), (.int (0 : Int32))] 2)) t := fun t k => castTop (ef36 m o1 (0 : Int32)) k
  obtain ⟨T1, X1, e1, st1⟩ := getF X0 hx hZ hown (host := "") (Or.inl (own_w hw 28 rfl)) Via.refl e0 P4 (g := (mkF m 1 #[.val (.ref o1), .val (.int (0 : Int32))] [(.ref o1)])) rfl rfl (hb hby d6_1)
  obtain ⟨cl2, Ar2, qa2, Sa2, Na2, Ha2, Ga2⟩ := id (P6)
  have hin2 : ¬ ((0 : Int32) < 0 ∨ cl2.slots.size ≤ ((0 : Int32)).toNatClampNeg) := inb_of Sa2 ⟨by decide, by decide⟩
  have hat2 : cl2.slots[((0 : Int32)).toNatClampNeg]? = some (.ref o6) := Has.at Ha2 hin2 rfl
  obtain ⟨cl3, Ar3, qa3, Sa3, Na3, Ha3, Ga3⟩ := id (P8)
  have hin3 : ¬ ((0 : Int32) < 0 ∨ cl3.slots.size ≤ ((0 : Int32)).toNatClampNeg) := inb_of Sa3 ⟨(by decide : ¬ ((0 : Int32) < (0 : Int32))), (own_glt2 (n := 0) (k := (0 : Int32)) (by decide) (by have q0 := bd_p10; omega))⟩
  have hat3 : cl3.slots[((0 : Int32)).toNatClampNeg]? = some (.long q11) := Has.at Ha3 hin3 rfl
  obtain ⟨fs, hr, hrun, hended, hW, hsame⟩ := X1.leave (v := some (.long q11)) (fun h => by rw [hret] at h; cases h)
  refine ⟨_, _, pre0 _ ?_, hrun, hended, _, _, rfl, ?_, ⟨_, rfl⟩, hW, hsame.mono (by decide) (by decide)⟩
  ·
    show Steps p.tables e below (s₁.setTop (mkF m 0 #[.val (.ref o1), .val (.int (0 : Int32))] [])) _
    refine XS.aloadN X0.here hx rfl (hb hby d6_0) rfl rfl ?_
    refine st1 _ ?_
    refine XS.iloadN X1.here hx rfl (hb hby d6_4) rfl ?_
    refine XS.bipush X1.here hx rfl (hb hby d6_5) ?_
    refine XS.iushr X1.here hx rfl (hb hby d6_7) rfl ?_
    refine X1.aaload hx (j := (0 : Int32)) (v := (.ref o6)) (by rw [e1]; exact Ar2.1) (State.isArrayOf_alike hZ.alike Ar2.2.1) rfl Ar2.2.2 hin2 hat2 (g := (mkF m 8 #[.val (.ref o1), .val (.int (0 : Int32))] [(.int (0 : Int32)), (.ref o4)])) rfl rfl (hb hby d6_8) _ ?_
    refine XS.iconst X1.here hx rfl (hb hby d6_9) ?_
    refine XS.iloadN X1.here hx rfl (hb hby d6_10) rfl ?_
    refine XS.sipush X1.here hx rfl (hb hby d6_11) ?_
    refine XS.iand X1.here hx rfl (hb hby d6_14) rfl ?_
    refine XS.imul X1.here hx rfl (hb hby d6_15) rfl ?_
    refine X1.laload hx (j := (0 : Int32)) (v := (.long q11)) (by rw [e1]; exact Ar3.1) (State.isArrayOf_alike hZ.alike Ar3.2.1) Ar3.2.2 hin3 hat3 (g := (mkF m 16 #[.val (.ref o1), .val (.int (0 : Int32))] [(.int (0 : Int32)), (.ref o6)])) rfl rfl (hb hby d6_16) _ ?_
    show Steps p.tables e below (T1.setTop (mkF m 17 #[.val (.ref o1), .val (.int (0 : Int32))] [(.long q11)])) _
    exact retOut X1 hx hret rfl (Or.inr (Or.inl ⟨rfl, rfl, _, rfl⟩)) (hb hby d6_17) hr
  ·
    show Q36 Z o1 o4 o6 o7 o8 kc5 p10 p18 p20 kc9 q11 q12 q13 q14 q15 q16 h0 n0 _ T1.heap _
    rw [e1]
    exact ⟨rfl, N0, rfl⟩
theorem ef37 (m : MethodId) (x0 : Addr) (x1 : Int32) : entryFrame m #[(.ref x0), (.int x1)] 2 = mkF m 0 #[.val (.ref x0), .val (.int x1)] [] := by first | (simp [entryFrame, mkF, argsToLocals, Value.category]; done) | rfl
def Q37 (Z : State) (o1 : Addr) (o4 : Addr) (o6 : Addr) (o7 : Addr) (o8 : Addr) (kc5 : ClassId) (p10 : Int32) (p18 : Int32) (p20 : Int32) (kc9 : ClassId) (q11 : Int64) (q12 : Int64) (q13 : Int64) (q14 : Int64) (q15 : Int64) (q16 : Int64) (h0 : Heap) (n0 : Nat) (v : Option Value) (h : Heap) (L : List Loc) : Prop :=
  (v = some (.long q12) ∧ Fr n0 L ∧ h = h0)
set_option maxRecDepth 65536 in
set_option maxHeartbeats 40000000 in
theorem rm37 (l : Launch) (Z : State) (a0 : Array Value) (hw : ∀ d ∈ tables_1, d.before a0 Z = true) (ws : List Jvm.Cond) (o1 : Addr) (o4 : Addr) (o6 : Addr) (o7 : Addr) (o8 : Addr) (kc5 : ClassId) (p10 : Int32) (p18 : Int32) (p20 : Int32) (kc9 : ClassId) (q11 : Int64) (q12 : Int64) (q13 : Int64) (q14 : Int64) (q15 : Int64) (q16 : Int64) (h0 : Heap) (n0 : Nat) (O0 : Old Z n0 h0) (g_o1 : n0 ≤ o1) (g_o4 : n0 ≤ o4) (g_o6 : n0 ≤ o6) (g_o7 : n0 ≤ o7) (g_o8 : n0 ≤ o8) (Ov_kc5 : OvrA Z kc5 .long "[J") (bd_p10 : 6 ≤ p10.toInt ∧ p10.toInt ≤ 2147483647) (bd_p18 : 6 ≤ p18.toInt ∧ p18.toInt ≤ 2147483647) (bd_p20 : 2 ≤ p20.toInt ∧ p20.toInt ≤ 2147483647) (P4 : Fld Z h0 o1 "com/example/driftless/driftless/DeleteOperations" "targets" "[[J" (.ref o4)) (P6 : Arv Z h0 o4 kc5 (.array .long) (3 : Int32) [(.ref o6), (.ref o7), (.ref o8)] .null) (P8 : Arv Z h0 o6 kc9 .long p10 [(.long q11), (.long q12), (.long q13), (.long q14), (.long q15), (.long q16)] (.long (0 : Int64))) :
    MetFree l yn7 (head1 (Jvm.Cond.code yn7 prog_7_method_7_code 2 (some .long) :: ws) ({ frames := 0, cells := 0, slots := 0, locals := 0 } : Room)) (fun a U => a = #[(.ref o1), (.int (0 : Int32))] ∧ Z.Warmed39 U.vm ∧ U.heap = h0) (fun _ _ _ _ _ => True) (fun _ U o U' => ∃ v L, o = .returned v ∧ Q37 Z o1 o4 o6 o7 o8 kc5 p10 p18 p20 kc9 q11 q12 q13 q14 q15 q16 h0 n0 v U'.heap L ∧ FrameEnd U o U' L ({ frames := 0, cells := 0, slots := 0, locals := 0 } : Room).cells ({ frames := 0, cells := 0, slots := 0, locals := 0 } : Room).slots) := by
  refine MetFree.of_bodySF (plainFor_of_name pn2) hisR ?_
  intro p e s m args below meth c s₁ Bd hml0 hP hK
  obtain ⟨rfl, hZ, hh⟩ := hP
  have hx := Bd.exec
  have hby := Bd.bytes
  have hml : c.maxLocals = 2 := hml0
  have hown : s.vm.findClass "com/example/driftless/driftless/DeleteOperations" = some m.cls := findClass_of_methodNamed Bd.named
  have hnm := (name_of_methodNamed Bd.named Bd.method).1
  have hret := Bd.returns
  have hlk : meth.locks = false := BodyLoose.notSynchronized Bd
  have X0 : Stand p l e ({ frames := 0, cells := 0, slots := 0, locals := 0 } : Room) s m #[(.ref o1), (.int (0 : Int32))] below meth c s₁ [] 0 0 := Stand.of_body Bd
  have e0 : s₁.heap = h0 := by rw [← hh, Bd.state]; rfl
  have N0 := Fr.nil n0
  have pre0 : ∀ t, Steps p.tables e below (s₁.setTop (mkF m 0 #[.val (.ref o1), .val (.int (0 : Int32))] [])) t → Steps p.tables e below (s₁.setTop (entryFrame m #[(.ref o1), (.int (0 : Int32))] 2)) t := fun t k => castTop (ef37 m o1 (0 : Int32)) k
  obtain ⟨T1, X1, e1, st1⟩ := getF X0 hx hZ hown (host := "") (Or.inl (own_w hw 28 rfl)) Via.refl e0 P4 (g := (mkF m 1 #[.val (.ref o1), .val (.int (0 : Int32))] [(.ref o1)])) rfl rfl (hb hby d7_1)
  obtain ⟨cl2, Ar2, qa2, Sa2, Na2, Ha2, Ga2⟩ := id (P6)
  have hin2 : ¬ ((0 : Int32) < 0 ∨ cl2.slots.size ≤ ((0 : Int32)).toNatClampNeg) := inb_of Sa2 ⟨by decide, by decide⟩
  have hat2 : cl2.slots[((0 : Int32)).toNatClampNeg]? = some (.ref o6) := Has.at Ha2 hin2 rfl
  obtain ⟨cl3, Ar3, qa3, Sa3, Na3, Ha3, Ga3⟩ := id (P8)
  have hin3 : ¬ ((1 : Int32) < 0 ∨ cl3.slots.size ≤ ((1 : Int32)).toNatClampNeg) := inb_of Sa3 ⟨(by decide : ¬ ((1 : Int32) < (0 : Int32))), (own_glt2 (n := 1) (k := (1 : Int32)) (by decide) (by have q0 := bd_p10; omega))⟩
  have hat3 : cl3.slots[((1 : Int32)).toNatClampNeg]? = some (.long q12) := Has.at Ha3 hin3 rfl
  obtain ⟨fs, hr, hrun, hended, hW, hsame⟩ := X1.leave (v := some (.long q12)) (fun h => by rw [hret] at h; cases h)
  refine ⟨_, _, pre0 _ ?_, hrun, hended, _, _, rfl, ?_, ⟨_, rfl⟩, hW, hsame.mono (by decide) (by decide)⟩
  ·
    show Steps p.tables e below (s₁.setTop (mkF m 0 #[.val (.ref o1), .val (.int (0 : Int32))] [])) _
    refine XS.aloadN X0.here hx rfl (hb hby d7_0) rfl rfl ?_
    refine st1 _ ?_
    refine XS.iloadN X1.here hx rfl (hb hby d7_4) rfl ?_
    refine XS.bipush X1.here hx rfl (hb hby d7_5) ?_
    refine XS.iushr X1.here hx rfl (hb hby d7_7) rfl ?_
    refine X1.aaload hx (j := (0 : Int32)) (v := (.ref o6)) (by rw [e1]; exact Ar2.1) (State.isArrayOf_alike hZ.alike Ar2.2.1) rfl Ar2.2.2 hin2 hat2 (g := (mkF m 8 #[.val (.ref o1), .val (.int (0 : Int32))] [(.int (0 : Int32)), (.ref o4)])) rfl rfl (hb hby d7_8) _ ?_
    refine XS.iconst X1.here hx rfl (hb hby d7_9) ?_
    refine XS.iloadN X1.here hx rfl (hb hby d7_10) rfl ?_
    refine XS.sipush X1.here hx rfl (hb hby d7_11) ?_
    refine XS.iand X1.here hx rfl (hb hby d7_14) rfl ?_
    refine XS.imul X1.here hx rfl (hb hby d7_15) rfl ?_
    refine XS.iconst X1.here hx rfl (hb hby d7_16) ?_
    refine XS.iadd X1.here hx rfl (hb hby d7_17) rfl ?_
    refine X1.laload hx (j := (1 : Int32)) (v := (.long q12)) (by rw [e1]; exact Ar3.1) (State.isArrayOf_alike hZ.alike Ar3.2.1) Ar3.2.2 hin3 hat3 (g := (mkF m 18 #[.val (.ref o1), .val (.int (0 : Int32))] [(.int (1 : Int32)), (.ref o6)])) rfl rfl (hb hby d7_18) _ ?_
    show Steps p.tables e below (T1.setTop (mkF m 19 #[.val (.ref o1), .val (.int (0 : Int32))] [(.long q12)])) _
    exact retOut X1 hx hret rfl (Or.inr (Or.inl ⟨rfl, rfl, _, rfl⟩)) (hb hby d7_19) hr
  ·
    show Q37 Z o1 o4 o6 o7 o8 kc5 p10 p18 p20 kc9 q11 q12 q13 q14 q15 q16 h0 n0 _ T1.heap _
    rw [e1]
    exact ⟨rfl, N0, rfl⟩
theorem ef38 (m : MethodId) (x0 : Addr) (x1 : Int32) : entryFrame m #[(.ref x0), (.int x1)] 2 = mkF m 0 #[.val (.ref x0), .val (.int x1)] [] := by first | (simp [entryFrame, mkF, argsToLocals, Value.category]; done) | rfl
def Q38 (Z : State) (o1 : Addr) (o4 : Addr) (o6 : Addr) (o7 : Addr) (o8 : Addr) (kc5 : ClassId) (p10 : Int32) (p18 : Int32) (p20 : Int32) (kc9 : ClassId) (q11 : Int64) (q12 : Int64) (q13 : Int64) (q14 : Int64) (q15 : Int64) (q16 : Int64) (h0 : Heap) (n0 : Nat) (v : Option Value) (h : Heap) (L : List Loc) : Prop :=
  (v = some (.long q13) ∧ Fr n0 L ∧ h = h0)
set_option maxRecDepth 65536 in
set_option maxHeartbeats 40000000 in
theorem rm38 (l : Launch) (Z : State) (a0 : Array Value) (hw : ∀ d ∈ tables_1, d.before a0 Z = true) (ws : List Jvm.Cond) (o1 : Addr) (o4 : Addr) (o6 : Addr) (o7 : Addr) (o8 : Addr) (kc5 : ClassId) (p10 : Int32) (p18 : Int32) (p20 : Int32) (kc9 : ClassId) (q11 : Int64) (q12 : Int64) (q13 : Int64) (q14 : Int64) (q15 : Int64) (q16 : Int64) (h0 : Heap) (n0 : Nat) (O0 : Old Z n0 h0) (g_o1 : n0 ≤ o1) (g_o4 : n0 ≤ o4) (g_o6 : n0 ≤ o6) (g_o7 : n0 ≤ o7) (g_o8 : n0 ≤ o8) (Ov_kc5 : OvrA Z kc5 .long "[J") (bd_p10 : 6 ≤ p10.toInt ∧ p10.toInt ≤ 2147483647) (bd_p18 : 6 ≤ p18.toInt ∧ p18.toInt ≤ 2147483647) (bd_p20 : 2 ≤ p20.toInt ∧ p20.toInt ≤ 2147483647) (P4 : Fld Z h0 o1 "com/example/driftless/driftless/DeleteOperations" "targets" "[[J" (.ref o4)) (P6 : Arv Z h0 o4 kc5 (.array .long) (3 : Int32) [(.ref o6), (.ref o7), (.ref o8)] .null) (P8 : Arv Z h0 o6 kc9 .long p10 [(.long q11), (.long q12), (.long q13), (.long q14), (.long q15), (.long q16)] (.long (0 : Int64))) :
    MetFree l yn6 (head1 (Jvm.Cond.code yn6 prog_7_method_6_code 2 (some .long) :: ws) ({ frames := 0, cells := 0, slots := 0, locals := 0 } : Room)) (fun a U => a = #[(.ref o1), (.int (1 : Int32))] ∧ Z.Warmed39 U.vm ∧ U.heap = h0) (fun _ _ _ _ _ => True) (fun _ U o U' => ∃ v L, o = .returned v ∧ Q38 Z o1 o4 o6 o7 o8 kc5 p10 p18 p20 kc9 q11 q12 q13 q14 q15 q16 h0 n0 v U'.heap L ∧ FrameEnd U o U' L ({ frames := 0, cells := 0, slots := 0, locals := 0 } : Room).cells ({ frames := 0, cells := 0, slots := 0, locals := 0 } : Room).slots) := by
  refine MetFree.of_bodySF (plainFor_of_name pn2) hisR ?_
  intro p e s m args below meth c s₁ Bd hml0 hP hK
  obtain ⟨rfl, hZ, hh⟩ := hP
  have hx := Bd.exec
  have hby := Bd.bytes
  have hml : c.maxLocals = 2 := hml0
  have hown : s.vm.findClass "com/example/driftless/driftless/DeleteOperations" = some m.cls := findClass_of_methodNamed Bd.named
  have hnm := (name_of_methodNamed Bd.named Bd.method).1
  have hret := Bd.returns
  have hlk : meth.locks = false := BodyLoose.notSynchronized Bd
  have X0 : Stand p l e ({ frames := 0, cells := 0, slots := 0, locals := 0 } : Room) s m #[(.ref o1), (.int (1 : Int32))] below meth c s₁ [] 0 0 := Stand.of_body Bd
  have e0 : s₁.heap = h0 := by rw [← hh, Bd.state]; rfl
  have N0 := Fr.nil n0
  have pre0 : ∀ t, Steps p.tables e below (s₁.setTop (mkF m 0 #[.val (.ref o1), .val (.int (1 : Int32))] [])) t → Steps p.tables e below (s₁.setTop (entryFrame m #[(.ref o1), (.int (1 : Int32))] 2)) t := fun t k => castTop (ef38 m o1 (1 : Int32)) k
  obtain ⟨T1, X1, e1, st1⟩ := getF X0 hx hZ hown (host := "") (Or.inl (own_w hw 28 rfl)) Via.refl e0 P4 (g := (mkF m 1 #[.val (.ref o1), .val (.int (1 : Int32))] [(.ref o1)])) rfl rfl (hb hby d6_1)
  obtain ⟨cl2, Ar2, qa2, Sa2, Na2, Ha2, Ga2⟩ := id (P6)
  have hin2 : ¬ ((0 : Int32) < 0 ∨ cl2.slots.size ≤ ((0 : Int32)).toNatClampNeg) := inb_of Sa2 ⟨by decide, by decide⟩
  have hat2 : cl2.slots[((0 : Int32)).toNatClampNeg]? = some (.ref o6) := Has.at Ha2 hin2 rfl
  obtain ⟨cl3, Ar3, qa3, Sa3, Na3, Ha3, Ga3⟩ := id (P8)
  have hin3 : ¬ ((2 : Int32) < 0 ∨ cl3.slots.size ≤ ((2 : Int32)).toNatClampNeg) := inb_of Sa3 ⟨(by decide : ¬ ((2 : Int32) < (0 : Int32))), (own_glt2 (n := 2) (k := (2 : Int32)) (by decide) (by have q0 := bd_p10; omega))⟩
  have hat3 : cl3.slots[((2 : Int32)).toNatClampNeg]? = some (.long q13) := Has.at Ha3 hin3 rfl
  obtain ⟨fs, hr, hrun, hended, hW, hsame⟩ := X1.leave (v := some (.long q13)) (fun h => by rw [hret] at h; cases h)
  refine ⟨_, _, pre0 _ ?_, hrun, hended, _, _, rfl, ?_, ⟨_, rfl⟩, hW, hsame.mono (by decide) (by decide)⟩
  ·
    show Steps p.tables e below (s₁.setTop (mkF m 0 #[.val (.ref o1), .val (.int (1 : Int32))] [])) _
    refine XS.aloadN X0.here hx rfl (hb hby d6_0) rfl rfl ?_
    refine st1 _ ?_
    refine XS.iloadN X1.here hx rfl (hb hby d6_4) rfl ?_
    refine XS.bipush X1.here hx rfl (hb hby d6_5) ?_
    refine XS.iushr X1.here hx rfl (hb hby d6_7) rfl ?_
    refine X1.aaload hx (j := (0 : Int32)) (v := (.ref o6)) (by rw [e1]; exact Ar2.1) (State.isArrayOf_alike hZ.alike Ar2.2.1) rfl Ar2.2.2 hin2 hat2 (g := (mkF m 8 #[.val (.ref o1), .val (.int (1 : Int32))] [(.int (0 : Int32)), (.ref o4)])) rfl rfl (hb hby d6_8) _ ?_
    refine XS.iconst X1.here hx rfl (hb hby d6_9) ?_
    refine XS.iloadN X1.here hx rfl (hb hby d6_10) rfl ?_
    refine XS.sipush X1.here hx rfl (hb hby d6_11) ?_
    refine XS.iand X1.here hx rfl (hb hby d6_14) rfl ?_
    refine XS.imul X1.here hx rfl (hb hby d6_15) rfl ?_
    refine X1.laload hx (j := (2 : Int32)) (v := (.long q13)) (by rw [e1]; exact Ar3.1) (State.isArrayOf_alike hZ.alike Ar3.2.1) Ar3.2.2 hin3 hat3 (g := (mkF m 16 #[.val (.ref o1), .val (.int (1 : Int32))] [(.int (2 : Int32)), (.ref o6)])) rfl rfl (hb hby d6_16) _ ?_
    show Steps p.tables e below (T1.setTop (mkF m 17 #[.val (.ref o1), .val (.int (1 : Int32))] [(.long q13)])) _
    exact retOut X1 hx hret rfl (Or.inr (Or.inl ⟨rfl, rfl, _, rfl⟩)) (hb hby d6_17) hr
  ·
    show Q38 Z o1 o4 o6 o7 o8 kc5 p10 p18 p20 kc9 q11 q12 q13 q14 q15 q16 h0 n0 _ T1.heap _
    rw [e1]
    exact ⟨rfl, N0, rfl⟩
theorem ef39 (m : MethodId) (x0 : Addr) (x1 : Int32) : entryFrame m #[(.ref x0), (.int x1)] 2 = mkF m 0 #[.val (.ref x0), .val (.int x1)] [] := by first | (simp [entryFrame, mkF, argsToLocals, Value.category]; done) | rfl
def Q39 (Z : State) (o1 : Addr) (o4 : Addr) (o6 : Addr) (o7 : Addr) (o8 : Addr) (kc5 : ClassId) (p10 : Int32) (p18 : Int32) (p20 : Int32) (kc9 : ClassId) (q11 : Int64) (q12 : Int64) (q13 : Int64) (q14 : Int64) (q15 : Int64) (q16 : Int64) (h0 : Heap) (n0 : Nat) (v : Option Value) (h : Heap) (L : List Loc) : Prop :=
  (v = some (.long q14) ∧ Fr n0 L ∧ h = h0)
set_option maxRecDepth 65536 in
set_option maxHeartbeats 40000000 in
theorem rm39 (l : Launch) (Z : State) (a0 : Array Value) (hw : ∀ d ∈ tables_1, d.before a0 Z = true) (ws : List Jvm.Cond) (o1 : Addr) (o4 : Addr) (o6 : Addr) (o7 : Addr) (o8 : Addr) (kc5 : ClassId) (p10 : Int32) (p18 : Int32) (p20 : Int32) (kc9 : ClassId) (q11 : Int64) (q12 : Int64) (q13 : Int64) (q14 : Int64) (q15 : Int64) (q16 : Int64) (h0 : Heap) (n0 : Nat) (O0 : Old Z n0 h0) (g_o1 : n0 ≤ o1) (g_o4 : n0 ≤ o4) (g_o6 : n0 ≤ o6) (g_o7 : n0 ≤ o7) (g_o8 : n0 ≤ o8) (Ov_kc5 : OvrA Z kc5 .long "[J") (bd_p10 : 6 ≤ p10.toInt ∧ p10.toInt ≤ 2147483647) (bd_p18 : 6 ≤ p18.toInt ∧ p18.toInt ≤ 2147483647) (bd_p20 : 2 ≤ p20.toInt ∧ p20.toInt ≤ 2147483647) (P4 : Fld Z h0 o1 "com/example/driftless/driftless/DeleteOperations" "targets" "[[J" (.ref o4)) (P6 : Arv Z h0 o4 kc5 (.array .long) (3 : Int32) [(.ref o6), (.ref o7), (.ref o8)] .null) (P8 : Arv Z h0 o6 kc9 .long p10 [(.long q11), (.long q12), (.long q13), (.long q14), (.long q15), (.long q16)] (.long (0 : Int64))) :
    MetFree l yn7 (head1 (Jvm.Cond.code yn7 prog_7_method_7_code 2 (some .long) :: ws) ({ frames := 0, cells := 0, slots := 0, locals := 0 } : Room)) (fun a U => a = #[(.ref o1), (.int (1 : Int32))] ∧ Z.Warmed39 U.vm ∧ U.heap = h0) (fun _ _ _ _ _ => True) (fun _ U o U' => ∃ v L, o = .returned v ∧ Q39 Z o1 o4 o6 o7 o8 kc5 p10 p18 p20 kc9 q11 q12 q13 q14 q15 q16 h0 n0 v U'.heap L ∧ FrameEnd U o U' L ({ frames := 0, cells := 0, slots := 0, locals := 0 } : Room).cells ({ frames := 0, cells := 0, slots := 0, locals := 0 } : Room).slots) := by
  refine MetFree.of_bodySF (plainFor_of_name pn2) hisR ?_
  intro p e s m args below meth c s₁ Bd hml0 hP hK
  obtain ⟨rfl, hZ, hh⟩ := hP
  have hx := Bd.exec
  have hby := Bd.bytes
  have hml : c.maxLocals = 2 := hml0
  have hown : s.vm.findClass "com/example/driftless/driftless/DeleteOperations" = some m.cls := findClass_of_methodNamed Bd.named
  have hnm := (name_of_methodNamed Bd.named Bd.method).1
  have hret := Bd.returns
  have hlk : meth.locks = false := BodyLoose.notSynchronized Bd
  have X0 : Stand p l e ({ frames := 0, cells := 0, slots := 0, locals := 0 } : Room) s m #[(.ref o1), (.int (1 : Int32))] below meth c s₁ [] 0 0 := Stand.of_body Bd
  have e0 : s₁.heap = h0 := by rw [← hh, Bd.state]; rfl
  have N0 := Fr.nil n0
  have pre0 : ∀ t, Steps p.tables e below (s₁.setTop (mkF m 0 #[.val (.ref o1), .val (.int (1 : Int32))] [])) t → Steps p.tables e below (s₁.setTop (entryFrame m #[(.ref o1), (.int (1 : Int32))] 2)) t := fun t k => castTop (ef39 m o1 (1 : Int32)) k
  obtain ⟨T1, X1, e1, st1⟩ := getF X0 hx hZ hown (host := "") (Or.inl (own_w hw 28 rfl)) Via.refl e0 P4 (g := (mkF m 1 #[.val (.ref o1), .val (.int (1 : Int32))] [(.ref o1)])) rfl rfl (hb hby d7_1)
  obtain ⟨cl2, Ar2, qa2, Sa2, Na2, Ha2, Ga2⟩ := id (P6)
  have hin2 : ¬ ((0 : Int32) < 0 ∨ cl2.slots.size ≤ ((0 : Int32)).toNatClampNeg) := inb_of Sa2 ⟨by decide, by decide⟩
  have hat2 : cl2.slots[((0 : Int32)).toNatClampNeg]? = some (.ref o6) := Has.at Ha2 hin2 rfl
  obtain ⟨cl3, Ar3, qa3, Sa3, Na3, Ha3, Ga3⟩ := id (P8)
  have hin3 : ¬ ((3 : Int32) < 0 ∨ cl3.slots.size ≤ ((3 : Int32)).toNatClampNeg) := inb_of Sa3 ⟨(by decide : ¬ ((3 : Int32) < (0 : Int32))), (own_glt2 (n := 3) (k := (3 : Int32)) (by decide) (by have q0 := bd_p10; omega))⟩
  have hat3 : cl3.slots[((3 : Int32)).toNatClampNeg]? = some (.long q14) := Has.at Ha3 hin3 rfl
  obtain ⟨fs, hr, hrun, hended, hW, hsame⟩ := X1.leave (v := some (.long q14)) (fun h => by rw [hret] at h; cases h)
  refine ⟨_, _, pre0 _ ?_, hrun, hended, _, _, rfl, ?_, ⟨_, rfl⟩, hW, hsame.mono (by decide) (by decide)⟩
  ·
    show Steps p.tables e below (s₁.setTop (mkF m 0 #[.val (.ref o1), .val (.int (1 : Int32))] [])) _
    refine XS.aloadN X0.here hx rfl (hb hby d7_0) rfl rfl ?_
    refine st1 _ ?_
    refine XS.iloadN X1.here hx rfl (hb hby d7_4) rfl ?_
    refine XS.bipush X1.here hx rfl (hb hby d7_5) ?_
    refine XS.iushr X1.here hx rfl (hb hby d7_7) rfl ?_
    refine X1.aaload hx (j := (0 : Int32)) (v := (.ref o6)) (by rw [e1]; exact Ar2.1) (State.isArrayOf_alike hZ.alike Ar2.2.1) rfl Ar2.2.2 hin2 hat2 (g := (mkF m 8 #[.val (.ref o1), .val (.int (1 : Int32))] [(.int (0 : Int32)), (.ref o4)])) rfl rfl (hb hby d7_8) _ ?_
    refine XS.iconst X1.here hx rfl (hb hby d7_9) ?_
    refine XS.iloadN X1.here hx rfl (hb hby d7_10) rfl ?_
    refine XS.sipush X1.here hx rfl (hb hby d7_11) ?_
    refine XS.iand X1.here hx rfl (hb hby d7_14) rfl ?_
    refine XS.imul X1.here hx rfl (hb hby d7_15) rfl ?_
    refine XS.iconst X1.here hx rfl (hb hby d7_16) ?_
    refine XS.iadd X1.here hx rfl (hb hby d7_17) rfl ?_
    refine X1.laload hx (j := (3 : Int32)) (v := (.long q14)) (by rw [e1]; exact Ar3.1) (State.isArrayOf_alike hZ.alike Ar3.2.1) Ar3.2.2 hin3 hat3 (g := (mkF m 18 #[.val (.ref o1), .val (.int (1 : Int32))] [(.int (3 : Int32)), (.ref o6)])) rfl rfl (hb hby d7_18) _ ?_
    show Steps p.tables e below (T1.setTop (mkF m 19 #[.val (.ref o1), .val (.int (1 : Int32))] [(.long q14)])) _
    exact retOut X1 hx hret rfl (Or.inr (Or.inl ⟨rfl, rfl, _, rfl⟩)) (hb hby d7_19) hr
  ·
    show Q39 Z o1 o4 o6 o7 o8 kc5 p10 p18 p20 kc9 q11 q12 q13 q14 q15 q16 h0 n0 _ T1.heap _
    rw [e1]
    exact ⟨rfl, N0, rfl⟩
theorem ef40 (m : MethodId) (x0 : Addr) (x1 : Int32) : entryFrame m #[(.ref x0), (.int x1)] 2 = mkF m 0 #[.val (.ref x0), .val (.int x1)] [] := by first | (simp [entryFrame, mkF, argsToLocals, Value.category]; done) | rfl
def Q40 (Z : State) (o1 : Addr) (o4 : Addr) (o6 : Addr) (o7 : Addr) (o8 : Addr) (kc5 : ClassId) (p10 : Int32) (p18 : Int32) (p20 : Int32) (kc9 : ClassId) (q11 : Int64) (q12 : Int64) (q13 : Int64) (q14 : Int64) (q15 : Int64) (q16 : Int64) (h0 : Heap) (n0 : Nat) (v : Option Value) (h : Heap) (L : List Loc) : Prop :=
  (v = some (.long q15) ∧ Fr n0 L ∧ h = h0)
set_option maxRecDepth 65536 in
set_option maxHeartbeats 40000000 in
theorem rm40 (l : Launch) (Z : State) (a0 : Array Value) (hw : ∀ d ∈ tables_1, d.before a0 Z = true) (ws : List Jvm.Cond) (o1 : Addr) (o4 : Addr) (o6 : Addr) (o7 : Addr) (o8 : Addr) (kc5 : ClassId) (p10 : Int32) (p18 : Int32) (p20 : Int32) (kc9 : ClassId) (q11 : Int64) (q12 : Int64) (q13 : Int64) (q14 : Int64) (q15 : Int64) (q16 : Int64) (h0 : Heap) (n0 : Nat) (O0 : Old Z n0 h0) (g_o1 : n0 ≤ o1) (g_o4 : n0 ≤ o4) (g_o6 : n0 ≤ o6) (g_o7 : n0 ≤ o7) (g_o8 : n0 ≤ o8) (Ov_kc5 : OvrA Z kc5 .long "[J") (bd_p10 : 6 ≤ p10.toInt ∧ p10.toInt ≤ 2147483647) (bd_p18 : 6 ≤ p18.toInt ∧ p18.toInt ≤ 2147483647) (bd_p20 : 2 ≤ p20.toInt ∧ p20.toInt ≤ 2147483647) (P4 : Fld Z h0 o1 "com/example/driftless/driftless/DeleteOperations" "targets" "[[J" (.ref o4)) (P6 : Arv Z h0 o4 kc5 (.array .long) (3 : Int32) [(.ref o6), (.ref o7), (.ref o8)] .null) (P8 : Arv Z h0 o6 kc9 .long p10 [(.long q11), (.long q12), (.long q13), (.long q14), (.long q15), (.long q16)] (.long (0 : Int64))) :
    MetFree l yn6 (head1 (Jvm.Cond.code yn6 prog_7_method_6_code 2 (some .long) :: ws) ({ frames := 0, cells := 0, slots := 0, locals := 0 } : Room)) (fun a U => a = #[(.ref o1), (.int (2 : Int32))] ∧ Z.Warmed39 U.vm ∧ U.heap = h0) (fun _ _ _ _ _ => True) (fun _ U o U' => ∃ v L, o = .returned v ∧ Q40 Z o1 o4 o6 o7 o8 kc5 p10 p18 p20 kc9 q11 q12 q13 q14 q15 q16 h0 n0 v U'.heap L ∧ FrameEnd U o U' L ({ frames := 0, cells := 0, slots := 0, locals := 0 } : Room).cells ({ frames := 0, cells := 0, slots := 0, locals := 0 } : Room).slots) := by
  refine MetFree.of_bodySF (plainFor_of_name pn2) hisR ?_
  intro p e s m args below meth c s₁ Bd hml0 hP hK
  obtain ⟨rfl, hZ, hh⟩ := hP
  have hx := Bd.exec
  have hby := Bd.bytes
  have hml : c.maxLocals = 2 := hml0
  have hown : s.vm.findClass "com/example/driftless/driftless/DeleteOperations" = some m.cls := findClass_of_methodNamed Bd.named
  have hnm := (name_of_methodNamed Bd.named Bd.method).1
  have hret := Bd.returns
  have hlk : meth.locks = false := BodyLoose.notSynchronized Bd
  have X0 : Stand p l e ({ frames := 0, cells := 0, slots := 0, locals := 0 } : Room) s m #[(.ref o1), (.int (2 : Int32))] below meth c s₁ [] 0 0 := Stand.of_body Bd
  have e0 : s₁.heap = h0 := by rw [← hh, Bd.state]; rfl
  have N0 := Fr.nil n0
  have pre0 : ∀ t, Steps p.tables e below (s₁.setTop (mkF m 0 #[.val (.ref o1), .val (.int (2 : Int32))] [])) t → Steps p.tables e below (s₁.setTop (entryFrame m #[(.ref o1), (.int (2 : Int32))] 2)) t := fun t k => castTop (ef40 m o1 (2 : Int32)) k
  obtain ⟨T1, X1, e1, st1⟩ := getF X0 hx hZ hown (host := "") (Or.inl (own_w hw 28 rfl)) Via.refl e0 P4 (g := (mkF m 1 #[.val (.ref o1), .val (.int (2 : Int32))] [(.ref o1)])) rfl rfl (hb hby d6_1)
  obtain ⟨cl2, Ar2, qa2, Sa2, Na2, Ha2, Ga2⟩ := id (P6)
  have hin2 : ¬ ((0 : Int32) < 0 ∨ cl2.slots.size ≤ ((0 : Int32)).toNatClampNeg) := inb_of Sa2 ⟨by decide, by decide⟩
  have hat2 : cl2.slots[((0 : Int32)).toNatClampNeg]? = some (.ref o6) := Has.at Ha2 hin2 rfl
  obtain ⟨cl3, Ar3, qa3, Sa3, Na3, Ha3, Ga3⟩ := id (P8)
  have hin3 : ¬ ((4 : Int32) < 0 ∨ cl3.slots.size ≤ ((4 : Int32)).toNatClampNeg) := inb_of Sa3 ⟨(by decide : ¬ ((4 : Int32) < (0 : Int32))), (own_glt2 (n := 4) (k := (4 : Int32)) (by decide) (by have q0 := bd_p10; omega))⟩
  have hat3 : cl3.slots[((4 : Int32)).toNatClampNeg]? = some (.long q15) := Has.at Ha3 hin3 rfl
  obtain ⟨fs, hr, hrun, hended, hW, hsame⟩ := X1.leave (v := some (.long q15)) (fun h => by rw [hret] at h; cases h)
  refine ⟨_, _, pre0 _ ?_, hrun, hended, _, _, rfl, ?_, ⟨_, rfl⟩, hW, hsame.mono (by decide) (by decide)⟩
  ·
    show Steps p.tables e below (s₁.setTop (mkF m 0 #[.val (.ref o1), .val (.int (2 : Int32))] [])) _
    refine XS.aloadN X0.here hx rfl (hb hby d6_0) rfl rfl ?_
    refine st1 _ ?_
    refine XS.iloadN X1.here hx rfl (hb hby d6_4) rfl ?_
    refine XS.bipush X1.here hx rfl (hb hby d6_5) ?_
    refine XS.iushr X1.here hx rfl (hb hby d6_7) rfl ?_
    refine X1.aaload hx (j := (0 : Int32)) (v := (.ref o6)) (by rw [e1]; exact Ar2.1) (State.isArrayOf_alike hZ.alike Ar2.2.1) rfl Ar2.2.2 hin2 hat2 (g := (mkF m 8 #[.val (.ref o1), .val (.int (2 : Int32))] [(.int (0 : Int32)), (.ref o4)])) rfl rfl (hb hby d6_8) _ ?_
    refine XS.iconst X1.here hx rfl (hb hby d6_9) ?_
    refine XS.iloadN X1.here hx rfl (hb hby d6_10) rfl ?_
    refine XS.sipush X1.here hx rfl (hb hby d6_11) ?_
    refine XS.iand X1.here hx rfl (hb hby d6_14) rfl ?_
    refine XS.imul X1.here hx rfl (hb hby d6_15) rfl ?_
    refine X1.laload hx (j := (4 : Int32)) (v := (.long q15)) (by rw [e1]; exact Ar3.1) (State.isArrayOf_alike hZ.alike Ar3.2.1) Ar3.2.2 hin3 hat3 (g := (mkF m 16 #[.val (.ref o1), .val (.int (2 : Int32))] [(.int (4 : Int32)), (.ref o6)])) rfl rfl (hb hby d6_16) _ ?_
    show Steps p.tables e below (T1.setTop (mkF m 17 #[.val (.ref o1), .val (.int (2 : Int32))] [(.long q15)])) _
    exact retOut X1 hx hret rfl (Or.inr (Or.inl ⟨rfl, rfl, _, rfl⟩)) (hb hby d6_17) hr
  ·
    show Q40 Z o1 o4 o6 o7 o8 kc5 p10 p18 p20 kc9 q11 q12 q13 q14 q15 q16 h0 n0 _ T1.heap _
    rw [e1]
    exact ⟨rfl, N0, rfl⟩
theorem ef41 (m : MethodId) (x0 : Addr) (x1 : Int32) : entryFrame m #[(.ref x0), (.int x1)] 2 = mkF m 0 #[.val (.ref x0), .val (.int x1)] [] := by first | (simp [entryFrame, mkF, argsToLocals, Value.category]; done) | rfl
def Q41 (Z : State) (o1 : Addr) (o4 : Addr) (o6 : Addr) (o7 : Addr) (o8 : Addr) (kc5 : ClassId) (p10 : Int32) (p18 : Int32) (p20 : Int32) (kc9 : ClassId) (q11 : Int64) (q12 : Int64) (q13 : Int64) (q14 : Int64) (q15 : Int64) (q16 : Int64) (h0 : Heap) (n0 : Nat) (v : Option Value) (h : Heap) (L : List Loc) : Prop :=
  (v = some (.long q16) ∧ Fr n0 L ∧ h = h0)
set_option maxRecDepth 65536 in
set_option maxHeartbeats 40000000 in
theorem rm41 (l : Launch) (Z : State) (a0 : Array Value) (hw : ∀ d ∈ tables_1, d.before a0 Z = true) (ws : List Jvm.Cond) (o1 : Addr) (o4 : Addr) (o6 : Addr) (o7 : Addr) (o8 : Addr) (kc5 : ClassId) (p10 : Int32) (p18 : Int32) (p20 : Int32) (kc9 : ClassId) (q11 : Int64) (q12 : Int64) (q13 : Int64) (q14 : Int64) (q15 : Int64) (q16 : Int64) (h0 : Heap) (n0 : Nat) (O0 : Old Z n0 h0) (g_o1 : n0 ≤ o1) (g_o4 : n0 ≤ o4) (g_o6 : n0 ≤ o6) (g_o7 : n0 ≤ o7) (g_o8 : n0 ≤ o8) (Ov_kc5 : OvrA Z kc5 .long "[J") (bd_p10 : 6 ≤ p10.toInt ∧ p10.toInt ≤ 2147483647) (bd_p18 : 6 ≤ p18.toInt ∧ p18.toInt ≤ 2147483647) (bd_p20 : 2 ≤ p20.toInt ∧ p20.toInt ≤ 2147483647) (P4 : Fld Z h0 o1 "com/example/driftless/driftless/DeleteOperations" "targets" "[[J" (.ref o4)) (P6 : Arv Z h0 o4 kc5 (.array .long) (3 : Int32) [(.ref o6), (.ref o7), (.ref o8)] .null) (P8 : Arv Z h0 o6 kc9 .long p10 [(.long q11), (.long q12), (.long q13), (.long q14), (.long q15), (.long q16)] (.long (0 : Int64))) :
    MetFree l yn7 (head1 (Jvm.Cond.code yn7 prog_7_method_7_code 2 (some .long) :: ws) ({ frames := 0, cells := 0, slots := 0, locals := 0 } : Room)) (fun a U => a = #[(.ref o1), (.int (2 : Int32))] ∧ Z.Warmed39 U.vm ∧ U.heap = h0) (fun _ _ _ _ _ => True) (fun _ U o U' => ∃ v L, o = .returned v ∧ Q41 Z o1 o4 o6 o7 o8 kc5 p10 p18 p20 kc9 q11 q12 q13 q14 q15 q16 h0 n0 v U'.heap L ∧ FrameEnd U o U' L ({ frames := 0, cells := 0, slots := 0, locals := 0 } : Room).cells ({ frames := 0, cells := 0, slots := 0, locals := 0 } : Room).slots) := by
  refine MetFree.of_bodySF (plainFor_of_name pn2) hisR ?_
  intro p e s m args below meth c s₁ Bd hml0 hP hK
  obtain ⟨rfl, hZ, hh⟩ := hP
  have hx := Bd.exec
  have hby := Bd.bytes
  have hml : c.maxLocals = 2 := hml0
  have hown : s.vm.findClass "com/example/driftless/driftless/DeleteOperations" = some m.cls := findClass_of_methodNamed Bd.named
  have hnm := (name_of_methodNamed Bd.named Bd.method).1
  have hret := Bd.returns
  have hlk : meth.locks = false := BodyLoose.notSynchronized Bd
  have X0 : Stand p l e ({ frames := 0, cells := 0, slots := 0, locals := 0 } : Room) s m #[(.ref o1), (.int (2 : Int32))] below meth c s₁ [] 0 0 := Stand.of_body Bd
  have e0 : s₁.heap = h0 := by rw [← hh, Bd.state]; rfl
  have N0 := Fr.nil n0
  have pre0 : ∀ t, Steps p.tables e below (s₁.setTop (mkF m 0 #[.val (.ref o1), .val (.int (2 : Int32))] [])) t → Steps p.tables e below (s₁.setTop (entryFrame m #[(.ref o1), (.int (2 : Int32))] 2)) t := fun t k => castTop (ef41 m o1 (2 : Int32)) k
  obtain ⟨T1, X1, e1, st1⟩ := getF X0 hx hZ hown (host := "") (Or.inl (own_w hw 28 rfl)) Via.refl e0 P4 (g := (mkF m 1 #[.val (.ref o1), .val (.int (2 : Int32))] [(.ref o1)])) rfl rfl (hb hby d7_1)
  obtain ⟨cl2, Ar2, qa2, Sa2, Na2, Ha2, Ga2⟩ := id (P6)
  have hin2 : ¬ ((0 : Int32) < 0 ∨ cl2.slots.size ≤ ((0 : Int32)).toNatClampNeg) := inb_of Sa2 ⟨by decide, by decide⟩
  have hat2 : cl2.slots[((0 : Int32)).toNatClampNeg]? = some (.ref o6) := Has.at Ha2 hin2 rfl
  obtain ⟨cl3, Ar3, qa3, Sa3, Na3, Ha3, Ga3⟩ := id (P8)
  have hin3 : ¬ ((5 : Int32) < 0 ∨ cl3.slots.size ≤ ((5 : Int32)).toNatClampNeg) := inb_of Sa3 ⟨(by decide : ¬ ((5 : Int32) < (0 : Int32))), (own_glt2 (n := 5) (k := (5 : Int32)) (by decide) (by have q0 := bd_p10; omega))⟩
  have hat3 : cl3.slots[((5 : Int32)).toNatClampNeg]? = some (.long q16) := Has.at Ha3 hin3 rfl
  obtain ⟨fs, hr, hrun, hended, hW, hsame⟩ := X1.leave (v := some (.long q16)) (fun h => by rw [hret] at h; cases h)
  refine ⟨_, _, pre0 _ ?_, hrun, hended, _, _, rfl, ?_, ⟨_, rfl⟩, hW, hsame.mono (by decide) (by decide)⟩
  ·
    show Steps p.tables e below (s₁.setTop (mkF m 0 #[.val (.ref o1), .val (.int (2 : Int32))] [])) _
    refine XS.aloadN X0.here hx rfl (hb hby d7_0) rfl rfl ?_
    refine st1 _ ?_
    refine XS.iloadN X1.here hx rfl (hb hby d7_4) rfl ?_
    refine XS.bipush X1.here hx rfl (hb hby d7_5) ?_
    refine XS.iushr X1.here hx rfl (hb hby d7_7) rfl ?_
    refine X1.aaload hx (j := (0 : Int32)) (v := (.ref o6)) (by rw [e1]; exact Ar2.1) (State.isArrayOf_alike hZ.alike Ar2.2.1) rfl Ar2.2.2 hin2 hat2 (g := (mkF m 8 #[.val (.ref o1), .val (.int (2 : Int32))] [(.int (0 : Int32)), (.ref o4)])) rfl rfl (hb hby d7_8) _ ?_
    refine XS.iconst X1.here hx rfl (hb hby d7_9) ?_
    refine XS.iloadN X1.here hx rfl (hb hby d7_10) rfl ?_
    refine XS.sipush X1.here hx rfl (hb hby d7_11) ?_
    refine XS.iand X1.here hx rfl (hb hby d7_14) rfl ?_
    refine XS.imul X1.here hx rfl (hb hby d7_15) rfl ?_
    refine XS.iconst X1.here hx rfl (hb hby d7_16) ?_
    refine XS.iadd X1.here hx rfl (hb hby d7_17) rfl ?_
    refine X1.laload hx (j := (5 : Int32)) (v := (.long q16)) (by rw [e1]; exact Ar3.1) (State.isArrayOf_alike hZ.alike Ar3.2.1) Ar3.2.2 hin3 hat3 (g := (mkF m 18 #[.val (.ref o1), .val (.int (2 : Int32))] [(.int (5 : Int32)), (.ref o6)])) rfl rfl (hb hby d7_18) _ ?_
    show Steps p.tables e below (T1.setTop (mkF m 19 #[.val (.ref o1), .val (.int (2 : Int32))] [(.long q16)])) _
    exact retOut X1 hx hret rfl (Or.inr (Or.inl ⟨rfl, rfl, _, rfl⟩)) (hb hby d7_19) hr
  ·
    show Q41 Z o1 o4 o6 o7 o8 kc5 p10 p18 p20 kc9 q11 q12 q13 q14 q15 q16 h0 n0 _ T1.heap _
    rw [e1]
    exact ⟨rfl, N0, rfl⟩
theorem pn3 : plainName "com/example/driftless/driftless/DeleteOperationsAppendPinLaw" = true := by first | (simp [plainName, overriddenIn]; done) | decide +kernel
theorem ef0 (m : MethodId) (x0 : Int64) (x1 : Int64) (x2 : Int64) (x3 : Int64) (x4 : Int64) (x5 : Int32) : entryFrame m #[(.long x0), (.long x1), (.long x2), (.long x3), (.long x4), (.int x5)] maxLocals = mkF m 0 #[.val (.long x0), .second, .val (.long x1), .second, .val (.long x2), .second, .val (.long x3), .second, .val (.long x4), .second, .val (.int x5), .unset, .unset, .unset, .unset] [] := by first | (simp [entryFrame, mkF, argsToLocals, Value.category, maxLocals]; done) | rfl
set_option maxRecDepth 65536 in
set_option maxHeartbeats 40000000 in
theorem rm0 (l : Launch) (Z : State) (a0 : Array Value) (hw : ∀ d ∈ tables_1, d.before a0 Z = true) (ws : List Jvm.Cond) (q1 : Int64) (q2 : Int64) (q3 : Int64) (q4 : Int64) (q5 : Int64) (p6 : Int32) (h0 : Heap) (n0 : Nat) (O0 : Old Z n0 h0) :
    MetFree l x (head1 (Jvm.Cond.code x code maxLocals ret :: ws) room_1) (fun a U => a = #[(.long q1), (.long q2), (.long q3), (.long q4), (.long q5), (.int p6)] ∧ Z.Warmed39 U.vm ∧ U.heap = h0) (fun _ _ _ _ _ => True) (fun _ U o U' => ∃ v L, o = .returned v ∧ Q0 n0 v U'.heap L ∧ FrameEnd U o U' L 24 32896) := by
  refine MetFree.of_bodySF (plainFor_of_name pn3) hisR ?_
  intro p e s m args below meth c s₁ Bd hml0 hP hK
  obtain ⟨rfl, hZ, hh⟩ := hP
  have hx := Bd.exec
  have hby := Bd.bytes
  have hml : c.maxLocals = 15 := hml0
  have hown : s.vm.findClass "com/example/driftless/driftless/DeleteOperationsAppendPinLaw" = some m.cls := findClass_of_methodNamed Bd.named
  have hnm := (name_of_methodNamed Bd.named Bd.method).1
  have hret := Bd.returns
  have hlk : meth.locks = false := BodyLoose.notSynchronized Bd
  have X0 : Stand p l e room_1 s m #[(.long q1), (.long q2), (.long q3), (.long q4), (.long q5), (.int p6)] below meth c s₁ [] 0 0 := Stand.of_body Bd
  have e0 : s₁.heap = h0 := by rw [← hh, Bd.state]; rfl
  have N0 := Fr.nil n0
  have pre0 : ∀ t, Steps p.tables e below (s₁.setTop (mkF m 0 #[.val (.long q1), .second, .val (.long q2), .second, .val (.long q3), .second, .val (.long q4), .second, .val (.long q5), .second, .val (.int p6), .unset, .unset, .unset, .unset] [])) t → Steps p.tables e below (s₁.setTop (entryFrame m #[(.long q1), (.long q2), (.long q3), (.long q4), (.long q5), (.int p6)] maxLocals)) t := fun t k => castTop (ef0 m q1 q2 q3 q4 q5 p6) k
  have pre1 : ∀ t, Steps p.tables e below (s₁.setTop (mkF m 8 #[.val (.long q1), .second, .val (.long q2), .second, .val (.long q3), .second, .val (.long q4), .second, .val (.long q5), .second, .val (.int p6), .unset, .unset, .unset, .unset] [(.int ((3 : Int32) + (p6 &&& (8191 : Int32))))])) t → Steps p.tables e below (s₁.setTop (entryFrame m #[(.long q1), (.long q2), (.long q3), (.long q4), (.long q5), (.int p6)] maxLocals)) t := fun t k => by
    refine pre0 _ ?_
    show Steps p.tables e below (s₁.setTop (mkF m 0 #[.val (.long q1), .second, .val (.long q2), .second, .val (.long q3), .second, .val (.long q4), .second, .val (.long q5), .second, .val (.int p6), .unset, .unset, .unset, .unset] [])) _
    refine XS.iconst X0.here hx rfl (hb hby at_0) ?_
    refine XS.iload X0.here hx rfl (hb hby at_1) rfl ?_
    refine XS.sipush X0.here hx rfl (hb hby at_3) ?_
    refine XS.iand X0.here hx rfl (hb hby at_6) rfl ?_
    refine XS.iadd X0.here hx rfl (hb hby at_7) rfl ?_
    exact k
  by_cases hc2 : ((3 : Int32) + (p6 &&& (8191 : Int32))) < (4097 : Int32)
  ·
    obtain ⟨T3, h3, X3, e3, E3, A3, D3, -, st3⟩ := newO X0 hx hZ hown (own_w hw 0 rfl) (own_w hw 1 rfl) (own_w hw 2 rfl) e0 (g := (mkF m 16 #[.val (.long q1), .second, .val (.long q2), .second, .val (.long q3), .second, .val (.long q4), .second, .val (.long q5), .second, .val (.int p6), .val (.int ((3 : Int32) + (p6 &&& (8191 : Int32)))), .val (.long (q1 ^^^ q4)), .second, .unset] [])) rfl (hb hby at_16) (by decide) (by decide)
    obtain ⟨b3, g3⟩ : ∃ z, z = h0.size := ⟨_, rfl⟩
    rw [← g3] at A3 D3 st3
    have M3 : h0.size ≤ h3.size := Nat.le_trans (Nat.le_refl _) E3.1
    have O3 := Old.ext O0 E3
    have sz_b3 : h0.size ≤ b3 := Nat.le_of_eq g3.symm
    have g_b3 : n0 ≤ b3 := Nat.le_trans (own_oz O0) (Nat.le_trans (Nat.le_refl _) sz_b3)
    have F3_21 : Fld Z h3 b3 "java/util/AbstractList" "modCount" "I" (.int (0 : Int32)) := D3 (Or.inl (own_w hw 21 rfl)) (ty := .int) (by decide)
    have F3_23 : Fld Z h3 b3 "com/example/driftless/driftless/DeleteOperations" "firstCounter" "J" (.long (0 : Int64)) := D3 (Or.inr (own_w hw 23 rfl)) (ty := .long) (by decide)
    have F3_25 : Fld Z h3 b3 "com/example/driftless/driftless/DeleteOperations" "replica" "J" (.long (0 : Int64)) := D3 (Or.inr (own_w hw 25 rfl)) (ty := .long) (by decide)
    have F3_29 : Fld Z h3 b3 "com/example/driftless/driftless/DeleteOperations" "targets" "[[J" .null := D3 (Or.inr (own_w hw 29 rfl)) (ty := (.array (.array .long))) (by decide)
    have F3_42 : Fld Z h3 b3 "com/example/driftless/driftless/DeleteOperations" "size" "I" (.int (0 : Int32)) := D3 (Or.inl (own_w hw 42 rfl)) (ty := .int) (by decide)
    obtain ⟨_, _, ⟨T4, L4, c4, n4⟩, -, X4, ⟨Lc4, hQ4, l4, y4, z4⟩, st4⟩ := X3.specialBack hx (y := yn3) rfl hown (mvT hZ (own_w hw 3 rfl)) (mvT hZ (own_w hw 4 rfl)) (mvT hZ (own_w hw 5 rfl)) (by decide) (backOf (W := 1) (rm4 l Z a0 hw [] b3 (((3 : Int32) + (p6 &&& (8191 : Int32)))) q5 q4 h3 n0 O3 g_b3 (by have q0 := own_add2 (x := (p6 &&& (8191 : Int32))) (k := (3 : Int32)) (n := 3) (lo := 0) (hi := 8191) (by decide) (by have q0 := own_and (x := p6) (k := (8191 : Int32)) (n := 8191) (by decide) (by decide); omega) (by decide) (by decide); have q1 := own_lt1 (n := 4097) (k := (4097 : Int32)) (by decide) hc2; omega) A3 F3_23 F3_25 F3_42 F3_29 F3_21) hZ (own_w hw 5 rfl) (own_w hw 2 rfl) (by decide) (by decide)) (g := (mkF m 26 #[.val (.long q1), .second, .val (.long q2), .second, .val (.long q3), .second, .val (.long q4), .second, .val (.long q5), .second, .val (.int p6), .val (.int ((3 : Int32) + (p6 &&& (8191 : Int32)))), .val (.long (q1 ^^^ q4)), .second, .unset] [(.int ((3 : Int32) + (p6 &&& (8191 : Int32)))), (.long q4), (.long q5), (.ref b3), (.ref b3)])) rfl (by rw [hml]; rfl) (Steps.refl _) (a := b3) (argsL := [(.long q5), (.long q4), (.int ((3 : Int32) + (p6 &&& (8191 : Int32))))]) (rest := [(.ref b3)]) (lenOf pd2 rfl) rfl (by show 2 * 0 + _ ≤ _; exact Nat.le_of_eq rfl) (hb hby at_26) (fun _ _ => ⟨rfl, e3, (by decide : 1 + 2 ≤ _), (by decide : 5 + 8193 ≤ _)⟩)
    dsimp only [Pt.U, Pt.locs, Pt.cells, Pt.slots] at X4 l4 y4 z4 st4 hQ4
    subst l4 y4 z4
    have X4 : Stand p l e room_1 s m #[(.long q1), (.long q2), (.long q3), (.long q4), (.long q5), (.int p6)] below meth c T4 _ 3 8198 := X4
    obtain ⟨z5, bz5, b6, b7, k8, k9, rfl, Nq10, K11, sz_b6, sz_b7, ne12, OV13, f14, f15, f16, f17, f18, f19, f20, f21, f22, f23⟩ := hQ4
    have N4 := Fr.app N0 Nq10
    have g_b6 : n0 ≤ b6 := Nat.le_trans (own_oz O3) sz_b6
    have g_b7 : n0 ≤ b7 := Nat.le_trans (own_oz O3) sz_b7
    have M4 : h0.size ≤ T4.heap.size := Nat.le_trans M3 K11.1
    have O4 := Old.keep O3 K11 (allS g_b3 all0)
    obtain ⟨cq24, kq24, q24a, q24b, q24c⟩ := isOf hZ rfl f14
    obtain ⟨_, _, ⟨T25, L25, c25, n25⟩, -, X25, ⟨Lc25, hQ25, l25, y25, z25⟩, st25⟩ := X4.virtualBack hx (y := yn4) (z := yn4) hown (mvT hZ (own_w hw 36 rfl)) (mvT hZ (own_w hw 37 rfl)) (notFace_of_selects (args := #[]) (mvT hZ (own_w hw 39 rfl))) (mvT hZ (own_w hw 39 rfl)) (mvT hZ (own_w hw 38 rfl)) (by decide) (backOf (W := 0) (rm5 l Z a0 hw [] b3 b6 b7 k8 (((2 : Int32) * z5)) q5 q4 k9 q1 q2 T4.heap n0 O4 g_b3 g_b6 g_b7 OV13 (by have q0 := own_dbl (x := z5) (lo := 3) (hi := 4096) (by have q0 := bz5; omega) (by decide) (by decide); omega) f14 f15 f16 f17 f18 f19 f20 f22 f23) hZ (own_w hw 40 rfl) (own_w hw 2 rfl) (by decide) (by decide)) q24a q24c (g := (mkF m 35 #[.val (.long q1), .second, .val (.long q2), .second, .val (.long q3), .second, .val (.long q4), .second, .val (.long q5), .second, .val (.int p6), .val (.int ((3 : Int32) + (p6 &&& (8191 : Int32)))), .val (.long (q1 ^^^ q4)), .second, .val (.ref b3)] [(.long q2), (.long q1), (.ref b3)])) rfl (by rw [hml]; rfl) (Steps.refl _) (argsL := [(.long q1), (.long q2)]) (rest := []) (lenOf pd3 rfl) rfl (by show 2 * 0 + _ ≤ _; exact Nat.le_of_eq rfl) (hb hby at_35) (fun _ _ => ⟨rfl, rfl, (by decide : 3 + 0 ≤ _), (by decide : 8198 + 0 ≤ _)⟩)
    dsimp only [Pt.U, Pt.locs, Pt.cells, Pt.slots] at X25 l25 y25 z25 st25 hQ25
    subst l25 y25 z25
    have X25 : Stand p l e room_1 s m #[(.long q1), (.long q2), (.long q3), (.long q4), (.long q5), (.int p6)] below meth c T25 _ 3 8198 := X25
    obtain ⟨rfl, Nq26, K27, f28, f29, f30, f31, f32, f33, f34, f35⟩ := hQ25
    have N25 := Fr.app N4 Nq26
    have M25 : h0.size ≤ T25.heap.size := Nat.le_trans M4 K27.1
    have O25 := Old.keep O4 K27 (allS g_b7 (allS g_b3 all0))
    have lt36 : b3 < h3.size := A3.lt
    have ne37 : b3 ≠ b6 := Nat.ne_of_lt (Nat.lt_of_lt_of_le lt36 sz_b6)
    have f38 := (f20.keep K27 (ninS ne12 (ninS (Ne.symm ne37) nin0)))
    obtain ⟨cq39, kq39, q39a, q39b, q39c⟩ := isOf hZ rfl f30
    obtain ⟨_, _, ⟨T40, L40, c40, n40⟩, -, X40, ⟨Lc40, hQ40, l40, y40, z40⟩, st40⟩ := X25.virtualBack hx (y := yn4) (z := yn4) hown (mvT hZ (own_w hw 36 rfl)) (mvT hZ (own_w hw 37 rfl)) (notFace_of_selects (args := #[]) (mvT hZ (own_w hw 39 rfl))) (mvT hZ (own_w hw 39 rfl)) (mvT hZ (own_w hw 38 rfl)) (by decide) (backOf (W := 0) (rm6 l Z a0 hw [] b3 b6 b7 k8 (((2 : Int32) * z5)) q5 q4 k9 q1 q2 q3 q4 T25.heap n0 O25 g_b3 g_b6 g_b7 OV13 (by have q0 := own_dbl (x := z5) (lo := 3) (hi := 4096) (by have q0 := bz5; omega) (by decide) (by decide); omega) f30 f31 f32 f33 f34 f35 f38 f28 f29) hZ (own_w hw 40 rfl) (own_w hw 2 rfl) (by decide) (by decide)) q39a q39c (g := (mkF m 44 #[.val (.long q1), .second, .val (.long q2), .second, .val (.long q3), .second, .val (.long q4), .second, .val (.long q5), .second, .val (.int p6), .val (.int ((3 : Int32) + (p6 &&& (8191 : Int32)))), .val (.long (q1 ^^^ q4)), .second, .val (.ref b3)] [(.long q4), (.long q3), (.ref b3)])) rfl (by rw [hml]; rfl) (Steps.refl _) (argsL := [(.long q3), (.long q4)]) (rest := []) (lenOf pd3 rfl) rfl (by show 2 * 0 + _ ≤ _; exact Nat.le_of_eq rfl) (hb hby at_44) (fun _ _ => ⟨rfl, rfl, (by decide : 3 + 0 ≤ _), (by decide : 8198 + 0 ≤ _)⟩)
    dsimp only [Pt.U, Pt.locs, Pt.cells, Pt.slots] at X40 l40 y40 z40 st40 hQ40
    subst l40 y40 z40
    have X40 : Stand p l e room_1 s m #[(.long q1), (.long q2), (.long q3), (.long q4), (.long q5), (.int p6)] below meth c T40 _ 3 8198 := X40
    obtain ⟨rfl, Nq41, K42, f43, f44, f45, f46, f47, f48, f49, f50⟩ := hQ40
    have N40 := Fr.app N25 Nq41
    have M40 : h0.size ≤ T40.heap.size := Nat.le_trans M25 K42.1
    have O40 := Old.keep O25 K42 (allS g_b7 (allS g_b3 all0))
    have f51 := (f38.keep K42 (ninS ne12 (ninS (Ne.symm ne37) nin0)))
    obtain ⟨cq52, kq52, q52a, q52b, q52c⟩ := isOf hZ rfl f45
    obtain ⟨_, _, ⟨T53, L53, c53, n53⟩, -, X53, ⟨Lc53, hQ53, l53, y53, z53⟩, st53⟩ := X40.virtualBack hx (y := yn4) (z := yn4) hown (mvT hZ (own_w hw 36 rfl)) (mvT hZ (own_w hw 37 rfl)) (notFace_of_selects (args := #[]) (mvT hZ (own_w hw 39 rfl))) (mvT hZ (own_w hw 39 rfl)) (mvT hZ (own_w hw 38 rfl)) (by decide) (backOf (W := 0) (rm7 l Z a0 hw [] b3 b6 b7 k8 (((2 : Int32) * z5)) q5 q4 k9 q1 q2 q3 q4 q5 ((q1 ^^^ q4)) T40.heap n0 O40 g_b3 g_b6 g_b7 OV13 (by have q0 := own_dbl (x := z5) (lo := 3) (hi := 4096) (by have q0 := bz5; omega) (by decide) (by decide); omega) f45 f46 f47 f48 f49 f50 f51 f43 f44) hZ (own_w hw 40 rfl) (own_w hw 2 rfl) (by decide) (by decide)) q52a q52c (g := (mkF m 53 #[.val (.long q1), .second, .val (.long q2), .second, .val (.long q3), .second, .val (.long q4), .second, .val (.long q5), .second, .val (.int p6), .val (.int ((3 : Int32) + (p6 &&& (8191 : Int32)))), .val (.long (q1 ^^^ q4)), .second, .val (.ref b3)] [(.long (q1 ^^^ q4)), (.long q5), (.ref b3)])) rfl (by rw [hml]; rfl) (Steps.refl _) (argsL := [(.long q5), (.long (q1 ^^^ q4))]) (rest := []) (lenOf pd3 rfl) rfl (by show 2 * 0 + _ ≤ _; exact Nat.le_of_eq rfl) (hb hby at_53) (fun _ _ => ⟨rfl, rfl, (by decide : 3 + 0 ≤ _), (by decide : 8198 + 0 ≤ _)⟩)
    dsimp only [Pt.U, Pt.locs, Pt.cells, Pt.slots] at X53 l53 y53 z53 st53 hQ53
    subst l53 y53 z53
    have X53 : Stand p l e room_1 s m #[(.long q1), (.long q2), (.long q3), (.long q4), (.long q5), (.int p6)] below meth c T53 _ 3 8198 := X53
    obtain ⟨rfl, Nq54, K55, f56, f57, f58, f59, f60, f61, f62, f63⟩ := hQ53
    have N53 := Fr.app N40 Nq54
    have M53 : h0.size ≤ T53.heap.size := Nat.le_trans M40 K55.1
    have O53 := Old.keep O40 K55 (allS g_b7 (allS g_b3 all0))
    obtain ⟨cq64, kq64, q64a, q64b, q64c⟩ := isOf hZ rfl f58
    obtain ⟨_, _, ⟨T65, L65, c65, n65⟩, -, X65, ⟨Lc65, hQ65, l65, y65, z65⟩, st65⟩ := X53.virtualBack hx (y := yn5) (z := yn5) hown (mvT hZ (own_w hw 43 rfl)) (mvT hZ (own_w hw 44 rfl)) (notFace_of_selects (args := #[]) (mvT hZ (own_w hw 46 rfl))) (mvT hZ (own_w hw 46 rfl)) (mvT hZ (own_w hw 45 rfl)) (by decide) (backOf (W := 0) (rm8 l Z a0 hw [] b3 b6 b7 k8 (((2 : Int32) * z5)) T53.heap n0 O53 g_b3 g_b6 g_b7 OV13 (by have q0 := own_dbl (x := z5) (lo := 3) (hi := 4096) (by have q0 := bz5; omega) (by decide) (by decide); omega) f61) hZ (own_w hw 47 rfl) (own_w hw 2 rfl) (by decide) (by decide)) q64a q64c (g := (mkF m 58 #[.val (.long q1), .second, .val (.long q2), .second, .val (.long q3), .second, .val (.long q4), .second, .val (.long q5), .second, .val (.int p6), .val (.int ((3 : Int32) + (p6 &&& (8191 : Int32)))), .val (.long (q1 ^^^ q4)), .second, .val (.ref b3)] [(.ref b3)])) rfl (by rw [hml]; rfl) (Steps.refl _) (argsL := []) (rest := []) (lenOf pd4 rfl) rfl (by show 2 * 0 + _ ≤ _; exact Nat.le_of_eq rfl) (hb hby at_58) (fun _ _ => ⟨rfl, rfl, (by decide : 3 + 0 ≤ _), (by decide : 8198 + 0 ≤ _)⟩)
    dsimp only [Pt.U, Pt.locs, Pt.cells, Pt.slots] at X65 l65 y65 z65 st65 hQ65
    subst l65 y65 z65
    have X65 : Stand p l e room_1 s m #[(.long q1), (.long q2), (.long q3), (.long q4), (.long q5), (.int p6)] below meth c T65 _ 3 8198 := X65
    obtain ⟨rfl, Nq66, e67⟩ := hQ65
    have N65 := Fr.app N53 Nq66
    have f68 := (f51.keep K55 (ninS ne12 (ninS (Ne.symm ne37) nin0)))
    obtain ⟨cq69, kq69, q69a, q69b, q69c⟩ := isOf hZ e67 f58
    obtain ⟨_, _, ⟨T70, L70, c70, n70⟩, -, X70, ⟨Lc70, hQ70, l70, y70, z70⟩, st70⟩ := X65.virtualBack hx (y := yn6) (z := yn6) hown (mvT hZ (own_w hw 48 rfl)) (mvT hZ (own_w hw 49 rfl)) (notFace_of_selects (args := #[]) (mvT hZ (own_w hw 51 rfl))) (mvT hZ (own_w hw 51 rfl)) (mvT hZ (own_w hw 50 rfl)) (by decide) (backOf (W := 0) (rm9 l Z a0 hw [] b3 b6 b7 k8 (((2 : Int32) * z5)) k9 q1 q2 q3 q4 q5 ((q1 ^^^ q4)) T53.heap n0 O53 g_b3 g_b6 g_b7 OV13 (by have q0 := own_dbl (x := z5) (lo := 3) (hi := 4096) (by have q0 := bz5; omega) (by decide) (by decide); omega) f62 f68 f56) hZ (own_w hw 52 rfl) (own_w hw 2 rfl) (by decide) (by decide)) q69a q69c (g := (mkF m 68 #[.val (.long q1), .second, .val (.long q2), .second, .val (.long q3), .second, .val (.long q4), .second, .val (.long q5), .second, .val (.int p6), .val (.int ((3 : Int32) + (p6 &&& (8191 : Int32)))), .val (.long (q1 ^^^ q4)), .second, .val (.ref b3)] [(.int (0 : Int32)), (.ref b3)])) rfl (by rw [hml]; rfl) (Steps.refl _) (argsL := [(.int (0 : Int32))]) (rest := []) (lenOf pd5 rfl) rfl (by show 2 * 0 + _ ≤ _; exact Nat.le_of_eq rfl) (hb hby at_68) (fun _ _ => ⟨rfl, e67, (by decide : 3 + 0 ≤ _), (by decide : 8198 + 0 ≤ _)⟩)
    dsimp only [Pt.U, Pt.locs, Pt.cells, Pt.slots] at X70 l70 y70 z70 st70 hQ70
    subst l70 y70 z70
    have X70 : Stand p l e room_1 s m #[(.long q1), (.long q2), (.long q3), (.long q4), (.long q5), (.int p6)] below meth c T70 _ 3 8198 := X70
    obtain ⟨rfl, Nq71, e72⟩ := hQ70
    have N70 := Fr.app N65 Nq71
    obtain ⟨cq73, kq73, q73a, q73b, q73c⟩ := isOf hZ e72 f58
    obtain ⟨_, _, ⟨T74, L74, c74, n74⟩, -, X74, ⟨Lc74, hQ74, l74, y74, z74⟩, st74⟩ := X70.virtualBack hx (y := yn7) (z := yn7) hown (mvT hZ (own_w hw 53 rfl)) (mvT hZ (own_w hw 54 rfl)) (notFace_of_selects (args := #[]) (mvT hZ (own_w hw 56 rfl))) (mvT hZ (own_w hw 56 rfl)) (mvT hZ (own_w hw 55 rfl)) (by decide) (backOf (W := 0) (rm10 l Z a0 hw [] b3 b6 b7 k8 (((2 : Int32) * z5)) k9 q1 q2 q3 q4 q5 ((q1 ^^^ q4)) T53.heap n0 O53 g_b3 g_b6 g_b7 OV13 (by have q0 := own_dbl (x := z5) (lo := 3) (hi := 4096) (by have q0 := bz5; omega) (by decide) (by decide); omega) f62 f68 f56) hZ (own_w hw 57 rfl) (own_w hw 2 rfl) (by decide) (by decide)) q73a q73c (g := (mkF m 79 #[.val (.long q1), .second, .val (.long q2), .second, .val (.long q3), .second, .val (.long q4), .second, .val (.long q5), .second, .val (.int p6), .val (.int ((3 : Int32) + (p6 &&& (8191 : Int32)))), .val (.long (q1 ^^^ q4)), .second, .val (.ref b3)] [(.int (0 : Int32)), (.ref b3)])) rfl (by rw [hml]; rfl) (Steps.refl _) (argsL := [(.int (0 : Int32))]) (rest := []) (lenOf pd5 rfl) rfl (by show 2 * 0 + _ ≤ _; exact Nat.le_of_eq rfl) (hb hby at_79) (fun _ _ => ⟨rfl, e72, (by decide : 3 + 0 ≤ _), (by decide : 8198 + 0 ≤ _)⟩)
    dsimp only [Pt.U, Pt.locs, Pt.cells, Pt.slots] at X74 l74 y74 z74 st74 hQ74
    subst l74 y74 z74
    have X74 : Stand p l e room_1 s m #[(.long q1), (.long q2), (.long q3), (.long q4), (.long q5), (.int p6)] below meth c T74 _ 3 8198 := X74
    obtain ⟨rfl, Nq75, e76⟩ := hQ74
    have N74 := Fr.app N70 Nq75
    obtain ⟨cq77, kq77, q77a, q77b, q77c⟩ := isOf hZ e76 f58
    obtain ⟨_, _, ⟨T78, L78, c78, n78⟩, -, X78, ⟨Lc78, hQ78, l78, y78, z78⟩, st78⟩ := X74.virtualBack hx (y := yn6) (z := yn6) hown (mvT hZ (own_w hw 48 rfl)) (mvT hZ (own_w hw 49 rfl)) (notFace_of_selects (args := #[]) (mvT hZ (own_w hw 51 rfl))) (mvT hZ (own_w hw 51 rfl)) (mvT hZ (own_w hw 50 rfl)) (by decide) (backOf (W := 0) (rm11 l Z a0 hw [] b3 b6 b7 k8 (((2 : Int32) * z5)) k9 q1 q2 q3 q4 q5 ((q1 ^^^ q4)) T53.heap n0 O53 g_b3 g_b6 g_b7 OV13 (by have q0 := own_dbl (x := z5) (lo := 3) (hi := 4096) (by have q0 := bz5; omega) (by decide) (by decide); omega) f62 f68 f56) hZ (own_w hw 52 rfl) (own_w hw 2 rfl) (by decide) (by decide)) q77a q77c (g := (mkF m 90 #[.val (.long q1), .second, .val (.long q2), .second, .val (.long q3), .second, .val (.long q4), .second, .val (.long q5), .second, .val (.int p6), .val (.int ((3 : Int32) + (p6 &&& (8191 : Int32)))), .val (.long (q1 ^^^ q4)), .second, .val (.ref b3)] [(.int (1 : Int32)), (.ref b3)])) rfl (by rw [hml]; rfl) (Steps.refl _) (argsL := [(.int (1 : Int32))]) (rest := []) (lenOf pd5 rfl) rfl (by show 2 * 0 + _ ≤ _; exact Nat.le_of_eq rfl) (hb hby at_90) (fun _ _ => ⟨rfl, e76, (by decide : 3 + 0 ≤ _), (by decide : 8198 + 0 ≤ _)⟩)
    dsimp only [Pt.U, Pt.locs, Pt.cells, Pt.slots] at X78 l78 y78 z78 st78 hQ78
    subst l78 y78 z78
    have X78 : Stand p l e room_1 s m #[(.long q1), (.long q2), (.long q3), (.long q4), (.long q5), (.int p6)] below meth c T78 _ 3 8198 := X78
    obtain ⟨rfl, Nq79, e80⟩ := hQ78
    have N78 := Fr.app N74 Nq79
    obtain ⟨cq81, kq81, q81a, q81b, q81c⟩ := isOf hZ e80 f58
    obtain ⟨_, _, ⟨T82, L82, c82, n82⟩, -, X82, ⟨Lc82, hQ82, l82, y82, z82⟩, st82⟩ := X78.virtualBack hx (y := yn7) (z := yn7) hown (mvT hZ (own_w hw 53 rfl)) (mvT hZ (own_w hw 54 rfl)) (notFace_of_selects (args := #[]) (mvT hZ (own_w hw 56 rfl))) (mvT hZ (own_w hw 56 rfl)) (mvT hZ (own_w hw 55 rfl)) (by decide) (backOf (W := 0) (rm12 l Z a0 hw [] b3 b6 b7 k8 (((2 : Int32) * z5)) k9 q1 q2 q3 q4 q5 ((q1 ^^^ q4)) T53.heap n0 O53 g_b3 g_b6 g_b7 OV13 (by have q0 := own_dbl (x := z5) (lo := 3) (hi := 4096) (by have q0 := bz5; omega) (by decide) (by decide); omega) f62 f68 f56) hZ (own_w hw 57 rfl) (own_w hw 2 rfl) (by decide) (by decide)) q81a q81c (g := (mkF m 102 #[.val (.long q1), .second, .val (.long q2), .second, .val (.long q3), .second, .val (.long q4), .second, .val (.long q5), .second, .val (.int p6), .val (.int ((3 : Int32) + (p6 &&& (8191 : Int32)))), .val (.long (q1 ^^^ q4)), .second, .val (.ref b3)] [(.int (1 : Int32)), (.ref b3)])) rfl (by rw [hml]; rfl) (Steps.refl _) (argsL := [(.int (1 : Int32))]) (rest := []) (lenOf pd5 rfl) rfl (by show 2 * 0 + _ ≤ _; exact Nat.le_of_eq rfl) (hb hby at_102) (fun _ _ => ⟨rfl, e80, (by decide : 3 + 0 ≤ _), (by decide : 8198 + 0 ≤ _)⟩)
    dsimp only [Pt.U, Pt.locs, Pt.cells, Pt.slots] at X82 l82 y82 z82 st82 hQ82
    subst l82 y82 z82
    have X82 : Stand p l e room_1 s m #[(.long q1), (.long q2), (.long q3), (.long q4), (.long q5), (.int p6)] below meth c T82 _ 3 8198 := X82
    obtain ⟨rfl, Nq83, e84⟩ := hQ82
    have N82 := Fr.app N78 Nq83
    obtain ⟨cq85, kq85, q85a, q85b, q85c⟩ := isOf hZ e84 f58
    obtain ⟨_, _, ⟨T86, L86, c86, n86⟩, -, X86, ⟨Lc86, hQ86, l86, y86, z86⟩, st86⟩ := X82.virtualBack hx (y := yn6) (z := yn6) hown (mvT hZ (own_w hw 48 rfl)) (mvT hZ (own_w hw 49 rfl)) (notFace_of_selects (args := #[]) (mvT hZ (own_w hw 51 rfl))) (mvT hZ (own_w hw 51 rfl)) (mvT hZ (own_w hw 50 rfl)) (by decide) (backOf (W := 0) (rm13 l Z a0 hw [] b3 b6 b7 k8 (((2 : Int32) * z5)) k9 q1 q2 q3 q4 q5 ((q1 ^^^ q4)) T53.heap n0 O53 g_b3 g_b6 g_b7 OV13 (by have q0 := own_dbl (x := z5) (lo := 3) (hi := 4096) (by have q0 := bz5; omega) (by decide) (by decide); omega) f62 f68 f56) hZ (own_w hw 52 rfl) (own_w hw 2 rfl) (by decide) (by decide)) q85a q85c (g := (mkF m 114 #[.val (.long q1), .second, .val (.long q2), .second, .val (.long q3), .second, .val (.long q4), .second, .val (.long q5), .second, .val (.int p6), .val (.int ((3 : Int32) + (p6 &&& (8191 : Int32)))), .val (.long (q1 ^^^ q4)), .second, .val (.ref b3)] [(.int (2 : Int32)), (.ref b3)])) rfl (by rw [hml]; rfl) (Steps.refl _) (argsL := [(.int (2 : Int32))]) (rest := []) (lenOf pd5 rfl) rfl (by show 2 * 0 + _ ≤ _; exact Nat.le_of_eq rfl) (hb hby at_114) (fun _ _ => ⟨rfl, e84, (by decide : 3 + 0 ≤ _), (by decide : 8198 + 0 ≤ _)⟩)
    dsimp only [Pt.U, Pt.locs, Pt.cells, Pt.slots] at X86 l86 y86 z86 st86 hQ86
    subst l86 y86 z86
    have X86 : Stand p l e room_1 s m #[(.long q1), (.long q2), (.long q3), (.long q4), (.long q5), (.int p6)] below meth c T86 _ 3 8198 := X86
    obtain ⟨rfl, Nq87, e88⟩ := hQ86
    have N86 := Fr.app N82 Nq87
    obtain ⟨cq89, kq89, q89a, q89b, q89c⟩ := isOf hZ e88 f58
    obtain ⟨_, _, ⟨T90, L90, c90, n90⟩, -, X90, ⟨Lc90, hQ90, l90, y90, z90⟩, st90⟩ := X86.virtualBack hx (y := yn7) (z := yn7) hown (mvT hZ (own_w hw 53 rfl)) (mvT hZ (own_w hw 54 rfl)) (notFace_of_selects (args := #[]) (mvT hZ (own_w hw 56 rfl))) (mvT hZ (own_w hw 56 rfl)) (mvT hZ (own_w hw 55 rfl)) (by decide) (backOf (W := 0) (rm14 l Z a0 hw [] b3 b6 b7 k8 (((2 : Int32) * z5)) k9 q1 q2 q3 q4 q5 ((q1 ^^^ q4)) T53.heap n0 O53 g_b3 g_b6 g_b7 OV13 (by have q0 := own_dbl (x := z5) (lo := 3) (hi := 4096) (by have q0 := bz5; omega) (by decide) (by decide); omega) f62 f68 f56) hZ (own_w hw 57 rfl) (own_w hw 2 rfl) (by decide) (by decide)) q89a q89c (g := (mkF m 126 #[.val (.long q1), .second, .val (.long q2), .second, .val (.long q3), .second, .val (.long q4), .second, .val (.long q5), .second, .val (.int p6), .val (.int ((3 : Int32) + (p6 &&& (8191 : Int32)))), .val (.long (q1 ^^^ q4)), .second, .val (.ref b3)] [(.int (2 : Int32)), (.ref b3)])) rfl (by rw [hml]; rfl) (Steps.refl _) (argsL := [(.int (2 : Int32))]) (rest := []) (lenOf pd5 rfl) rfl (by show 2 * 0 + _ ≤ _; exact Nat.le_of_eq rfl) (hb hby at_126) (fun _ _ => ⟨rfl, e88, (by decide : 3 + 0 ≤ _), (by decide : 8198 + 0 ≤ _)⟩)
    dsimp only [Pt.U, Pt.locs, Pt.cells, Pt.slots] at X90 l90 y90 z90 st90 hQ90
    subst l90 y90 z90
    have X90 : Stand p l e room_1 s m #[(.long q1), (.long q2), (.long q3), (.long q4), (.long q5), (.int p6)] below meth c T90 _ 3 8198 := X90
    obtain ⟨rfl, Nq91, e92⟩ := hQ90
    have N90 := Fr.app N86 Nq91
    obtain ⟨fs, hr, hrun, hended, hW, hsame⟩ := X90.leave (v := some (.int (1 : Int32))) (fun h => by rw [hret] at h; cases h)
    refine ⟨_, _, pre1 _ ?_, hrun, hended, _, _, rfl, ?_, ⟨_, rfl⟩, hW, hsame.mono (by decide) (by decide)⟩
    ·
      show Steps p.tables e below (s₁.setTop (mkF m 8 #[.val (.long q1), .second, .val (.long q2), .second, .val (.long q3), .second, .val (.long q4), .second, .val (.long q5), .second, .val (.int p6), .unset, .unset, .unset, .unset] [(.int ((3 : Int32) + (p6 &&& (8191 : Int32))))])) _
      refine XS.istore X0.here hx rfl (hb hby at_8) rfl (l' := #[.val (.long q1), .second, .val (.long q2), .second, .val (.long q3), .second, .val (.long q4), .second, .val (.long q5), .second, .val (.int p6), .val (.int ((3 : Int32) + (p6 &&& (8191 : Int32)))), .unset, .unset, .unset]) rfl ?_
      refine XS.lloadN X0.here hx rfl (hb hby at_10) rfl ?_
      refine XS.lload X0.here hx rfl (hb hby at_11) rfl ?_
      refine XS.lxor X0.here hx rfl (hb hby at_13) rfl ?_
      refine XS.lstore X0.here hx rfl (hb hby at_14) rfl (l' := #[.val (.long q1), .second, .val (.long q2), .second, .val (.long q3), .second, .val (.long q4), .second, .val (.long q5), .second, .val (.int p6), .val (.int ((3 : Int32) + (p6 &&& (8191 : Int32)))), .val (.long (q1 ^^^ q4)), .second, .unset]) rfl ?_
      refine st3 _ ?_
      refine XS.dup X3.here hx rfl (hb hby at_19) rfl rfl ?_
      refine XS.lload X3.here hx rfl (hb hby at_20) rfl ?_
      refine XS.lload X3.here hx rfl (hb hby at_22) rfl ?_
      refine XS.iload X3.here hx rfl (hb hby at_24) rfl ?_
      refine st4.trans ?_
      refine XS.astore X4.here hx rfl (hb hby at_29) rfl rfl (l' := #[.val (.long q1), .second, .val (.long q2), .second, .val (.long q3), .second, .val (.long q4), .second, .val (.long q5), .second, .val (.int p6), .val (.int ((3 : Int32) + (p6 &&& (8191 : Int32)))), .val (.long (q1 ^^^ q4)), .second, .val (.ref b3)]) rfl ?_
      refine XS.aload X4.here hx rfl (hb hby at_31) rfl rfl ?_
      refine XS.lloadN X4.here hx rfl (hb hby at_33) rfl ?_
      refine XS.lloadN X4.here hx rfl (hb hby at_34) rfl ?_
      refine st25.trans ?_
      refine XS.aload X25.here hx rfl (hb hby at_38) rfl rfl ?_
      refine XS.lload X25.here hx rfl (hb hby at_40) rfl ?_
      refine XS.lload X25.here hx rfl (hb hby at_42) rfl ?_
      refine st40.trans ?_
      refine XS.aload X40.here hx rfl (hb hby at_47) rfl rfl ?_
      refine XS.lload X40.here hx rfl (hb hby at_49) rfl ?_
      refine XS.lload X40.here hx rfl (hb hby at_51) rfl ?_
      refine st53.trans ?_
      refine XS.aload X53.here hx rfl (hb hby at_56) rfl rfl ?_
      refine st65.trans ?_
      refine XS.iconst X65.here hx rfl (hb hby at_61) ?_
      refine XS.icmpNo X65.here hx rfl (hb hby at_62) rfl (teq (by decide : (3 : Int32) = (3 : Int32))).2 ?_
      refine XS.aload X65.here hx rfl (hb hby at_65) rfl rfl ?_
      refine XS.iconst X65.here hx rfl (hb hby at_67) ?_
      refine st70.trans ?_
      refine XS.lloadN X70.here hx rfl (hb hby at_71) rfl ?_
      refine XS.lcmp X70.here hx rfl (hb hby at_72) rfl ?_
      refine XS.ifNo X70.here hx rfl (hb hby at_73) rfl ((if0 _ _).trans (teq ((lw_eq _ _).mpr (rfl : q1 = q1))).2) ?_
      refine XS.aload X70.here hx rfl (hb hby at_76) rfl rfl ?_
      show Steps p.tables e below (T70.setTop (mkF m 78 #[.val (.long q1), .second, .val (.long q2), .second, .val (.long q3), .second, .val (.long q4), .second, .val (.long q5), .second, .val (.int p6), .val (.int ((3 : Int32) + (p6 &&& (8191 : Int32)))), .val (.long (q1 ^^^ q4)), .second, .val (.ref b3)] [(.ref b3)])) _
      refine XS.iconst X70.here hx rfl (hb hby at_78) ?_
      refine st74.trans ?_
      refine XS.lloadN X74.here hx rfl (hb hby at_82) rfl ?_
      refine XS.lcmp X74.here hx rfl (hb hby at_83) rfl ?_
      refine XS.ifNo X74.here hx rfl (hb hby at_84) rfl ((if0 _ _).trans (teq ((lw_eq _ _).mpr (rfl : q2 = q2))).2) ?_
      refine XS.aload X74.here hx rfl (hb hby at_87) rfl rfl ?_
      refine XS.iconst X74.here hx rfl (hb hby at_89) ?_
      refine st78.trans ?_
      refine XS.lload X78.here hx rfl (hb hby at_93) rfl ?_
      refine XS.lcmp X78.here hx rfl (hb hby at_95) rfl ?_
      refine XS.ifNo X78.here hx rfl (hb hby at_96) rfl ((if0 _ _).trans (teq ((lw_eq _ _).mpr (rfl : q3 = q3))).2) ?_
      refine XS.aload X78.here hx rfl (hb hby at_99) rfl rfl ?_
      refine XS.iconst X78.here hx rfl (hb hby at_101) ?_
      refine st82.trans ?_
      refine XS.lload X82.here hx rfl (hb hby at_105) rfl ?_
      refine XS.lcmp X82.here hx rfl (hb hby at_107) rfl ?_
      refine XS.ifNo X82.here hx rfl (hb hby at_108) rfl ((if0 _ _).trans (teq ((lw_eq _ _).mpr (rfl : q4 = q4))).2) ?_
      refine XS.aload X82.here hx rfl (hb hby at_111) rfl rfl ?_
      refine XS.iconst X82.here hx rfl (hb hby at_113) ?_
      refine st86.trans ?_
      refine XS.lload X86.here hx rfl (hb hby at_117) rfl ?_
      refine XS.lcmp X86.here hx rfl (hb hby at_119) rfl ?_
      refine XS.ifNo X86.here hx rfl (hb hby at_120) rfl ((if0 _ _).trans (teq ((lw_eq _ _).mpr (rfl : q5 = q5))).2) ?_
      refine XS.aload X86.here hx rfl (hb hby at_123) rfl rfl ?_
      refine XS.iconst X86.here hx rfl (hb hby at_125) ?_
      refine st90.trans ?_
      refine XS.lload X90.here hx rfl (hb hby at_129) rfl ?_
      refine XS.lcmp X90.here hx rfl (hb hby at_131) rfl ?_
      refine XS.ifNo X90.here hx rfl (hb hby at_132) rfl ((if0 _ _).trans (teq ((lw_eq _ _).mpr (rfl : (q1 ^^^ q4) = (q1 ^^^ q4)))).2) ?_
      refine XS.iconst X90.here hx rfl (hb hby at_135) ?_
      refine XS.goto X90.here hx rfl (pc0 := 136) (pc' := 140) rfl (hb hby at_136) (by decide) (by decide) ?_
      show Steps p.tables e below (T90.setTop (mkF m 140 #[.val (.long q1), .second, .val (.long q2), .second, .val (.long q3), .second, .val (.long q4), .second, .val (.long q5), .second, .val (.int p6), .val (.int ((3 : Int32) + (p6 &&& (8191 : Int32)))), .val (.long (q1 ^^^ q4)), .second, .val (.ref b3)] [(.int (1 : Int32))])) _
      exact retN X90 hx (t := .boolean) hret (by simp) (hb hby at_140) hr
    ·
      show Q0 n0 _ T90.heap _
      rw [e92]
      exact ⟨rfl, N90⟩
  ·
    by_cases hc93 : ((3 : Int32) + (p6 &&& (8191 : Int32))) < (8193 : Int32)
    ·
      obtain ⟨T94, h94, X94, e94, E94, A94, D94, -, st94⟩ := newO X0 hx hZ hown (own_w hw 0 rfl) (own_w hw 1 rfl) (own_w hw 2 rfl) e0 (g := (mkF m 16 #[.val (.long q1), .second, .val (.long q2), .second, .val (.long q3), .second, .val (.long q4), .second, .val (.long q5), .second, .val (.int p6), .val (.int ((3 : Int32) + (p6 &&& (8191 : Int32)))), .val (.long (q1 ^^^ q4)), .second, .unset] [])) rfl (hb hby at_16) (by decide) (by decide)
      obtain ⟨b94, g94⟩ : ∃ z, z = h0.size := ⟨_, rfl⟩
      rw [← g94] at A94 D94 st94
      have M94 : h0.size ≤ h94.size := Nat.le_trans (Nat.le_refl _) E94.1
      have O94 := Old.ext O0 E94
      have sz_b94 : h0.size ≤ b94 := Nat.le_of_eq g94.symm
      have g_b94 : n0 ≤ b94 := Nat.le_trans (own_oz O0) (Nat.le_trans (Nat.le_refl _) sz_b94)
      have F94_21 : Fld Z h94 b94 "java/util/AbstractList" "modCount" "I" (.int (0 : Int32)) := D94 (Or.inl (own_w hw 21 rfl)) (ty := .int) (by decide)
      have F94_23 : Fld Z h94 b94 "com/example/driftless/driftless/DeleteOperations" "firstCounter" "J" (.long (0 : Int64)) := D94 (Or.inr (own_w hw 23 rfl)) (ty := .long) (by decide)
      have F94_25 : Fld Z h94 b94 "com/example/driftless/driftless/DeleteOperations" "replica" "J" (.long (0 : Int64)) := D94 (Or.inr (own_w hw 25 rfl)) (ty := .long) (by decide)
      have F94_29 : Fld Z h94 b94 "com/example/driftless/driftless/DeleteOperations" "targets" "[[J" .null := D94 (Or.inr (own_w hw 29 rfl)) (ty := (.array (.array .long))) (by decide)
      have F94_42 : Fld Z h94 b94 "com/example/driftless/driftless/DeleteOperations" "size" "I" (.int (0 : Int32)) := D94 (Or.inl (own_w hw 42 rfl)) (ty := .int) (by decide)
      obtain ⟨_, _, ⟨T95, L95, c95, n95⟩, -, X95, ⟨Lc95, hQ95, l95, y95, z95⟩, st95⟩ := X94.specialBack hx (y := yn3) rfl hown (mvT hZ (own_w hw 3 rfl)) (mvT hZ (own_w hw 4 rfl)) (mvT hZ (own_w hw 5 rfl)) (by decide) (backOf (W := 1) (rm17 l Z a0 hw [] b94 (((3 : Int32) + (p6 &&& (8191 : Int32)))) q5 q4 h94 n0 O94 g_b94 (by have q0 := own_add2 (x := (p6 &&& (8191 : Int32))) (k := (3 : Int32)) (n := 3) (lo := 0) (hi := 8191) (by decide) (by have q0 := own_and (x := p6) (k := (8191 : Int32)) (n := 8191) (by decide) (by decide); omega) (by decide) (by decide); have q1 := own_nlt1 (n := 4097) (k := (4097 : Int32)) (by decide) hc2; have q2 := own_lt1 (n := 8193) (k := (8193 : Int32)) (by decide) hc93; omega) A94 F94_23 F94_25 F94_42 F94_29 F94_21) hZ (own_w hw 5 rfl) (own_w hw 2 rfl) (by decide) (by decide)) (g := (mkF m 26 #[.val (.long q1), .second, .val (.long q2), .second, .val (.long q3), .second, .val (.long q4), .second, .val (.long q5), .second, .val (.int p6), .val (.int ((3 : Int32) + (p6 &&& (8191 : Int32)))), .val (.long (q1 ^^^ q4)), .second, .unset] [(.int ((3 : Int32) + (p6 &&& (8191 : Int32)))), (.long q4), (.long q5), (.ref b94), (.ref b94)])) rfl (by rw [hml]; rfl) (Steps.refl _) (a := b94) (argsL := [(.long q5), (.long q4), (.int ((3 : Int32) + (p6 &&& (8191 : Int32))))]) (rest := [(.ref b94)]) (lenOf pd2 rfl) rfl (by show 2 * 0 + _ ≤ _; exact Nat.le_of_eq rfl) (hb hby at_26) (fun _ _ => ⟨rfl, e94, (by decide : 1 + 3 ≤ _), (by decide : 5 + 16386 ≤ _)⟩)
      dsimp only [Pt.U, Pt.locs, Pt.cells, Pt.slots] at X95 l95 y95 z95 st95 hQ95
      subst l95 y95 z95
      have X95 : Stand p l e room_1 s m #[(.long q1), (.long q2), (.long q3), (.long q4), (.long q5), (.int p6)] below meth c T95 _ 4 16391 := X95
      obtain ⟨z96, bz96, b97, b98, b99, k100, k101, k102, rfl, Nq103, K104, sz_b97, sz_b98, sz_b99, ne105, ne106, ne107, OV108, f109, f110, f111, f112, f113, f114, f115, f116, f117, f118, f119, f120⟩ := hQ95
      have N95 := Fr.app N0 Nq103
      have g_b97 : n0 ≤ b97 := Nat.le_trans (own_oz O94) sz_b97
      have g_b98 : n0 ≤ b98 := Nat.le_trans (own_oz O94) sz_b98
      have g_b99 : n0 ≤ b99 := Nat.le_trans (own_oz O94) sz_b99
      have M95 : h0.size ≤ T95.heap.size := Nat.le_trans M94 K104.1
      have O95 := Old.keep O94 K104 (allS g_b94 all0)
      obtain ⟨cq121, kq121, q121a, q121b, q121c⟩ := isOf hZ rfl f109
      obtain ⟨_, _, ⟨T122, L122, c122, n122⟩, -, X122, ⟨Lc122, hQ122, l122, y122, z122⟩, st122⟩ := X95.virtualBack hx (y := yn4) (z := yn4) hown (mvT hZ (own_w hw 36 rfl)) (mvT hZ (own_w hw 37 rfl)) (notFace_of_selects (args := #[]) (mvT hZ (own_w hw 39 rfl))) (mvT hZ (own_w hw 39 rfl)) (mvT hZ (own_w hw 38 rfl)) (by decide) (backOf (W := 0) (rm18 l Z a0 hw [] b94 b97 b98 b99 k100 ((8192 : Int32)) (((2 : Int32) * z96)) q5 q4 k101 q1 q2 T95.heap n0 O95 g_b94 g_b97 g_b98 g_b99 OV108 (by have q0 := (by decide : ((8192 : Int32)).toInt = 8192); omega) (by have q0 := own_dbl (x := z96) (lo := 1) (hi := 4096) (by have q0 := bz96; omega) (by decide) (by decide); omega) f109 f110 f111 f112 f113 f114 f115 f117 f118) hZ (own_w hw 40 rfl) (own_w hw 2 rfl) (by decide) (by decide)) q121a q121c (g := (mkF m 35 #[.val (.long q1), .second, .val (.long q2), .second, .val (.long q3), .second, .val (.long q4), .second, .val (.long q5), .second, .val (.int p6), .val (.int ((3 : Int32) + (p6 &&& (8191 : Int32)))), .val (.long (q1 ^^^ q4)), .second, .val (.ref b94)] [(.long q2), (.long q1), (.ref b94)])) rfl (by rw [hml]; rfl) (Steps.refl _) (argsL := [(.long q1), (.long q2)]) (rest := []) (lenOf pd3 rfl) rfl (by show 2 * 0 + _ ≤ _; exact Nat.le_of_eq rfl) (hb hby at_35) (fun _ _ => ⟨rfl, rfl, (by decide : 4 + 0 ≤ _), (by decide : 16391 + 0 ≤ _)⟩)
      dsimp only [Pt.U, Pt.locs, Pt.cells, Pt.slots] at X122 l122 y122 z122 st122 hQ122
      subst l122 y122 z122
      have X122 : Stand p l e room_1 s m #[(.long q1), (.long q2), (.long q3), (.long q4), (.long q5), (.int p6)] below meth c T122 _ 4 16391 := X122
      obtain ⟨rfl, Nq123, K124, f125, f126, f127, f128, f129, f130, f131, f132⟩ := hQ122
      have N122 := Fr.app N95 Nq123
      have M122 : h0.size ≤ T122.heap.size := Nat.le_trans M95 K124.1
      have O122 := Old.keep O95 K124 (allS g_b98 (allS g_b94 all0))
      have lt133 : b94 < h94.size := A94.lt
      have ne134 : b94 ≠ b97 := Nat.ne_of_lt (Nat.lt_of_lt_of_le lt133 sz_b97)
      have f135 := (f115.keep K124 (ninS ne105 (ninS (Ne.symm ne134) nin0)))
      obtain ⟨cq136, kq136, q136a, q136b, q136c⟩ := isOf hZ rfl f127
      obtain ⟨_, _, ⟨T137, L137, c137, n137⟩, -, X137, ⟨Lc137, hQ137, l137, y137, z137⟩, st137⟩ := X122.virtualBack hx (y := yn4) (z := yn4) hown (mvT hZ (own_w hw 36 rfl)) (mvT hZ (own_w hw 37 rfl)) (notFace_of_selects (args := #[]) (mvT hZ (own_w hw 39 rfl))) (mvT hZ (own_w hw 39 rfl)) (mvT hZ (own_w hw 38 rfl)) (by decide) (backOf (W := 0) (rm19 l Z a0 hw [] b94 b97 b98 b99 k100 ((8192 : Int32)) (((2 : Int32) * z96)) q5 q4 k101 q1 q2 q3 q4 T122.heap n0 O122 g_b94 g_b97 g_b98 g_b99 OV108 (by have q0 := (by decide : ((8192 : Int32)).toInt = 8192); omega) (by have q0 := own_dbl (x := z96) (lo := 1) (hi := 4096) (by have q0 := bz96; omega) (by decide) (by decide); omega) f127 f128 f129 f130 f131 f132 f135 f125 f126) hZ (own_w hw 40 rfl) (own_w hw 2 rfl) (by decide) (by decide)) q136a q136c (g := (mkF m 44 #[.val (.long q1), .second, .val (.long q2), .second, .val (.long q3), .second, .val (.long q4), .second, .val (.long q5), .second, .val (.int p6), .val (.int ((3 : Int32) + (p6 &&& (8191 : Int32)))), .val (.long (q1 ^^^ q4)), .second, .val (.ref b94)] [(.long q4), (.long q3), (.ref b94)])) rfl (by rw [hml]; rfl) (Steps.refl _) (argsL := [(.long q3), (.long q4)]) (rest := []) (lenOf pd3 rfl) rfl (by show 2 * 0 + _ ≤ _; exact Nat.le_of_eq rfl) (hb hby at_44) (fun _ _ => ⟨rfl, rfl, (by decide : 4 + 0 ≤ _), (by decide : 16391 + 0 ≤ _)⟩)
      dsimp only [Pt.U, Pt.locs, Pt.cells, Pt.slots] at X137 l137 y137 z137 st137 hQ137
      subst l137 y137 z137
      have X137 : Stand p l e room_1 s m #[(.long q1), (.long q2), (.long q3), (.long q4), (.long q5), (.int p6)] below meth c T137 _ 4 16391 := X137
      obtain ⟨rfl, Nq138, K139, f140, f141, f142, f143, f144, f145, f146, f147⟩ := hQ137
      have N137 := Fr.app N122 Nq138
      have M137 : h0.size ≤ T137.heap.size := Nat.le_trans M122 K139.1
      have O137 := Old.keep O122 K139 (allS g_b98 (allS g_b94 all0))
      have f148 := (f135.keep K139 (ninS ne105 (ninS (Ne.symm ne134) nin0)))
      obtain ⟨cq149, kq149, q149a, q149b, q149c⟩ := isOf hZ rfl f142
      obtain ⟨_, _, ⟨T150, L150, c150, n150⟩, -, X150, ⟨Lc150, hQ150, l150, y150, z150⟩, st150⟩ := X137.virtualBack hx (y := yn4) (z := yn4) hown (mvT hZ (own_w hw 36 rfl)) (mvT hZ (own_w hw 37 rfl)) (notFace_of_selects (args := #[]) (mvT hZ (own_w hw 39 rfl))) (mvT hZ (own_w hw 39 rfl)) (mvT hZ (own_w hw 38 rfl)) (by decide) (backOf (W := 0) (rm20 l Z a0 hw [] b94 b97 b98 b99 k100 ((8192 : Int32)) (((2 : Int32) * z96)) q5 q4 k101 q1 q2 q3 q4 q5 ((q1 ^^^ q4)) T137.heap n0 O137 g_b94 g_b97 g_b98 g_b99 OV108 (by have q0 := (by decide : ((8192 : Int32)).toInt = 8192); omega) (by have q0 := own_dbl (x := z96) (lo := 1) (hi := 4096) (by have q0 := bz96; omega) (by decide) (by decide); omega) f142 f143 f144 f145 f146 f147 f148 f140 f141) hZ (own_w hw 40 rfl) (own_w hw 2 rfl) (by decide) (by decide)) q149a q149c (g := (mkF m 53 #[.val (.long q1), .second, .val (.long q2), .second, .val (.long q3), .second, .val (.long q4), .second, .val (.long q5), .second, .val (.int p6), .val (.int ((3 : Int32) + (p6 &&& (8191 : Int32)))), .val (.long (q1 ^^^ q4)), .second, .val (.ref b94)] [(.long (q1 ^^^ q4)), (.long q5), (.ref b94)])) rfl (by rw [hml]; rfl) (Steps.refl _) (argsL := [(.long q5), (.long (q1 ^^^ q4))]) (rest := []) (lenOf pd3 rfl) rfl (by show 2 * 0 + _ ≤ _; exact Nat.le_of_eq rfl) (hb hby at_53) (fun _ _ => ⟨rfl, rfl, (by decide : 4 + 0 ≤ _), (by decide : 16391 + 0 ≤ _)⟩)
      dsimp only [Pt.U, Pt.locs, Pt.cells, Pt.slots] at X150 l150 y150 z150 st150 hQ150
      subst l150 y150 z150
      have X150 : Stand p l e room_1 s m #[(.long q1), (.long q2), (.long q3), (.long q4), (.long q5), (.int p6)] below meth c T150 _ 4 16391 := X150
      obtain ⟨rfl, Nq151, K152, f153, f154, f155, f156, f157, f158, f159, f160⟩ := hQ150
      have N150 := Fr.app N137 Nq151
      have M150 : h0.size ≤ T150.heap.size := Nat.le_trans M137 K152.1
      have O150 := Old.keep O137 K152 (allS g_b98 (allS g_b94 all0))
      obtain ⟨cq161, kq161, q161a, q161b, q161c⟩ := isOf hZ rfl f155
      obtain ⟨_, _, ⟨T162, L162, c162, n162⟩, -, X162, ⟨Lc162, hQ162, l162, y162, z162⟩, st162⟩ := X150.virtualBack hx (y := yn5) (z := yn5) hown (mvT hZ (own_w hw 43 rfl)) (mvT hZ (own_w hw 44 rfl)) (notFace_of_selects (args := #[]) (mvT hZ (own_w hw 46 rfl))) (mvT hZ (own_w hw 46 rfl)) (mvT hZ (own_w hw 45 rfl)) (by decide) (backOf (W := 0) (rm21 l Z a0 hw [] b94 b97 b98 b99 k100 ((8192 : Int32)) (((2 : Int32) * z96)) T150.heap n0 O150 g_b94 g_b97 g_b98 g_b99 OV108 (by have q0 := (by decide : ((8192 : Int32)).toInt = 8192); omega) (by have q0 := own_dbl (x := z96) (lo := 1) (hi := 4096) (by have q0 := bz96; omega) (by decide) (by decide); omega) f158) hZ (own_w hw 47 rfl) (own_w hw 2 rfl) (by decide) (by decide)) q161a q161c (g := (mkF m 58 #[.val (.long q1), .second, .val (.long q2), .second, .val (.long q3), .second, .val (.long q4), .second, .val (.long q5), .second, .val (.int p6), .val (.int ((3 : Int32) + (p6 &&& (8191 : Int32)))), .val (.long (q1 ^^^ q4)), .second, .val (.ref b94)] [(.ref b94)])) rfl (by rw [hml]; rfl) (Steps.refl _) (argsL := []) (rest := []) (lenOf pd4 rfl) rfl (by show 2 * 0 + _ ≤ _; exact Nat.le_of_eq rfl) (hb hby at_58) (fun _ _ => ⟨rfl, rfl, (by decide : 4 + 0 ≤ _), (by decide : 16391 + 0 ≤ _)⟩)
      dsimp only [Pt.U, Pt.locs, Pt.cells, Pt.slots] at X162 l162 y162 z162 st162 hQ162
      subst l162 y162 z162
      have X162 : Stand p l e room_1 s m #[(.long q1), (.long q2), (.long q3), (.long q4), (.long q5), (.int p6)] below meth c T162 _ 4 16391 := X162
      obtain ⟨rfl, Nq163, e164⟩ := hQ162
      have N162 := Fr.app N150 Nq163
      have f165 := (f148.keep K152 (ninS ne105 (ninS (Ne.symm ne134) nin0)))
      obtain ⟨cq166, kq166, q166a, q166b, q166c⟩ := isOf hZ e164 f155
      obtain ⟨_, _, ⟨T167, L167, c167, n167⟩, -, X167, ⟨Lc167, hQ167, l167, y167, z167⟩, st167⟩ := X162.virtualBack hx (y := yn6) (z := yn6) hown (mvT hZ (own_w hw 48 rfl)) (mvT hZ (own_w hw 49 rfl)) (notFace_of_selects (args := #[]) (mvT hZ (own_w hw 51 rfl))) (mvT hZ (own_w hw 51 rfl)) (mvT hZ (own_w hw 50 rfl)) (by decide) (backOf (W := 0) (rm22 l Z a0 hw [] b94 b97 b98 b99 k100 ((8192 : Int32)) (((2 : Int32) * z96)) k101 q1 q2 q3 q4 q5 ((q1 ^^^ q4)) T150.heap n0 O150 g_b94 g_b97 g_b98 g_b99 OV108 (by have q0 := (by decide : ((8192 : Int32)).toInt = 8192); omega) (by have q0 := own_dbl (x := z96) (lo := 1) (hi := 4096) (by have q0 := bz96; omega) (by decide) (by decide); omega) f159 f165 f153) hZ (own_w hw 52 rfl) (own_w hw 2 rfl) (by decide) (by decide)) q166a q166c (g := (mkF m 68 #[.val (.long q1), .second, .val (.long q2), .second, .val (.long q3), .second, .val (.long q4), .second, .val (.long q5), .second, .val (.int p6), .val (.int ((3 : Int32) + (p6 &&& (8191 : Int32)))), .val (.long (q1 ^^^ q4)), .second, .val (.ref b94)] [(.int (0 : Int32)), (.ref b94)])) rfl (by rw [hml]; rfl) (Steps.refl _) (argsL := [(.int (0 : Int32))]) (rest := []) (lenOf pd5 rfl) rfl (by show 2 * 0 + _ ≤ _; exact Nat.le_of_eq rfl) (hb hby at_68) (fun _ _ => ⟨rfl, e164, (by decide : 4 + 0 ≤ _), (by decide : 16391 + 0 ≤ _)⟩)
      dsimp only [Pt.U, Pt.locs, Pt.cells, Pt.slots] at X167 l167 y167 z167 st167 hQ167
      subst l167 y167 z167
      have X167 : Stand p l e room_1 s m #[(.long q1), (.long q2), (.long q3), (.long q4), (.long q5), (.int p6)] below meth c T167 _ 4 16391 := X167
      obtain ⟨rfl, Nq168, e169⟩ := hQ167
      have N167 := Fr.app N162 Nq168
      obtain ⟨cq170, kq170, q170a, q170b, q170c⟩ := isOf hZ e169 f155
      obtain ⟨_, _, ⟨T171, L171, c171, n171⟩, -, X171, ⟨Lc171, hQ171, l171, y171, z171⟩, st171⟩ := X167.virtualBack hx (y := yn7) (z := yn7) hown (mvT hZ (own_w hw 53 rfl)) (mvT hZ (own_w hw 54 rfl)) (notFace_of_selects (args := #[]) (mvT hZ (own_w hw 56 rfl))) (mvT hZ (own_w hw 56 rfl)) (mvT hZ (own_w hw 55 rfl)) (by decide) (backOf (W := 0) (rm23 l Z a0 hw [] b94 b97 b98 b99 k100 ((8192 : Int32)) (((2 : Int32) * z96)) k101 q1 q2 q3 q4 q5 ((q1 ^^^ q4)) T150.heap n0 O150 g_b94 g_b97 g_b98 g_b99 OV108 (by have q0 := (by decide : ((8192 : Int32)).toInt = 8192); omega) (by have q0 := own_dbl (x := z96) (lo := 1) (hi := 4096) (by have q0 := bz96; omega) (by decide) (by decide); omega) f159 f165 f153) hZ (own_w hw 57 rfl) (own_w hw 2 rfl) (by decide) (by decide)) q170a q170c (g := (mkF m 79 #[.val (.long q1), .second, .val (.long q2), .second, .val (.long q3), .second, .val (.long q4), .second, .val (.long q5), .second, .val (.int p6), .val (.int ((3 : Int32) + (p6 &&& (8191 : Int32)))), .val (.long (q1 ^^^ q4)), .second, .val (.ref b94)] [(.int (0 : Int32)), (.ref b94)])) rfl (by rw [hml]; rfl) (Steps.refl _) (argsL := [(.int (0 : Int32))]) (rest := []) (lenOf pd5 rfl) rfl (by show 2 * 0 + _ ≤ _; exact Nat.le_of_eq rfl) (hb hby at_79) (fun _ _ => ⟨rfl, e169, (by decide : 4 + 0 ≤ _), (by decide : 16391 + 0 ≤ _)⟩)
      dsimp only [Pt.U, Pt.locs, Pt.cells, Pt.slots] at X171 l171 y171 z171 st171 hQ171
      subst l171 y171 z171
      have X171 : Stand p l e room_1 s m #[(.long q1), (.long q2), (.long q3), (.long q4), (.long q5), (.int p6)] below meth c T171 _ 4 16391 := X171
      obtain ⟨rfl, Nq172, e173⟩ := hQ171
      have N171 := Fr.app N167 Nq172
      obtain ⟨cq174, kq174, q174a, q174b, q174c⟩ := isOf hZ e173 f155
      obtain ⟨_, _, ⟨T175, L175, c175, n175⟩, -, X175, ⟨Lc175, hQ175, l175, y175, z175⟩, st175⟩ := X171.virtualBack hx (y := yn6) (z := yn6) hown (mvT hZ (own_w hw 48 rfl)) (mvT hZ (own_w hw 49 rfl)) (notFace_of_selects (args := #[]) (mvT hZ (own_w hw 51 rfl))) (mvT hZ (own_w hw 51 rfl)) (mvT hZ (own_w hw 50 rfl)) (by decide) (backOf (W := 0) (rm24 l Z a0 hw [] b94 b97 b98 b99 k100 ((8192 : Int32)) (((2 : Int32) * z96)) k101 q1 q2 q3 q4 q5 ((q1 ^^^ q4)) T150.heap n0 O150 g_b94 g_b97 g_b98 g_b99 OV108 (by have q0 := (by decide : ((8192 : Int32)).toInt = 8192); omega) (by have q0 := own_dbl (x := z96) (lo := 1) (hi := 4096) (by have q0 := bz96; omega) (by decide) (by decide); omega) f159 f165 f153) hZ (own_w hw 52 rfl) (own_w hw 2 rfl) (by decide) (by decide)) q174a q174c (g := (mkF m 90 #[.val (.long q1), .second, .val (.long q2), .second, .val (.long q3), .second, .val (.long q4), .second, .val (.long q5), .second, .val (.int p6), .val (.int ((3 : Int32) + (p6 &&& (8191 : Int32)))), .val (.long (q1 ^^^ q4)), .second, .val (.ref b94)] [(.int (1 : Int32)), (.ref b94)])) rfl (by rw [hml]; rfl) (Steps.refl _) (argsL := [(.int (1 : Int32))]) (rest := []) (lenOf pd5 rfl) rfl (by show 2 * 0 + _ ≤ _; exact Nat.le_of_eq rfl) (hb hby at_90) (fun _ _ => ⟨rfl, e173, (by decide : 4 + 0 ≤ _), (by decide : 16391 + 0 ≤ _)⟩)
      dsimp only [Pt.U, Pt.locs, Pt.cells, Pt.slots] at X175 l175 y175 z175 st175 hQ175
      subst l175 y175 z175
      have X175 : Stand p l e room_1 s m #[(.long q1), (.long q2), (.long q3), (.long q4), (.long q5), (.int p6)] below meth c T175 _ 4 16391 := X175
      obtain ⟨rfl, Nq176, e177⟩ := hQ175
      have N175 := Fr.app N171 Nq176
      obtain ⟨cq178, kq178, q178a, q178b, q178c⟩ := isOf hZ e177 f155
      obtain ⟨_, _, ⟨T179, L179, c179, n179⟩, -, X179, ⟨Lc179, hQ179, l179, y179, z179⟩, st179⟩ := X175.virtualBack hx (y := yn7) (z := yn7) hown (mvT hZ (own_w hw 53 rfl)) (mvT hZ (own_w hw 54 rfl)) (notFace_of_selects (args := #[]) (mvT hZ (own_w hw 56 rfl))) (mvT hZ (own_w hw 56 rfl)) (mvT hZ (own_w hw 55 rfl)) (by decide) (backOf (W := 0) (rm25 l Z a0 hw [] b94 b97 b98 b99 k100 ((8192 : Int32)) (((2 : Int32) * z96)) k101 q1 q2 q3 q4 q5 ((q1 ^^^ q4)) T150.heap n0 O150 g_b94 g_b97 g_b98 g_b99 OV108 (by have q0 := (by decide : ((8192 : Int32)).toInt = 8192); omega) (by have q0 := own_dbl (x := z96) (lo := 1) (hi := 4096) (by have q0 := bz96; omega) (by decide) (by decide); omega) f159 f165 f153) hZ (own_w hw 57 rfl) (own_w hw 2 rfl) (by decide) (by decide)) q178a q178c (g := (mkF m 102 #[.val (.long q1), .second, .val (.long q2), .second, .val (.long q3), .second, .val (.long q4), .second, .val (.long q5), .second, .val (.int p6), .val (.int ((3 : Int32) + (p6 &&& (8191 : Int32)))), .val (.long (q1 ^^^ q4)), .second, .val (.ref b94)] [(.int (1 : Int32)), (.ref b94)])) rfl (by rw [hml]; rfl) (Steps.refl _) (argsL := [(.int (1 : Int32))]) (rest := []) (lenOf pd5 rfl) rfl (by show 2 * 0 + _ ≤ _; exact Nat.le_of_eq rfl) (hb hby at_102) (fun _ _ => ⟨rfl, e177, (by decide : 4 + 0 ≤ _), (by decide : 16391 + 0 ≤ _)⟩)
      dsimp only [Pt.U, Pt.locs, Pt.cells, Pt.slots] at X179 l179 y179 z179 st179 hQ179
      subst l179 y179 z179
      have X179 : Stand p l e room_1 s m #[(.long q1), (.long q2), (.long q3), (.long q4), (.long q5), (.int p6)] below meth c T179 _ 4 16391 := X179
      obtain ⟨rfl, Nq180, e181⟩ := hQ179
      have N179 := Fr.app N175 Nq180
      obtain ⟨cq182, kq182, q182a, q182b, q182c⟩ := isOf hZ e181 f155
      obtain ⟨_, _, ⟨T183, L183, c183, n183⟩, -, X183, ⟨Lc183, hQ183, l183, y183, z183⟩, st183⟩ := X179.virtualBack hx (y := yn6) (z := yn6) hown (mvT hZ (own_w hw 48 rfl)) (mvT hZ (own_w hw 49 rfl)) (notFace_of_selects (args := #[]) (mvT hZ (own_w hw 51 rfl))) (mvT hZ (own_w hw 51 rfl)) (mvT hZ (own_w hw 50 rfl)) (by decide) (backOf (W := 0) (rm26 l Z a0 hw [] b94 b97 b98 b99 k100 ((8192 : Int32)) (((2 : Int32) * z96)) k101 q1 q2 q3 q4 q5 ((q1 ^^^ q4)) T150.heap n0 O150 g_b94 g_b97 g_b98 g_b99 OV108 (by have q0 := (by decide : ((8192 : Int32)).toInt = 8192); omega) (by have q0 := own_dbl (x := z96) (lo := 1) (hi := 4096) (by have q0 := bz96; omega) (by decide) (by decide); omega) f159 f165 f153) hZ (own_w hw 52 rfl) (own_w hw 2 rfl) (by decide) (by decide)) q182a q182c (g := (mkF m 114 #[.val (.long q1), .second, .val (.long q2), .second, .val (.long q3), .second, .val (.long q4), .second, .val (.long q5), .second, .val (.int p6), .val (.int ((3 : Int32) + (p6 &&& (8191 : Int32)))), .val (.long (q1 ^^^ q4)), .second, .val (.ref b94)] [(.int (2 : Int32)), (.ref b94)])) rfl (by rw [hml]; rfl) (Steps.refl _) (argsL := [(.int (2 : Int32))]) (rest := []) (lenOf pd5 rfl) rfl (by show 2 * 0 + _ ≤ _; exact Nat.le_of_eq rfl) (hb hby at_114) (fun _ _ => ⟨rfl, e181, (by decide : 4 + 0 ≤ _), (by decide : 16391 + 0 ≤ _)⟩)
      dsimp only [Pt.U, Pt.locs, Pt.cells, Pt.slots] at X183 l183 y183 z183 st183 hQ183
      subst l183 y183 z183
      have X183 : Stand p l e room_1 s m #[(.long q1), (.long q2), (.long q3), (.long q4), (.long q5), (.int p6)] below meth c T183 _ 4 16391 := X183
      obtain ⟨rfl, Nq184, e185⟩ := hQ183
      have N183 := Fr.app N179 Nq184
      obtain ⟨cq186, kq186, q186a, q186b, q186c⟩ := isOf hZ e185 f155
      obtain ⟨_, _, ⟨T187, L187, c187, n187⟩, -, X187, ⟨Lc187, hQ187, l187, y187, z187⟩, st187⟩ := X183.virtualBack hx (y := yn7) (z := yn7) hown (mvT hZ (own_w hw 53 rfl)) (mvT hZ (own_w hw 54 rfl)) (notFace_of_selects (args := #[]) (mvT hZ (own_w hw 56 rfl))) (mvT hZ (own_w hw 56 rfl)) (mvT hZ (own_w hw 55 rfl)) (by decide) (backOf (W := 0) (rm27 l Z a0 hw [] b94 b97 b98 b99 k100 ((8192 : Int32)) (((2 : Int32) * z96)) k101 q1 q2 q3 q4 q5 ((q1 ^^^ q4)) T150.heap n0 O150 g_b94 g_b97 g_b98 g_b99 OV108 (by have q0 := (by decide : ((8192 : Int32)).toInt = 8192); omega) (by have q0 := own_dbl (x := z96) (lo := 1) (hi := 4096) (by have q0 := bz96; omega) (by decide) (by decide); omega) f159 f165 f153) hZ (own_w hw 57 rfl) (own_w hw 2 rfl) (by decide) (by decide)) q186a q186c (g := (mkF m 126 #[.val (.long q1), .second, .val (.long q2), .second, .val (.long q3), .second, .val (.long q4), .second, .val (.long q5), .second, .val (.int p6), .val (.int ((3 : Int32) + (p6 &&& (8191 : Int32)))), .val (.long (q1 ^^^ q4)), .second, .val (.ref b94)] [(.int (2 : Int32)), (.ref b94)])) rfl (by rw [hml]; rfl) (Steps.refl _) (argsL := [(.int (2 : Int32))]) (rest := []) (lenOf pd5 rfl) rfl (by show 2 * 0 + _ ≤ _; exact Nat.le_of_eq rfl) (hb hby at_126) (fun _ _ => ⟨rfl, e185, (by decide : 4 + 0 ≤ _), (by decide : 16391 + 0 ≤ _)⟩)
      dsimp only [Pt.U, Pt.locs, Pt.cells, Pt.slots] at X187 l187 y187 z187 st187 hQ187
      subst l187 y187 z187
      have X187 : Stand p l e room_1 s m #[(.long q1), (.long q2), (.long q3), (.long q4), (.long q5), (.int p6)] below meth c T187 _ 4 16391 := X187
      obtain ⟨rfl, Nq188, e189⟩ := hQ187
      have N187 := Fr.app N183 Nq188
      obtain ⟨fs, hr, hrun, hended, hW, hsame⟩ := X187.leave (v := some (.int (1 : Int32))) (fun h => by rw [hret] at h; cases h)
      refine ⟨_, _, pre1 _ ?_, hrun, hended, _, _, rfl, ?_, ⟨_, rfl⟩, hW, hsame.mono (by decide) (by decide)⟩
      ·
        show Steps p.tables e below (s₁.setTop (mkF m 8 #[.val (.long q1), .second, .val (.long q2), .second, .val (.long q3), .second, .val (.long q4), .second, .val (.long q5), .second, .val (.int p6), .unset, .unset, .unset, .unset] [(.int ((3 : Int32) + (p6 &&& (8191 : Int32))))])) _
        refine XS.istore X0.here hx rfl (hb hby at_8) rfl (l' := #[.val (.long q1), .second, .val (.long q2), .second, .val (.long q3), .second, .val (.long q4), .second, .val (.long q5), .second, .val (.int p6), .val (.int ((3 : Int32) + (p6 &&& (8191 : Int32)))), .unset, .unset, .unset]) rfl ?_
        refine XS.lloadN X0.here hx rfl (hb hby at_10) rfl ?_
        refine XS.lload X0.here hx rfl (hb hby at_11) rfl ?_
        refine XS.lxor X0.here hx rfl (hb hby at_13) rfl ?_
        refine XS.lstore X0.here hx rfl (hb hby at_14) rfl (l' := #[.val (.long q1), .second, .val (.long q2), .second, .val (.long q3), .second, .val (.long q4), .second, .val (.long q5), .second, .val (.int p6), .val (.int ((3 : Int32) + (p6 &&& (8191 : Int32)))), .val (.long (q1 ^^^ q4)), .second, .unset]) rfl ?_
        refine st94 _ ?_
        refine XS.dup X94.here hx rfl (hb hby at_19) rfl rfl ?_
        refine XS.lload X94.here hx rfl (hb hby at_20) rfl ?_
        refine XS.lload X94.here hx rfl (hb hby at_22) rfl ?_
        refine XS.iload X94.here hx rfl (hb hby at_24) rfl ?_
        refine st95.trans ?_
        refine XS.astore X95.here hx rfl (hb hby at_29) rfl rfl (l' := #[.val (.long q1), .second, .val (.long q2), .second, .val (.long q3), .second, .val (.long q4), .second, .val (.long q5), .second, .val (.int p6), .val (.int ((3 : Int32) + (p6 &&& (8191 : Int32)))), .val (.long (q1 ^^^ q4)), .second, .val (.ref b94)]) rfl ?_
        refine XS.aload X95.here hx rfl (hb hby at_31) rfl rfl ?_
        refine XS.lloadN X95.here hx rfl (hb hby at_33) rfl ?_
        refine XS.lloadN X95.here hx rfl (hb hby at_34) rfl ?_
        refine st122.trans ?_
        refine XS.aload X122.here hx rfl (hb hby at_38) rfl rfl ?_
        refine XS.lload X122.here hx rfl (hb hby at_40) rfl ?_
        refine XS.lload X122.here hx rfl (hb hby at_42) rfl ?_
        refine st137.trans ?_
        refine XS.aload X137.here hx rfl (hb hby at_47) rfl rfl ?_
        refine XS.lload X137.here hx rfl (hb hby at_49) rfl ?_
        refine XS.lload X137.here hx rfl (hb hby at_51) rfl ?_
        refine st150.trans ?_
        refine XS.aload X150.here hx rfl (hb hby at_56) rfl rfl ?_
        refine st162.trans ?_
        refine XS.iconst X162.here hx rfl (hb hby at_61) ?_
        refine XS.icmpNo X162.here hx rfl (hb hby at_62) rfl (teq (by decide : (3 : Int32) = (3 : Int32))).2 ?_
        refine XS.aload X162.here hx rfl (hb hby at_65) rfl rfl ?_
        refine XS.iconst X162.here hx rfl (hb hby at_67) ?_
        refine st167.trans ?_
        refine XS.lloadN X167.here hx rfl (hb hby at_71) rfl ?_
        refine XS.lcmp X167.here hx rfl (hb hby at_72) rfl ?_
        refine XS.ifNo X167.here hx rfl (hb hby at_73) rfl ((if0 _ _).trans (teq ((lw_eq _ _).mpr (rfl : q1 = q1))).2) ?_
        refine XS.aload X167.here hx rfl (hb hby at_76) rfl rfl ?_
        show Steps p.tables e below (T167.setTop (mkF m 78 #[.val (.long q1), .second, .val (.long q2), .second, .val (.long q3), .second, .val (.long q4), .second, .val (.long q5), .second, .val (.int p6), .val (.int ((3 : Int32) + (p6 &&& (8191 : Int32)))), .val (.long (q1 ^^^ q4)), .second, .val (.ref b94)] [(.ref b94)])) _
        refine XS.iconst X167.here hx rfl (hb hby at_78) ?_
        refine st171.trans ?_
        refine XS.lloadN X171.here hx rfl (hb hby at_82) rfl ?_
        refine XS.lcmp X171.here hx rfl (hb hby at_83) rfl ?_
        refine XS.ifNo X171.here hx rfl (hb hby at_84) rfl ((if0 _ _).trans (teq ((lw_eq _ _).mpr (rfl : q2 = q2))).2) ?_
        refine XS.aload X171.here hx rfl (hb hby at_87) rfl rfl ?_
        refine XS.iconst X171.here hx rfl (hb hby at_89) ?_
        refine st175.trans ?_
        refine XS.lload X175.here hx rfl (hb hby at_93) rfl ?_
        refine XS.lcmp X175.here hx rfl (hb hby at_95) rfl ?_
        refine XS.ifNo X175.here hx rfl (hb hby at_96) rfl ((if0 _ _).trans (teq ((lw_eq _ _).mpr (rfl : q3 = q3))).2) ?_
        refine XS.aload X175.here hx rfl (hb hby at_99) rfl rfl ?_
        refine XS.iconst X175.here hx rfl (hb hby at_101) ?_
        refine st179.trans ?_
        refine XS.lload X179.here hx rfl (hb hby at_105) rfl ?_
        refine XS.lcmp X179.here hx rfl (hb hby at_107) rfl ?_
        refine XS.ifNo X179.here hx rfl (hb hby at_108) rfl ((if0 _ _).trans (teq ((lw_eq _ _).mpr (rfl : q4 = q4))).2) ?_
        refine XS.aload X179.here hx rfl (hb hby at_111) rfl rfl ?_
        refine XS.iconst X179.here hx rfl (hb hby at_113) ?_
        refine st183.trans ?_
        refine XS.lload X183.here hx rfl (hb hby at_117) rfl ?_
        refine XS.lcmp X183.here hx rfl (hb hby at_119) rfl ?_
        refine XS.ifNo X183.here hx rfl (hb hby at_120) rfl ((if0 _ _).trans (teq ((lw_eq _ _).mpr (rfl : q5 = q5))).2) ?_
        refine XS.aload X183.here hx rfl (hb hby at_123) rfl rfl ?_
        refine XS.iconst X183.here hx rfl (hb hby at_125) ?_
        refine st187.trans ?_
        refine XS.lload X187.here hx rfl (hb hby at_129) rfl ?_
        refine XS.lcmp X187.here hx rfl (hb hby at_131) rfl ?_
        refine XS.ifNo X187.here hx rfl (hb hby at_132) rfl ((if0 _ _).trans (teq ((lw_eq _ _).mpr (rfl : (q1 ^^^ q4) = (q1 ^^^ q4)))).2) ?_
        refine XS.iconst X187.here hx rfl (hb hby at_135) ?_
        refine XS.goto X187.here hx rfl (pc0 := 136) (pc' := 140) rfl (hb hby at_136) (by decide) (by decide) ?_
        show Steps p.tables e below (T187.setTop (mkF m 140 #[.val (.long q1), .second, .val (.long q2), .second, .val (.long q3), .second, .val (.long q4), .second, .val (.long q5), .second, .val (.int p6), .val (.int ((3 : Int32) + (p6 &&& (8191 : Int32)))), .val (.long (q1 ^^^ q4)), .second, .val (.ref b94)] [(.int (1 : Int32))])) _
        exact retN X187 hx (t := .boolean) hret (by simp) (hb hby at_140) hr
      ·
        show Q0 n0 _ T187.heap _
        rw [e189]
        exact ⟨rfl, N187⟩
    ·
      obtain ⟨T190, h190, X190, e190, E190, A190, D190, -, st190⟩ := newO X0 hx hZ hown (own_w hw 0 rfl) (own_w hw 1 rfl) (own_w hw 2 rfl) e0 (g := (mkF m 16 #[.val (.long q1), .second, .val (.long q2), .second, .val (.long q3), .second, .val (.long q4), .second, .val (.long q5), .second, .val (.int p6), .val (.int ((3 : Int32) + (p6 &&& (8191 : Int32)))), .val (.long (q1 ^^^ q4)), .second, .unset] [])) rfl (hb hby at_16) (by decide) (by decide)
      obtain ⟨b190, g190⟩ : ∃ z, z = h0.size := ⟨_, rfl⟩
      rw [← g190] at A190 D190 st190
      have M190 : h0.size ≤ h190.size := Nat.le_trans (Nat.le_refl _) E190.1
      have O190 := Old.ext O0 E190
      have sz_b190 : h0.size ≤ b190 := Nat.le_of_eq g190.symm
      have g_b190 : n0 ≤ b190 := Nat.le_trans (own_oz O0) (Nat.le_trans (Nat.le_refl _) sz_b190)
      have F190_21 : Fld Z h190 b190 "java/util/AbstractList" "modCount" "I" (.int (0 : Int32)) := D190 (Or.inl (own_w hw 21 rfl)) (ty := .int) (by decide)
      have F190_23 : Fld Z h190 b190 "com/example/driftless/driftless/DeleteOperations" "firstCounter" "J" (.long (0 : Int64)) := D190 (Or.inr (own_w hw 23 rfl)) (ty := .long) (by decide)
      have F190_25 : Fld Z h190 b190 "com/example/driftless/driftless/DeleteOperations" "replica" "J" (.long (0 : Int64)) := D190 (Or.inr (own_w hw 25 rfl)) (ty := .long) (by decide)
      have F190_29 : Fld Z h190 b190 "com/example/driftless/driftless/DeleteOperations" "targets" "[[J" .null := D190 (Or.inr (own_w hw 29 rfl)) (ty := (.array (.array .long))) (by decide)
      have F190_42 : Fld Z h190 b190 "com/example/driftless/driftless/DeleteOperations" "size" "I" (.int (0 : Int32)) := D190 (Or.inl (own_w hw 42 rfl)) (ty := .int) (by decide)
      obtain ⟨_, _, ⟨T191, L191, c191, n191⟩, -, X191, ⟨Lc191, hQ191, l191, y191, z191⟩, st191⟩ := X190.specialBack hx (y := yn3) rfl hown (mvT hZ (own_w hw 3 rfl)) (mvT hZ (own_w hw 4 rfl)) (mvT hZ (own_w hw 5 rfl)) (by decide) (backOf (W := 1) (rm31 l Z a0 hw [] b190 (((3 : Int32) + (p6 &&& (8191 : Int32)))) q5 q4 h190 n0 O190 g_b190 (by have q0 := own_add2 (x := (p6 &&& (8191 : Int32))) (k := (3 : Int32)) (n := 3) (lo := 0) (hi := 8191) (by decide) (by have q0 := own_and (x := p6) (k := (8191 : Int32)) (n := 8191) (by decide) (by decide); omega) (by decide) (by decide); have q1 := own_nlt1 (n := 4097) (k := (4097 : Int32)) (by decide) hc2; have q2 := own_nlt1 (n := 8193) (k := (8193 : Int32)) (by decide) hc93; omega) A190 F190_23 F190_25 F190_42 F190_29 F190_21) hZ (own_w hw 5 rfl) (own_w hw 2 rfl) (by decide) (by decide)) (g := (mkF m 26 #[.val (.long q1), .second, .val (.long q2), .second, .val (.long q3), .second, .val (.long q4), .second, .val (.long q5), .second, .val (.int p6), .val (.int ((3 : Int32) + (p6 &&& (8191 : Int32)))), .val (.long (q1 ^^^ q4)), .second, .unset] [(.int ((3 : Int32) + (p6 &&& (8191 : Int32)))), (.long q4), (.long q5), (.ref b190), (.ref b190)])) rfl (by rw [hml]; rfl) (Steps.refl _) (a := b190) (argsL := [(.long q5), (.long q4), (.int ((3 : Int32) + (p6 &&& (8191 : Int32))))]) (rest := [(.ref b190)]) (lenOf pd2 rfl) rfl (by show 2 * 0 + _ ≤ _; exact Nat.le_of_eq rfl) (hb hby at_26) (fun _ _ => ⟨rfl, e190, (by decide : 1 + 4 ≤ _), (by decide : 5 + 16391 ≤ _)⟩)
      dsimp only [Pt.U, Pt.locs, Pt.cells, Pt.slots] at X191 l191 y191 z191 st191 hQ191
      subst l191 y191 z191
      have X191 : Stand p l e room_1 s m #[(.long q1), (.long q2), (.long q3), (.long q4), (.long q5), (.int p6)] below meth c T191 _ 5 16396 := X191
      obtain ⟨b192, b193, b194, b195, k196, k197, k198, k199, rfl, Nq200, K201, sz_b192, sz_b193, sz_b194, sz_b195, ne202, ne203, ne204, ne205, ne206, ne207, OV208, f209, f210, f211, f212, f213, f214, f215, f216, f217, f218, f219, f220, f221, f222⟩ := hQ191
      have N191 := Fr.app N0 Nq200
      have g_b192 : n0 ≤ b192 := Nat.le_trans (own_oz O190) sz_b192
      have g_b193 : n0 ≤ b193 := Nat.le_trans (own_oz O190) sz_b193
      have g_b194 : n0 ≤ b194 := Nat.le_trans (own_oz O190) sz_b194
      have g_b195 : n0 ≤ b195 := Nat.le_trans (own_oz O190) sz_b195
      have M191 : h0.size ≤ T191.heap.size := Nat.le_trans M190 K201.1
      have O191 := Old.keep O190 K201 (allS g_b190 all0)
      obtain ⟨cq223, kq223, q223a, q223b, q223c⟩ := isOf hZ rfl f209
      obtain ⟨_, _, ⟨T224, L224, c224, n224⟩, -, X224, ⟨Lc224, hQ224, l224, y224, z224⟩, st224⟩ := X191.virtualBack hx (y := yn4) (z := yn4) hown (mvT hZ (own_w hw 36 rfl)) (mvT hZ (own_w hw 37 rfl)) (notFace_of_selects (args := #[]) (mvT hZ (own_w hw 39 rfl))) (mvT hZ (own_w hw 39 rfl)) (mvT hZ (own_w hw 38 rfl)) (by decide) (backOf (W := 0) (rm32 l Z a0 hw [] b190 b192 b193 b194 b195 k196 ((8192 : Int32)) ((8192 : Int32)) (((2 : Int32) * (((3 : Int32) + (p6 &&& (8191 : Int32))) - (8192 : Int32)))) q5 q4 k197 q1 q2 T191.heap n0 O191 g_b190 g_b192 g_b193 g_b194 g_b195 OV208 (by have q0 := (by decide : ((8192 : Int32)).toInt = 8192); omega) (by have q0 := (by decide : ((8192 : Int32)).toInt = 8192); omega) (by have q0 := own_dbl (x := (((3 : Int32) + (p6 &&& (8191 : Int32))) - (8192 : Int32))) (lo := 1) (hi := 2) (by have q0 := own_sub (x := ((3 : Int32) + (p6 &&& (8191 : Int32)))) (k := (8192 : Int32)) (n := 8192) (lo := 8193) (hi := 8194) (by decide) (by have q0 := own_add2 (x := (p6 &&& (8191 : Int32))) (k := (3 : Int32)) (n := 3) (lo := 0) (hi := 8191) (by decide) (by have q0 := own_and (x := p6) (k := (8191 : Int32)) (n := 8191) (by decide) (by decide); omega) (by decide) (by decide); have q1 := own_nlt1 (n := 4097) (k := (4097 : Int32)) (by decide) hc2; have q2 := own_nlt1 (n := 8193) (k := (8193 : Int32)) (by decide) hc93; omega) (by decide) (by decide); omega) (by decide) (by decide); omega) f209 f210 f211 f212 f213 f214 f215 f217 f218) hZ (own_w hw 40 rfl) (own_w hw 2 rfl) (by decide) (by decide)) q223a q223c (g := (mkF m 35 #[.val (.long q1), .second, .val (.long q2), .second, .val (.long q3), .second, .val (.long q4), .second, .val (.long q5), .second, .val (.int p6), .val (.int ((3 : Int32) + (p6 &&& (8191 : Int32)))), .val (.long (q1 ^^^ q4)), .second, .val (.ref b190)] [(.long q2), (.long q1), (.ref b190)])) rfl (by rw [hml]; rfl) (Steps.refl _) (argsL := [(.long q1), (.long q2)]) (rest := []) (lenOf pd3 rfl) rfl (by show 2 * 0 + _ ≤ _; exact Nat.le_of_eq rfl) (hb hby at_35) (fun _ _ => ⟨rfl, rfl, (by decide : 5 + 0 ≤ _), (by decide : 16396 + 0 ≤ _)⟩)
      dsimp only [Pt.U, Pt.locs, Pt.cells, Pt.slots] at X224 l224 y224 z224 st224 hQ224
      subst l224 y224 z224
      have X224 : Stand p l e room_1 s m #[(.long q1), (.long q2), (.long q3), (.long q4), (.long q5), (.int p6)] below meth c T224 _ 5 16396 := X224
      obtain ⟨rfl, Nq225, K226, f227, f228, f229, f230, f231, f232, f233, f234⟩ := hQ224
      have N224 := Fr.app N191 Nq225
      have M224 : h0.size ≤ T224.heap.size := Nat.le_trans M191 K226.1
      have O224 := Old.keep O191 K226 (allS g_b193 (allS g_b190 all0))
      have lt235 : b190 < h190.size := A190.lt
      have ne236 : b190 ≠ b192 := Nat.ne_of_lt (Nat.lt_of_lt_of_le lt235 sz_b192)
      have f237 := (f215.keep K226 (ninS ne202 (ninS (Ne.symm ne236) nin0)))
      obtain ⟨cq238, kq238, q238a, q238b, q238c⟩ := isOf hZ rfl f229
      obtain ⟨_, _, ⟨T239, L239, c239, n239⟩, -, X239, ⟨Lc239, hQ239, l239, y239, z239⟩, st239⟩ := X224.virtualBack hx (y := yn4) (z := yn4) hown (mvT hZ (own_w hw 36 rfl)) (mvT hZ (own_w hw 37 rfl)) (notFace_of_selects (args := #[]) (mvT hZ (own_w hw 39 rfl))) (mvT hZ (own_w hw 39 rfl)) (mvT hZ (own_w hw 38 rfl)) (by decide) (backOf (W := 0) (rm33 l Z a0 hw [] b190 b192 b193 b194 b195 k196 ((8192 : Int32)) ((8192 : Int32)) (((2 : Int32) * (((3 : Int32) + (p6 &&& (8191 : Int32))) - (8192 : Int32)))) q5 q4 k197 q1 q2 q3 q4 T224.heap n0 O224 g_b190 g_b192 g_b193 g_b194 g_b195 OV208 (by have q0 := (by decide : ((8192 : Int32)).toInt = 8192); omega) (by have q0 := (by decide : ((8192 : Int32)).toInt = 8192); omega) (by have q0 := own_dbl (x := (((3 : Int32) + (p6 &&& (8191 : Int32))) - (8192 : Int32))) (lo := 1) (hi := 2) (by have q0 := own_sub (x := ((3 : Int32) + (p6 &&& (8191 : Int32)))) (k := (8192 : Int32)) (n := 8192) (lo := 8193) (hi := 8194) (by decide) (by have q0 := own_add2 (x := (p6 &&& (8191 : Int32))) (k := (3 : Int32)) (n := 3) (lo := 0) (hi := 8191) (by decide) (by have q0 := own_and (x := p6) (k := (8191 : Int32)) (n := 8191) (by decide) (by decide); omega) (by decide) (by decide); have q1 := own_nlt1 (n := 4097) (k := (4097 : Int32)) (by decide) hc2; have q2 := own_nlt1 (n := 8193) (k := (8193 : Int32)) (by decide) hc93; omega) (by decide) (by decide); omega) (by decide) (by decide); omega) f229 f230 f231 f232 f233 f234 f237 f227 f228) hZ (own_w hw 40 rfl) (own_w hw 2 rfl) (by decide) (by decide)) q238a q238c (g := (mkF m 44 #[.val (.long q1), .second, .val (.long q2), .second, .val (.long q3), .second, .val (.long q4), .second, .val (.long q5), .second, .val (.int p6), .val (.int ((3 : Int32) + (p6 &&& (8191 : Int32)))), .val (.long (q1 ^^^ q4)), .second, .val (.ref b190)] [(.long q4), (.long q3), (.ref b190)])) rfl (by rw [hml]; rfl) (Steps.refl _) (argsL := [(.long q3), (.long q4)]) (rest := []) (lenOf pd3 rfl) rfl (by show 2 * 0 + _ ≤ _; exact Nat.le_of_eq rfl) (hb hby at_44) (fun _ _ => ⟨rfl, rfl, (by decide : 5 + 0 ≤ _), (by decide : 16396 + 0 ≤ _)⟩)
      dsimp only [Pt.U, Pt.locs, Pt.cells, Pt.slots] at X239 l239 y239 z239 st239 hQ239
      subst l239 y239 z239
      have X239 : Stand p l e room_1 s m #[(.long q1), (.long q2), (.long q3), (.long q4), (.long q5), (.int p6)] below meth c T239 _ 5 16396 := X239
      obtain ⟨rfl, Nq240, K241, f242, f243, f244, f245, f246, f247, f248, f249⟩ := hQ239
      have N239 := Fr.app N224 Nq240
      have M239 : h0.size ≤ T239.heap.size := Nat.le_trans M224 K241.1
      have O239 := Old.keep O224 K241 (allS g_b193 (allS g_b190 all0))
      have f250 := (f237.keep K241 (ninS ne202 (ninS (Ne.symm ne236) nin0)))
      obtain ⟨cq251, kq251, q251a, q251b, q251c⟩ := isOf hZ rfl f244
      obtain ⟨_, _, ⟨T252, L252, c252, n252⟩, -, X252, ⟨Lc252, hQ252, l252, y252, z252⟩, st252⟩ := X239.virtualBack hx (y := yn4) (z := yn4) hown (mvT hZ (own_w hw 36 rfl)) (mvT hZ (own_w hw 37 rfl)) (notFace_of_selects (args := #[]) (mvT hZ (own_w hw 39 rfl))) (mvT hZ (own_w hw 39 rfl)) (mvT hZ (own_w hw 38 rfl)) (by decide) (backOf (W := 0) (rm34 l Z a0 hw [] b190 b192 b193 b194 b195 k196 ((8192 : Int32)) ((8192 : Int32)) (((2 : Int32) * (((3 : Int32) + (p6 &&& (8191 : Int32))) - (8192 : Int32)))) q5 q4 k197 q1 q2 q3 q4 q5 ((q1 ^^^ q4)) T239.heap n0 O239 g_b190 g_b192 g_b193 g_b194 g_b195 OV208 (by have q0 := (by decide : ((8192 : Int32)).toInt = 8192); omega) (by have q0 := (by decide : ((8192 : Int32)).toInt = 8192); omega) (by have q0 := own_dbl (x := (((3 : Int32) + (p6 &&& (8191 : Int32))) - (8192 : Int32))) (lo := 1) (hi := 2) (by have q0 := own_sub (x := ((3 : Int32) + (p6 &&& (8191 : Int32)))) (k := (8192 : Int32)) (n := 8192) (lo := 8193) (hi := 8194) (by decide) (by have q0 := own_add2 (x := (p6 &&& (8191 : Int32))) (k := (3 : Int32)) (n := 3) (lo := 0) (hi := 8191) (by decide) (by have q0 := own_and (x := p6) (k := (8191 : Int32)) (n := 8191) (by decide) (by decide); omega) (by decide) (by decide); have q1 := own_nlt1 (n := 4097) (k := (4097 : Int32)) (by decide) hc2; have q2 := own_nlt1 (n := 8193) (k := (8193 : Int32)) (by decide) hc93; omega) (by decide) (by decide); omega) (by decide) (by decide); omega) f244 f245 f246 f247 f248 f249 f250 f242 f243) hZ (own_w hw 40 rfl) (own_w hw 2 rfl) (by decide) (by decide)) q251a q251c (g := (mkF m 53 #[.val (.long q1), .second, .val (.long q2), .second, .val (.long q3), .second, .val (.long q4), .second, .val (.long q5), .second, .val (.int p6), .val (.int ((3 : Int32) + (p6 &&& (8191 : Int32)))), .val (.long (q1 ^^^ q4)), .second, .val (.ref b190)] [(.long (q1 ^^^ q4)), (.long q5), (.ref b190)])) rfl (by rw [hml]; rfl) (Steps.refl _) (argsL := [(.long q5), (.long (q1 ^^^ q4))]) (rest := []) (lenOf pd3 rfl) rfl (by show 2 * 0 + _ ≤ _; exact Nat.le_of_eq rfl) (hb hby at_53) (fun _ _ => ⟨rfl, rfl, (by decide : 5 + 0 ≤ _), (by decide : 16396 + 0 ≤ _)⟩)
      dsimp only [Pt.U, Pt.locs, Pt.cells, Pt.slots] at X252 l252 y252 z252 st252 hQ252
      subst l252 y252 z252
      have X252 : Stand p l e room_1 s m #[(.long q1), (.long q2), (.long q3), (.long q4), (.long q5), (.int p6)] below meth c T252 _ 5 16396 := X252
      obtain ⟨rfl, Nq253, K254, f255, f256, f257, f258, f259, f260, f261, f262⟩ := hQ252
      have N252 := Fr.app N239 Nq253
      have M252 : h0.size ≤ T252.heap.size := Nat.le_trans M239 K254.1
      have O252 := Old.keep O239 K254 (allS g_b193 (allS g_b190 all0))
      obtain ⟨cq263, kq263, q263a, q263b, q263c⟩ := isOf hZ rfl f257
      obtain ⟨_, _, ⟨T264, L264, c264, n264⟩, -, X264, ⟨Lc264, hQ264, l264, y264, z264⟩, st264⟩ := X252.virtualBack hx (y := yn5) (z := yn5) hown (mvT hZ (own_w hw 43 rfl)) (mvT hZ (own_w hw 44 rfl)) (notFace_of_selects (args := #[]) (mvT hZ (own_w hw 46 rfl))) (mvT hZ (own_w hw 46 rfl)) (mvT hZ (own_w hw 45 rfl)) (by decide) (backOf (W := 0) (rm35 l Z a0 hw [] b190 b192 b193 b194 b195 k196 ((8192 : Int32)) ((8192 : Int32)) (((2 : Int32) * (((3 : Int32) + (p6 &&& (8191 : Int32))) - (8192 : Int32)))) T252.heap n0 O252 g_b190 g_b192 g_b193 g_b194 g_b195 OV208 (by have q0 := (by decide : ((8192 : Int32)).toInt = 8192); omega) (by have q0 := (by decide : ((8192 : Int32)).toInt = 8192); omega) (by have q0 := own_dbl (x := (((3 : Int32) + (p6 &&& (8191 : Int32))) - (8192 : Int32))) (lo := 1) (hi := 2) (by have q0 := own_sub (x := ((3 : Int32) + (p6 &&& (8191 : Int32)))) (k := (8192 : Int32)) (n := 8192) (lo := 8193) (hi := 8194) (by decide) (by have q0 := own_add2 (x := (p6 &&& (8191 : Int32))) (k := (3 : Int32)) (n := 3) (lo := 0) (hi := 8191) (by decide) (by have q0 := own_and (x := p6) (k := (8191 : Int32)) (n := 8191) (by decide) (by decide); omega) (by decide) (by decide); have q1 := own_nlt1 (n := 4097) (k := (4097 : Int32)) (by decide) hc2; have q2 := own_nlt1 (n := 8193) (k := (8193 : Int32)) (by decide) hc93; omega) (by decide) (by decide); omega) (by decide) (by decide); omega) f260) hZ (own_w hw 47 rfl) (own_w hw 2 rfl) (by decide) (by decide)) q263a q263c (g := (mkF m 58 #[.val (.long q1), .second, .val (.long q2), .second, .val (.long q3), .second, .val (.long q4), .second, .val (.long q5), .second, .val (.int p6), .val (.int ((3 : Int32) + (p6 &&& (8191 : Int32)))), .val (.long (q1 ^^^ q4)), .second, .val (.ref b190)] [(.ref b190)])) rfl (by rw [hml]; rfl) (Steps.refl _) (argsL := []) (rest := []) (lenOf pd4 rfl) rfl (by show 2 * 0 + _ ≤ _; exact Nat.le_of_eq rfl) (hb hby at_58) (fun _ _ => ⟨rfl, rfl, (by decide : 5 + 0 ≤ _), (by decide : 16396 + 0 ≤ _)⟩)
      dsimp only [Pt.U, Pt.locs, Pt.cells, Pt.slots] at X264 l264 y264 z264 st264 hQ264
      subst l264 y264 z264
      have X264 : Stand p l e room_1 s m #[(.long q1), (.long q2), (.long q3), (.long q4), (.long q5), (.int p6)] below meth c T264 _ 5 16396 := X264
      obtain ⟨rfl, Nq265, e266⟩ := hQ264
      have N264 := Fr.app N252 Nq265
      have f267 := (f250.keep K254 (ninS ne202 (ninS (Ne.symm ne236) nin0)))
      obtain ⟨cq268, kq268, q268a, q268b, q268c⟩ := isOf hZ e266 f257
      obtain ⟨_, _, ⟨T269, L269, c269, n269⟩, -, X269, ⟨Lc269, hQ269, l269, y269, z269⟩, st269⟩ := X264.virtualBack hx (y := yn6) (z := yn6) hown (mvT hZ (own_w hw 48 rfl)) (mvT hZ (own_w hw 49 rfl)) (notFace_of_selects (args := #[]) (mvT hZ (own_w hw 51 rfl))) (mvT hZ (own_w hw 51 rfl)) (mvT hZ (own_w hw 50 rfl)) (by decide) (backOf (W := 0) (rm36 l Z a0 hw [] b190 b192 b193 b194 b195 k196 ((8192 : Int32)) ((8192 : Int32)) (((2 : Int32) * (((3 : Int32) + (p6 &&& (8191 : Int32))) - (8192 : Int32)))) k197 q1 q2 q3 q4 q5 ((q1 ^^^ q4)) T252.heap n0 O252 g_b190 g_b192 g_b193 g_b194 g_b195 OV208 (by have q0 := (by decide : ((8192 : Int32)).toInt = 8192); omega) (by have q0 := (by decide : ((8192 : Int32)).toInt = 8192); omega) (by have q0 := own_dbl (x := (((3 : Int32) + (p6 &&& (8191 : Int32))) - (8192 : Int32))) (lo := 1) (hi := 2) (by have q0 := own_sub (x := ((3 : Int32) + (p6 &&& (8191 : Int32)))) (k := (8192 : Int32)) (n := 8192) (lo := 8193) (hi := 8194) (by decide) (by have q0 := own_add2 (x := (p6 &&& (8191 : Int32))) (k := (3 : Int32)) (n := 3) (lo := 0) (hi := 8191) (by decide) (by have q0 := own_and (x := p6) (k := (8191 : Int32)) (n := 8191) (by decide) (by decide); omega) (by decide) (by decide); have q1 := own_nlt1 (n := 4097) (k := (4097 : Int32)) (by decide) hc2; have q2 := own_nlt1 (n := 8193) (k := (8193 : Int32)) (by decide) hc93; omega) (by decide) (by decide); omega) (by decide) (by decide); omega) f261 f267 f255) hZ (own_w hw 52 rfl) (own_w hw 2 rfl) (by decide) (by decide)) q268a q268c (g := (mkF m 68 #[.val (.long q1), .second, .val (.long q2), .second, .val (.long q3), .second, .val (.long q4), .second, .val (.long q5), .second, .val (.int p6), .val (.int ((3 : Int32) + (p6 &&& (8191 : Int32)))), .val (.long (q1 ^^^ q4)), .second, .val (.ref b190)] [(.int (0 : Int32)), (.ref b190)])) rfl (by rw [hml]; rfl) (Steps.refl _) (argsL := [(.int (0 : Int32))]) (rest := []) (lenOf pd5 rfl) rfl (by show 2 * 0 + _ ≤ _; exact Nat.le_of_eq rfl) (hb hby at_68) (fun _ _ => ⟨rfl, e266, (by decide : 5 + 0 ≤ _), (by decide : 16396 + 0 ≤ _)⟩)
      dsimp only [Pt.U, Pt.locs, Pt.cells, Pt.slots] at X269 l269 y269 z269 st269 hQ269
      subst l269 y269 z269
      have X269 : Stand p l e room_1 s m #[(.long q1), (.long q2), (.long q3), (.long q4), (.long q5), (.int p6)] below meth c T269 _ 5 16396 := X269
      obtain ⟨rfl, Nq270, e271⟩ := hQ269
      have N269 := Fr.app N264 Nq270
      obtain ⟨cq272, kq272, q272a, q272b, q272c⟩ := isOf hZ e271 f257
      obtain ⟨_, _, ⟨T273, L273, c273, n273⟩, -, X273, ⟨Lc273, hQ273, l273, y273, z273⟩, st273⟩ := X269.virtualBack hx (y := yn7) (z := yn7) hown (mvT hZ (own_w hw 53 rfl)) (mvT hZ (own_w hw 54 rfl)) (notFace_of_selects (args := #[]) (mvT hZ (own_w hw 56 rfl))) (mvT hZ (own_w hw 56 rfl)) (mvT hZ (own_w hw 55 rfl)) (by decide) (backOf (W := 0) (rm37 l Z a0 hw [] b190 b192 b193 b194 b195 k196 ((8192 : Int32)) ((8192 : Int32)) (((2 : Int32) * (((3 : Int32) + (p6 &&& (8191 : Int32))) - (8192 : Int32)))) k197 q1 q2 q3 q4 q5 ((q1 ^^^ q4)) T252.heap n0 O252 g_b190 g_b192 g_b193 g_b194 g_b195 OV208 (by have q0 := (by decide : ((8192 : Int32)).toInt = 8192); omega) (by have q0 := (by decide : ((8192 : Int32)).toInt = 8192); omega) (by have q0 := own_dbl (x := (((3 : Int32) + (p6 &&& (8191 : Int32))) - (8192 : Int32))) (lo := 1) (hi := 2) (by have q0 := own_sub (x := ((3 : Int32) + (p6 &&& (8191 : Int32)))) (k := (8192 : Int32)) (n := 8192) (lo := 8193) (hi := 8194) (by decide) (by have q0 := own_add2 (x := (p6 &&& (8191 : Int32))) (k := (3 : Int32)) (n := 3) (lo := 0) (hi := 8191) (by decide) (by have q0 := own_and (x := p6) (k := (8191 : Int32)) (n := 8191) (by decide) (by decide); omega) (by decide) (by decide); have q1 := own_nlt1 (n := 4097) (k := (4097 : Int32)) (by decide) hc2; have q2 := own_nlt1 (n := 8193) (k := (8193 : Int32)) (by decide) hc93; omega) (by decide) (by decide); omega) (by decide) (by decide); omega) f261 f267 f255) hZ (own_w hw 57 rfl) (own_w hw 2 rfl) (by decide) (by decide)) q272a q272c (g := (mkF m 79 #[.val (.long q1), .second, .val (.long q2), .second, .val (.long q3), .second, .val (.long q4), .second, .val (.long q5), .second, .val (.int p6), .val (.int ((3 : Int32) + (p6 &&& (8191 : Int32)))), .val (.long (q1 ^^^ q4)), .second, .val (.ref b190)] [(.int (0 : Int32)), (.ref b190)])) rfl (by rw [hml]; rfl) (Steps.refl _) (argsL := [(.int (0 : Int32))]) (rest := []) (lenOf pd5 rfl) rfl (by show 2 * 0 + _ ≤ _; exact Nat.le_of_eq rfl) (hb hby at_79) (fun _ _ => ⟨rfl, e271, (by decide : 5 + 0 ≤ _), (by decide : 16396 + 0 ≤ _)⟩)
      dsimp only [Pt.U, Pt.locs, Pt.cells, Pt.slots] at X273 l273 y273 z273 st273 hQ273
      subst l273 y273 z273
      have X273 : Stand p l e room_1 s m #[(.long q1), (.long q2), (.long q3), (.long q4), (.long q5), (.int p6)] below meth c T273 _ 5 16396 := X273
      obtain ⟨rfl, Nq274, e275⟩ := hQ273
      have N273 := Fr.app N269 Nq274
      obtain ⟨cq276, kq276, q276a, q276b, q276c⟩ := isOf hZ e275 f257
      obtain ⟨_, _, ⟨T277, L277, c277, n277⟩, -, X277, ⟨Lc277, hQ277, l277, y277, z277⟩, st277⟩ := X273.virtualBack hx (y := yn6) (z := yn6) hown (mvT hZ (own_w hw 48 rfl)) (mvT hZ (own_w hw 49 rfl)) (notFace_of_selects (args := #[]) (mvT hZ (own_w hw 51 rfl))) (mvT hZ (own_w hw 51 rfl)) (mvT hZ (own_w hw 50 rfl)) (by decide) (backOf (W := 0) (rm38 l Z a0 hw [] b190 b192 b193 b194 b195 k196 ((8192 : Int32)) ((8192 : Int32)) (((2 : Int32) * (((3 : Int32) + (p6 &&& (8191 : Int32))) - (8192 : Int32)))) k197 q1 q2 q3 q4 q5 ((q1 ^^^ q4)) T252.heap n0 O252 g_b190 g_b192 g_b193 g_b194 g_b195 OV208 (by have q0 := (by decide : ((8192 : Int32)).toInt = 8192); omega) (by have q0 := (by decide : ((8192 : Int32)).toInt = 8192); omega) (by have q0 := own_dbl (x := (((3 : Int32) + (p6 &&& (8191 : Int32))) - (8192 : Int32))) (lo := 1) (hi := 2) (by have q0 := own_sub (x := ((3 : Int32) + (p6 &&& (8191 : Int32)))) (k := (8192 : Int32)) (n := 8192) (lo := 8193) (hi := 8194) (by decide) (by have q0 := own_add2 (x := (p6 &&& (8191 : Int32))) (k := (3 : Int32)) (n := 3) (lo := 0) (hi := 8191) (by decide) (by have q0 := own_and (x := p6) (k := (8191 : Int32)) (n := 8191) (by decide) (by decide); omega) (by decide) (by decide); have q1 := own_nlt1 (n := 4097) (k := (4097 : Int32)) (by decide) hc2; have q2 := own_nlt1 (n := 8193) (k := (8193 : Int32)) (by decide) hc93; omega) (by decide) (by decide); omega) (by decide) (by decide); omega) f261 f267 f255) hZ (own_w hw 52 rfl) (own_w hw 2 rfl) (by decide) (by decide)) q276a q276c (g := (mkF m 90 #[.val (.long q1), .second, .val (.long q2), .second, .val (.long q3), .second, .val (.long q4), .second, .val (.long q5), .second, .val (.int p6), .val (.int ((3 : Int32) + (p6 &&& (8191 : Int32)))), .val (.long (q1 ^^^ q4)), .second, .val (.ref b190)] [(.int (1 : Int32)), (.ref b190)])) rfl (by rw [hml]; rfl) (Steps.refl _) (argsL := [(.int (1 : Int32))]) (rest := []) (lenOf pd5 rfl) rfl (by show 2 * 0 + _ ≤ _; exact Nat.le_of_eq rfl) (hb hby at_90) (fun _ _ => ⟨rfl, e275, (by decide : 5 + 0 ≤ _), (by decide : 16396 + 0 ≤ _)⟩)
      dsimp only [Pt.U, Pt.locs, Pt.cells, Pt.slots] at X277 l277 y277 z277 st277 hQ277
      subst l277 y277 z277
      have X277 : Stand p l e room_1 s m #[(.long q1), (.long q2), (.long q3), (.long q4), (.long q5), (.int p6)] below meth c T277 _ 5 16396 := X277
      obtain ⟨rfl, Nq278, e279⟩ := hQ277
      have N277 := Fr.app N273 Nq278
      obtain ⟨cq280, kq280, q280a, q280b, q280c⟩ := isOf hZ e279 f257
      obtain ⟨_, _, ⟨T281, L281, c281, n281⟩, -, X281, ⟨Lc281, hQ281, l281, y281, z281⟩, st281⟩ := X277.virtualBack hx (y := yn7) (z := yn7) hown (mvT hZ (own_w hw 53 rfl)) (mvT hZ (own_w hw 54 rfl)) (notFace_of_selects (args := #[]) (mvT hZ (own_w hw 56 rfl))) (mvT hZ (own_w hw 56 rfl)) (mvT hZ (own_w hw 55 rfl)) (by decide) (backOf (W := 0) (rm39 l Z a0 hw [] b190 b192 b193 b194 b195 k196 ((8192 : Int32)) ((8192 : Int32)) (((2 : Int32) * (((3 : Int32) + (p6 &&& (8191 : Int32))) - (8192 : Int32)))) k197 q1 q2 q3 q4 q5 ((q1 ^^^ q4)) T252.heap n0 O252 g_b190 g_b192 g_b193 g_b194 g_b195 OV208 (by have q0 := (by decide : ((8192 : Int32)).toInt = 8192); omega) (by have q0 := (by decide : ((8192 : Int32)).toInt = 8192); omega) (by have q0 := own_dbl (x := (((3 : Int32) + (p6 &&& (8191 : Int32))) - (8192 : Int32))) (lo := 1) (hi := 2) (by have q0 := own_sub (x := ((3 : Int32) + (p6 &&& (8191 : Int32)))) (k := (8192 : Int32)) (n := 8192) (lo := 8193) (hi := 8194) (by decide) (by have q0 := own_add2 (x := (p6 &&& (8191 : Int32))) (k := (3 : Int32)) (n := 3) (lo := 0) (hi := 8191) (by decide) (by have q0 := own_and (x := p6) (k := (8191 : Int32)) (n := 8191) (by decide) (by decide); omega) (by decide) (by decide); have q1 := own_nlt1 (n := 4097) (k := (4097 : Int32)) (by decide) hc2; have q2 := own_nlt1 (n := 8193) (k := (8193 : Int32)) (by decide) hc93; omega) (by decide) (by decide); omega) (by decide) (by decide); omega) f261 f267 f255) hZ (own_w hw 57 rfl) (own_w hw 2 rfl) (by decide) (by decide)) q280a q280c (g := (mkF m 102 #[.val (.long q1), .second, .val (.long q2), .second, .val (.long q3), .second, .val (.long q4), .second, .val (.long q5), .second, .val (.int p6), .val (.int ((3 : Int32) + (p6 &&& (8191 : Int32)))), .val (.long (q1 ^^^ q4)), .second, .val (.ref b190)] [(.int (1 : Int32)), (.ref b190)])) rfl (by rw [hml]; rfl) (Steps.refl _) (argsL := [(.int (1 : Int32))]) (rest := []) (lenOf pd5 rfl) rfl (by show 2 * 0 + _ ≤ _; exact Nat.le_of_eq rfl) (hb hby at_102) (fun _ _ => ⟨rfl, e279, (by decide : 5 + 0 ≤ _), (by decide : 16396 + 0 ≤ _)⟩)
      dsimp only [Pt.U, Pt.locs, Pt.cells, Pt.slots] at X281 l281 y281 z281 st281 hQ281
      subst l281 y281 z281
      have X281 : Stand p l e room_1 s m #[(.long q1), (.long q2), (.long q3), (.long q4), (.long q5), (.int p6)] below meth c T281 _ 5 16396 := X281
      obtain ⟨rfl, Nq282, e283⟩ := hQ281
      have N281 := Fr.app N277 Nq282
      obtain ⟨cq284, kq284, q284a, q284b, q284c⟩ := isOf hZ e283 f257
      obtain ⟨_, _, ⟨T285, L285, c285, n285⟩, -, X285, ⟨Lc285, hQ285, l285, y285, z285⟩, st285⟩ := X281.virtualBack hx (y := yn6) (z := yn6) hown (mvT hZ (own_w hw 48 rfl)) (mvT hZ (own_w hw 49 rfl)) (notFace_of_selects (args := #[]) (mvT hZ (own_w hw 51 rfl))) (mvT hZ (own_w hw 51 rfl)) (mvT hZ (own_w hw 50 rfl)) (by decide) (backOf (W := 0) (rm40 l Z a0 hw [] b190 b192 b193 b194 b195 k196 ((8192 : Int32)) ((8192 : Int32)) (((2 : Int32) * (((3 : Int32) + (p6 &&& (8191 : Int32))) - (8192 : Int32)))) k197 q1 q2 q3 q4 q5 ((q1 ^^^ q4)) T252.heap n0 O252 g_b190 g_b192 g_b193 g_b194 g_b195 OV208 (by have q0 := (by decide : ((8192 : Int32)).toInt = 8192); omega) (by have q0 := (by decide : ((8192 : Int32)).toInt = 8192); omega) (by have q0 := own_dbl (x := (((3 : Int32) + (p6 &&& (8191 : Int32))) - (8192 : Int32))) (lo := 1) (hi := 2) (by have q0 := own_sub (x := ((3 : Int32) + (p6 &&& (8191 : Int32)))) (k := (8192 : Int32)) (n := 8192) (lo := 8193) (hi := 8194) (by decide) (by have q0 := own_add2 (x := (p6 &&& (8191 : Int32))) (k := (3 : Int32)) (n := 3) (lo := 0) (hi := 8191) (by decide) (by have q0 := own_and (x := p6) (k := (8191 : Int32)) (n := 8191) (by decide) (by decide); omega) (by decide) (by decide); have q1 := own_nlt1 (n := 4097) (k := (4097 : Int32)) (by decide) hc2; have q2 := own_nlt1 (n := 8193) (k := (8193 : Int32)) (by decide) hc93; omega) (by decide) (by decide); omega) (by decide) (by decide); omega) f261 f267 f255) hZ (own_w hw 52 rfl) (own_w hw 2 rfl) (by decide) (by decide)) q284a q284c (g := (mkF m 114 #[.val (.long q1), .second, .val (.long q2), .second, .val (.long q3), .second, .val (.long q4), .second, .val (.long q5), .second, .val (.int p6), .val (.int ((3 : Int32) + (p6 &&& (8191 : Int32)))), .val (.long (q1 ^^^ q4)), .second, .val (.ref b190)] [(.int (2 : Int32)), (.ref b190)])) rfl (by rw [hml]; rfl) (Steps.refl _) (argsL := [(.int (2 : Int32))]) (rest := []) (lenOf pd5 rfl) rfl (by show 2 * 0 + _ ≤ _; exact Nat.le_of_eq rfl) (hb hby at_114) (fun _ _ => ⟨rfl, e283, (by decide : 5 + 0 ≤ _), (by decide : 16396 + 0 ≤ _)⟩)
      dsimp only [Pt.U, Pt.locs, Pt.cells, Pt.slots] at X285 l285 y285 z285 st285 hQ285
      subst l285 y285 z285
      have X285 : Stand p l e room_1 s m #[(.long q1), (.long q2), (.long q3), (.long q4), (.long q5), (.int p6)] below meth c T285 _ 5 16396 := X285
      obtain ⟨rfl, Nq286, e287⟩ := hQ285
      have N285 := Fr.app N281 Nq286
      obtain ⟨cq288, kq288, q288a, q288b, q288c⟩ := isOf hZ e287 f257
      obtain ⟨_, _, ⟨T289, L289, c289, n289⟩, -, X289, ⟨Lc289, hQ289, l289, y289, z289⟩, st289⟩ := X285.virtualBack hx (y := yn7) (z := yn7) hown (mvT hZ (own_w hw 53 rfl)) (mvT hZ (own_w hw 54 rfl)) (notFace_of_selects (args := #[]) (mvT hZ (own_w hw 56 rfl))) (mvT hZ (own_w hw 56 rfl)) (mvT hZ (own_w hw 55 rfl)) (by decide) (backOf (W := 0) (rm41 l Z a0 hw [] b190 b192 b193 b194 b195 k196 ((8192 : Int32)) ((8192 : Int32)) (((2 : Int32) * (((3 : Int32) + (p6 &&& (8191 : Int32))) - (8192 : Int32)))) k197 q1 q2 q3 q4 q5 ((q1 ^^^ q4)) T252.heap n0 O252 g_b190 g_b192 g_b193 g_b194 g_b195 OV208 (by have q0 := (by decide : ((8192 : Int32)).toInt = 8192); omega) (by have q0 := (by decide : ((8192 : Int32)).toInt = 8192); omega) (by have q0 := own_dbl (x := (((3 : Int32) + (p6 &&& (8191 : Int32))) - (8192 : Int32))) (lo := 1) (hi := 2) (by have q0 := own_sub (x := ((3 : Int32) + (p6 &&& (8191 : Int32)))) (k := (8192 : Int32)) (n := 8192) (lo := 8193) (hi := 8194) (by decide) (by have q0 := own_add2 (x := (p6 &&& (8191 : Int32))) (k := (3 : Int32)) (n := 3) (lo := 0) (hi := 8191) (by decide) (by have q0 := own_and (x := p6) (k := (8191 : Int32)) (n := 8191) (by decide) (by decide); omega) (by decide) (by decide); have q1 := own_nlt1 (n := 4097) (k := (4097 : Int32)) (by decide) hc2; have q2 := own_nlt1 (n := 8193) (k := (8193 : Int32)) (by decide) hc93; omega) (by decide) (by decide); omega) (by decide) (by decide); omega) f261 f267 f255) hZ (own_w hw 57 rfl) (own_w hw 2 rfl) (by decide) (by decide)) q288a q288c (g := (mkF m 126 #[.val (.long q1), .second, .val (.long q2), .second, .val (.long q3), .second, .val (.long q4), .second, .val (.long q5), .second, .val (.int p6), .val (.int ((3 : Int32) + (p6 &&& (8191 : Int32)))), .val (.long (q1 ^^^ q4)), .second, .val (.ref b190)] [(.int (2 : Int32)), (.ref b190)])) rfl (by rw [hml]; rfl) (Steps.refl _) (argsL := [(.int (2 : Int32))]) (rest := []) (lenOf pd5 rfl) rfl (by show 2 * 0 + _ ≤ _; exact Nat.le_of_eq rfl) (hb hby at_126) (fun _ _ => ⟨rfl, e287, (by decide : 5 + 0 ≤ _), (by decide : 16396 + 0 ≤ _)⟩)
      dsimp only [Pt.U, Pt.locs, Pt.cells, Pt.slots] at X289 l289 y289 z289 st289 hQ289
      subst l289 y289 z289
      have X289 : Stand p l e room_1 s m #[(.long q1), (.long q2), (.long q3), (.long q4), (.long q5), (.int p6)] below meth c T289 _ 5 16396 := X289
      obtain ⟨rfl, Nq290, e291⟩ := hQ289
      have N289 := Fr.app N285 Nq290
      obtain ⟨fs, hr, hrun, hended, hW, hsame⟩ := X289.leave (v := some (.int (1 : Int32))) (fun h => by rw [hret] at h; cases h)
      refine ⟨_, _, pre1 _ ?_, hrun, hended, _, _, rfl, ?_, ⟨_, rfl⟩, hW, hsame.mono (by decide) (by decide)⟩
      ·
        show Steps p.tables e below (s₁.setTop (mkF m 8 #[.val (.long q1), .second, .val (.long q2), .second, .val (.long q3), .second, .val (.long q4), .second, .val (.long q5), .second, .val (.int p6), .unset, .unset, .unset, .unset] [(.int ((3 : Int32) + (p6 &&& (8191 : Int32))))])) _
        refine XS.istore X0.here hx rfl (hb hby at_8) rfl (l' := #[.val (.long q1), .second, .val (.long q2), .second, .val (.long q3), .second, .val (.long q4), .second, .val (.long q5), .second, .val (.int p6), .val (.int ((3 : Int32) + (p6 &&& (8191 : Int32)))), .unset, .unset, .unset]) rfl ?_
        refine XS.lloadN X0.here hx rfl (hb hby at_10) rfl ?_
        refine XS.lload X0.here hx rfl (hb hby at_11) rfl ?_
        refine XS.lxor X0.here hx rfl (hb hby at_13) rfl ?_
        refine XS.lstore X0.here hx rfl (hb hby at_14) rfl (l' := #[.val (.long q1), .second, .val (.long q2), .second, .val (.long q3), .second, .val (.long q4), .second, .val (.long q5), .second, .val (.int p6), .val (.int ((3 : Int32) + (p6 &&& (8191 : Int32)))), .val (.long (q1 ^^^ q4)), .second, .unset]) rfl ?_
        refine st190 _ ?_
        refine XS.dup X190.here hx rfl (hb hby at_19) rfl rfl ?_
        refine XS.lload X190.here hx rfl (hb hby at_20) rfl ?_
        refine XS.lload X190.here hx rfl (hb hby at_22) rfl ?_
        refine XS.iload X190.here hx rfl (hb hby at_24) rfl ?_
        refine st191.trans ?_
        refine XS.astore X191.here hx rfl (hb hby at_29) rfl rfl (l' := #[.val (.long q1), .second, .val (.long q2), .second, .val (.long q3), .second, .val (.long q4), .second, .val (.long q5), .second, .val (.int p6), .val (.int ((3 : Int32) + (p6 &&& (8191 : Int32)))), .val (.long (q1 ^^^ q4)), .second, .val (.ref b190)]) rfl ?_
        refine XS.aload X191.here hx rfl (hb hby at_31) rfl rfl ?_
        refine XS.lloadN X191.here hx rfl (hb hby at_33) rfl ?_
        refine XS.lloadN X191.here hx rfl (hb hby at_34) rfl ?_
        refine st224.trans ?_
        refine XS.aload X224.here hx rfl (hb hby at_38) rfl rfl ?_
        refine XS.lload X224.here hx rfl (hb hby at_40) rfl ?_
        refine XS.lload X224.here hx rfl (hb hby at_42) rfl ?_
        refine st239.trans ?_
        refine XS.aload X239.here hx rfl (hb hby at_47) rfl rfl ?_
        refine XS.lload X239.here hx rfl (hb hby at_49) rfl ?_
        refine XS.lload X239.here hx rfl (hb hby at_51) rfl ?_
        refine st252.trans ?_
        refine XS.aload X252.here hx rfl (hb hby at_56) rfl rfl ?_
        refine st264.trans ?_
        refine XS.iconst X264.here hx rfl (hb hby at_61) ?_
        refine XS.icmpNo X264.here hx rfl (hb hby at_62) rfl (teq (by decide : (3 : Int32) = (3 : Int32))).2 ?_
        refine XS.aload X264.here hx rfl (hb hby at_65) rfl rfl ?_
        refine XS.iconst X264.here hx rfl (hb hby at_67) ?_
        refine st269.trans ?_
        refine XS.lloadN X269.here hx rfl (hb hby at_71) rfl ?_
        refine XS.lcmp X269.here hx rfl (hb hby at_72) rfl ?_
        refine XS.ifNo X269.here hx rfl (hb hby at_73) rfl ((if0 _ _).trans (teq ((lw_eq _ _).mpr (rfl : q1 = q1))).2) ?_
        refine XS.aload X269.here hx rfl (hb hby at_76) rfl rfl ?_
        show Steps p.tables e below (T269.setTop (mkF m 78 #[.val (.long q1), .second, .val (.long q2), .second, .val (.long q3), .second, .val (.long q4), .second, .val (.long q5), .second, .val (.int p6), .val (.int ((3 : Int32) + (p6 &&& (8191 : Int32)))), .val (.long (q1 ^^^ q4)), .second, .val (.ref b190)] [(.ref b190)])) _
        refine XS.iconst X269.here hx rfl (hb hby at_78) ?_
        refine st273.trans ?_
        refine XS.lloadN X273.here hx rfl (hb hby at_82) rfl ?_
        refine XS.lcmp X273.here hx rfl (hb hby at_83) rfl ?_
        refine XS.ifNo X273.here hx rfl (hb hby at_84) rfl ((if0 _ _).trans (teq ((lw_eq _ _).mpr (rfl : q2 = q2))).2) ?_
        refine XS.aload X273.here hx rfl (hb hby at_87) rfl rfl ?_
        refine XS.iconst X273.here hx rfl (hb hby at_89) ?_
        refine st277.trans ?_
        refine XS.lload X277.here hx rfl (hb hby at_93) rfl ?_
        refine XS.lcmp X277.here hx rfl (hb hby at_95) rfl ?_
        refine XS.ifNo X277.here hx rfl (hb hby at_96) rfl ((if0 _ _).trans (teq ((lw_eq _ _).mpr (rfl : q3 = q3))).2) ?_
        refine XS.aload X277.here hx rfl (hb hby at_99) rfl rfl ?_
        refine XS.iconst X277.here hx rfl (hb hby at_101) ?_
        refine st281.trans ?_
        refine XS.lload X281.here hx rfl (hb hby at_105) rfl ?_
        refine XS.lcmp X281.here hx rfl (hb hby at_107) rfl ?_
        refine XS.ifNo X281.here hx rfl (hb hby at_108) rfl ((if0 _ _).trans (teq ((lw_eq _ _).mpr (rfl : q4 = q4))).2) ?_
        refine XS.aload X281.here hx rfl (hb hby at_111) rfl rfl ?_
        refine XS.iconst X281.here hx rfl (hb hby at_113) ?_
        refine st285.trans ?_
        refine XS.lload X285.here hx rfl (hb hby at_117) rfl ?_
        refine XS.lcmp X285.here hx rfl (hb hby at_119) rfl ?_
        refine XS.ifNo X285.here hx rfl (hb hby at_120) rfl ((if0 _ _).trans (teq ((lw_eq _ _).mpr (rfl : q5 = q5))).2) ?_
        refine XS.aload X285.here hx rfl (hb hby at_123) rfl rfl ?_
        refine XS.iconst X285.here hx rfl (hb hby at_125) ?_
        refine st289.trans ?_
        refine XS.lload X289.here hx rfl (hb hby at_129) rfl ?_
        refine XS.lcmp X289.here hx rfl (hb hby at_131) rfl ?_
        refine XS.ifNo X289.here hx rfl (hb hby at_132) rfl ((if0 _ _).trans (teq ((lw_eq _ _).mpr (rfl : (q1 ^^^ q4) = (q1 ^^^ q4)))).2) ?_
        refine XS.iconst X289.here hx rfl (hb hby at_135) ?_
        refine XS.goto X289.here hx rfl (pc0 := 136) (pc' := 140) rfl (hb hby at_136) (by decide) (by decide) ?_
        show Steps p.tables e below (T289.setTop (mkF m 140 #[.val (.long q1), .second, .val (.long q2), .second, .val (.long q3), .second, .val (.long q4), .second, .val (.long q5), .second, .val (.int p6), .val (.int ((3 : Int32) + (p6 &&& (8191 : Int32)))), .val (.long (q1 ^^^ q4)), .second, .val (.ref b190)] [(.int (1 : Int32))])) _
        exact retN X289 hx (t := .boolean) hret (by simp) (hb hby at_140) hr
      ·
        show Q0 n0 _ T289.heap _
        rw [e291]
        exact ⟨rfl, N289⟩
set_option maxRecDepth 65536 in
set_option maxHeartbeats 40000000 in
theorem comes_1 {Post : Tables → Env → Array Value → State → Outcome → State → Prop} (hpost : ∀ tb e args s v u, (limb_1_1.after args s (.returned v) u = true ∧ limb_1_2.after args s (.returned v) u = true ∧ True) → FrameEnd s (.returned v) u (Jvm.fieldLocs frame_1_writes args s ++ Jvm.arrayLocs frame_1_arrays args s ++ Jvm.staticLocs frame_1_statics s) 24 32896 → Post tb e args s (.returned v) u) :
    ArmFor flags0 classFile x code maxLocals ret World_1 tables_1 room_1 Calls_1 rest_1 Pre_1 Post := by
  intro l hfl _ _ p e ha hc hk s m args below hf hA hF happ hP
  obtain ⟨hcalls, hrest, hpre⟩ := hP
  obtain ⟨-, -, -, hnamed, -, -, -, hat⟩ := (Spec.applies_iff hf).mp happ
  obtain ⟨hg, hn⟩ := and_e (Cond.before_iff.mp (show (Jvm.Cond.and given_1 narrow_1).before args s = true from hpre))
  obtain ⟨hcount, hk0⟩ := and_e hg
  obtain ⟨hi0, hk1⟩ := and_e hk0
  obtain ⟨hi1, hk2⟩ := and_e hk1
  obtain ⟨hi2, hk3⟩ := and_e hk2
  obtain ⟨hi3, hk4⟩ := and_e hk3
  obtain ⟨hi4, hk5⟩ := and_e hk4
  have hi5 := hk5
  obtain ⟨w_a0, w_a1, w_a2, w_a3, w_a4, w_a5, rfl⟩ : ∃ w_a0 w_a1 w_a2 w_a3 w_a4 w_a5 : Value, args = #[w_a0, w_a1, w_a2, w_a3, w_a4, w_a5] := by
    have hs : args.size = 6 := by simpa [Cond.value, given_1] using hcount
    obtain ⟨L⟩ := args
    match L, hs with
    | [w_a0, w_a1, w_a2, w_a3, w_a4, w_a5], _ => exact ⟨w_a0, w_a1, w_a2, w_a3, w_a4, w_a5, rfl⟩
  have hw := fun d (hd : d ∈ tables_1) => atoms_spec (ws := Jvm.Cond.code x code maxLocals ret :: tables_1) hat d (List.mem_cons_of_mem _ hd)
  have hfit : Fit s := fun {y c} hc i hi => by
    obtain ⟨ha, rfl⟩ := Array.getElem?_eq_some_iff.mp hc
    have q := List.all_eq_true.mp ((Array.all_eq_true_iff_forall_mem.mp hF) _ (Array.getElem_mem ha)) i (List.mem_range.mpr hi)
    simpa [Array.getElem?_eq_getElem hi] using q
  obtain ⟨i0, ei0⟩ := isL_v hi0
  obtain rfl : w_a0 = (.long i0) := Option.some.inj ei0
  obtain ⟨i1, ei1⟩ := isL_v hi1
  obtain rfl : w_a1 = (.long i1) := Option.some.inj ei1
  obtain ⟨i2, ei2⟩ := isL_v hi2
  obtain rfl : w_a2 = (.long i2) := Option.some.inj ei2
  obtain ⟨i3, ei3⟩ := isL_v hi3
  obtain rfl : w_a3 = (.long i3) := Option.some.inj ei3
  obtain ⟨i4, ei4⟩ := isL_v hi4
  obtain rfl : w_a4 = (.long i4) := Option.some.inj ei4
  obtain ⟨i5, ei5⟩ := is_v hi5
  obtain rfl : w_a5 = (.int i5) := Option.some.inj ei5
  obtain ⟨n, o, h1, h2, h3, _, L, rfl, ⟨rfl, N⟩, hq⟩ := rm0 l s _ hw tables_1 i0 i1 i2 i3 i4 i5 s.heap s.heap.size (Old.start s) p e ha hc hk s m _ below hf ((Spec.applies_iff_loose hf).mp happ).1 ⟨rfl, State.Warmed39.refl s, rfl⟩ trivial
  refine ⟨n, _, h1, h2, h3, hpost _ _ _ _ _ _ ⟨Cond.after_iff.mpr rfl, Cond.after_iff.mpr (eq_i res_at (Term.int_eval (1)) rfl), trivial⟩ ⟨hq.1, hq.2.1, (hq.2.2.sift fun y hy => Or.inr (N y hy)).mono (by decide) (by decide)⟩⟩
theorem main_1_1 : Claimed_1_1 := comes_1 fun _ _ _ _ _ _ h hF => ⟨h.1, hF⟩
theorem main_1_2 : Claimed_1_2 := comes_1 fun _ _ _ _ _ _ h hF => ⟨h.2.1, hF⟩
end Jvm.Pilot.@@N@@
namespace Jvm.Pilot.@@N@@
open Jvm Jvm.ClassFile Sem Op Lib Jvm.Free Jvm.Stand Jvm.Pilot.@@N@@.Jvm.D
/-! MADE BY PROGRAM (witnessworld.py) out of the Statement's table words and the real class files: 19 classes; the members and pool entries that the words name. The judged class is class 1, her method 1. -/
namespace start1
open Jvm.ClassFile
def u (s : String) : CpInfo := .utf8 (stringToUtf16 s)
/-- a pool by its gaps: so many unusable entries, then the entry; so many at the end -/
def gap : Nat → List CpInfo → List CpInfo
  | 0, r => r
  | n + 1, r => .unusable :: gap n r
def poolList (es : List (Nat × CpInfo)) (last : Nat) : List CpInfo := es.foldr (fun e r => gap e.1 (e.2 :: r)) (gap last [])
def pool (es : List (Nat × CpInfo)) (last : Nat) : Array CpInfo := ⟨poolList es last⟩
def fileOf (pool : Array CpInfo) (this : Nat) (attrs : Array Attribute := #[]) (ms : Array MethodInfo := #[]) (fl : Nat := 33) (sup : Nat := 0) (ifs : Array Nat := #[]) (fds : Array FieldInfo := #[]) : ClassFile where
  minorVersion := 0
  majorVersion := 65
  constantPool := pool
  accessFlags := fl
  thisClass := this
  superClass := sup
  interfaces := ifs
  fields := fds
  methods := ms
  attributes := attrs
def plain (name : String) (sup : Option ClassId) : Class where
  name := name
  kind := .ordinary
  loader := none
  accessFlags := 33
  super := sup
  interfaces := #[]
  cf := none
  fields := #[]
  methods := #[]
  instanceTypes := #[]
  staticTypes := #[]
  resolved := #[]
  callSites := []
  init := .initialized
  statics := none
  mirror := none

def pool0 : Array CpInfo := pool [(5, u "<init>"), (0, u "()V"), (1, .class_ 10), (1, u "java/lang/Object")] 113

def k0c0 : Code := { maxStack := 0, maxLocals := 1, code := object_method_1_code, exceptionTable := #[], attributes := #[] }
def k0m0 : Method := { name := "<init>", desc := "()V", sig := { parameters := [], returnType := none }, accessFlags := 1, code := some k0c0 }
/-- java/lang/Object -/
def k0 : Class := { plain "java/lang/Object" none with
  accessFlags := 33
  interfaces := #[]
  cf := some (fileOf pool0 8 #[] #[{ accessFlags := 1, nameIndex := 5, descriptorIndex := 6, attributes := #[] }] 33 0 #[] #[])
  fields := #[]
  methods := #[k0m0]
  instanceTypes := #[]
  staticTypes := #[]
  resolved := Array.replicate 124 none
  statics := none }

def pool1 : Array CpInfo := pool [(2, .class_ 4), (1, u "java/lang/Object"), (0, u "<init>"), (0, u "()V"), (0, .class_ 8), (0, u "com/example/driftless/driftless/DeleteOperations"), (0, .methodref 7 10), (0, .nameAndType 5 11), (0, u "(JJI)V"), (0, .methodref 7 13), (0, .nameAndType 14 15), (0, u "append"), (0, u "(JJ)V"), (0, .methodref 7 17), (0, .nameAndType 18 19), (0, u "size"), (0, u "()I"), (0, .methodref 7 21), (0, .nameAndType 22 23), (0, u "targetCounter"), (0, u "(I)J"), (0, .methodref 7 25), (0, .nameAndType 26 23), (0, u "targetReplica"), (0, .class_ 28), (0, u "com/example/driftless/driftless/DeleteOperationsAppendPinLaw"), (2, u "law"), (0, u "(JJJJJI)Z")] 3

def k1m0 : Method := { name := "<init>", desc := "()V", sig := { parameters := [], returnType := none }, accessFlags := 1, code := none }
def k1c1 : Code := { maxStack := 7, maxLocals := 15, code := code, exceptionTable := #[], attributes := #[] }
def k1m1 : Method := { name := "law", desc := "(JJJJJI)Z", sig := { parameters := [.long, .long, .long, .long, .long, .int], returnType := some .boolean }, accessFlags := 9, code := some k1c1 }
/-- com/example/driftless/driftless/DeleteOperationsAppendPinLaw -/
def k1 : Class := { plain "com/example/driftless/driftless/DeleteOperationsAppendPinLaw" (some 0) with
  accessFlags := 49
  interfaces := #[]
  cf := some (fileOf pool1 27 #[] #[{ accessFlags := 1, nameIndex := 5, descriptorIndex := 6, attributes := #[] }, { accessFlags := 9, nameIndex := 31, descriptorIndex := 32, attributes := #[] }] 49 2 #[] #[])
  fields := #[]
  methods := #[k1m0, k1m1]
  instanceTypes := #[]
  staticTypes := #[]
  resolved := Array.replicate 36 none
  statics := none }

def pool2 : Array CpInfo := pool [(8, .class_ 10), (1, u "java/lang/Iterable"), (24, .class_ 36), (0, u "java/lang/Object")] 25

/-- java/lang/Iterable -/
def k2 : Class := { plain "java/lang/Iterable" (some 0) with
  accessFlags := 1537
  interfaces := #[]
  cf := some (fileOf pool2 8 #[] #[] 1537 35 #[] #[])
  fields := #[]
  methods := #[]
  instanceTypes := #[]
  staticTypes := #[]
  resolved := Array.replicate 62 none
  statics := none }

def pool3 : Array CpInfo := pool [(10, .class_ 12), (1, u "java/util/Collection"), (47, .class_ 61), (0, u "java/lang/Object"), (0, .class_ 63), (0, u "java/lang/Iterable")] 51

/-- java/util/Collection -/
def k3 : Class := { plain "java/util/Collection" (some 0) with
  accessFlags := 1537
  interfaces := #[2]
  cf := some (fileOf pool3 10 #[] #[] 1537 60 #[62] #[])
  fields := #[]
  methods := #[]
  instanceTypes := #[]
  staticTypes := #[]
  resolved := Array.replicate 115 none
  statics := none }

def pool4 : Array CpInfo := pool [(1, .methodref 2 3), (0, .class_ 4), (0, .nameAndType 5 6), (0, u "java/lang/Object"), (0, u "<init>"), (0, u "()V"), (1, .class_ 10), (1, u "java/util/AbstractCollection"), (66, .class_ 78), (0, u "java/util/Collection")] 81

def k4c0 : Code := { maxStack := 1, maxLocals := 1, code := jdk_22_method_1_code, exceptionTable := #[], attributes := #[] }
def k4m0 : Method := { name := "<init>", desc := "()V", sig := { parameters := [], returnType := none }, accessFlags := 4, code := some k4c0 }
/-- java/util/AbstractCollection -/
def k4 : Class := { plain "java/util/AbstractCollection" (some 0) with
  accessFlags := 1057
  interfaces := #[3]
  cf := some (fileOf pool4 8 #[] #[{ accessFlags := 4, nameIndex := 5, descriptorIndex := 6, attributes := #[] }] 1057 2 #[77] #[])
  fields := #[]
  methods := #[k4m0]
  instanceTypes := #[]
  staticTypes := #[]
  resolved := Array.replicate 160 none
  statics := none }

def pool5 : Array CpInfo := pool [(8, .class_ 10), (1, u "java/util/SequencedCollection"), (15, .class_ 27), (0, u "java/lang/Object"), (0, .class_ 29), (0, u "java/util/Collection")] 27

/-- java/util/SequencedCollection -/
def k5 : Class := { plain "java/util/SequencedCollection" (some 0) with
  accessFlags := 1537
  interfaces := #[3]
  cf := some (fileOf pool5 8 #[] #[] 1537 26 #[28] #[])
  fields := #[]
  methods := #[]
  instanceTypes := #[]
  staticTypes := #[]
  resolved := Array.replicate 57 none
  statics := none }

def pool6 : Array CpInfo := pool [(8, .class_ 10), (1, u "java/util/List"), (92, .class_ 104), (0, u "java/lang/Object"), (15, .class_ 121), (0, u "java/util/SequencedCollection")] 129

/-- java/util/List -/
def k6 : Class := { plain "java/util/List" (some 0) with
  accessFlags := 1537
  interfaces := #[5]
  cf := some (fileOf pool6 8 #[] #[] 1537 103 #[120] #[])
  fields := #[]
  methods := #[]
  instanceTypes := #[]
  staticTypes := #[]
  resolved := Array.replicate 251 none
  statics := none }

def pool7 : Array CpInfo := pool [(1, .methodref 2 3), (0, .class_ 4), (0, .nameAndType 5 6), (0, u "java/util/AbstractCollection"), (0, u "<init>"), (0, u "()V"), (0, .fieldref 8 9), (0, .class_ 10), (0, .nameAndType 11 12), (0, u "java/util/AbstractList"), (0, u "modCount"), (0, u "I"), (64, .class_ 78), (0, u "java/util/AbstractList$Itr"), (3, .class_ 83), (0, u "java/util/AbstractList$ListItr"), (9, .class_ 94), (0, u "java/util/AbstractList$RandomAccessSubList"), (3, .class_ 99), (0, u "java/util/AbstractList$SubList"), (33, .class_ 134), (0, u "java/util/List"), (73, .class_ 209), (0, u "java/util/AbstractList$SubList$1"), (0, .class_ 211), (0, u "java/util/AbstractList$RandomAccessSpliterator")] 6

def k7c0 : Code := { maxStack := 2, maxLocals := 1, code := jdk_39_method_1_code, exceptionTable := #[], attributes := #[] }
def k7m0 : Method := { name := "<init>", desc := "()V", sig := { parameters := [], returnType := none }, accessFlags := 4, code := some k7c0 }
/-- java/util/AbstractList -/
def k7 : Class := { plain "java/util/AbstractList" (some 4) with
  accessFlags := 1057
  interfaces := #[6]
  cf := some (fileOf pool7 8 #[.nestMembers #[93, 98, 208, 210, 82, 77]] #[{ accessFlags := 4, nameIndex := 5, descriptorIndex := 6, attributes := #[] }] 1057 2 #[133] #[{ accessFlags := 132, nameIndex := 11, descriptorIndex := 12, attributes := #[] }])
  fields := #[{ name := "modCount", type := .int, accessFlags := 132, slot := 0, constantValue := 0 }]
  methods := #[k7m0]
  instanceTypes := #[.int]
  staticTypes := #[]
  resolved := Array.replicate 218 none
  statics := none }

def pool8 : Array CpInfo := pool [(1, .class_ 2), (0, u "java/util/RandomAccess"), (0, .class_ 4), (0, u "java/lang/Object")] 2

/-- java/util/RandomAccess -/
def k8 : Class := { plain "java/util/RandomAccess" (some 0) with
  accessFlags := 1537
  interfaces := #[]
  cf := some (fileOf pool8 1 #[] #[] 1537 3 #[] #[])
  fields := #[]
  methods := #[]
  instanceTypes := #[]
  staticTypes := #[]
  resolved := Array.replicate 7 none
  statics := none }

def pool9 : Array CpInfo := pool [(1, .class_ 2), (0, u "com/example/driftless/driftless/DeleteOperations"), (0, .methodref 4 5), (0, .class_ 6), (0, .nameAndType 7 8), (0, u "java/util/AbstractList"), (0, u "<init>"), (0, u "()V"), (0, .fieldref 1 10), (0, .nameAndType 11 12), (0, u "firstCounter"), (0, u "J"), (0, .fieldref 1 14), (0, .nameAndType 15 12), (0, u "replica"), (0, .class_ 17), (0, u "[J"), (0, .fieldref 1 19), (0, .nameAndType 20 21), (0, u "targets"), (0, u "[[J"), (0, .methodref 23 24), (0, .class_ 25), (0, .nameAndType 26 27), (0, u "java/lang/Math"), (0, u "min"), (0, u "(II)I"), (0, .fieldref 1 29), (0, .nameAndType 30 31), (0, u "size"), (0, u "I"), (11, u "(JJ)V"), (2, u "targetCounter"), (0, u "(I)J"), (2, u "targetReplica"), (7, .class_ 59), (0, u "java/util/RandomAccess"), (0, u "CHUNK_BITS"), (2, u "CHUNK"), (1, u "(JJI)V"), (3, u "append"), (1, u "()I")] 10

def k9c0 : Code := { maxStack := 7, maxLocals := 8, code := prog_7_method_1_code, exceptionTable := #[], attributes := #[] }
def k9m0 : Method := { name := "<init>", desc := "(JJI)V", sig := { parameters := [.long, .long, .int], returnType := none }, accessFlags := 0, code := some k9c0 }
def k9c1 : Code := { maxStack := 4, maxLocals := 7, code := prog_7_method_2_code, exceptionTable := #[], attributes := #[] }
def k9m1 : Method := { name := "append", desc := "(JJ)V", sig := { parameters := [.long, .long], returnType := none }, accessFlags := 0, code := some k9c1 }
def k9c2 : Code := { maxStack := 4, maxLocals := 2, code := prog_7_method_6_code, exceptionTable := #[], attributes := #[] }
def k9m2 : Method := { name := "targetCounter", desc := "(I)J", sig := { parameters := [.int], returnType := some .long }, accessFlags := 0, code := some k9c2 }
def k9c3 : Code := { maxStack := 4, maxLocals := 2, code := prog_7_method_7_code, exceptionTable := #[], attributes := #[] }
def k9m3 : Method := { name := "targetReplica", desc := "(I)J", sig := { parameters := [.int], returnType := some .long }, accessFlags := 0, code := some k9c3 }
def k9c4 : Code := { maxStack := 1, maxLocals := 1, code := prog_7_method_8_code, exceptionTable := #[], attributes := #[] }
def k9m4 : Method := { name := "size", desc := "()I", sig := { parameters := [], returnType := some .int }, accessFlags := 1, code := some k9c4 }
/-- com/example/driftless/driftless/DeleteOperations -/
def k9 : Class := { plain "com/example/driftless/driftless/DeleteOperations" (some 7) with
  accessFlags := 48
  interfaces := #[8]
  cf := some (fileOf pool9 1 #[] #[{ accessFlags := 0, nameIndex := 7, descriptorIndex := 65, attributes := #[] }, { accessFlags := 0, nameIndex := 69, descriptorIndex := 43, attributes := #[] }, { accessFlags := 0, nameIndex := 46, descriptorIndex := 47, attributes := #[] }, { accessFlags := 0, nameIndex := 50, descriptorIndex := 47, attributes := #[] }, { accessFlags := 1, nameIndex := 30, descriptorIndex := 71, attributes := #[] }] 48 4 #[58] #[{ accessFlags := 26, nameIndex := 60, descriptorIndex := 31, attributes := #[] }, { accessFlags := 26, nameIndex := 63, descriptorIndex := 31, attributes := #[] }, { accessFlags := 18, nameIndex := 11, descriptorIndex := 12, attributes := #[] }, { accessFlags := 18, nameIndex := 15, descriptorIndex := 12, attributes := #[] }, { accessFlags := 18, nameIndex := 20, descriptorIndex := 21, attributes := #[] }, { accessFlags := 2, nameIndex := 30, descriptorIndex := 31, attributes := #[] }])
  fields := #[{ name := "CHUNK_BITS", type := .int, accessFlags := 26, slot := 0, constantValue := 0 }, { name := "CHUNK", type := .int, accessFlags := 26, slot := 1, constantValue := 0 }, { name := "firstCounter", type := .long, accessFlags := 18, slot := 1, constantValue := 0 }, { name := "replica", type := .long, accessFlags := 18, slot := 2, constantValue := 0 }, { name := "targets", type := (.array (.array .long)), accessFlags := 18, slot := 3, constantValue := 0 }, { name := "size", type := .int, accessFlags := 2, slot := 4, constantValue := 0 }]
  methods := #[k9m0, k9m1, k9m2, k9m3, k9m4]
  instanceTypes := #[.int, .long, .long, (.array (.array .long)), .int]
  staticTypes := #[.int, .int]
  resolved := Array.replicate 82 none
  statics := none }

def pool10 : Array CpInfo := pool [(1, .class_ 2), (0, u "java/lang/Math"), (1, .class_ 6), (1, u "java/lang/Object"), (0, u "<init>"), (0, u "()V"), (89, .class_ 100), (1, u "java/lang/Math$RandomNumberGeneratorHolder"), (71, u "negativeZeroFloatBits"), (0, u "J"), (2, u "negativeZeroDoubleBits"), (24, u "min"), (43, u "$assertionsDisabled"), (0, u "Z"), (88, u "(II)I"), (2, u "twoToTheDoubleScaleDown"), (0, u "D"), (4, u "twoToTheDoubleScaleUp"), (9, u "E"), (3, u "PI"), (2, u "TAU"), (2, u "DEGREES_TO_RADIANS"), (0, u "RADIANS_TO_DEGREES")] 94

def k10m0 : Method := { name := "<init>", desc := "()V", sig := { parameters := [], returnType := none }, accessFlags := 2, code := none }
def k10c1 : Code := { maxStack := 2, maxLocals := 2, code := jdk_29_method_69_code, exceptionTable := #[], attributes := #[] }
def k10m1 : Method := { name := "min", desc := "(II)I", sig := { parameters := [.int, .int], returnType := some .int }, accessFlags := 9, code := some k10c1 }
/-- java/lang/Math -/
def k10 : Class := { plain "java/lang/Math" (some 0) with
  accessFlags := 49
  interfaces := #[]
  cf := some (fileOf pool10 1 #[.nestMembers #[98]] #[{ accessFlags := 2, nameIndex := 7, descriptorIndex := 8, attributes := #[] }, { accessFlags := 9, nameIndex := 201, descriptorIndex := 335, attributes := #[] }] 49 4 #[] #[{ accessFlags := 25, nameIndex := 354, descriptorIndex := 339, attributes := #[] }, { accessFlags := 25, nameIndex := 358, descriptorIndex := 339, attributes := #[] }, { accessFlags := 25, nameIndex := 361, descriptorIndex := 339, attributes := #[] }, { accessFlags := 26, nameIndex := 364, descriptorIndex := 339, attributes := #[] }, { accessFlags := 26, nameIndex := 365, descriptorIndex := 339, attributes := #[] }, { accessFlags := 26, nameIndex := 172, descriptorIndex := 173, attributes := #[] }, { accessFlags := 26, nameIndex := 176, descriptorIndex := 173, attributes := #[] }, { accessFlags := 8, nameIndex := 344, descriptorIndex := 339, attributes := #[] }, { accessFlags := 8, nameIndex := 338, descriptorIndex := 339, attributes := #[] }, { accessFlags := 4120, nameIndex := 245, descriptorIndex := 246, attributes := #[] }])
  fields := #[{ name := "E", type := .double, accessFlags := 25, slot := 0, constantValue := 0 }, { name := "PI", type := .double, accessFlags := 25, slot := 1, constantValue := 0 }, { name := "TAU", type := .double, accessFlags := 25, slot := 2, constantValue := 0 }, { name := "DEGREES_TO_RADIANS", type := .double, accessFlags := 26, slot := 3, constantValue := 0 }, { name := "RADIANS_TO_DEGREES", type := .double, accessFlags := 26, slot := 4, constantValue := 0 }, { name := "negativeZeroFloatBits", type := .long, accessFlags := 26, slot := 5, constantValue := 0 }, { name := "negativeZeroDoubleBits", type := .long, accessFlags := 26, slot := 6, constantValue := 0 }, { name := "twoToTheDoubleScaleUp", type := .double, accessFlags := 8, slot := 7, constantValue := 0 }, { name := "twoToTheDoubleScaleDown", type := .double, accessFlags := 8, slot := 8, constantValue := 0 }, { name := "$assertionsDisabled", type := .boolean, accessFlags := 4120, slot := 9, constantValue := 0 }]
  methods := #[k10m0, k10m1]
  instanceTypes := #[]
  staticTypes := #[.double, .double, .double, .double, .double, .long, .long, .double, .double, .boolean]
  resolved := Array.replicate 460 none
  statics := none }

def pool11 : Array CpInfo := pool [(1, u "java/lang/Cloneable"), (0, .class_ 1), (0, u "java/lang/Object"), (0, .class_ 3)] 3

/-- java/lang/Cloneable -/
def k11 : Class := { plain "java/lang/Cloneable" (some 0) with
  accessFlags := 1537
  interfaces := #[]
  cf := some (fileOf pool11 2 #[] #[] 1537 4 #[] #[])
  fields := #[]
  methods := #[]
  instanceTypes := #[]
  staticTypes := #[]
  resolved := Array.replicate 8 none
  statics := none }

def pool12 : Array CpInfo := pool [(1, u "java/io/Serializable"), (0, .class_ 1), (0, u "java/lang/Object"), (0, .class_ 3)] 3

/-- java/io/Serializable -/
def k12 : Class := { plain "java/io/Serializable" (some 0) with
  accessFlags := 1537
  interfaces := #[]
  cf := some (fileOf pool12 2 #[] #[] 1537 4 #[] #[])
  fields := #[]
  methods := #[]
  instanceTypes := #[]
  staticTypes := #[]
  resolved := Array.replicate 8 none
  statics := none }

/-- the primitive byte -/
def k13 : Class := { plain "byte" none with kind := .primitive 'B', accessFlags := 0x411 }
/-- [B -/
def k14 : Class := { plain "[B" (some 0) with kind := .array 13 .byte, interfaces := #[11, 12], accessFlags := 1041 }

/-- the primitive int -/
def k15 : Class := { plain "int" none with kind := .primitive 'I', accessFlags := 0x411 }
/-- [I -/
def k16 : Class := { plain "[I" (some 0) with kind := .array 15 .int, interfaces := #[11, 12], accessFlags := 1041 }

/-- the primitive long -/
def k17 : Class := { plain "long" none with kind := .primitive 'J', accessFlags := 0x411 }
/-- [J -/
def k18 : Class := { plain "[J" (some 0) with kind := .array 17 .long, interfaces := #[11, 12], accessFlags := 1041 }

/-- [[J -/
def k19 : Class := { plain "[[J" (some 0) with kind := .array 18 (.array .long), interfaces := #[11, 12], accessFlags := 1041 }

def heap : Heap := #[]
def classes : Array Class := #[k0, k1, k2, k3, k4, k5, k6, k7, k8, k9, k10, k11, k12, k13, k14, k15, k16, k17, k18, k19]
def interned : List (Array UInt16 × Addr) := []
def slotsUsed : Nat := 0
def theMethod : MethodId := ⟨1, 1⟩
def args0 : Array Value := #[.long 5, .long 5, .long 5, .long 5, .long 5, .int 5]
def aboutOver (below : List Frame) : State where
  vm := { classes := classes, interned := interned.toArray }
  heap := heap
  slotsUsed := slotsUsed
  threads := #[{ frames := .invoking theMethod args0 :: below }]
def below0 : List Frame := [.native { method := ⟨0, 0⟩, args := #[] }]
def about1 : State := aboutOver below0
def p0 : Program := .bare "" "" ""
def e0 : Env := launch0.env 0 0 0
theorem w_frames : about1.frames = Frame.invoking theMethod args0 :: below0 := rfl
set_option maxRecDepth 65536 in
theorem w_args : argsFit about1.vm theMethod args0 = true := by decide +kernel
set_option maxRecDepth 65536 in
theorem w_heap : heapFits about1 = true := by decide +kernel
set_option maxRecDepth 65536 in
theorem w_runnable : about1.curStatus? = some .runnable := by decide +kernel
set_option maxRecDepth 65536 in
theorem w_alone : about1.alone = true := by decide +kernel
set_option maxRecDepth 65536 in
theorem w_named : about1.methodNamed? x = some theMethod := by decide +kernel
set_option maxRecDepth 65536 in
theorem w_hears : about1.hears theMethod below0 = true := by decide +kernel
set_option maxRecDepth 65536 in
theorem w_ripe : about1.ripe theMethod args0 below0 = true := by decide +kernel
theorem w_running : about1.status = .running := rfl
set_option maxRecDepth 65536 in
theorem w_room : about1.hasRoom e0.platform room_1 = true :=
  launch0.hasRoom_least _ room_1 (by decide +kernel) (by decide +kernel) (by decide +kernel) (by decide +kernel) (by decide +kernel) (by decide +kernel)
theorem allAtoms_all (ts : List Jvm.Cond) (a : Array Jvm.Value) (st : Jvm.State) : (allAtoms ts).before a st = ts.all (fun c => c.before a st) := by
  induction ts with
  | nil => rfl
  | cons c t ih =>
    show (Jvm.Cond.and c (allAtoms t)).before a st = _
    rw [Jvm.Cond.before_and, ih, List.all_cons]
def words1 : List Jvm.Cond := Jvm.Cond.code x code maxLocals ret :: tables_1
/-- a 'code' word, met by the world's own term for the bytes: nothing is compared byte by byte -/
theorem code_word {y : MethodName} {bytes : ByteArray} {mx : Nat} {rt : Option FieldType} {a : Array Value} {s : State} {m : MethodId} {meth : Method} {c : Code} (h1 : s.methodNamed? y = some m) (h2 : s.vm.method? m = some meth) (h3 : meth.code = some c) (h4 : c.code = bytes)
    (h5 : (c.maxLocals == mx && c.exceptionTable.isEmpty && decide (c.maxStack ≤ mostOperands) && decide (meth.sig.returnType = rt) && !meth.locks && decide (parseMethodDescriptor y.desc = some meth.sig)) = true) : (Jvm.Cond.code y bytes mx rt).before a s = true := by
  simp only [Bool.and_eq_true, beq_iff_eq, Bool.not_eq_true', decide_eq_true_eq] at h5
  obtain ⟨⟨⟨⟨⟨g1, g2⟩, g3⟩, g4⟩, g5⟩, g6⟩ := h5
  simp [Cond.before, Cond.holds, Cond.value, h1, h2, h3, h4, g1, g2, g3, g4, g5, g6]
def isCode : Jvm.Cond → Bool
  | .code _ _ _ _ => true
  | _ => false
theorem all_split {L : List Jvm.Cond} {P : Jvm.Cond → Bool} (h1 : L.all (fun c => isCode c || P c) = true) (h2 : ∀ c ∈ L.filter isCode, P c = true) : L.all P = true := by
  refine List.all_eq_true.mpr fun c hc => ?_
  have h := List.all_eq_true.mp h1 c hc
  rcases Bool.eq_false_or_eq_true (isCode c) with hi | hi
  · exact h2 c (List.mem_filter.mpr ⟨hc, hi⟩)
  · simpa [hi] using h
set_option maxRecDepth 65536 in
theorem w_c0 : (Jvm.Cond.code x code maxLocals ret).before args0 about1 = true := code_word (m := ⟨1, 1⟩) (meth := k1m1) (c := k1c1) (by decide +kernel) rfl rfl rfl (by decide +kernel)
set_option maxRecDepth 65536 in
theorem w_c1 : (Jvm.Cond.code ({ cls := "com/example/driftless/driftless/DeleteOperations", name := "<init>", desc := "(JJI)V" } : Jvm.MethodName) prog_7_method_1_code (8 : Nat) (Option.none : Option Jvm.ClassFile.FieldType)).before args0 about1 = true := code_word (m := ⟨9, 0⟩) (meth := k9m0) (c := k9c0) (by decide +kernel) rfl rfl rfl (by decide +kernel)
set_option maxRecDepth 65536 in
theorem w_c2 : (Jvm.Cond.code ({ cls := "java/util/AbstractList", name := "<init>", desc := "()V" } : Jvm.MethodName) jdk_39_method_1_code (1 : Nat) (Option.none : Option Jvm.ClassFile.FieldType)).before args0 about1 = true := code_word (m := ⟨7, 0⟩) (meth := k7m0) (c := k7c0) (by decide +kernel) rfl rfl rfl (by decide +kernel)
set_option maxRecDepth 65536 in
theorem w_c3 : (Jvm.Cond.code ({ cls := "java/util/AbstractCollection", name := "<init>", desc := "()V" } : Jvm.MethodName) jdk_22_method_1_code (1 : Nat) (Option.none : Option Jvm.ClassFile.FieldType)).before args0 about1 = true := code_word (m := ⟨4, 0⟩) (meth := k4m0) (c := k4c0) (by decide +kernel) rfl rfl rfl (by decide +kernel)
set_option maxRecDepth 65536 in
theorem w_c4 : (Jvm.Cond.code ({ cls := "java/lang/Object", name := "<init>", desc := "()V" } : Jvm.MethodName) object_method_1_code (1 : Nat) (Option.none : Option Jvm.ClassFile.FieldType)).before args0 about1 = true := code_word (m := ⟨0, 0⟩) (meth := k0m0) (c := k0c0) (by decide +kernel) rfl rfl rfl (by decide +kernel)
set_option maxRecDepth 65536 in
theorem w_c5 : (Jvm.Cond.code ({ cls := "java/lang/Math", name := "min", desc := "(II)I" } : Jvm.MethodName) jdk_29_method_69_code (2 : Nat) (Option.some Jvm.ClassFile.FieldType.int)).before args0 about1 = true := code_word (m := ⟨10, 1⟩) (meth := k10m1) (c := k10c1) (by decide +kernel) rfl rfl rfl (by decide +kernel)
set_option maxRecDepth 65536 in
theorem w_c6 : (Jvm.Cond.code ({ cls := "com/example/driftless/driftless/DeleteOperations", name := "append", desc := "(JJ)V" } : Jvm.MethodName) prog_7_method_2_code (7 : Nat) (Option.none : Option Jvm.ClassFile.FieldType)).before args0 about1 = true := code_word (m := ⟨9, 1⟩) (meth := k9m1) (c := k9c1) (by decide +kernel) rfl rfl rfl (by decide +kernel)
set_option maxRecDepth 65536 in
theorem w_c7 : (Jvm.Cond.code ({ cls := "com/example/driftless/driftless/DeleteOperations", name := "size", desc := "()I" } : Jvm.MethodName) prog_7_method_8_code (1 : Nat) (Option.some Jvm.ClassFile.FieldType.int)).before args0 about1 = true := code_word (m := ⟨9, 4⟩) (meth := k9m4) (c := k9c4) (by decide +kernel) rfl rfl rfl (by decide +kernel)
set_option maxRecDepth 65536 in
theorem w_c8 : (Jvm.Cond.code ({ cls := "com/example/driftless/driftless/DeleteOperations", name := "targetCounter", desc := "(I)J" } : Jvm.MethodName) prog_7_method_6_code (2 : Nat) (Option.some Jvm.ClassFile.FieldType.long)).before args0 about1 = true := code_word (m := ⟨9, 2⟩) (meth := k9m2) (c := k9c2) (by decide +kernel) rfl rfl rfl (by decide +kernel)
set_option maxRecDepth 65536 in
theorem w_c9 : (Jvm.Cond.code ({ cls := "com/example/driftless/driftless/DeleteOperations", name := "targetReplica", desc := "(I)J" } : Jvm.MethodName) prog_7_method_7_code (2 : Nat) (Option.some Jvm.ClassFile.FieldType.long)).before args0 about1 = true := code_word (m := ⟨9, 3⟩) (meth := k9m3) (c := k9c3) (by decide +kernel) rfl rfl rfl (by decide +kernel)
def codes1 : List Jvm.Cond := [Jvm.Cond.code x code maxLocals ret, Jvm.Cond.code ({ cls := "com/example/driftless/driftless/DeleteOperations", name := "<init>", desc := "(JJI)V" } : Jvm.MethodName) prog_7_method_1_code (8 : Nat) (Option.none : Option Jvm.ClassFile.FieldType), Jvm.Cond.code ({ cls := "java/util/AbstractList", name := "<init>", desc := "()V" } : Jvm.MethodName) jdk_39_method_1_code (1 : Nat) (Option.none : Option Jvm.ClassFile.FieldType), Jvm.Cond.code ({ cls := "java/util/AbstractCollection", name := "<init>", desc := "()V" } : Jvm.MethodName) jdk_22_method_1_code (1 : Nat) (Option.none : Option Jvm.ClassFile.FieldType), Jvm.Cond.code ({ cls := "java/lang/Object", name := "<init>", desc := "()V" } : Jvm.MethodName) object_method_1_code (1 : Nat) (Option.none : Option Jvm.ClassFile.FieldType), Jvm.Cond.code ({ cls := "java/lang/Math", name := "min", desc := "(II)I" } : Jvm.MethodName) jdk_29_method_69_code (2 : Nat) (Option.some Jvm.ClassFile.FieldType.int), Jvm.Cond.code ({ cls := "com/example/driftless/driftless/DeleteOperations", name := "append", desc := "(JJ)V" } : Jvm.MethodName) prog_7_method_2_code (7 : Nat) (Option.none : Option Jvm.ClassFile.FieldType), Jvm.Cond.code ({ cls := "com/example/driftless/driftless/DeleteOperations", name := "size", desc := "()I" } : Jvm.MethodName) prog_7_method_8_code (1 : Nat) (Option.some Jvm.ClassFile.FieldType.int), Jvm.Cond.code ({ cls := "com/example/driftless/driftless/DeleteOperations", name := "targetCounter", desc := "(I)J" } : Jvm.MethodName) prog_7_method_6_code (2 : Nat) (Option.some Jvm.ClassFile.FieldType.long), Jvm.Cond.code ({ cls := "com/example/driftless/driftless/DeleteOperations", name := "targetReplica", desc := "(I)J" } : Jvm.MethodName) prog_7_method_7_code (2 : Nat) (Option.some Jvm.ClassFile.FieldType.long)]
set_option maxRecDepth 65536 in
theorem codes_eq : words1.filter isCode = codes1 := rfl
theorem w_codes : ∀ c ∈ words1.filter isCode, c.before args0 about1 = true := by
  rw [codes_eq]
  intro c hc
  simp only [codes1, List.mem_cons, List.not_mem_nil, or_false] at hc
  rcases hc with rfl | rfl | rfl | rfl | rfl | rfl | rfl | rfl | rfl | rfl
  · exact w_c0
  · exact w_c1
  · exact w_c2
  · exact w_c3
  · exact w_c4
  · exact w_c5
  · exact w_c6
  · exact w_c7
  · exact w_c8
  · exact w_c9
set_option maxRecDepth 65536 in
theorem w_t1 : (words1.take 24).all (fun c => isCode c || c.before args0 about1) = true := by decide +kernel
set_option maxRecDepth 65536 in
theorem w_t2 : ((words1.drop 24).take 24).all (fun c => isCode c || c.before args0 about1) = true := by decide +kernel
set_option maxRecDepth 65536 in
theorem w_t3 : ((words1.drop 24).drop 24).all (fun c => isCode c || c.before args0 about1) = true := by decide +kernel
theorem w_tables : (allAtoms (Jvm.Cond.code x code maxLocals ret :: tables_1)).before args0 about1 = true := by
  rw [allAtoms_all]
  show words1.all (fun c => c.before args0 about1) = true
  refine all_split ?_ w_codes
  rw [← List.take_append_drop 24 words1, List.all_append, w_t1, ← List.take_append_drop 24 (words1.drop 24), List.all_append, w_t2, w_t3]
  rfl
set_option maxRecDepth 65536 in
theorem w_case : (Jvm.Cond.and given_1 narrow_1).before args0 about1 = true := by decide +kernel
theorem w_applies : (headSpec (Jvm.Cond.code x code maxLocals ret :: tables_1) room_1).applies x e0.platform about1 = true :=
  (Spec.applies_iff w_frames).mpr ⟨w_running, w_runnable, w_alone, w_named, w_hears, w_ripe, w_room, w_tables⟩
theorem atStart : AtStart classFile x code maxLocals ret World_1 tables_1 room_1 Calls_1 rest_1 Pre_1 launch0 p0 e0 about1 theMethod args0 below0 :=
  ⟨lists_1, trivial, launch0.admits_env _ _ _, launch0.least_env, fairChoices_fair.cas, fairChoices_fair.clock, w_frames, w_args, w_heap, w_applies, trivial, trivial, w_case⟩
end start1
theorem witness_1 : WitnessClaimed_1 := ⟨start1.p0, start1.e0, start1.about1, start1.theMethod, start1.args0, start1.below0, start1.atStart⟩
end Jvm.Pilot.@@N@@
