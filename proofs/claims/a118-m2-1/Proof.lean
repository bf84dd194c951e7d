import JvmDerived
import JvmDerived.Pilot.@@N@@Statement
import JvmDerived.Pilot.@@N@@Code
set_option linter.unusedVariables false
set_option linter.unusedSimpArgs false
namespace Jvm.RoadKit
open Sem ClassFile Op Lib Jvm.Stand Jvm.Free Jvm.LawKit
section New
variable {p : Program} {l : Launch} {e : Env} {R : Room} {s : State} {m : MethodId} {args : Array Value} {below : List Frame} {meth : Method} {c : Code} {T : State} {locs : List Loc} {cells slots : Nat}
theorem retI (X : Stand p l e R s m args below meth c T locs cells slots) (hx : p.tables.exec = Jvm.exec) {pc : Nat} {Ls : Array Slot} {z : Int32} {rest : List Value} (hret : meth.sig.returnType = some .int) (hd : decode c.code pc = .ok (.ireturn, 1)) {fs : List Frame}
    (hl : ∀ (f : JFrame) (acts : List Action), f.method = m → f.locked = none → f.entered = [] → (doReturn e (T.setTop f) acts (some (.int z))).1 = T.setFrames fs) : Steps p.tables e below (T.setTop (mkF m pc Ls (.int z :: rest))) (T.setFrames fs) := by
  have hm' : T.vm.method? m = some meth := X.method'
  have hn : narrow .int (.int z) = .int z := rfl
  show Steps p.tables e below (T.setTop { method := m, pc := pc, locals := Ls, stack := _ :: rest, locked := none }) _
  jvm_step X.here [X.here.top, hx, hd, hm', hret, hn]
  first | (intro acts; rw [hl _ acts rfl rfl rfl]) | rw [hl _ _ rfl rfl rfl]
  exact Steps.refl _
end New
end Jvm.RoadKit
namespace Jvm.Pilot.@@N@@
open Jvm Jvm.ClassFile Sem Op Lib Jvm.Free Jvm.Stand Jvm.LawKit Jvm.RoadKit Bundle Jvm.Pilot.@@N@@.Jvm.D
theorem own_w {a0 : Array Value} {Z : State} (hw : ∀ d ∈ tables_1, d.before a0 Z = true) {d : Jvm.Cond} (i : Nat) (h : tables_1[i]? = some d) : d.before a0 Z = true := hw d (List.mem_of_getElem? h)
theorem own_oz {Z : State} {n0 : Nat} {h : Heap} (O : Old Z n0 h) : n0 ≤ h.size := by
  rw [← O.1]; exact O.2.1
theorem own_lsw {tb : Tables} [Ours tb] {e : Env} {below : List Frame} {T target : State} {m : MethodId} {c : Code} {g : JFrame} (h : At T m c below) (hx : tb.exec = Jvm.exec) (hg : g.method = m) {dflt : Int} {prs : Array (Int × Int)} {len : Nat} {o : Int} {pc0 pc' : Nat} (hpc : g.pc = pc0) (hd : decode c.code g.pc = .ok (.lookupswitch dflt prs, len)) {i : Int32} {rest : List Value} (hs : g.stack = .int i :: rest)
    (hsort : (prs.toList.zip (prs.toList.drop 1)).all (fun (a, next) => a.1 < next.1) = true) (hoff : lookupswitch.offset prs.toList dflt i.toInt = o) (ho : 0 ≤ (pc0 : Int) + o) (hp : ((pc0 : Int) + o).toNat = pc')
    (hr : Steps tb e below (T.setTop { g with pc := pc', stack := rest }) target) : Steps tb e below (T.setTop g) target := by
  subst hg hpc hp
  jvm_step h [h.top, hx, hd, hs, hoff, ho, lookupswitch.wp_chain]
  exact ⟨by simpa using hsort, hr⟩
section Nums
variable {x k : Int32} {n : Int}
theorem own_lt1 (hk : k.toInt = n) (h : x < k) : x.toInt < n := by rw [← hk]; exact Int32.lt_iff_toInt_lt.mp h
theorem own_lt2 (hk : k.toInt = n) (h : k < x) : n < x.toInt := by rw [← hk]; exact Int32.lt_iff_toInt_lt.mp h
theorem own_nlt1 (hk : k.toInt = n) (h : ¬ x < k) : n ≤ x.toInt := by rw [Int32.lt_iff_toInt_lt, hk] at h; omega
theorem own_nlt2 (hk : k.toInt = n) (h : ¬ k < x) : x.toInt ≤ n := by rw [Int32.lt_iff_toInt_lt, hk] at h; omega
theorem own_eq (hk : k.toInt = n) (h : x = k) : x.toInt = n := by rw [← hk, h]
theorem own_neq (hk : k.toInt = n) (h : ¬ x = k) : x.toInt ≠ n := fun q => h (Int32.toInt_inj.mp (by rw [hk, q]))
theorem own_glt1 (hk : k.toInt = n) (h : x.toInt < n) : x < k := Int32.lt_iff_toInt_lt.mpr (by rw [hk]; exact h)
theorem own_glt2 (hk : k.toInt = n) (h : n < x.toInt) : k < x := Int32.lt_iff_toInt_lt.mpr (by rw [hk]; exact h)
theorem own_gnlt1 (hk : k.toInt = n) (h : n ≤ x.toInt) : ¬ x < k := fun q => by have := own_lt1 hk q; omega
theorem own_gnlt2 (hk : k.toInt = n) (h : x.toInt ≤ n) : ¬ k < x := fun q => by have := own_lt2 hk q; omega
theorem own_geq (hk : k.toInt = n) (h : x.toInt = n) : x = k := Int32.toInt_inj.mp (by rw [hk, h])
theorem own_gneq (hk : k.toInt = n) (h : x.toInt ≠ n) : ¬ x = k := fun q => h (own_eq hk q)
theorem own_and (hk : k.toInt = n) (h0 : 0 ≤ n) : 0 ≤ (x &&& k).toInt ∧ (x &&& k).toInt ≤ n := by have := c_and x k (by rw [hk]; exact h0); rw [hk] at this; exact this
theorem own_and2 (hk : k.toInt = n) (h0 : 0 ≤ n) : 0 ≤ (k &&& x).toInt ∧ (k &&& x).toInt ≤ n := by have := c_and' k x (by rw [hk]; exact h0); rw [hk] at this; exact this
theorem own_rem (hk : k.toInt = n) (h0 : 0 < n) (hx : 0 ≤ x.toInt) : 0 ≤ (x % k).toInt ∧ (x % k).toInt < n ∧ (x % k).toInt ≤ x.toInt := by
  have := (c_iremV x k).1 hx (by rw [hk]; exact h0); rw [hk] at this; exact ⟨this.1, this.2.1, this.2.2.1⟩
theorem own_add {lo hi : Int} (hk : k.toInt = n) (hx : lo ≤ x.toInt ∧ x.toInt ≤ hi) (h1 : -2147483648 ≤ lo + n) (h2 : hi + n < 2147483648) : lo + n ≤ (x + k).toInt ∧ (x + k).toInt ≤ hi + n := by
  have := c_iadd x k; have := rng32 (x + k); rw [hk] at *; omega
theorem own_add2 {lo hi : Int} (hk : k.toInt = n) (hx : lo ≤ x.toInt ∧ x.toInt ≤ hi) (h1 : -2147483648 ≤ lo + n) (h2 : hi + n < 2147483648) : lo + n ≤ (k + x).toInt ∧ (k + x).toInt ≤ hi + n := by
  have := c_iadd k x; have := rng32 (k + x); rw [hk] at *; omega
end Nums
theorem own_len {Z : State} {args : Array Value} {t : Term} {a : Addr} {c : Cell} {ty : FieldType} {n : Int32} (A : Arr Z Z.heap a c ty) (ev : t.eval args Z none [] Z = some (.ref a)) (h : (Term.length t).eval args Z none [] Z = some (.int n)) : c.slots.size < 2 ^ 31 ∧ c.slots.size.toInt32 = n := by
  have q := A.fin (Vm.Alike.refl _)
  by_cases z : c.slots.size < 2 ^ 31
  · rw [len_f ev q z] at h; exact ⟨z, Value.int.inj (Option.some.inj h)⟩
  · simp [Term.eval, ev, q, z] at h
theorem own_selp {s : State} {args : Array Value} {y z : MethodName} {C : String} (w : (Cond.selects C z z).before args s = true) (hc : z.cls = y.cls) (hp : s.PrivateAt y) (hi : (Cond.instanceMethod y).before args s = true) (hy : y.cls ≠ "java/lang/invoke/MethodHandle" ∧ y.cls ≠ "java/lang/invoke/VarHandle") : (Cond.selects y.cls y y).before args s = true := by
  obtain ⟨c2, r2, m2, -, -, q3, -, kP, hkP, hkPi⟩ := Cond.selects_spec w
  exact selects_self_of_private (by rw [← hc]; exact findClass_of_methodNamed q3) hkP hkPi hp hi hy
theorem own_max64 (x : Int64) : ¬ (9223372036854775807 : Int64) < x := fun h => by have := rng64 x; rw [Int64.lt_iff_toInt_lt, show (9223372036854775807 : Int64).toInt = 9223372036854775807 by decide] at h; omega
theorem own_min64 (x : Int64) : ¬ x < (-9223372036854775808 : Int64) := fun h => by have := rng64 x; rw [Int64.lt_iff_toInt_lt, show (-9223372036854775808 : Int64).toInt = -9223372036854775808 by decide] at h; omega
theorem own_root {Z : State} {a0 : Array Value} {O K : String} {n : Nat} (w : (Cond.noSuperclass O).before a0 Z = true) (wk : (Cond.instantiable K n).before a0 Z = true) (hn : O ≠ K) : NS Z O K := by
  obtain ⟨c, k, h1, h2, h3, -, -⟩ := Cond.noSuperclass_spec w
  obtain ⟨t, kt, g1, -⟩ := Cond.instantiable_spec wk
  have ne := ids_ne h1 g1 hn
  refine ⟨c, t, h1, g1, fun fuel => ?_⟩
  cases fuel with
  | zero => rfl
  | succ f => simp [Vm.isSubclassAux, ne, h2, h3]
theorem own_no {Z : State} {a0 : Array Value} {C S K : String} {n : Nat} (w : (Cond.superclass C S).before a0 Z = true) (wk : (Cond.instantiable K n).before a0 Z = true) (q : NS Z C K) (hn : C ≠ K) : ∃ c t, Z.vm.findClass C = some c ∧ Z.vm.findClass K = some t ∧ Z.vm.assignable c t = false := by
  obtain ⟨c, t, h0, g0, n3⟩ := q
  obtain ⟨p, k, kp, h1, h2, h3, h4, h5, -, h7⟩ := Cond.superclass_spec h0 w
  obtain ⟨t', k', g1, g2, g3, g4, -⟩ := Cond.instantiable_spec wk
  cases g0.symm.trans g1
  have ne := ids_ne h0 g0 hn
  have g5 : k'.isInterface = false := by simp only [Bool.or_eq_false_iff] at g4; exact g4.1
  refine ⟨c, t, h0, g0, ?_⟩
  show Z.vm.assignableAux (255 + 1) c t = false
  simp [Vm.assignableAux, ne, h2, g2, h5, g3, g5, Vm.isSubclass, n3]
theorem own_sub {x k : Int32} {n lo hi : Int} (hk : k.toInt = n) (hx : lo ≤ x.toInt ∧ x.toInt ≤ hi) (h1 : -2147483648 ≤ lo - n) (h2 : hi - n < 2147483648) : lo - n ≤ (x - k).toInt ∧ (x - k).toInt ≤ hi - n := by
  have := c_isub x k; have := rng32 (x - k); rw [hk] at *; omega
theorem own_dbl {x : Int32} {lo hi : Int} (hx : lo ≤ x.toInt ∧ x.toInt ≤ hi) (h1 : -1073741824 ≤ lo) (h2 : hi < 1073741824) : 2 * lo ≤ ((2 : Int32) * x).toInt ∧ ((2 : Int32) * x).toInt ≤ 2 * hi := by
  have := c_imul 2 x; have := rng32 (2 * x); rw [show (2 : Int32).toInt = 2 by decide] at *; omega
theorem own_nz {x : Int32} (h : 0 ≤ x.toInt ∧ x.toInt ≤ 1) : nar .boolean x = x := by
  have q : x = 0 ∨ x = 1 := by
    rcases (by omega : x.toInt = 0 ∨ x.toInt = 1) with q | q
    · exact Or.inl (own_geq (by decide) q)
    · exact Or.inr (own_geq (by decide) q)
  rcases q with rfl | rfl <;> decide
theorem own_fz {x : Int32} (h : 0 ≤ x.toInt ∧ x.toInt ≤ 1) : fits .boolean (.int x) = true := by
  have q : x = 0 ∨ x = 1 := by
    rcases (by omega : x.toInt = 0 ∨ x.toInt = 1) with q | q
    · exact Or.inl (own_geq (by decide) q)
    · exact Or.inr (own_geq (by decide) q)
  rcases q with rfl | rfl <;> decide
theorem own_nb8 (x : Int32) : nar .byte (x.toInt8.toInt32) = x.toInt8.toInt32 := by
  show (x.toInt8.toInt32).toInt8.toInt32 = x.toInt8.toInt32
  simp
theorem own_eqR {Z : State} {args : Array Value} {a b : Term} {idx : List Nat} {w : Addr} (hb : b.eval args Z none idx Z = some (.ref w)) (h : (Cond.eq a b).value args Z none Z idx = some true) : a.eval args Z none idx Z = some (.ref w) := by
  simp only [Cond.value, hb] at h
  cases ht : a.eval args Z none idx Z with
  | none => simp [ht] at h
  | some x => cases x <;> simp [ht] at h ⊢; exact h
theorem own_sa {a0 : Array Value} {Z : State} (hw : ∀ d ∈ tables_1, d.before a0 Z = true) : ∀ a ∈ Bundle.stringAtoms, a.before a0 Z = true := fun a ha => by
  simp only [Bundle.stringAtoms, List.mem_cons, List.not_mem_nil, or_false] at ha
  rcases ha with rfl | rfl | rfl | rfl | rfl | rfl | rfl
  · exact own_w hw 7 rfl
  · exact own_w hw 8 rfl
  · exact own_w hw 9 rfl
  · exact own_w hw 10 rfl
  · exact own_w hw 11 rfl
  · exact own_w hw 12 rfl
  · exact own_w hw 13 rfl
abbrev yn0 : MethodName := ⟨"java/util/Objects", "requireNonNull", "(Ljava/lang/Object;Ljava/lang/String;)Ljava/lang/Object;"⟩
abbrev yn1 : MethodName := ⟨"com/example/castless/castless/PrimitiveArrays", "box", "([Z)[Ljava/lang/Boolean;"⟩
abbrev yn2 : MethodName := ⟨"com/example/castless/castless/PrimitiveArraysBox333PinLaw", "at", "([Ljava/lang/Boolean;[ZIZ)Z"⟩
abbrev yn3 : MethodName := ⟨"java/lang/Boolean", "valueOf", "(Z)Ljava/lang/Boolean;"⟩
abbrev yn4 : MethodName := ⟨"java/lang/Boolean", "booleanValue", "()Z"⟩
def GW (Z : State) (w1 : Addr) (w2 : Addr) : Prop :=
  (Sta Z Z.heap "java/lang/Boolean" "TRUE" "Ljava/lang/Boolean;" (.ref w1))
  ∧ (Exa Z Z.heap w1 "java/lang/Boolean")
  ∧ (Sta Z Z.heap "java/lang/Boolean" "FALSE" "Ljava/lang/Boolean;" (.ref w2))
  ∧ (Exa Z Z.heap w2 "java/lang/Boolean")
  ∧ (Fld Z Z.heap w1 "java/lang/Boolean" "value" "Z" (.int (1 : Int32)))
  ∧ (Fld Z Z.heap w2 "java/lang/Boolean" "value" "Z" (.int (0 : Int32)))
def Q0 (n0 : Nat) (v : Option Value) (h : Heap) (L : List Loc) : Prop := v = some (.int (1 : Int32)) ∧ Fr n0 L
theorem d0_0 : decode prog_11_method_2_code 0 = .ok (.aload_n 0, 1) := by decide +kernel
theorem d0_1 : decode prog_11_method_2_code 1 = .ok (.ldc 9, 2) := by decide +kernel
theorem d0_3 : decode prog_11_method_2_code 3 = .ok (.invokestatic 11, 3) := by decide +kernel
theorem d1_0 : decode jdk_31_method_11_code 0 = .ok (.aload_n 0, 1) := by decide +kernel
theorem d1_1 : decode jdk_31_method_11_code 1 = .ok (.ifnonnull 12, 3) := by decide +kernel
theorem d1_13 : decode jdk_31_method_11_code 13 = .ok (.aload_n 0, 1) := by decide +kernel
theorem d1_14 : decode jdk_31_method_11_code 14 = .ok (.areturn, 1) := by decide +kernel
theorem pn0 : plainName "java/util/Objects" = true := by first | (simp [plainName, overriddenIn]; done) | decide +kernel
theorem ef1 (m : MethodId) (x0 : Addr) (x1 : Addr) : entryFrame m #[(.ref x0), (.ref x1)] 2 = mkF m 0 #[.val (.ref x0), .val (.ref x1)] [] := by first | (simp [entryFrame, mkF, argsToLocals, Value.category]; done) | rfl
def Q1 (Z : State) (o1 : Addr) (u2 : Addr) (h0 : Heap) (n0 : Nat) (v : Option Value) (h : Heap) (L : List Loc) : Prop :=
  (v = some (.ref o1) ∧ Fr n0 L ∧ h = h0)
set_option maxRecDepth 65536 in
set_option maxHeartbeats 40000000 in
theorem rm1 (l : Launch) (Z : State) (a0 : Array Value) (hw : ∀ d ∈ tables_1, d.before a0 Z = true) (ws : List Jvm.Cond) (o1 : Addr) (u2 : Addr) (h0 : Heap) (n0 : Nat) (O0 : Old Z n0 h0) (g_o1 : n0 ≤ o1) :
    MetFree l yn0 (head1 (Jvm.Cond.code yn0 jdk_31_method_11_code 2 (some (.object "java/lang/Object")) :: ws) ({ frames := 0, cells := 0, slots := 0, locals := 0 } : Room)) (fun a U => a = #[(.ref o1), (.ref u2)] ∧ Z.Warmed39 U.vm ∧ U.heap = h0) (fun _ _ _ _ _ => True) (fun _ U o U' => ∃ v L, o = .returned v ∧ Q1 Z o1 u2 h0 n0 v U'.heap L ∧ FrameEnd U o U' L ({ frames := 0, cells := 0, slots := 0, locals := 0 } : Room).cells ({ frames := 0, cells := 0, slots := 0, locals := 0 } : Room).slots) := by
  refine MetFree.of_bodySF (plainFor_of_name pn0) hisR ?_
  intro p e s m args below meth c s₁ Bd hml0 hP hK
  obtain ⟨rfl, hZ, hh⟩ := hP
  have hx := Bd.exec
  have hby := Bd.bytes
  have hml : c.maxLocals = 2 := hml0
  have hown : s.vm.findClass "java/util/Objects" = some m.cls := findClass_of_methodNamed Bd.named
  have hnm := (name_of_methodNamed Bd.named Bd.method).1
  have hret := Bd.returns
  have hlk : meth.locks = false := BodyLoose.notSynchronized Bd
  have X0 : Stand p l e ({ frames := 0, cells := 0, slots := 0, locals := 0 } : Room) s m #[(.ref o1), (.ref u2)] below meth c s₁ [] 0 0 := Stand.of_body Bd
  have e0 : s₁.heap = h0 := by rw [← hh, Bd.state]; rfl
  have N0 := Fr.nil n0
  have pre0 : ∀ t, Steps p.tables e below (s₁.setTop (mkF m 0 #[.val (.ref o1), .val (.ref u2)] [])) t → Steps p.tables e below (s₁.setTop (entryFrame m #[(.ref o1), (.ref u2)] 2)) t := fun t k => castTop (ef1 m o1 u2) k
  obtain ⟨fs, hr, hrun, hended, hW, hsame⟩ := X0.leave (v := some (.ref o1)) (fun h => by rw [hret] at h; cases h)
  refine ⟨_, _, pre0 _ ?_, hrun, hended, _, _, rfl, ?_, ⟨_, rfl⟩, hW, hsame.mono (by decide) (by decide)⟩
  ·
    show Steps p.tables e below (s₁.setTop (mkF m 0 #[.val (.ref o1), .val (.ref u2)] [])) _
    refine XS.aloadN X0.here hx rfl (hb hby d1_0) rfl rfl ?_
    refine XS.ifnonnullYes X0.here hx rfl (pc0 := 1) (pc' := 13) rfl (hb hby d1_1) rfl (by decide) (by decide) ?_
    refine XS.aloadN X0.here hx rfl (hb hby d1_13) rfl rfl ?_
    show Steps p.tables e below (s₁.setTop (mkF m 14 #[.val (.ref o1), .val (.ref u2)] [(.ref o1)])) _
    exact retOut X0 hx hret rfl (Or.inr (Or.inr (Or.inr (Or.inr ⟨rfl, rfl, rfl⟩)))) (hb hby d1_14) hr
  ·
    show Q1 Z o1 u2 h0 n0 _ s₁.heap _
    rw [e0]
    exact ⟨rfl, N0, rfl⟩
theorem pd0 : parseMethodDescriptor "(Ljava/lang/Object;Ljava/lang/String;)Ljava/lang/Object;" = some ⟨[(.object "java/lang/Object"), (.object "java/lang/String")], some (.object "java/lang/Object")⟩ := by decide +kernel
theorem d0_6 : decode prog_11_method_2_code 6 = .ok (.pop, 1) := by decide +kernel
theorem d0_7 : decode prog_11_method_2_code 7 = .ok (.aload_n 0, 1) := by decide +kernel
theorem d0_8 : decode prog_11_method_2_code 8 = .ok (.arraylength, 1) := by decide +kernel
theorem d0_9 : decode prog_11_method_2_code 9 = .ok (.anewarray 17, 3) := by decide +kernel
theorem d0_12 : decode prog_11_method_2_code 12 = .ok (.astore_n 1, 1) := by decide +kernel
theorem d0_13 : decode prog_11_method_2_code 13 = .ok (.iconst 0, 1) := by decide +kernel
theorem d0_14 : decode prog_11_method_2_code 14 = .ok (.istore_n 2, 1) := by decide +kernel
theorem d0_15 : decode prog_11_method_2_code 15 = .ok (.iload_n 2, 1) := by decide +kernel
theorem d0_16 : decode prog_11_method_2_code 16 = .ok (.aload_n 0, 1) := by decide +kernel
theorem d0_17 : decode prog_11_method_2_code 17 = .ok (.arraylength, 1) := by decide +kernel
theorem d0_18 : decode prog_11_method_2_code 18 = .ok (.if_icmp .ge 18, 3) := by decide +kernel
theorem d0_36 : decode prog_11_method_2_code 36 = .ok (.aload_n 1, 1) := by decide +kernel
theorem d0_37 : decode prog_11_method_2_code 37 = .ok (.areturn, 1) := by decide +kernel
theorem pn1 : plainName "com/example/castless/castless/PrimitiveArrays" = true := by first | (simp [plainName, overriddenIn]; done) | decide +kernel
theorem ef2 (m : MethodId) (x0 : Addr) : entryFrame m #[(.ref x0)] 3 = mkF m 0 #[.val (.ref x0), .unset, .unset] [] := by first | (simp [entryFrame, mkF, argsToLocals, Value.category]; done) | rfl
def Q2 (Z : State) (o1 : Addr) (kc2 : ClassId) (h0 : Heap) (n0 : Nat) (v : Option Value) (h : Heap) (L : List Loc) : Prop :=
  (∃ b7 : Addr, ∃ k7 : ClassId, v = some (.ref b7) ∧ Fr n0 L ∧ Keep h0 h [] ∧ h0.size ≤ b7 ∧ Ovr Z k7 "java/lang/Boolean" ∧ (Arv Z h b7 k7 (.object "java/lang/Boolean") (0 : Int32) [] .null) ∧ (Exa Z h b7 "[Ljava/lang/Boolean;"))
set_option maxRecDepth 65536 in
set_option maxHeartbeats 40000000 in
theorem rm2 (l : Launch) (Z : State) (a0 : Array Value) (hw : ∀ d ∈ tables_1, d.before a0 Z = true) (ws : List Jvm.Cond) (o1 : Addr) (kc2 : ClassId) (h0 : Heap) (n0 : Nat) (O0 : Old Z n0 h0) (g_o1 : n0 ≤ o1) (P0 : Arv Z h0 o1 kc2 .boolean (0 : Int32) [] (.int (0 : Int32))) :
    MetFree l yn1 (head1 (Jvm.Cond.code yn1 prog_11_method_2_code 3 (some (.array (.object "java/lang/Boolean"))) :: ws) ({ frames := 1, cells := 3, slots := 56, locals := 13 } : Room)) (fun a U => a = #[(.ref o1)] ∧ Z.Warmed39 U.vm ∧ U.heap = h0) (fun _ _ _ _ _ => True) (fun _ U o U' => ∃ v L, o = .returned v ∧ Q2 Z o1 kc2 h0 n0 v U'.heap L ∧ ReturnedEndW U o U' L ({ frames := 1, cells := 3, slots := 56, locals := 13 } : Room).cells ({ frames := 1, cells := 3, slots := 56, locals := 13 } : Room).slots) := by
  refine MetFree.of_bodySF (plainFor_of_name pn1) hisR ?_
  intro p e s m args below meth c s₁ Bd hml0 hP hK
  obtain ⟨rfl, hZ, hh⟩ := hP
  have hx := Bd.exec
  have hby := Bd.bytes
  have hml : c.maxLocals = 3 := hml0
  have hown : s.vm.findClass "com/example/castless/castless/PrimitiveArrays" = some m.cls := findClass_of_methodNamed Bd.named
  have hnm := (name_of_methodNamed Bd.named Bd.method).1
  have hret := Bd.returns
  have hlk : meth.locks = false := BodyLoose.notSynchronized Bd
  have X0 : Stand p l e ({ frames := 1, cells := 3, slots := 56, locals := 13 } : Room) s m #[(.ref o1)] below meth c s₁ [] 0 0 := Stand.of_body Bd
  have e0 : s₁.heap = h0 := by rw [← hh, Bd.state]; rfl
  have N0 := Fr.nil n0
  have pre0 : ∀ t, Steps p.tables e below (s₁.setTop (mkF m 0 #[.val (.ref o1), .unset, .unset] [])) t → Steps p.tables e below (s₁.setTop (entryFrame m #[(.ref o1)] 3)) t := fun t k => castTop (ef2 m o1) k
  obtain ⟨sx1, T1, h1, ks1, X1, e1, E1, hS1, hk1, hZ, hown, st1⟩ := ldcS (s := s) (vm0 := s.vm) X0 hx hZ hown (own_w hw 6 rfl) (own_sa hw) e0 ((State.WarmedH.refl s).since h0.size) (Nat.le_refl _) (g := (mkF m 1 #[.val (.ref o1), .unset, .unset] [(.ref o1)])) rfl (hb hby d0_1) (n := 52) (by decide) (by decide) (by decide) (by decide)
  have M1 : h0.size ≤ h1.size := Nat.le_trans (Nat.le_refl _) E1.1
  have O1 := Old.ext O0 E1
  obtain ⟨_, _, ⟨T2, L2, c2, n2⟩, -, X2, ⟨Lc2, hQ2, l2, y2, z2⟩, st2⟩ := Jvm.LawKit.callS X1 hx (y := yn0) hown (mvT hZ (own_w hw 14 rfl)) (mvT hZ (own_w hw 15 rfl)) (mvT hZ (own_w hw 16 rfl)) (mvT hZ (own_w hw 17 rfl)) (by decide) (backOf (W := 0) (rm1 l Z a0 hw [] o1 sx1 h1 n0 O1 g_o1) hZ (own_w hw 17 rfl) (own_w hw 16 rfl) (by decide) (by decide)) (g := (mkF m 3 #[.val (.ref o1), .unset, .unset] [(.ref sx1), (.ref o1)])) rfl (by rw [hml]; rfl) (argsL := [(.ref o1), (.ref sx1)]) (rest := []) (lenOf pd0 rfl) rfl (by show 2 * 0 + _ ≤ _; exact Nat.le_of_eq rfl) (hb hby d0_3) (fun _ _ => ⟨rfl, e1, (by decide : 2 + 0 ≤ _), (by decide : 56 + 0 ≤ _)⟩)
  dsimp only [Pt.U, Pt.locs, Pt.cells, Pt.slots] at X2 l2 y2 z2 st2 hQ2
  subst l2 y2 z2
  have X2 : Stand p l e ({ frames := 1, cells := 3, slots := 56, locals := 13 } : Room) (s.setVm T1.vm) m #[(.ref o1)] below meth c T2 _ 2 56 := X2
  obtain ⟨rfl, Nq3, e4⟩ := hQ2
  have N2 := Fr.app N0 Nq3
  have f5 := (P0.ext E1)
  obtain ⟨cl6, Ar6, qa6, Sa6, Na6, Ha6, Ga6⟩ := id (f5)
  obtain ⟨T7, h7, k7, X7, e7, E7, A7, EX7, OV7, st7⟩ := newRE X2 hx hZ hown (own_w hw 18 rfl) (own_w hw 19 rfl) e4 (g := (mkF m 9 #[.val (.ref o1), .unset, .unset] [(.int (0 : Int32))])) rfl (hb hby d0_9) rfl (by decide) (cap := 0) (by decide) (by decide) (by decide) (by decide) (ad := "[Ljava/lang/Boolean;") (by decide)
  obtain ⟨b7, g7⟩ : ∃ z, z = h1.size := ⟨_, rfl⟩
  rw [← g7] at A7 EX7 st7
  have hkk7 := Nat.le_trans hk1 E7.1
  have M7 : h0.size ≤ h7.size := Nat.le_trans M1 E7.1
  have O7 := Old.ext O1 E7
  have sz_b7 : h1.size ≤ b7 := Nat.le_of_eq g7.symm
  have g_b7 : n0 ≤ b7 := Nat.le_trans (own_oz O0) (Nat.le_trans M1 sz_b7)
  have V7_0 := Arv.new A7 (by decide)
  have V7 : Arv Z h7 b7 k7 (.object "java/lang/Boolean") (0 : Int32) [] .null := V7_0
  have f8 := (f5.ext E7)
  obtain ⟨cl9, Ar9, qa9, Sa9, Na9, Ha9, Ga9⟩ := id (f8)
  obtain ⟨fs, hr, hrun, hended, hRE⟩ := X7.leaveW hS1 (by rw [e7]; exact hkk7) (v := some (.ref b7)) (fun h => by rw [hret] at h; cases h)
  have KL : Keep h0 h7 [] := (((Keep.refl h0 []).ext E1).ext E7)
  refine ⟨_, _, pre0 _ ?_, hrun, hended, _, _, rfl, ?_, hRE.1, hRE.2.1, hRE.2.2.1, hRE.2.2.2.mono (by decide) (by decide)⟩
  ·
    show Steps p.tables e below (s₁.setTop (mkF m 0 #[.val (.ref o1), .unset, .unset] [])) _
    refine XS.aloadN X0.here hx rfl (hb hby d0_0) rfl rfl ?_
    refine st1 _ ?_
    refine st2 _ ?_
    refine XS.pop X2.here hx rfl (hb hby d0_6) rfl rfl ?_
    refine XS.aloadN X2.here hx rfl (hb hby d0_7) rfl rfl ?_
    refine X2.arraylength hx (by rw [e4]; exact Ar6.1) (State.isArrayOf_alike hZ.alike Ar6.2.1) (g := (mkF m 8 #[.val (.ref o1), .unset, .unset] [(.ref o1)])) rfl rfl (hb hby d0_8) _ ?_
    rw [len_of Sa6 Na6]
    refine st7 _ ?_
    refine XS.astoreN X7.here hx rfl (hb hby d0_12) rfl rfl (l' := #[.val (.ref o1), .val (.ref b7), .unset]) rfl ?_
    refine XS.iconst X7.here hx rfl (hb hby d0_13) ?_
    refine XS.istoreN X7.here hx rfl (hb hby d0_14) rfl (l' := #[.val (.ref o1), .val (.ref b7), .val (.int (0 : Int32))]) rfl ?_
    refine XS.iloadN X7.here hx rfl (hb hby d0_15) rfl ?_
    refine XS.aloadN X7.here hx rfl (hb hby d0_16) rfl rfl ?_
    refine X7.arraylength hx (by rw [e7]; exact Ar9.1) (State.isArrayOf_alike hZ.alike Ar9.2.1) (g := (mkF m 17 #[.val (.ref o1), .val (.ref b7), .val (.int (0 : Int32))] [(.ref o1), (.int (0 : Int32))])) rfl rfl (hb hby d0_17) _ ?_
    rw [len_of Sa9 Na9]
    refine XS.icmpYes X7.here hx rfl (pc0 := 18) (pc' := 36) rfl (hb hby d0_18) rfl (flt (by decide : ¬ ((0 : Int32) < (0 : Int32)))).2.1 (by decide) (by decide) ?_
    refine XS.aloadN X7.here hx rfl (hb hby d0_36) rfl rfl ?_
    show Steps p.tables e below (T7.setTop (mkF m 37 #[.val (.ref o1), .val (.ref b7), .val (.int (0 : Int32))] [(.ref b7)])) _
    exact retOut X7 hx hret rfl (Or.inr (Or.inr (Or.inr (Or.inr ⟨rfl, rfl, rfl⟩)))) (hb hby d0_37) hr
  ·
    show Q2 Z o1 kc2 h0 n0 _ T7.heap _
    rw [e7]
    exact ⟨b7, k7, rfl, N2, KL, (Nat.le_trans M1 sz_b7), OV7, V7, EX7⟩
theorem pd1 : parseMethodDescriptor "([Z)[Ljava/lang/Boolean;" = some ⟨[(.array .boolean)], some (.array (.object "java/lang/Boolean"))⟩ := by decide +kernel
theorem d2_0 : decode method_3_code 0 = .ok (.iload_n 2, 1) := by decide +kernel
theorem d2_1 : decode method_3_code 1 = .ok (.aload_n 1, 1) := by decide +kernel
theorem d2_2 : decode method_3_code 2 = .ok (.arraylength, 1) := by decide +kernel
theorem d2_3 : decode method_3_code 3 = .ok (.if_icmp .lt 5, 3) := by decide +kernel
theorem d2_6 : decode method_3_code 6 = .ok (.iconst 1, 1) := by decide +kernel
theorem d2_7 : decode method_3_code 7 = .ok (.ireturn, 1) := by decide +kernel
theorem pn2 : plainName "com/example/castless/castless/PrimitiveArraysBox333PinLaw" = true := by first | (simp [plainName, overriddenIn]; done) | decide +kernel
theorem ef3 (m : MethodId) (x0 : Addr) (x1 : Addr) (x2 : Int32) (x3 : Int32) : entryFrame m #[(.ref x0), (.ref x1), (.int x2), (.int x3)] 5 = mkF m 0 #[.val (.ref x0), .val (.ref x1), .val (.int x2), .val (.int x3), .unset] [] := by first | (simp [entryFrame, mkF, argsToLocals, Value.category]; done) | rfl
def Q3 (Z : State) (o1 : Addr) (o2 : Addr) (kc4 : ClassId) (p3 : Int32) (kc5 : ClassId) (h0 : Heap) (n0 : Nat) (v : Option Value) (h : Heap) (L : List Loc) : Prop :=
  (v = some (.int (1 : Int32)) ∧ Fr n0 L ∧ h = h0)
set_option maxRecDepth 65536 in
set_option maxHeartbeats 40000000 in
theorem rm3 (l : Launch) (Z : State) (a0 : Array Value) (hw : ∀ d ∈ tables_1, d.before a0 Z = true) (ws : List Jvm.Cond) (o1 : Addr) (o2 : Addr) (kc4 : ClassId) (p3 : Int32) (kc5 : ClassId) (h0 : Heap) (n0 : Nat) (O0 : Old Z n0 h0) (g_o1 : n0 ≤ o1) (g_o2 : n0 ≤ o2) (Ov_kc4 : Ovr Z kc4 "java/lang/Boolean") (bd_p3 : 0 ≤ p3.toInt ∧ p3.toInt ≤ 1) (P2 : Arv Z h0 o2 kc5 .boolean (0 : Int32) [] (.int (0 : Int32))) :
    MetFree l yn2 (head1 (Jvm.Cond.code yn2 method_3_code 5 (some .boolean) :: ws) ({ frames := 0, cells := 0, slots := 0, locals := 0 } : Room)) (fun a U => a = #[(.ref o1), (.ref o2), (.int (0 : Int32)), (.int p3)] ∧ Z.Warmed39 U.vm ∧ U.heap = h0) (fun _ _ _ _ _ => True) (fun _ U o U' => ∃ v L, o = .returned v ∧ Q3 Z o1 o2 kc4 p3 kc5 h0 n0 v U'.heap L ∧ FrameEnd U o U' L ({ frames := 0, cells := 0, slots := 0, locals := 0 } : Room).cells ({ frames := 0, cells := 0, slots := 0, locals := 0 } : Room).slots) := by
  refine MetFree.of_bodySF (plainFor_of_name pn2) hisR ?_
  intro p e s m args below meth c s₁ Bd hml0 hP hK
  obtain ⟨rfl, hZ, hh⟩ := hP
  have hx := Bd.exec
  have hby := Bd.bytes
  have hml : c.maxLocals = 5 := hml0
  have hown : s.vm.findClass "com/example/castless/castless/PrimitiveArraysBox333PinLaw" = some m.cls := findClass_of_methodNamed Bd.named
  have hnm := (name_of_methodNamed Bd.named Bd.method).1
  have hret := Bd.returns
  have hlk : meth.locks = false := BodyLoose.notSynchronized Bd
  have X0 : Stand p l e ({ frames := 0, cells := 0, slots := 0, locals := 0 } : Room) s m #[(.ref o1), (.ref o2), (.int (0 : Int32)), (.int p3)] below meth c s₁ [] 0 0 := Stand.of_body Bd
  have e0 : s₁.heap = h0 := by rw [← hh, Bd.state]; rfl
  have N0 := Fr.nil n0
  have pre0 : ∀ t, Steps p.tables e below (s₁.setTop (mkF m 0 #[.val (.ref o1), .val (.ref o2), .val (.int (0 : Int32)), .val (.int p3), .unset] [])) t → Steps p.tables e below (s₁.setTop (entryFrame m #[(.ref o1), (.ref o2), (.int (0 : Int32)), (.int p3)] 5)) t := fun t k => castTop (ef3 m o1 o2 (0 : Int32) p3) k
  obtain ⟨cl1, Ar1, qa1, Sa1, Na1, Ha1, Ga1⟩ := id (P2)
  obtain ⟨fs, hr, hrun, hended, hW, hsame⟩ := X0.leave (v := some (.int (1 : Int32))) (fun h => by rw [hret] at h; cases h)
  refine ⟨_, _, pre0 _ ?_, hrun, hended, _, _, rfl, ?_, ⟨_, rfl⟩, hW, hsame.mono (by decide) (by decide)⟩
  ·
    show Steps p.tables e below (s₁.setTop (mkF m 0 #[.val (.ref o1), .val (.ref o2), .val (.int (0 : Int32)), .val (.int p3), .unset] [])) _
    refine XS.iloadN X0.here hx rfl (hb hby d2_0) rfl ?_
    refine XS.aloadN X0.here hx rfl (hb hby d2_1) rfl rfl ?_
    refine X0.arraylength hx (by rw [e0]; exact Ar1.1) (State.isArrayOf_alike hZ.alike Ar1.2.1) (g := (mkF m 2 #[.val (.ref o1), .val (.ref o2), .val (.int (0 : Int32)), .val (.int p3), .unset] [(.ref o2), (.int (0 : Int32))])) rfl rfl (hb hby d2_2) _ ?_
    rw [len_of Sa1 Na1]
    refine XS.icmpNo X0.here hx rfl (hb hby d2_3) rfl (flt (by decide : ¬ ((0 : Int32) < (0 : Int32)))).1 ?_
    refine XS.iconst X0.here hx rfl (hb hby d2_6) ?_
    show Steps p.tables e below (s₁.setTop (mkF m 7 #[.val (.ref o1), .val (.ref o2), .val (.int (0 : Int32)), .val (.int p3), .unset] [(.int (1 : Int32))])) _
    exact retN X0 hx (t := .boolean) hret (by simp) (hb hby d2_7) hr
  ·
    show Q3 Z o1 o2 kc4 p3 kc5 h0 n0 _ s₁.heap _
    rw [e0]
    exact ⟨rfl, N0, rfl⟩
theorem pd2 : parseMethodDescriptor "([Ljava/lang/Boolean;[ZIZ)Z" = some ⟨[(.array (.object "java/lang/Boolean")), (.array .boolean), .int, .boolean], some .boolean⟩ := by decide +kernel
theorem ef4 (m : MethodId) (x0 : Addr) (x1 : Addr) (x2 : Int32) (x3 : Int32) : entryFrame m #[(.ref x0), (.ref x1), (.int x2), (.int x3)] 5 = mkF m 0 #[.val (.ref x0), .val (.ref x1), .val (.int x2), .val (.int x3), .unset] [] := by first | (simp [entryFrame, mkF, argsToLocals, Value.category]; done) | rfl
def Q4 (Z : State) (o1 : Addr) (o2 : Addr) (kc4 : ClassId) (p3 : Int32) (kc5 : ClassId) (h0 : Heap) (n0 : Nat) (v : Option Value) (h : Heap) (L : List Loc) : Prop :=
  (v = some (.int (1 : Int32)) ∧ Fr n0 L ∧ h = h0)
set_option maxRecDepth 65536 in
set_option maxHeartbeats 40000000 in
theorem rm4 (l : Launch) (Z : State) (a0 : Array Value) (hw : ∀ d ∈ tables_1, d.before a0 Z = true) (ws : List Jvm.Cond) (o1 : Addr) (o2 : Addr) (kc4 : ClassId) (p3 : Int32) (kc5 : ClassId) (h0 : Heap) (n0 : Nat) (O0 : Old Z n0 h0) (g_o1 : n0 ≤ o1) (g_o2 : n0 ≤ o2) (Ov_kc4 : Ovr Z kc4 "java/lang/Boolean") (bd_p3 : 0 ≤ p3.toInt ∧ p3.toInt ≤ 1) (P2 : Arv Z h0 o2 kc5 .boolean (0 : Int32) [] (.int (0 : Int32))) :
    MetFree l yn2 (head1 (Jvm.Cond.code yn2 method_3_code 5 (some .boolean) :: ws) ({ frames := 0, cells := 0, slots := 0, locals := 0 } : Room)) (fun a U => a = #[(.ref o1), (.ref o2), (.int (1 : Int32)), (.int p3)] ∧ Z.Warmed39 U.vm ∧ U.heap = h0) (fun _ _ _ _ _ => True) (fun _ U o U' => ∃ v L, o = .returned v ∧ Q4 Z o1 o2 kc4 p3 kc5 h0 n0 v U'.heap L ∧ FrameEnd U o U' L ({ frames := 0, cells := 0, slots := 0, locals := 0 } : Room).cells ({ frames := 0, cells := 0, slots := 0, locals := 0 } : Room).slots) := by
  refine MetFree.of_bodySF (plainFor_of_name pn2) hisR ?_
  intro p e s m args below meth c s₁ Bd hml0 hP hK
  obtain ⟨rfl, hZ, hh⟩ := hP
  have hx := Bd.exec
  have hby := Bd.bytes
  have hml : c.maxLocals = 5 := hml0
  have hown : s.vm.findClass "com/example/castless/castless/PrimitiveArraysBox333PinLaw" = some m.cls := findClass_of_methodNamed Bd.named
  have hnm := (name_of_methodNamed Bd.named Bd.method).1
  have hret := Bd.returns
  have hlk : meth.locks = false := BodyLoose.notSynchronized Bd
  have X0 : Stand p l e ({ frames := 0, cells := 0, slots := 0, locals := 0 } : Room) s m #[(.ref o1), (.ref o2), (.int (1 : Int32)), (.int p3)] below meth c s₁ [] 0 0 := Stand.of_body Bd
  have e0 : s₁.heap = h0 := by rw [← hh, Bd.state]; rfl
  have N0 := Fr.nil n0
  have pre0 : ∀ t, Steps p.tables e below (s₁.setTop (mkF m 0 #[.val (.ref o1), .val (.ref o2), .val (.int (1 : Int32)), .val (.int p3), .unset] [])) t → Steps p.tables e below (s₁.setTop (entryFrame m #[(.ref o1), (.ref o2), (.int (1 : Int32)), (.int p3)] 5)) t := fun t k => castTop (ef4 m o1 o2 (1 : Int32) p3) k
  obtain ⟨cl1, Ar1, qa1, Sa1, Na1, Ha1, Ga1⟩ := id (P2)
  obtain ⟨fs, hr, hrun, hended, hW, hsame⟩ := X0.leave (v := some (.int (1 : Int32))) (fun h => by rw [hret] at h; cases h)
  refine ⟨_, _, pre0 _ ?_, hrun, hended, _, _, rfl, ?_, ⟨_, rfl⟩, hW, hsame.mono (by decide) (by decide)⟩
  ·
    show Steps p.tables e below (s₁.setTop (mkF m 0 #[.val (.ref o1), .val (.ref o2), .val (.int (1 : Int32)), .val (.int p3), .unset] [])) _
    refine XS.iloadN X0.here hx rfl (hb hby d2_0) rfl ?_
    refine XS.aloadN X0.here hx rfl (hb hby d2_1) rfl rfl ?_
    refine X0.arraylength hx (by rw [e0]; exact Ar1.1) (State.isArrayOf_alike hZ.alike Ar1.2.1) (g := (mkF m 2 #[.val (.ref o1), .val (.ref o2), .val (.int (1 : Int32)), .val (.int p3), .unset] [(.ref o2), (.int (1 : Int32))])) rfl rfl (hb hby d2_2) _ ?_
    rw [len_of Sa1 Na1]
    refine XS.icmpNo X0.here hx rfl (hb hby d2_3) rfl (flt (by decide : ¬ ((1 : Int32) < (0 : Int32)))).1 ?_
    refine XS.iconst X0.here hx rfl (hb hby d2_6) ?_
    show Steps p.tables e below (s₁.setTop (mkF m 7 #[.val (.ref o1), .val (.ref o2), .val (.int (1 : Int32)), .val (.int p3), .unset] [(.int (1 : Int32))])) _
    exact retN X0 hx (t := .boolean) hret (by simp) (hb hby d2_7) hr
  ·
    show Q4 Z o1 o2 kc4 p3 kc5 h0 n0 _ s₁.heap _
    rw [e0]
    exact ⟨rfl, N0, rfl⟩
theorem ef5 (m : MethodId) (x0 : Addr) (x1 : Addr) (x2 : Int32) (x3 : Int32) : entryFrame m #[(.ref x0), (.ref x1), (.int x2), (.int x3)] 5 = mkF m 0 #[.val (.ref x0), .val (.ref x1), .val (.int x2), .val (.int x3), .unset] [] := by first | (simp [entryFrame, mkF, argsToLocals, Value.category]; done) | rfl
def Q5 (Z : State) (o1 : Addr) (o2 : Addr) (kc4 : ClassId) (p3 : Int32) (kc5 : ClassId) (h0 : Heap) (n0 : Nat) (v : Option Value) (h : Heap) (L : List Loc) : Prop :=
  (v = some (.int (1 : Int32)) ∧ Fr n0 L ∧ h = h0)
set_option maxRecDepth 65536 in
set_option maxHeartbeats 40000000 in
theorem rm5 (l : Launch) (Z : State) (a0 : Array Value) (hw : ∀ d ∈ tables_1, d.before a0 Z = true) (ws : List Jvm.Cond) (o1 : Addr) (o2 : Addr) (kc4 : ClassId) (p3 : Int32) (kc5 : ClassId) (h0 : Heap) (n0 : Nat) (O0 : Old Z n0 h0) (g_o1 : n0 ≤ o1) (g_o2 : n0 ≤ o2) (Ov_kc4 : Ovr Z kc4 "java/lang/Boolean") (bd_p3 : 0 ≤ p3.toInt ∧ p3.toInt ≤ 1) (P2 : Arv Z h0 o2 kc5 .boolean (0 : Int32) [] (.int (0 : Int32))) :
    MetFree l yn2 (head1 (Jvm.Cond.code yn2 method_3_code 5 (some .boolean) :: ws) ({ frames := 0, cells := 0, slots := 0, locals := 0 } : Room)) (fun a U => a = #[(.ref o1), (.ref o2), (.int (2 : Int32)), (.int p3)] ∧ Z.Warmed39 U.vm ∧ U.heap = h0) (fun _ _ _ _ _ => True) (fun _ U o U' => ∃ v L, o = .returned v ∧ Q5 Z o1 o2 kc4 p3 kc5 h0 n0 v U'.heap L ∧ FrameEnd U o U' L ({ frames := 0, cells := 0, slots := 0, locals := 0 } : Room).cells ({ frames := 0, cells := 0, slots := 0, locals := 0 } : Room).slots) := by
  refine MetFree.of_bodySF (plainFor_of_name pn2) hisR ?_
  intro p e s m args below meth c s₁ Bd hml0 hP hK
  obtain ⟨rfl, hZ, hh⟩ := hP
  have hx := Bd.exec
  have hby := Bd.bytes
  have hml : c.maxLocals = 5 := hml0
  have hown : s.vm.findClass "com/example/castless/castless/PrimitiveArraysBox333PinLaw" = some m.cls := findClass_of_methodNamed Bd.named
  have hnm := (name_of_methodNamed Bd.named Bd.method).1
  have hret := Bd.returns
  have hlk : meth.locks = false := BodyLoose.notSynchronized Bd
  have X0 : Stand p l e ({ frames := 0, cells := 0, slots := 0, locals := 0 } : Room) s m #[(.ref o1), (.ref o2), (.int (2 : Int32)), (.int p3)] below meth c s₁ [] 0 0 := Stand.of_body Bd
  have e0 : s₁.heap = h0 := by rw [← hh, Bd.state]; rfl
  have N0 := Fr.nil n0
  have pre0 : ∀ t, Steps p.tables e below (s₁.setTop (mkF m 0 #[.val (.ref o1), .val (.ref o2), .val (.int (2 : Int32)), .val (.int p3), .unset] [])) t → Steps p.tables e below (s₁.setTop (entryFrame m #[(.ref o1), (.ref o2), (.int (2 : Int32)), (.int p3)] 5)) t := fun t k => castTop (ef5 m o1 o2 (2 : Int32) p3) k
  obtain ⟨cl1, Ar1, qa1, Sa1, Na1, Ha1, Ga1⟩ := id (P2)
  obtain ⟨fs, hr, hrun, hended, hW, hsame⟩ := X0.leave (v := some (.int (1 : Int32))) (fun h => by rw [hret] at h; cases h)
  refine ⟨_, _, pre0 _ ?_, hrun, hended, _, _, rfl, ?_, ⟨_, rfl⟩, hW, hsame.mono (by decide) (by decide)⟩
  ·
    show Steps p.tables e below (s₁.setTop (mkF m 0 #[.val (.ref o1), .val (.ref o2), .val (.int (2 : Int32)), .val (.int p3), .unset] [])) _
    refine XS.iloadN X0.here hx rfl (hb hby d2_0) rfl ?_
    refine XS.aloadN X0.here hx rfl (hb hby d2_1) rfl rfl ?_
    refine X0.arraylength hx (by rw [e0]; exact Ar1.1) (State.isArrayOf_alike hZ.alike Ar1.2.1) (g := (mkF m 2 #[.val (.ref o1), .val (.ref o2), .val (.int (2 : Int32)), .val (.int p3), .unset] [(.ref o2), (.int (2 : Int32))])) rfl rfl (hb hby d2_2) _ ?_
    rw [len_of Sa1 Na1]
    refine XS.icmpNo X0.here hx rfl (hb hby d2_3) rfl (flt (by decide : ¬ ((2 : Int32) < (0 : Int32)))).1 ?_
    refine XS.iconst X0.here hx rfl (hb hby d2_6) ?_
    show Steps p.tables e below (s₁.setTop (mkF m 7 #[.val (.ref o1), .val (.ref o2), .val (.int (2 : Int32)), .val (.int p3), .unset] [(.int (1 : Int32))])) _
    exact retN X0 hx (t := .boolean) hret (by simp) (hb hby d2_7) hr
  ·
    show Q5 Z o1 o2 kc4 p3 kc5 h0 n0 _ s₁.heap _
    rw [e0]
    exact ⟨rfl, N0, rfl⟩
theorem ef6 (m : MethodId) (x0 : Addr) (x1 : Addr) (x2 : Int32) (x3 : Int32) : entryFrame m #[(.ref x0), (.ref x1), (.int x2), (.int x3)] 5 = mkF m 0 #[.val (.ref x0), .val (.ref x1), .val (.int x2), .val (.int x3), .unset] [] := by first | (simp [entryFrame, mkF, argsToLocals, Value.category]; done) | rfl
def Q6 (Z : State) (o1 : Addr) (o2 : Addr) (kc4 : ClassId) (p3 : Int32) (kc5 : ClassId) (h0 : Heap) (n0 : Nat) (v : Option Value) (h : Heap) (L : List Loc) : Prop :=
  (v = some (.int (1 : Int32)) ∧ Fr n0 L ∧ h = h0)
set_option maxRecDepth 65536 in
set_option maxHeartbeats 40000000 in
theorem rm6 (l : Launch) (Z : State) (a0 : Array Value) (hw : ∀ d ∈ tables_1, d.before a0 Z = true) (ws : List Jvm.Cond) (o1 : Addr) (o2 : Addr) (kc4 : ClassId) (p3 : Int32) (kc5 : ClassId) (h0 : Heap) (n0 : Nat) (O0 : Old Z n0 h0) (g_o1 : n0 ≤ o1) (g_o2 : n0 ≤ o2) (Ov_kc4 : Ovr Z kc4 "java/lang/Boolean") (bd_p3 : 0 ≤ p3.toInt ∧ p3.toInt ≤ 1) (P2 : Arv Z h0 o2 kc5 .boolean (0 : Int32) [] (.int (0 : Int32))) :
    MetFree l yn2 (head1 (Jvm.Cond.code yn2 method_3_code 5 (some .boolean) :: ws) ({ frames := 0, cells := 0, slots := 0, locals := 0 } : Room)) (fun a U => a = #[(.ref o1), (.ref o2), (.int (3 : Int32)), (.int p3)] ∧ Z.Warmed39 U.vm ∧ U.heap = h0) (fun _ _ _ _ _ => True) (fun _ U o U' => ∃ v L, o = .returned v ∧ Q6 Z o1 o2 kc4 p3 kc5 h0 n0 v U'.heap L ∧ FrameEnd U o U' L ({ frames := 0, cells := 0, slots := 0, locals := 0 } : Room).cells ({ frames := 0, cells := 0, slots := 0, locals := 0 } : Room).slots) := by
  refine MetFree.of_bodySF (plainFor_of_name pn2) hisR ?_
  intro p e s m args below meth c s₁ Bd hml0 hP hK
  obtain ⟨rfl, hZ, hh⟩ := hP
  have hx := Bd.exec
  have hby := Bd.bytes
  have hml : c.maxLocals = 5 := hml0
  have hown : s.vm.findClass "com/example/castless/castless/PrimitiveArraysBox333PinLaw" = some m.cls := findClass_of_methodNamed Bd.named
  have hnm := (name_of_methodNamed Bd.named Bd.method).1
  have hret := Bd.returns
  have hlk : meth.locks = false := BodyLoose.notSynchronized Bd
  have X0 : Stand p l e ({ frames := 0, cells := 0, slots := 0, locals := 0 } : Room) s m #[(.ref o1), (.ref o2), (.int (3 : Int32)), (.int p3)] below meth c s₁ [] 0 0 := Stand.of_body Bd
  have e0 : s₁.heap = h0 := by rw [← hh, Bd.state]; rfl
  have N0 := Fr.nil n0
  have pre0 : ∀ t, Steps p.tables e below (s₁.setTop (mkF m 0 #[.val (.ref o1), .val (.ref o2), .val (.int (3 : Int32)), .val (.int p3), .unset] [])) t → Steps p.tables e below (s₁.setTop (entryFrame m #[(.ref o1), (.ref o2), (.int (3 : Int32)), (.int p3)] 5)) t := fun t k => castTop (ef6 m o1 o2 (3 : Int32) p3) k
  obtain ⟨cl1, Ar1, qa1, Sa1, Na1, Ha1, Ga1⟩ := id (P2)
  obtain ⟨fs, hr, hrun, hended, hW, hsame⟩ := X0.leave (v := some (.int (1 : Int32))) (fun h => by rw [hret] at h; cases h)
  refine ⟨_, _, pre0 _ ?_, hrun, hended, _, _, rfl, ?_, ⟨_, rfl⟩, hW, hsame.mono (by decide) (by decide)⟩
  ·
    show Steps p.tables e below (s₁.setTop (mkF m 0 #[.val (.ref o1), .val (.ref o2), .val (.int (3 : Int32)), .val (.int p3), .unset] [])) _
    refine XS.iloadN X0.here hx rfl (hb hby d2_0) rfl ?_
    refine XS.aloadN X0.here hx rfl (hb hby d2_1) rfl rfl ?_
    refine X0.arraylength hx (by rw [e0]; exact Ar1.1) (State.isArrayOf_alike hZ.alike Ar1.2.1) (g := (mkF m 2 #[.val (.ref o1), .val (.ref o2), .val (.int (3 : Int32)), .val (.int p3), .unset] [(.ref o2), (.int (3 : Int32))])) rfl rfl (hb hby d2_2) _ ?_
    rw [len_of Sa1 Na1]
    refine XS.icmpNo X0.here hx rfl (hb hby d2_3) rfl (flt (by decide : ¬ ((3 : Int32) < (0 : Int32)))).1 ?_
    refine XS.iconst X0.here hx rfl (hb hby d2_6) ?_
    show Steps p.tables e below (s₁.setTop (mkF m 7 #[.val (.ref o1), .val (.ref o2), .val (.int (3 : Int32)), .val (.int p3), .unset] [(.int (1 : Int32))])) _
    exact retN X0 hx (t := .boolean) hret (by simp) (hb hby d2_7) hr
  ·
    show Q6 Z o1 o2 kc4 p3 kc5 h0 n0 _ s₁.heap _
    rw [e0]
    exact ⟨rfl, N0, rfl⟩
theorem ef7 (m : MethodId) (x0 : Addr) (x1 : Addr) : entryFrame m #[(.ref x0), (.ref x1)] 2 = mkF m 0 #[.val (.ref x0), .val (.ref x1)] [] := by first | (simp [entryFrame, mkF, argsToLocals, Value.category]; done) | rfl
def Q7 (Z : State) (o1 : Addr) (u2 : Addr) (h0 : Heap) (n0 : Nat) (v : Option Value) (h : Heap) (L : List Loc) : Prop :=
  (v = some (.ref o1) ∧ Fr n0 L ∧ h = h0)
set_option maxRecDepth 65536 in
set_option maxHeartbeats 40000000 in
theorem rm7 (l : Launch) (Z : State) (a0 : Array Value) (hw : ∀ d ∈ tables_1, d.before a0 Z = true) (ws : List Jvm.Cond) (o1 : Addr) (u2 : Addr) (h0 : Heap) (n0 : Nat) (O0 : Old Z n0 h0) (g_o1 : n0 ≤ o1) :
    MetFree l yn0 (head1 (Jvm.Cond.code yn0 jdk_31_method_11_code 2 (some (.object "java/lang/Object")) :: ws) ({ frames := 0, cells := 0, slots := 0, locals := 0 } : Room)) (fun a U => a = #[(.ref o1), (.ref u2)] ∧ Z.Warmed39 U.vm ∧ U.heap = h0) (fun _ _ _ _ _ => True) (fun _ U o U' => ∃ v L, o = .returned v ∧ Q7 Z o1 u2 h0 n0 v U'.heap L ∧ FrameEnd U o U' L ({ frames := 0, cells := 0, slots := 0, locals := 0 } : Room).cells ({ frames := 0, cells := 0, slots := 0, locals := 0 } : Room).slots) := by
  refine MetFree.of_bodySF (plainFor_of_name pn0) hisR ?_
  intro p e s m args below meth c s₁ Bd hml0 hP hK
  obtain ⟨rfl, hZ, hh⟩ := hP
  have hx := Bd.exec
  have hby := Bd.bytes
  have hml : c.maxLocals = 2 := hml0
  have hown : s.vm.findClass "java/util/Objects" = some m.cls := findClass_of_methodNamed Bd.named
  have hnm := (name_of_methodNamed Bd.named Bd.method).1
  have hret := Bd.returns
  have hlk : meth.locks = false := BodyLoose.notSynchronized Bd
  have X0 : Stand p l e ({ frames := 0, cells := 0, slots := 0, locals := 0 } : Room) s m #[(.ref o1), (.ref u2)] below meth c s₁ [] 0 0 := Stand.of_body Bd
  have e0 : s₁.heap = h0 := by rw [← hh, Bd.state]; rfl
  have N0 := Fr.nil n0
  have pre0 : ∀ t, Steps p.tables e below (s₁.setTop (mkF m 0 #[.val (.ref o1), .val (.ref u2)] [])) t → Steps p.tables e below (s₁.setTop (entryFrame m #[(.ref o1), (.ref u2)] 2)) t := fun t k => castTop (ef7 m o1 u2) k
  obtain ⟨fs, hr, hrun, hended, hW, hsame⟩ := X0.leave (v := some (.ref o1)) (fun h => by rw [hret] at h; cases h)
  refine ⟨_, _, pre0 _ ?_, hrun, hended, _, _, rfl, ?_, ⟨_, rfl⟩, hW, hsame.mono (by decide) (by decide)⟩
  ·
    show Steps p.tables e below (s₁.setTop (mkF m 0 #[.val (.ref o1), .val (.ref u2)] [])) _
    refine XS.aloadN X0.here hx rfl (hb hby d1_0) rfl rfl ?_
    refine XS.ifnonnullYes X0.here hx rfl (pc0 := 1) (pc' := 13) rfl (hb hby d1_1) rfl (by decide) (by decide) ?_
    refine XS.aloadN X0.here hx rfl (hb hby d1_13) rfl rfl ?_
    show Steps p.tables e below (s₁.setTop (mkF m 14 #[.val (.ref o1), .val (.ref u2)] [(.ref o1)])) _
    exact retOut X0 hx hret rfl (Or.inr (Or.inr (Or.inr (Or.inr ⟨rfl, rfl, rfl⟩)))) (hb hby d1_14) hr
  ·
    show Q7 Z o1 u2 h0 n0 _ s₁.heap _
    rw [e0]
    exact ⟨rfl, N0, rfl⟩
theorem d0_21 : decode prog_11_method_2_code 21 = .ok (.aload_n 1, 1) := by decide +kernel
theorem d0_22 : decode prog_11_method_2_code 22 = .ok (.iload_n 2, 1) := by decide +kernel
theorem d0_23 : decode prog_11_method_2_code 23 = .ok (.aload_n 0, 1) := by decide +kernel
theorem d0_24 : decode prog_11_method_2_code 24 = .ok (.iload_n 2, 1) := by decide +kernel
theorem d0_25 : decode prog_11_method_2_code 25 = .ok (.baload, 1) := by decide +kernel
theorem d0_26 : decode prog_11_method_2_code 26 = .ok (.invokestatic 19, 3) := by decide +kernel
theorem d3_0 : decode jdk_2055_method_5_code 0 = .ok (.iload_n 0, 1) := by decide +kernel
theorem d3_1 : decode jdk_2055_method_5_code 1 = .ok (.ifCond .eq 9, 3) := by decide +kernel
theorem d3_10 : decode jdk_2055_method_5_code 10 = .ok (.getstatic 31, 3) := by decide +kernel
theorem d3_13 : decode jdk_2055_method_5_code 13 = .ok (.areturn, 1) := by decide +kernel
theorem d3_4 : decode jdk_2055_method_5_code 4 = .ok (.getstatic 27, 3) := by decide +kernel
theorem d3_7 : decode jdk_2055_method_5_code 7 = .ok (.goto 6, 3) := by decide +kernel
theorem pn3 : plainName "java/lang/Boolean" = true := by first | (simp [plainName, overriddenIn]; done) | decide +kernel
theorem ef8 (m : MethodId) (x0 : Int32) : entryFrame m #[(.int x0)] 1 = mkF m 0 #[.val (.int x0)] [] := by first | (simp [entryFrame, mkF, argsToLocals, Value.category]; done) | rfl
def Q8 (Z : State) (w1 : Addr) (w2 : Addr) (p1 : Int32) (h0 : Heap) (n0 : Nat) (v : Option Value) (h : Heap) (L : List Loc) : Prop :=
  (∃ v1 : Addr, v = some (.ref v1) ∧ Fr n0 L ∧ h = h0 ∧ (Exa Z Z.heap v1 "java/lang/Boolean") ∧ (Fld Z Z.heap v1 "java/lang/Boolean" "value" "Z" (.int p1)))
set_option maxRecDepth 65536 in
set_option maxHeartbeats 40000000 in
theorem rm8 (l : Launch) (Z : State) (a0 : Array Value) (hw : ∀ d ∈ tables_1, d.before a0 Z = true) (w1 : Addr) (w2 : Addr) (G : GW Z w1 w2) (ws : List Jvm.Cond) (p1 : Int32) (h0 : Heap) (n0 : Nat) (O0 : Old Z n0 h0) (bd_p1 : 0 ≤ p1.toInt ∧ p1.toInt ≤ 1) :
    MetFree l yn3 (head1 (Jvm.Cond.code yn3 jdk_2055_method_5_code 1 (some (.object "java/lang/Boolean")) :: ws) ({ frames := 0, cells := 0, slots := 0, locals := 0 } : Room)) (fun a U => a = #[(.int p1)] ∧ Z.Warmed39 U.vm ∧ U.heap = h0) (fun _ _ _ _ _ => True) (fun _ U o U' => ∃ v L, o = .returned v ∧ Q8 Z w1 w2 p1 h0 n0 v U'.heap L ∧ FrameEnd U o U' L ({ frames := 0, cells := 0, slots := 0, locals := 0 } : Room).cells ({ frames := 0, cells := 0, slots := 0, locals := 0 } : Room).slots) := by
  obtain ⟨S_w1, E_w1, S_w2, E_w2, F_w1_value, F_w2_value⟩ := id G
  refine MetFree.of_bodySF (plainFor_of_name pn3) hisR ?_
  intro p e s m args below meth c s₁ Bd hml0 hP hK
  obtain ⟨rfl, hZ, hh⟩ := hP
  have hx := Bd.exec
  have hby := Bd.bytes
  have hml : c.maxLocals = 1 := hml0
  have hown : s.vm.findClass "java/lang/Boolean" = some m.cls := findClass_of_methodNamed Bd.named
  have hnm := (name_of_methodNamed Bd.named Bd.method).1
  have hret := Bd.returns
  have hlk : meth.locks = false := BodyLoose.notSynchronized Bd
  have X0 : Stand p l e ({ frames := 0, cells := 0, slots := 0, locals := 0 } : Room) s m #[(.int p1)] below meth c s₁ [] 0 0 := Stand.of_body Bd
  have e0 : s₁.heap = h0 := by rw [← hh, Bd.state]; rfl
  have N0 := Fr.nil n0
  have pre0 : ∀ t, Steps p.tables e below (s₁.setTop (mkF m 0 #[.val (.int p1)] [])) t → Steps p.tables e below (s₁.setTop (entryFrame m #[(.int p1)] 1)) t := fun t k => castTop (ef8 m p1) k
  have pre1 : ∀ t, Steps p.tables e below (s₁.setTop (mkF m 1 #[.val (.int p1)] [(.int p1)])) t → Steps p.tables e below (s₁.setTop (entryFrame m #[(.int p1)] 1)) t := fun t k => by
    refine pre0 _ ?_
    show Steps p.tables e below (s₁.setTop (mkF m 0 #[.val (.int p1)] [])) _
    refine XS.iloadN X0.here hx rfl (hb hby d3_0) rfl ?_
    exact k
  by_cases hc2 : p1 = (0 : Int32)
  ·
    have pre3 : ∀ t, Steps p.tables e below (s₁.setTop (mkF m 1 #[.val (.int (0 : Int32))] [(.int (0 : Int32))])) t → Steps p.tables e below (s₁.setTop (entryFrame m #[(.int p1)] 1)) t := fun t k => pre1 t (by rw [hc2]; exact k)
    obtain ⟨T4, X4, e4, st4⟩ := getS2 X0 hx hZ hown (host := "") (Or.inl (own_w hw 30 rfl)) Via.refl e0 (S_w2.ext O0.2) (g := (mkF m 10 #[.val (.int (0 : Int32))] [])) rfl (hb hby d3_10)
    obtain ⟨fs, hr, hrun, hended, hW, hsame⟩ := X4.leave (v := some (.ref w2)) (fun h => by rw [hret] at h; cases h)
    refine ⟨_, _, pre3 _ ?_, hrun, hended, _, _, rfl, ?_, ⟨_, rfl⟩, hW, hsame.mono (by decide) (by decide)⟩
    ·
      show Steps p.tables e below (s₁.setTop (mkF m 1 #[.val (.int (0 : Int32))] [(.int (0 : Int32))])) _
      refine XS.ifYes X0.here hx rfl (pc0 := 1) (pc' := 10) rfl (hb hby d3_1) rfl ((if0 _ _).trans (teq (by decide : (0 : Int32) = (0 : Int32))).1) (by decide) (by decide) ?_
      refine st4 _ ?_
      show Steps p.tables e below (T4.setTop (mkF m 13 #[.val (.int (0 : Int32))] [(.ref w2)])) _
      exact retOut X4 hx hret rfl (Or.inr (Or.inr (Or.inr (Or.inr ⟨rfl, rfl, rfl⟩)))) (hb hby d3_13) hr
    ·
      show Q8 Z w1 w2 p1 h0 n0 _ T4.heap _
      rw [e4]
      exact ⟨w2, rfl, N0, rfl, E_w2, (by rw [hc2]; exact F_w2_value)⟩
  ·
    have hq5 : p1 = (1 : Int32) := (own_geq (n := 1) (k := (1 : Int32)) (by decide) (by have q0 := bd_p1; have q1 := own_neq (n := 0) (k := (0 : Int32)) (by decide) hc2; omega))
    have pre6 : ∀ t, Steps p.tables e below (s₁.setTop (mkF m 1 #[.val (.int (1 : Int32))] [(.int (1 : Int32))])) t → Steps p.tables e below (s₁.setTop (entryFrame m #[(.int p1)] 1)) t := fun t k => pre1 t (by rw [hq5]; exact k)
    obtain ⟨T7, X7, e7, st7⟩ := getS2 X0 hx hZ hown (host := "") (Or.inl (own_w hw 28 rfl)) Via.refl e0 (S_w1.ext O0.2) (g := (mkF m 4 #[.val (.int (1 : Int32))] [])) rfl (hb hby d3_4)
    obtain ⟨fs, hr, hrun, hended, hW, hsame⟩ := X7.leave (v := some (.ref w1)) (fun h => by rw [hret] at h; cases h)
    refine ⟨_, _, pre6 _ ?_, hrun, hended, _, _, rfl, ?_, ⟨_, rfl⟩, hW, hsame.mono (by decide) (by decide)⟩
    ·
      show Steps p.tables e below (s₁.setTop (mkF m 1 #[.val (.int (1 : Int32))] [(.int (1 : Int32))])) _
      refine XS.ifNo X0.here hx rfl (hb hby d3_1) rfl ((if0 _ _).trans (feq (by decide : ¬ ((1 : Int32) = (0 : Int32)))).1) ?_
      refine st7 _ ?_
      refine XS.goto X7.here hx rfl (pc0 := 7) (pc' := 13) rfl (hb hby d3_7) (by decide) (by decide) ?_
      show Steps p.tables e below (T7.setTop (mkF m 13 #[.val (.int (1 : Int32))] [(.ref w1)])) _
      exact retOut X7 hx hret rfl (Or.inr (Or.inr (Or.inr (Or.inr ⟨rfl, rfl, rfl⟩)))) (hb hby d3_13) hr
    ·
      show Q8 Z w1 w2 p1 h0 n0 _ T7.heap _
      rw [e7]
      exact ⟨w1, rfl, N0, rfl, E_w1, (by rw [hq5]; exact F_w1_value)⟩
theorem pd3 : parseMethodDescriptor "(Z)Ljava/lang/Boolean;" = some ⟨[.boolean], some (.object "java/lang/Boolean")⟩ := by decide +kernel
theorem d0_29 : decode prog_11_method_2_code 29 = .ok (.aastore, 1) := by decide +kernel
theorem d0_30 : decode prog_11_method_2_code 30 = .ok (.iinc 2 1, 3) := by decide +kernel
theorem d0_33 : decode prog_11_method_2_code 33 = .ok (.goto (-18), 3) := by decide +kernel
theorem ef9 (m : MethodId) (x0 : Addr) : entryFrame m #[(.ref x0)] 3 = mkF m 0 #[.val (.ref x0), .unset, .unset] [] := by first | (simp [entryFrame, mkF, argsToLocals, Value.category]; done) | rfl
def Q9 (Z : State) (w1 : Addr) (w2 : Addr) (o1 : Addr) (p3 : Int32) (kc2 : ClassId) (h0 : Heap) (n0 : Nat) (v : Option Value) (h : Heap) (L : List Loc) : Prop :=
  (∃ b7 : Addr, ∃ k7 : ClassId, ∃ v12 : Addr, v = some (.ref b7) ∧ Fr n0 L ∧ Keep h0 h [] ∧ h0.size ≤ b7 ∧ Ovr Z k7 "java/lang/Boolean" ∧ (Arv Z h b7 k7 (.object "java/lang/Boolean") (1 : Int32) [(.ref v12)] .null) ∧ (Exa Z h b7 "[Ljava/lang/Boolean;") ∧ (Exa Z Z.heap v12 "java/lang/Boolean") ∧ (Fld Z Z.heap v12 "java/lang/Boolean" "value" "Z" (.int p3)))
set_option maxRecDepth 65536 in
set_option maxHeartbeats 40000000 in
theorem rm9 (l : Launch) (Z : State) (a0 : Array Value) (hw : ∀ d ∈ tables_1, d.before a0 Z = true) (w1 : Addr) (w2 : Addr) (G : GW Z w1 w2) (ws : List Jvm.Cond) (o1 : Addr) (p3 : Int32) (kc2 : ClassId) (h0 : Heap) (n0 : Nat) (O0 : Old Z n0 h0) (g_o1 : n0 ≤ o1) (bd_p3 : 0 ≤ p3.toInt ∧ p3.toInt ≤ 1) (P0 : Arv Z h0 o1 kc2 .boolean (1 : Int32) [(.int p3)] (.int (0 : Int32))) :
    MetFree l yn1 (head1 (Jvm.Cond.code yn1 prog_11_method_2_code 3 (some (.array (.object "java/lang/Boolean"))) :: ws) ({ frames := 1, cells := 3, slots := 57, locals := 14 } : Room)) (fun a U => a = #[(.ref o1)] ∧ Z.Warmed39 U.vm ∧ U.heap = h0) (fun _ _ _ _ _ => True) (fun _ U o U' => ∃ v L, o = .returned v ∧ Q9 Z w1 w2 o1 p3 kc2 h0 n0 v U'.heap L ∧ ReturnedEndW U o U' L ({ frames := 1, cells := 3, slots := 57, locals := 14 } : Room).cells ({ frames := 1, cells := 3, slots := 57, locals := 14 } : Room).slots) := by
  obtain ⟨S_w1, E_w1, S_w2, E_w2, F_w1_value, F_w2_value⟩ := id G
  refine MetFree.of_bodySF (plainFor_of_name pn1) hisR ?_
  intro p e s m args below meth c s₁ Bd hml0 hP hK
  obtain ⟨rfl, hZ, hh⟩ := hP
  have hx := Bd.exec
  have hby := Bd.bytes
  have hml : c.maxLocals = 3 := hml0
  have hown : s.vm.findClass "com/example/castless/castless/PrimitiveArrays" = some m.cls := findClass_of_methodNamed Bd.named
  have hnm := (name_of_methodNamed Bd.named Bd.method).1
  have hret := Bd.returns
  have hlk : meth.locks = false := BodyLoose.notSynchronized Bd
  have X0 : Stand p l e ({ frames := 1, cells := 3, slots := 57, locals := 14 } : Room) s m #[(.ref o1)] below meth c s₁ [] 0 0 := Stand.of_body Bd
  have e0 : s₁.heap = h0 := by rw [← hh, Bd.state]; rfl
  have N0 := Fr.nil n0
  have pre0 : ∀ t, Steps p.tables e below (s₁.setTop (mkF m 0 #[.val (.ref o1), .unset, .unset] [])) t → Steps p.tables e below (s₁.setTop (entryFrame m #[(.ref o1)] 3)) t := fun t k => castTop (ef9 m o1) k
  obtain ⟨sx1, T1, h1, ks1, X1, e1, E1, hS1, hk1, hZ, hown, st1⟩ := ldcS (s := s) (vm0 := s.vm) X0 hx hZ hown (own_w hw 6 rfl) (own_sa hw) e0 ((State.WarmedH.refl s).since h0.size) (Nat.le_refl _) (g := (mkF m 1 #[.val (.ref o1), .unset, .unset] [(.ref o1)])) rfl (hb hby d0_1) (n := 52) (by decide) (by decide) (by decide) (by decide)
  have M1 : h0.size ≤ h1.size := Nat.le_trans (Nat.le_refl _) E1.1
  have O1 := Old.ext O0 E1
  obtain ⟨_, _, ⟨T2, L2, c2, n2⟩, -, X2, ⟨Lc2, hQ2, l2, y2, z2⟩, st2⟩ := Jvm.LawKit.callS X1 hx (y := yn0) hown (mvT hZ (own_w hw 14 rfl)) (mvT hZ (own_w hw 15 rfl)) (mvT hZ (own_w hw 16 rfl)) (mvT hZ (own_w hw 17 rfl)) (by decide) (backOf (W := 0) (rm7 l Z a0 hw [] o1 sx1 h1 n0 O1 g_o1) hZ (own_w hw 17 rfl) (own_w hw 16 rfl) (by decide) (by decide)) (g := (mkF m 3 #[.val (.ref o1), .unset, .unset] [(.ref sx1), (.ref o1)])) rfl (by rw [hml]; rfl) (argsL := [(.ref o1), (.ref sx1)]) (rest := []) (lenOf pd0 rfl) rfl (by show 2 * 0 + _ ≤ _; exact Nat.le_of_eq rfl) (hb hby d0_3) (fun _ _ => ⟨rfl, e1, (by decide : 2 + 0 ≤ _), (by decide : 56 + 0 ≤ _)⟩)
  dsimp only [Pt.U, Pt.locs, Pt.cells, Pt.slots] at X2 l2 y2 z2 st2 hQ2
  subst l2 y2 z2
  have X2 : Stand p l e ({ frames := 1, cells := 3, slots := 57, locals := 14 } : Room) (s.setVm T1.vm) m #[(.ref o1)] below meth c T2 _ 2 56 := X2
  obtain ⟨rfl, Nq3, e4⟩ := hQ2
  have N2 := Fr.app N0 Nq3
  have f5 := (P0.ext E1)
  obtain ⟨cl6, Ar6, qa6, Sa6, Na6, Ha6, Ga6⟩ := id (f5)
  obtain ⟨T7, h7, k7, X7, e7, E7, A7, EX7, OV7, st7⟩ := newRE X2 hx hZ hown (own_w hw 18 rfl) (own_w hw 19 rfl) e4 (g := (mkF m 9 #[.val (.ref o1), .unset, .unset] [(.int (1 : Int32))])) rfl (hb hby d0_9) rfl (by decide) (cap := 1) (by decide) (by decide) (by decide) (by decide) (ad := "[Ljava/lang/Boolean;") (by decide)
  obtain ⟨b7, g7⟩ : ∃ z, z = h1.size := ⟨_, rfl⟩
  rw [← g7] at A7 EX7 st7
  have hkk7 := Nat.le_trans hk1 E7.1
  have M7 : h0.size ≤ h7.size := Nat.le_trans M1 E7.1
  have O7 := Old.ext O1 E7
  have sz_b7 : h1.size ≤ b7 := Nat.le_of_eq g7.symm
  have g_b7 : n0 ≤ b7 := Nat.le_trans (own_oz O0) (Nat.le_trans M1 sz_b7)
  have V7_0 := Arv.new A7 (by decide)
  have V7 : Arv Z h7 b7 k7 (.object "java/lang/Boolean") (1 : Int32) [.null] .null := V7_0.pad (pad_rep [] .null 1)
  have f8 := (f5.ext E7)
  obtain ⟨cl9, Ar9, qa9, Sa9, Na9, Ha9, Ga9⟩ := id (f8)
  obtain ⟨cl10, Ar10, qa10, Sa10, Na10, Ha10, Ga10⟩ := id (f8)
  have hin10 : ¬ ((0 : Int32) < 0 ∨ cl10.slots.size ≤ ((0 : Int32)).toNatClampNeg) := inb_of Sa10 ⟨by decide, by decide⟩
  have hat10 : cl10.slots[((0 : Int32)).toNatClampNeg]? = some (.int p3) := Has.at Ha10 hin10 rfl
  obtain ⟨_, _, ⟨T11, L11, c11, n11⟩, -, X11, ⟨Lc11, hQ11, l11, y11, z11⟩, st11⟩ := Jvm.LawKit.callS X7 hx (y := yn3) hown (mvT hZ (own_w hw 24 rfl)) (mvT hZ (own_w hw 25 rfl)) (mvT hZ (own_w hw 26 rfl)) (mvT hZ (own_w hw 27 rfl)) (by decide) (backOf (W := 2) (rm8 l Z a0 hw w1 w2 G [] p3 h7 n0 O7 (by have q0 := bd_p3; omega)) hZ (own_w hw 27 rfl) (own_w hw 26 rfl) (by decide) (by decide)) (g := (mkF m 26 #[.val (.ref o1), .val (.ref b7), .val (.int (0 : Int32))] [(.int p3), (.int (0 : Int32)), (.ref b7)])) rfl (by rw [hml]; rfl) (argsL := [(.int p3)]) (rest := [(.int (0 : Int32)), (.ref b7)]) (lenOf pd3 rfl) rfl (by show 2 * 0 + _ ≤ _; exact Nat.le_of_eq rfl) (hb hby d0_26) (fun _ _ => ⟨rfl, e7, (by decide : 3 + 0 ≤ _), (by decide : 57 + 0 ≤ _)⟩)
  dsimp only [Pt.U, Pt.locs, Pt.cells, Pt.slots] at X11 l11 y11 z11 st11 hQ11
  subst l11 y11 z11
  have X11 : Stand p l e ({ frames := 1, cells := 3, slots := 57, locals := 14 } : Room) (s.setVm T1.vm) m #[(.ref o1)] below meth c T11 _ 3 57 := X11
  obtain ⟨v12, rfl, Nq13, e14, f15, f16⟩ := hQ11
  have N11 := Fr.app N2 Nq13
  obtain ⟨cl17, Ar17, qa17, Sa17, Na17, Ha17, Ga17⟩ := id (V7)
  have hin17 : ¬ ((0 : Int32) < 0 ∨ cl17.slots.size ≤ ((0 : Int32)).toNatClampNeg) := inb_of Sa17 ⟨by decide, by decide⟩
  obtain ⟨T18, h18, X18, e18, W18, st18⟩ := stR X11 hx hZ e14 Ar17 (j := (0 : Int32)) hin17 rfl (Sto.ofV Ar17 qa17 OV7 (Ins.self (f15.ext O7.2))) (g := (mkF m 29 #[.val (.ref o1), .val (.ref b7), .val (.int (0 : Int32))] [(.ref v12), (.int (0 : Int32)), (.ref b7)])) rfl rfl (hb hby d0_29)
  have V18 : Arv Z h18 b7 k7 (.object "java/lang/Boolean") (1 : Int32) [(.ref v12)] .null := Arv.set Ar17 qa17 Sa17 Na17 Ha17 Ga17 rfl W18 0 rfl (Nat.le_of_ble_eq_true rfl)
  have N18 := Fr.snoc X18 N11 g_b7
  have hkk18 := Nat.le_trans hkk7 (Nat.le_of_eq W18.size.symm)
  have M18 : h0.size ≤ h18.size := Nat.le_trans M7 (Nat.le_of_eq W18.size.symm)
  have O18 := Old.wr O7 W18 g_b7
  have lt19 : o1 < h1.size := (Nat.lt_of_lt_of_le P0.lt E1.1)
  have ne20 : o1 ≠ b7 := Nat.ne_of_lt (Nat.lt_of_lt_of_le lt19 sz_b7)
  have f21 := (f8.other W18 ne20)
  obtain ⟨cl22, Ar22, qa22, Sa22, Na22, Ha22, Ga22⟩ := id (f21)
  obtain ⟨fs, hr, hrun, hended, hRE⟩ := X18.leaveW hS1 (by rw [e18]; exact hkk18) (v := some (.ref b7)) (fun h => by rw [hret] at h; cases h)
  have KL : Keep h0 h18 [] := ((((Keep.refl h0 []).ext E1).ext E7).wr W18 (Or.inr (Nat.le_trans M1 sz_b7)))
  have f23 := (EX7.wr W18)
  refine ⟨_, _, pre0 _ ?_, hrun, hended, _, _, rfl, ?_, hRE.1, hRE.2.1, hRE.2.2.1, hRE.2.2.2.mono (by decide) (by decide)⟩
  ·
    show Steps p.tables e below (s₁.setTop (mkF m 0 #[.val (.ref o1), .unset, .unset] [])) _
    refine XS.aloadN X0.here hx rfl (hb hby d0_0) rfl rfl ?_
    refine st1 _ ?_
    refine st2 _ ?_
    refine XS.pop X2.here hx rfl (hb hby d0_6) rfl rfl ?_
    refine XS.aloadN X2.here hx rfl (hb hby d0_7) rfl rfl ?_
    refine X2.arraylength hx (by rw [e4]; exact Ar6.1) (State.isArrayOf_alike hZ.alike Ar6.2.1) (g := (mkF m 8 #[.val (.ref o1), .unset, .unset] [(.ref o1)])) rfl rfl (hb hby d0_8) _ ?_
    rw [len_of Sa6 Na6]
    refine st7 _ ?_
    refine XS.astoreN X7.here hx rfl (hb hby d0_12) rfl rfl (l' := #[.val (.ref o1), .val (.ref b7), .unset]) rfl ?_
    refine XS.iconst X7.here hx rfl (hb hby d0_13) ?_
    refine XS.istoreN X7.here hx rfl (hb hby d0_14) rfl (l' := #[.val (.ref o1), .val (.ref b7), .val (.int (0 : Int32))]) rfl ?_
    refine XS.iloadN X7.here hx rfl (hb hby d0_15) rfl ?_
    refine XS.aloadN X7.here hx rfl (hb hby d0_16) rfl rfl ?_
    refine X7.arraylength hx (by rw [e7]; exact Ar9.1) (State.isArrayOf_alike hZ.alike Ar9.2.1) (g := (mkF m 17 #[.val (.ref o1), .val (.ref b7), .val (.int (0 : Int32))] [(.ref o1), (.int (0 : Int32))])) rfl rfl (hb hby d0_17) _ ?_
    rw [len_of Sa9 Na9]
    refine XS.icmpNo X7.here hx rfl (hb hby d0_18) rfl (tlt (by decide : (0 : Int32) < (1 : Int32))).2.1 ?_
    refine XS.aloadN X7.here hx rfl (hb hby d0_21) rfl rfl ?_
    refine XS.iloadN X7.here hx rfl (hb hby d0_22) rfl ?_
    refine XS.aloadN X7.here hx rfl (hb hby d0_23) rfl rfl ?_
    refine XS.iloadN X7.here hx rfl (hb hby d0_24) rfl ?_
    refine X7.baloadBooleans hx (j := (0 : Int32)) (v := (.int p3)) (by rw [e7]; exact Ar10.1) (State.isArrayOf_alike hZ.alike Ar10.2.1) Ar10.2.2 hin10 hat10 (g := (mkF m 25 #[.val (.ref o1), .val (.ref b7), .val (.int (0 : Int32))] [(.int (0 : Int32)), (.ref o1), (.int (0 : Int32)), (.ref b7)])) rfl rfl (hb hby d0_25) _ ?_
    refine st11 _ ?_
    refine st18 _ ?_
    refine XS.iinc X18.here hx rfl (hb hby d0_30) rfl (l' := #[.val (.ref o1), .val (.ref b7), .val (.int (1 : Int32))]) rfl ?_
    refine XS.goto X18.here hx rfl (pc0 := 33) (pc' := 15) rfl (hb hby d0_33) (by decide) (by decide) ?_
    refine XS.iloadN X18.here hx rfl (hb hby d0_15) rfl ?_
    refine XS.aloadN X18.here hx rfl (hb hby d0_16) rfl rfl ?_
    refine X18.arraylength hx (by rw [e18]; exact Ar22.1) (State.isArrayOf_alike hZ.alike Ar22.2.1) (g := (mkF m 17 #[.val (.ref o1), .val (.ref b7), .val (.int (1 : Int32))] [(.ref o1), (.int (1 : Int32))])) rfl rfl (hb hby d0_17) _ ?_
    rw [len_of Sa22 Na22]
    refine XS.icmpYes X18.here hx rfl (pc0 := 18) (pc' := 36) rfl (hb hby d0_18) rfl (flt (by decide : ¬ ((1 : Int32) < (1 : Int32)))).2.1 (by decide) (by decide) ?_
    refine XS.aloadN X18.here hx rfl (hb hby d0_36) rfl rfl ?_
    show Steps p.tables e below (T18.setTop (mkF m 37 #[.val (.ref o1), .val (.ref b7), .val (.int (1 : Int32))] [(.ref b7)])) _
    exact retOut X18 hx hret rfl (Or.inr (Or.inr (Or.inr (Or.inr ⟨rfl, rfl, rfl⟩)))) (hb hby d0_37) hr
  ·
    show Q9 Z w1 w2 o1 p3 kc2 h0 n0 _ T18.heap _
    rw [e18]
    exact ⟨b7, k7, v12, rfl, N18, KL, (Nat.le_trans M1 sz_b7), OV7, V18, f23, f15, f16⟩
theorem d2_8 : decode method_3_code 8 = .ok (.aload_n 0, 1) := by decide +kernel
theorem d2_9 : decode method_3_code 9 = .ok (.iload_n 2, 1) := by decide +kernel
theorem d2_10 : decode method_3_code 10 = .ok (.aaload, 1) := by decide +kernel
theorem d2_11 : decode method_3_code 11 = .ok (.astore 4, 2) := by decide +kernel
theorem d2_13 : decode method_3_code 13 = .ok (.aload 4, 2) := by decide +kernel
theorem d2_15 : decode method_3_code 15 = .ok (.ifnull 23, 3) := by decide +kernel
theorem d2_18 : decode method_3_code 18 = .ok (.aload 4, 2) := by decide +kernel
theorem d2_20 : decode method_3_code 20 = .ok (.invokevirtual 20, 3) := by decide +kernel
theorem d4_0 : decode jdk_2055_method_4_code 0 = .ok (.aload_n 0, 1) := by decide +kernel
theorem d4_1 : decode jdk_2055_method_4_code 1 = .ok (.getfield 7, 3) := by decide +kernel
theorem d4_4 : decode jdk_2055_method_4_code 4 = .ok (.ireturn, 1) := by decide +kernel
theorem ef10 (m : MethodId) (x0 : Addr) : entryFrame m #[(.ref x0)] 1 = mkF m 0 #[.val (.ref x0)] [] := by first | (simp [entryFrame, mkF, argsToLocals, Value.category]; done) | rfl
def Q10 (Z : State) (p2 : Int32) (v1 : Addr) (h0 : Heap) (n0 : Nat) (v : Option Value) (h : Heap) (L : List Loc) : Prop :=
  (v = some (.int p2) ∧ Fr n0 L ∧ h = h0)
set_option maxRecDepth 65536 in
set_option maxHeartbeats 40000000 in
theorem rm10 (l : Launch) (Z : State) (a0 : Array Value) (hw : ∀ d ∈ tables_1, d.before a0 Z = true) (ws : List Jvm.Cond) (p2 : Int32) (v1 : Addr) (h0 : Heap) (n0 : Nat) (O0 : Old Z n0 h0) (bd_p2 : 0 ≤ p2.toInt ∧ p2.toInt ≤ 1) (P1 : Fld Z Z.heap v1 "java/lang/Boolean" "value" "Z" (.int p2)) :
    MetFree l yn4 (head1 (Jvm.Cond.code yn4 jdk_2055_method_4_code 1 (some .boolean) :: ws) ({ frames := 0, cells := 0, slots := 0, locals := 0 } : Room)) (fun a U => a = #[(.ref v1)] ∧ Z.Warmed39 U.vm ∧ U.heap = h0) (fun _ _ _ _ _ => True) (fun _ U o U' => ∃ v L, o = .returned v ∧ Q10 Z p2 v1 h0 n0 v U'.heap L ∧ FrameEnd U o U' L ({ frames := 0, cells := 0, slots := 0, locals := 0 } : Room).cells ({ frames := 0, cells := 0, slots := 0, locals := 0 } : Room).slots) := by
  refine MetFree.of_bodySF (plainFor_of_name pn3) hisR ?_
  intro p e s m args below meth c s₁ Bd hml0 hP hK
  obtain ⟨rfl, hZ, hh⟩ := hP
  have hx := Bd.exec
  have hby := Bd.bytes
  have hml : c.maxLocals = 1 := hml0
  have hown : s.vm.findClass "java/lang/Boolean" = some m.cls := findClass_of_methodNamed Bd.named
  have hnm := (name_of_methodNamed Bd.named Bd.method).1
  have hret := Bd.returns
  have hlk : meth.locks = false := BodyLoose.notSynchronized Bd
  have X0 : Stand p l e ({ frames := 0, cells := 0, slots := 0, locals := 0 } : Room) s m #[(.ref v1)] below meth c s₁ [] 0 0 := Stand.of_body Bd
  have e0 : s₁.heap = h0 := by rw [← hh, Bd.state]; rfl
  have N0 := Fr.nil n0
  have pre0 : ∀ t, Steps p.tables e below (s₁.setTop (mkF m 0 #[.val (.ref v1)] [])) t → Steps p.tables e below (s₁.setTop (entryFrame m #[(.ref v1)] 1)) t := fun t k => castTop (ef10 m v1) k
  obtain ⟨T1, X1, e1, st1⟩ := getF X0 hx hZ hown (host := "") (Or.inl (own_w hw 36 rfl)) Via.refl e0 (P1.ext O0.2) (g := (mkF m 1 #[.val (.ref v1)] [(.ref v1)])) rfl rfl (hb hby d4_1)
  obtain ⟨fs, hr, hrun, hended, hW, hsame⟩ := X1.leave (v := some (.int p2)) (fun h => by rw [hret] at h; cases h)
  have hnr := own_nz (x := p2) (by have q0 := bd_p2; omega)
  refine ⟨_, _, pre0 _ ?_, hrun, hended, _, _, rfl, ?_, ⟨_, rfl⟩, hW, hsame.mono (by decide) (by decide)⟩
  ·
    show Steps p.tables e below (s₁.setTop (mkF m 0 #[.val (.ref v1)] [])) _
    refine XS.aloadN X0.here hx rfl (hb hby d4_0) rfl rfl ?_
    refine st1 _ ?_
    show Steps p.tables e below (T1.setTop (mkF m 4 #[.val (.ref v1)] [(.int p2)])) _
    exact retN X1 hx (t := .boolean) hret (by simp) (hb hby d4_4) (by rw [hnr]; exact hr)
  ·
    show Q10 Z p2 v1 h0 n0 _ T1.heap _
    rw [e1]
    exact ⟨rfl, N0, rfl⟩
theorem pd4 : parseMethodDescriptor "()Z" = some ⟨[], some .boolean⟩ := by decide +kernel
theorem d2_23 : decode method_3_code 23 = .ok (.iload_n 3, 1) := by decide +kernel
theorem d2_24 : decode method_3_code 24 = .ok (.if_icmp .ne 14, 3) := by decide +kernel
theorem d2_27 : decode method_3_code 27 = .ok (.aload_n 1, 1) := by decide +kernel
theorem d2_28 : decode method_3_code 28 = .ok (.iload_n 2, 1) := by decide +kernel
theorem d2_29 : decode method_3_code 29 = .ok (.baload, 1) := by decide +kernel
theorem d2_30 : decode method_3_code 30 = .ok (.iload_n 3, 1) := by decide +kernel
theorem d2_31 : decode method_3_code 31 = .ok (.if_icmp .ne 7, 3) := by decide +kernel
theorem d2_34 : decode method_3_code 34 = .ok (.iconst 1, 1) := by decide +kernel
theorem d2_35 : decode method_3_code 35 = .ok (.goto 4, 3) := by decide +kernel
theorem d2_39 : decode method_3_code 39 = .ok (.ireturn, 1) := by decide +kernel
theorem d2_38 : decode method_3_code 38 = .ok (.iconst 0, 1) := by decide +kernel
theorem ef11 (m : MethodId) (x0 : Addr) (x1 : Addr) (x2 : Int32) (x3 : Int32) : entryFrame m #[(.ref x0), (.ref x1), (.int x2), (.int x3)] 5 = mkF m 0 #[.val (.ref x0), .val (.ref x1), .val (.int x2), .val (.int x3), .unset] [] := by first | (simp [entryFrame, mkF, argsToLocals, Value.category]; done) | rfl
def Q11 (Z : State) (o1 : Addr) (o2 : Addr) (kc4 : ClassId) (p3 : Int32) (p7 : Int32) (p8 : Int32) (v5 : Addr) (kc6 : ClassId) (h0 : Heap) (n0 : Nat) (v : Option Value) (h : Heap) (L : List Loc) : Prop :=
  ((p8 = p3) ∧ (p7 = p3) ∧ v = some (.int (1 : Int32)) ∧ Fr n0 L ∧ h = h0)
  ∨ ((p8 = p3) ∧ (¬ (p7 = p3)) ∧ v = some (.int (0 : Int32)) ∧ Fr n0 L ∧ h = h0)
  ∨ ((¬ (p8 = p3)) ∧ v = some (.int (0 : Int32)) ∧ Fr n0 L ∧ h = h0)
set_option maxRecDepth 65536 in
set_option maxHeartbeats 40000000 in
theorem rm11 (l : Launch) (Z : State) (a0 : Array Value) (hw : ∀ d ∈ tables_1, d.before a0 Z = true) (ws : List Jvm.Cond) (o1 : Addr) (o2 : Addr) (kc4 : ClassId) (p3 : Int32) (p7 : Int32) (p8 : Int32) (v5 : Addr) (kc6 : ClassId) (h0 : Heap) (n0 : Nat) (O0 : Old Z n0 h0) (g_o1 : n0 ≤ o1) (g_o2 : n0 ≤ o2) (Ov_kc4 : Ovr Z kc4 "java/lang/Boolean") (bd_p3 : 0 ≤ p3.toInt ∧ p3.toInt ≤ 1) (bd_p7 : 0 ≤ p7.toInt ∧ p7.toInt ≤ 1) (bd_p8 : 0 ≤ p8.toInt ∧ p8.toInt ≤ 1) (P0 : Arv Z h0 o1 kc4 (.object "java/lang/Boolean") (1 : Int32) [(.ref v5)] .null) (P2 : Arv Z h0 o2 kc6 .boolean (1 : Int32) [(.int p7)] (.int (0 : Int32))) (P4 : Exa Z Z.heap v5 "java/lang/Boolean") (P5 : Fld Z Z.heap v5 "java/lang/Boolean" "value" "Z" (.int p8)) :
    MetFree l yn2 (head1 (Jvm.Cond.code yn2 method_3_code 5 (some .boolean) :: ws) ({ frames := 1, cells := 0, slots := 0, locals := 12 } : Room)) (fun a U => a = #[(.ref o1), (.ref o2), (.int (0 : Int32)), (.int p3)] ∧ Z.Warmed39 U.vm ∧ U.heap = h0) (fun _ _ _ _ _ => True) (fun _ U o U' => ∃ v L, o = .returned v ∧ Q11 Z o1 o2 kc4 p3 p7 p8 v5 kc6 h0 n0 v U'.heap L ∧ FrameEnd U o U' L ({ frames := 1, cells := 0, slots := 0, locals := 12 } : Room).cells ({ frames := 1, cells := 0, slots := 0, locals := 12 } : Room).slots) := by
  refine MetFree.of_bodySF (plainFor_of_name pn2) hisR ?_
  intro p e s m args below meth c s₁ Bd hml0 hP hK
  obtain ⟨rfl, hZ, hh⟩ := hP
  have hx := Bd.exec
  have hby := Bd.bytes
  have hml : c.maxLocals = 5 := hml0
  have hown : s.vm.findClass "com/example/castless/castless/PrimitiveArraysBox333PinLaw" = some m.cls := findClass_of_methodNamed Bd.named
  have hnm := (name_of_methodNamed Bd.named Bd.method).1
  have hret := Bd.returns
  have hlk : meth.locks = false := BodyLoose.notSynchronized Bd
  have X0 : Stand p l e ({ frames := 1, cells := 0, slots := 0, locals := 12 } : Room) s m #[(.ref o1), (.ref o2), (.int (0 : Int32)), (.int p3)] below meth c s₁ [] 0 0 := Stand.of_body Bd
  have e0 : s₁.heap = h0 := by rw [← hh, Bd.state]; rfl
  have N0 := Fr.nil n0
  have pre0 : ∀ t, Steps p.tables e below (s₁.setTop (mkF m 0 #[.val (.ref o1), .val (.ref o2), .val (.int (0 : Int32)), .val (.int p3), .unset] [])) t → Steps p.tables e below (s₁.setTop (entryFrame m #[(.ref o1), (.ref o2), (.int (0 : Int32)), (.int p3)] 5)) t := fun t k => castTop (ef11 m o1 o2 (0 : Int32) p3) k
  obtain ⟨cl1, Ar1, qa1, Sa1, Na1, Ha1, Ga1⟩ := id (P2)
  obtain ⟨cl2, Ar2, qa2, Sa2, Na2, Ha2, Ga2⟩ := id (P0)
  have hin2 : ¬ ((0 : Int32) < 0 ∨ cl2.slots.size ≤ ((0 : Int32)).toNatClampNeg) := inb_of Sa2 ⟨by decide, by decide⟩
  have hat2 : cl2.slots[((0 : Int32)).toNatClampNeg]? = some (.ref v5) := Has.at Ha2 hin2 rfl
  obtain ⟨cq3, kq3, q3a, q3b, q3c⟩ := isOf hZ e0 (P4.ext O0.2)
  obtain ⟨_, _, ⟨T4, L4, c4, n4⟩, -, X4, ⟨Lc4, hQ4, l4, y4, z4⟩, st4⟩ := X0.virtualBack hx (y := yn4) (z := yn4) hown (mvT hZ (own_w hw 31 rfl)) (mvT hZ (own_w hw 32 rfl)) (notFace_of_selects (args := #[]) (mvT hZ (own_w hw 34 rfl))) (mvT hZ (own_w hw 34 rfl)) (mvT hZ (own_w hw 33 rfl)) (by decide) (backOf (W := 0) (rm10 l Z a0 hw [] p8 v5 h0 n0 O0 (by have q0 := bd_p8; omega) P5) hZ (own_w hw 35 rfl) (own_w hw 26 rfl) (by decide) (by decide)) q3a q3c (g := (mkF m 20 #[.val (.ref o1), .val (.ref o2), .val (.int (0 : Int32)), .val (.int p3), .val (.ref v5)] [(.ref v5)])) rfl (by rw [hml]; rfl) (Steps.refl _) (argsL := []) (rest := []) (lenOf pd4 rfl) rfl (by show 2 * 0 + _ ≤ _; exact Nat.le_of_eq rfl) (hb hby d2_20) (fun _ _ => ⟨rfl, e0, (by decide : 0 + 0 ≤ _), (by decide : 0 + 0 ≤ _)⟩)
  dsimp only [Pt.U, Pt.locs, Pt.cells, Pt.slots] at X4 l4 y4 z4 st4 hQ4
  subst l4 y4 z4
  have X4 : Stand p l e ({ frames := 1, cells := 0, slots := 0, locals := 12 } : Room) s m #[(.ref o1), (.ref o2), (.int (0 : Int32)), (.int p3)] below meth c T4 _ 0 0 := X4
  obtain ⟨rfl, Nq5, e6⟩ := hQ4
  have N4 := Fr.app N0 Nq5
  have pre7 : ∀ t, Steps p.tables e below (T4.setTop (mkF m 24 #[.val (.ref o1), .val (.ref o2), .val (.int (0 : Int32)), .val (.int p3), .val (.ref v5)] [(.int p3), (.int p8)])) t → Steps p.tables e below (s₁.setTop (entryFrame m #[(.ref o1), (.ref o2), (.int (0 : Int32)), (.int p3)] 5)) t := fun t k => by
    refine pre0 _ ?_
    show Steps p.tables e below (s₁.setTop (mkF m 0 #[.val (.ref o1), .val (.ref o2), .val (.int (0 : Int32)), .val (.int p3), .unset] [])) _
    refine XS.iloadN X0.here hx rfl (hb hby d2_0) rfl ?_
    refine XS.aloadN X0.here hx rfl (hb hby d2_1) rfl rfl ?_
    refine X0.arraylength hx (by rw [e0]; exact Ar1.1) (State.isArrayOf_alike hZ.alike Ar1.2.1) (g := (mkF m 2 #[.val (.ref o1), .val (.ref o2), .val (.int (0 : Int32)), .val (.int p3), .unset] [(.ref o2), (.int (0 : Int32))])) rfl rfl (hb hby d2_2) _ ?_
    rw [len_of Sa1 Na1]
    refine XS.icmpYes X0.here hx rfl (pc0 := 3) (pc' := 8) rfl (hb hby d2_3) rfl (tlt (by decide : (0 : Int32) < (1 : Int32))).1 (by decide) (by decide) ?_
    refine XS.aloadN X0.here hx rfl (hb hby d2_8) rfl rfl ?_
    refine XS.iloadN X0.here hx rfl (hb hby d2_9) rfl ?_
    refine X0.aaload hx (j := (0 : Int32)) (v := (.ref v5)) (by rw [e0]; exact Ar2.1) (State.isArrayOf_alike hZ.alike Ar2.2.1) rfl Ar2.2.2 hin2 hat2 (g := (mkF m 10 #[.val (.ref o1), .val (.ref o2), .val (.int (0 : Int32)), .val (.int p3), .unset] [(.int (0 : Int32)), (.ref o1)])) rfl rfl (hb hby d2_10) _ ?_
    refine XS.astore X0.here hx rfl (hb hby d2_11) rfl rfl (l' := #[.val (.ref o1), .val (.ref o2), .val (.int (0 : Int32)), .val (.int p3), .val (.ref v5)]) rfl ?_
    refine XS.aload X0.here hx rfl (hb hby d2_13) rfl rfl ?_
    refine XS.ifnullNo X0.here hx rfl (hb hby d2_15) rfl ?_
    refine XS.aload X0.here hx rfl (hb hby d2_18) rfl rfl ?_
    refine st4.trans ?_
    refine XS.iloadN X4.here hx rfl (hb hby d2_23) rfl ?_
    exact k
  by_cases hc8 : p8 = p3
  ·
    obtain ⟨cl9, Ar9, qa9, Sa9, Na9, Ha9, Ga9⟩ := id (P2)
    have hin9 : ¬ ((0 : Int32) < 0 ∨ cl9.slots.size ≤ ((0 : Int32)).toNatClampNeg) := inb_of Sa9 ⟨by decide, by decide⟩
    have hat9 : cl9.slots[((0 : Int32)).toNatClampNeg]? = some (.int p7) := Has.at Ha9 hin9 rfl
    have pre10 : ∀ t, Steps p.tables e below (T4.setTop (mkF m 31 #[.val (.ref o1), .val (.ref o2), .val (.int (0 : Int32)), .val (.int p3), .val (.ref v5)] [(.int p3), (.int p7)])) t → Steps p.tables e below (s₁.setTop (entryFrame m #[(.ref o1), (.ref o2), (.int (0 : Int32)), (.int p3)] 5)) t := fun t k => by
      refine pre7 _ ?_
      show Steps p.tables e below (T4.setTop (mkF m 24 #[.val (.ref o1), .val (.ref o2), .val (.int (0 : Int32)), .val (.int p3), .val (.ref v5)] [(.int p3), (.int p8)])) _
      refine XS.icmpNo X4.here hx rfl (hb hby d2_24) rfl (teq hc8).2 ?_
      refine XS.aloadN X4.here hx rfl (hb hby d2_27) rfl rfl ?_
      refine XS.iloadN X4.here hx rfl (hb hby d2_28) rfl ?_
      refine X4.baloadBooleans hx (j := (0 : Int32)) (v := (.int p7)) (by rw [e6]; exact Ar9.1) (State.isArrayOf_alike hZ.alike Ar9.2.1) Ar9.2.2 hin9 hat9 (g := (mkF m 29 #[.val (.ref o1), .val (.ref o2), .val (.int (0 : Int32)), .val (.int p3), .val (.ref v5)] [(.int (0 : Int32)), (.ref o2)])) rfl rfl (hb hby d2_29) _ ?_
      refine XS.iloadN X4.here hx rfl (hb hby d2_30) rfl ?_
      exact k
    by_cases hc11 : p7 = p3
    ·
      obtain ⟨fs, hr, hrun, hended, hW, hsame⟩ := X4.leave (v := some (.int (1 : Int32))) (fun h => by rw [hret] at h; cases h)
      refine ⟨_, _, pre10 _ ?_, hrun, hended, _, _, rfl, ?_, ⟨_, rfl⟩, hW, hsame.mono (by decide) (by decide)⟩
      ·
        show Steps p.tables e below (T4.setTop (mkF m 31 #[.val (.ref o1), .val (.ref o2), .val (.int (0 : Int32)), .val (.int p3), .val (.ref v5)] [(.int p3), (.int p7)])) _
        refine XS.icmpNo X4.here hx rfl (hb hby d2_31) rfl (teq hc11).2 ?_
        refine XS.iconst X4.here hx rfl (hb hby d2_34) ?_
        refine XS.goto X4.here hx rfl (pc0 := 35) (pc' := 39) rfl (hb hby d2_35) (by decide) (by decide) ?_
        show Steps p.tables e below (T4.setTop (mkF m 39 #[.val (.ref o1), .val (.ref o2), .val (.int (0 : Int32)), .val (.int p3), .val (.ref v5)] [(.int (1 : Int32))])) _
        exact retN X4 hx (t := .boolean) hret (by simp) (hb hby d2_39) hr
      ·
        show Q11 Z o1 o2 kc4 p3 p7 p8 v5 kc6 h0 n0 _ T4.heap _
        rw [e6]
        exact (Or.inl ⟨hc8, hc11, rfl, N4, rfl⟩)
    ·
      obtain ⟨fs, hr, hrun, hended, hW, hsame⟩ := X4.leave (v := some (.int (0 : Int32))) (fun h => by rw [hret] at h; cases h)
      refine ⟨_, _, pre10 _ ?_, hrun, hended, _, _, rfl, ?_, ⟨_, rfl⟩, hW, hsame.mono (by decide) (by decide)⟩
      ·
        show Steps p.tables e below (T4.setTop (mkF m 31 #[.val (.ref o1), .val (.ref o2), .val (.int (0 : Int32)), .val (.int p3), .val (.ref v5)] [(.int p3), (.int p7)])) _
        refine XS.icmpYes X4.here hx rfl (pc0 := 31) (pc' := 38) rfl (hb hby d2_31) rfl (feq hc11).2 (by decide) (by decide) ?_
        refine XS.iconst X4.here hx rfl (hb hby d2_38) ?_
        show Steps p.tables e below (T4.setTop (mkF m 39 #[.val (.ref o1), .val (.ref o2), .val (.int (0 : Int32)), .val (.int p3), .val (.ref v5)] [(.int (0 : Int32))])) _
        exact retN X4 hx (t := .boolean) hret (by simp) (hb hby d2_39) hr
      ·
        show Q11 Z o1 o2 kc4 p3 p7 p8 v5 kc6 h0 n0 _ T4.heap _
        rw [e6]
        exact (Or.inr (Or.inl ⟨hc8, hc11, rfl, N4, rfl⟩))
  ·
    obtain ⟨fs, hr, hrun, hended, hW, hsame⟩ := X4.leave (v := some (.int (0 : Int32))) (fun h => by rw [hret] at h; cases h)
    refine ⟨_, _, pre7 _ ?_, hrun, hended, _, _, rfl, ?_, ⟨_, rfl⟩, hW, hsame.mono (by decide) (by decide)⟩
    ·
      show Steps p.tables e below (T4.setTop (mkF m 24 #[.val (.ref o1), .val (.ref o2), .val (.int (0 : Int32)), .val (.int p3), .val (.ref v5)] [(.int p3), (.int p8)])) _
      refine XS.icmpYes X4.here hx rfl (pc0 := 24) (pc' := 38) rfl (hb hby d2_24) rfl (feq hc8).2 (by decide) (by decide) ?_
      refine XS.iconst X4.here hx rfl (hb hby d2_38) ?_
      show Steps p.tables e below (T4.setTop (mkF m 39 #[.val (.ref o1), .val (.ref o2), .val (.int (0 : Int32)), .val (.int p3), .val (.ref v5)] [(.int (0 : Int32))])) _
      exact retN X4 hx (t := .boolean) hret (by simp) (hb hby d2_39) hr
    ·
      show Q11 Z o1 o2 kc4 p3 p7 p8 v5 kc6 h0 n0 _ T4.heap _
      rw [e6]
      exact (Or.inr (Or.inr ⟨hc8, rfl, N4, rfl⟩))
theorem ef12 (m : MethodId) (x0 : Addr) (x1 : Addr) (x2 : Int32) (x3 : Int32) : entryFrame m #[(.ref x0), (.ref x1), (.int x2), (.int x3)] 5 = mkF m 0 #[.val (.ref x0), .val (.ref x1), .val (.int x2), .val (.int x3), .unset] [] := by first | (simp [entryFrame, mkF, argsToLocals, Value.category]; done) | rfl
def Q12 (Z : State) (o1 : Addr) (o2 : Addr) (kc4 : ClassId) (p3 : Int32) (p7 : Int32) (p8 : Int32) (kc6 : ClassId) (h0 : Heap) (n0 : Nat) (v : Option Value) (h : Heap) (L : List Loc) : Prop :=
  (v = some (.int (1 : Int32)) ∧ Fr n0 L ∧ h = h0)
set_option maxRecDepth 65536 in
set_option maxHeartbeats 40000000 in
theorem rm12 (l : Launch) (Z : State) (a0 : Array Value) (hw : ∀ d ∈ tables_1, d.before a0 Z = true) (ws : List Jvm.Cond) (o1 : Addr) (o2 : Addr) (kc4 : ClassId) (p3 : Int32) (p7 : Int32) (p8 : Int32) (kc6 : ClassId) (h0 : Heap) (n0 : Nat) (O0 : Old Z n0 h0) (g_o1 : n0 ≤ o1) (g_o2 : n0 ≤ o2) (Ov_kc4 : Ovr Z kc4 "java/lang/Boolean") (bd_p3 : 0 ≤ p3.toInt ∧ p3.toInt ≤ 1) (bd_p7 : 0 ≤ p7.toInt ∧ p7.toInt ≤ 1) (bd_p8 : 0 ≤ p8.toInt ∧ p8.toInt ≤ 1) (P2 : Arv Z h0 o2 kc6 .boolean (1 : Int32) [(.int p7)] (.int (0 : Int32))) :
    MetFree l yn2 (head1 (Jvm.Cond.code yn2 method_3_code 5 (some .boolean) :: ws) ({ frames := 0, cells := 0, slots := 0, locals := 0 } : Room)) (fun a U => a = #[(.ref o1), (.ref o2), (.int (1 : Int32)), (.int p3)] ∧ Z.Warmed39 U.vm ∧ U.heap = h0) (fun _ _ _ _ _ => True) (fun _ U o U' => ∃ v L, o = .returned v ∧ Q12 Z o1 o2 kc4 p3 p7 p8 kc6 h0 n0 v U'.heap L ∧ FrameEnd U o U' L ({ frames := 0, cells := 0, slots := 0, locals := 0 } : Room).cells ({ frames := 0, cells := 0, slots := 0, locals := 0 } : Room).slots) := by
  refine MetFree.of_bodySF (plainFor_of_name pn2) hisR ?_
  intro p e s m args below meth c s₁ Bd hml0 hP hK
  obtain ⟨rfl, hZ, hh⟩ := hP
  have hx := Bd.exec
  have hby := Bd.bytes
  have hml : c.maxLocals = 5 := hml0
  have hown : s.vm.findClass "com/example/castless/castless/PrimitiveArraysBox333PinLaw" = some m.cls := findClass_of_methodNamed Bd.named
  have hnm := (name_of_methodNamed Bd.named Bd.method).1
  have hret := Bd.returns
  have hlk : meth.locks = false := BodyLoose.notSynchronized Bd
  have X0 : Stand p l e ({ frames := 0, cells := 0, slots := 0, locals := 0 } : Room) s m #[(.ref o1), (.ref o2), (.int (1 : Int32)), (.int p3)] below meth c s₁ [] 0 0 := Stand.of_body Bd
  have e0 : s₁.heap = h0 := by rw [← hh, Bd.state]; rfl
  have N0 := Fr.nil n0
  have pre0 : ∀ t, Steps p.tables e below (s₁.setTop (mkF m 0 #[.val (.ref o1), .val (.ref o2), .val (.int (1 : Int32)), .val (.int p3), .unset] [])) t → Steps p.tables e below (s₁.setTop (entryFrame m #[(.ref o1), (.ref o2), (.int (1 : Int32)), (.int p3)] 5)) t := fun t k => castTop (ef12 m o1 o2 (1 : Int32) p3) k
  obtain ⟨cl1, Ar1, qa1, Sa1, Na1, Ha1, Ga1⟩ := id (P2)
  obtain ⟨fs, hr, hrun, hended, hW, hsame⟩ := X0.leave (v := some (.int (1 : Int32))) (fun h => by rw [hret] at h; cases h)
  refine ⟨_, _, pre0 _ ?_, hrun, hended, _, _, rfl, ?_, ⟨_, rfl⟩, hW, hsame.mono (by decide) (by decide)⟩
  ·
    show Steps p.tables e below (s₁.setTop (mkF m 0 #[.val (.ref o1), .val (.ref o2), .val (.int (1 : Int32)), .val (.int p3), .unset] [])) _
    refine XS.iloadN X0.here hx rfl (hb hby d2_0) rfl ?_
    refine XS.aloadN X0.here hx rfl (hb hby d2_1) rfl rfl ?_
    refine X0.arraylength hx (by rw [e0]; exact Ar1.1) (State.isArrayOf_alike hZ.alike Ar1.2.1) (g := (mkF m 2 #[.val (.ref o1), .val (.ref o2), .val (.int (1 : Int32)), .val (.int p3), .unset] [(.ref o2), (.int (1 : Int32))])) rfl rfl (hb hby d2_2) _ ?_
    rw [len_of Sa1 Na1]
    refine XS.icmpNo X0.here hx rfl (hb hby d2_3) rfl (flt (by decide : ¬ ((1 : Int32) < (1 : Int32)))).1 ?_
    refine XS.iconst X0.here hx rfl (hb hby d2_6) ?_
    show Steps p.tables e below (s₁.setTop (mkF m 7 #[.val (.ref o1), .val (.ref o2), .val (.int (1 : Int32)), .val (.int p3), .unset] [(.int (1 : Int32))])) _
    exact retN X0 hx (t := .boolean) hret (by simp) (hb hby d2_7) hr
  ·
    show Q12 Z o1 o2 kc4 p3 p7 p8 kc6 h0 n0 _ s₁.heap _
    rw [e0]
    exact ⟨rfl, N0, rfl⟩
theorem ef13 (m : MethodId) (x0 : Addr) (x1 : Addr) (x2 : Int32) (x3 : Int32) : entryFrame m #[(.ref x0), (.ref x1), (.int x2), (.int x3)] 5 = mkF m 0 #[.val (.ref x0), .val (.ref x1), .val (.int x2), .val (.int x3), .unset] [] := by first | (simp [entryFrame, mkF, argsToLocals, Value.category]; done) | rfl
def Q13 (Z : State) (o1 : Addr) (o2 : Addr) (kc4 : ClassId) (p3 : Int32) (p7 : Int32) (p8 : Int32) (kc6 : ClassId) (h0 : Heap) (n0 : Nat) (v : Option Value) (h : Heap) (L : List Loc) : Prop :=
  (v = some (.int (1 : Int32)) ∧ Fr n0 L ∧ h = h0)
set_option maxRecDepth 65536 in
set_option maxHeartbeats 40000000 in
theorem rm13 (l : Launch) (Z : State) (a0 : Array Value) (hw : ∀ d ∈ tables_1, d.before a0 Z = true) (ws : List Jvm.Cond) (o1 : Addr) (o2 : Addr) (kc4 : ClassId) (p3 : Int32) (p7 : Int32) (p8 : Int32) (kc6 : ClassId) (h0 : Heap) (n0 : Nat) (O0 : Old Z n0 h0) (g_o1 : n0 ≤ o1) (g_o2 : n0 ≤ o2) (Ov_kc4 : Ovr Z kc4 "java/lang/Boolean") (bd_p3 : 0 ≤ p3.toInt ∧ p3.toInt ≤ 1) (bd_p7 : 0 ≤ p7.toInt ∧ p7.toInt ≤ 1) (bd_p8 : 0 ≤ p8.toInt ∧ p8.toInt ≤ 1) (P2 : Arv Z h0 o2 kc6 .boolean (1 : Int32) [(.int p7)] (.int (0 : Int32))) :
    MetFree l yn2 (head1 (Jvm.Cond.code yn2 method_3_code 5 (some .boolean) :: ws) ({ frames := 0, cells := 0, slots := 0, locals := 0 } : Room)) (fun a U => a = #[(.ref o1), (.ref o2), (.int (2 : Int32)), (.int p3)] ∧ Z.Warmed39 U.vm ∧ U.heap = h0) (fun _ _ _ _ _ => True) (fun _ U o U' => ∃ v L, o = .returned v ∧ Q13 Z o1 o2 kc4 p3 p7 p8 kc6 h0 n0 v U'.heap L ∧ FrameEnd U o U' L ({ frames := 0, cells := 0, slots := 0, locals := 0 } : Room).cells ({ frames := 0, cells := 0, slots := 0, locals := 0 } : Room).slots) := by
  refine MetFree.of_bodySF (plainFor_of_name pn2) hisR ?_
  intro p e s m args below meth c s₁ Bd hml0 hP hK
  obtain ⟨rfl, hZ, hh⟩ := hP
  have hx := Bd.exec
  have hby := Bd.bytes
  have hml : c.maxLocals = 5 := hml0
  have hown : s.vm.findClass "com/example/castless/castless/PrimitiveArraysBox333PinLaw" = some m.cls := findClass_of_methodNamed Bd.named
  have hnm := (name_of_methodNamed Bd.named Bd.method).1
  have hret := Bd.returns
  have hlk : meth.locks = false := BodyLoose.notSynchronized Bd
  have X0 : Stand p l e ({ frames := 0, cells := 0, slots := 0, locals := 0 } : Room) s m #[(.ref o1), (.ref o2), (.int (2 : Int32)), (.int p3)] below meth c s₁ [] 0 0 := Stand.of_body Bd
  have e0 : s₁.heap = h0 := by rw [← hh, Bd.state]; rfl
  have N0 := Fr.nil n0
  have pre0 : ∀ t, Steps p.tables e below (s₁.setTop (mkF m 0 #[.val (.ref o1), .val (.ref o2), .val (.int (2 : Int32)), .val (.int p3), .unset] [])) t → Steps p.tables e below (s₁.setTop (entryFrame m #[(.ref o1), (.ref o2), (.int (2 : Int32)), (.int p3)] 5)) t := fun t k => castTop (ef13 m o1 o2 (2 : Int32) p3) k
  obtain ⟨cl1, Ar1, qa1, Sa1, Na1, Ha1, Ga1⟩ := id (P2)
  obtain ⟨fs, hr, hrun, hended, hW, hsame⟩ := X0.leave (v := some (.int (1 : Int32))) (fun h => by rw [hret] at h; cases h)
  refine ⟨_, _, pre0 _ ?_, hrun, hended, _, _, rfl, ?_, ⟨_, rfl⟩, hW, hsame.mono (by decide) (by decide)⟩
  ·
    show Steps p.tables e below (s₁.setTop (mkF m 0 #[.val (.ref o1), .val (.ref o2), .val (.int (2 : Int32)), .val (.int p3), .unset] [])) _
    refine XS.iloadN X0.here hx rfl (hb hby d2_0) rfl ?_
    refine XS.aloadN X0.here hx rfl (hb hby d2_1) rfl rfl ?_
    refine X0.arraylength hx (by rw [e0]; exact Ar1.1) (State.isArrayOf_alike hZ.alike Ar1.2.1) (g := (mkF m 2 #[.val (.ref o1), .val (.ref o2), .val (.int (2 : Int32)), .val (.int p3), .unset] [(.ref o2), (.int (2 : Int32))])) rfl rfl (hb hby d2_2) _ ?_
    rw [len_of Sa1 Na1]
    refine XS.icmpNo X0.here hx rfl (hb hby d2_3) rfl (flt (by decide : ¬ ((2 : Int32) < (1 : Int32)))).1 ?_
    refine XS.iconst X0.here hx rfl (hb hby d2_6) ?_
    show Steps p.tables e below (s₁.setTop (mkF m 7 #[.val (.ref o1), .val (.ref o2), .val (.int (2 : Int32)), .val (.int p3), .unset] [(.int (1 : Int32))])) _
    exact retN X0 hx (t := .boolean) hret (by simp) (hb hby d2_7) hr
  ·
    show Q13 Z o1 o2 kc4 p3 p7 p8 kc6 h0 n0 _ s₁.heap _
    rw [e0]
    exact ⟨rfl, N0, rfl⟩
theorem ef14 (m : MethodId) (x0 : Addr) (x1 : Addr) (x2 : Int32) (x3 : Int32) : entryFrame m #[(.ref x0), (.ref x1), (.int x2), (.int x3)] 5 = mkF m 0 #[.val (.ref x0), .val (.ref x1), .val (.int x2), .val (.int x3), .unset] [] := by first | (simp [entryFrame, mkF, argsToLocals, Value.category]; done) | rfl
def Q14 (Z : State) (o1 : Addr) (o2 : Addr) (kc4 : ClassId) (p3 : Int32) (p7 : Int32) (p8 : Int32) (kc6 : ClassId) (h0 : Heap) (n0 : Nat) (v : Option Value) (h : Heap) (L : List Loc) : Prop :=
  (v = some (.int (1 : Int32)) ∧ Fr n0 L ∧ h = h0)
set_option maxRecDepth 65536 in
set_option maxHeartbeats 40000000 in
theorem rm14 (l : Launch) (Z : State) (a0 : Array Value) (hw : ∀ d ∈ tables_1, d.before a0 Z = true) (ws : List Jvm.Cond) (o1 : Addr) (o2 : Addr) (kc4 : ClassId) (p3 : Int32) (p7 : Int32) (p8 : Int32) (kc6 : ClassId) (h0 : Heap) (n0 : Nat) (O0 : Old Z n0 h0) (g_o1 : n0 ≤ o1) (g_o2 : n0 ≤ o2) (Ov_kc4 : Ovr Z kc4 "java/lang/Boolean") (bd_p3 : 0 ≤ p3.toInt ∧ p3.toInt ≤ 1) (bd_p7 : 0 ≤ p7.toInt ∧ p7.toInt ≤ 1) (bd_p8 : 0 ≤ p8.toInt ∧ p8.toInt ≤ 1) (P2 : Arv Z h0 o2 kc6 .boolean (1 : Int32) [(.int p7)] (.int (0 : Int32))) :
    MetFree l yn2 (head1 (Jvm.Cond.code yn2 method_3_code 5 (some .boolean) :: ws) ({ frames := 0, cells := 0, slots := 0, locals := 0 } : Room)) (fun a U => a = #[(.ref o1), (.ref o2), (.int (3 : Int32)), (.int p3)] ∧ Z.Warmed39 U.vm ∧ U.heap = h0) (fun _ _ _ _ _ => True) (fun _ U o U' => ∃ v L, o = .returned v ∧ Q14 Z o1 o2 kc4 p3 p7 p8 kc6 h0 n0 v U'.heap L ∧ FrameEnd U o U' L ({ frames := 0, cells := 0, slots := 0, locals := 0 } : Room).cells ({ frames := 0, cells := 0, slots := 0, locals := 0 } : Room).slots) := by
  refine MetFree.of_bodySF (plainFor_of_name pn2) hisR ?_
  intro p e s m args below meth c s₁ Bd hml0 hP hK
  obtain ⟨rfl, hZ, hh⟩ := hP
  have hx := Bd.exec
  have hby := Bd.bytes
  have hml : c.maxLocals = 5 := hml0
  have hown : s.vm.findClass "com/example/castless/castless/PrimitiveArraysBox333PinLaw" = some m.cls := findClass_of_methodNamed Bd.named
  have hnm := (name_of_methodNamed Bd.named Bd.method).1
  have hret := Bd.returns
  have hlk : meth.locks = false := BodyLoose.notSynchronized Bd
  have X0 : Stand p l e ({ frames := 0, cells := 0, slots := 0, locals := 0 } : Room) s m #[(.ref o1), (.ref o2), (.int (3 : Int32)), (.int p3)] below meth c s₁ [] 0 0 := Stand.of_body Bd
  have e0 : s₁.heap = h0 := by rw [← hh, Bd.state]; rfl
  have N0 := Fr.nil n0
  have pre0 : ∀ t, Steps p.tables e below (s₁.setTop (mkF m 0 #[.val (.ref o1), .val (.ref o2), .val (.int (3 : Int32)), .val (.int p3), .unset] [])) t → Steps p.tables e below (s₁.setTop (entryFrame m #[(.ref o1), (.ref o2), (.int (3 : Int32)), (.int p3)] 5)) t := fun t k => castTop (ef14 m o1 o2 (3 : Int32) p3) k
  obtain ⟨cl1, Ar1, qa1, Sa1, Na1, Ha1, Ga1⟩ := id (P2)
  obtain ⟨fs, hr, hrun, hended, hW, hsame⟩ := X0.leave (v := some (.int (1 : Int32))) (fun h => by rw [hret] at h; cases h)
  refine ⟨_, _, pre0 _ ?_, hrun, hended, _, _, rfl, ?_, ⟨_, rfl⟩, hW, hsame.mono (by decide) (by decide)⟩
  ·
    show Steps p.tables e below (s₁.setTop (mkF m 0 #[.val (.ref o1), .val (.ref o2), .val (.int (3 : Int32)), .val (.int p3), .unset] [])) _
    refine XS.iloadN X0.here hx rfl (hb hby d2_0) rfl ?_
    refine XS.aloadN X0.here hx rfl (hb hby d2_1) rfl rfl ?_
    refine X0.arraylength hx (by rw [e0]; exact Ar1.1) (State.isArrayOf_alike hZ.alike Ar1.2.1) (g := (mkF m 2 #[.val (.ref o1), .val (.ref o2), .val (.int (3 : Int32)), .val (.int p3), .unset] [(.ref o2), (.int (3 : Int32))])) rfl rfl (hb hby d2_2) _ ?_
    rw [len_of Sa1 Na1]
    refine XS.icmpNo X0.here hx rfl (hb hby d2_3) rfl (flt (by decide : ¬ ((3 : Int32) < (1 : Int32)))).1 ?_
    refine XS.iconst X0.here hx rfl (hb hby d2_6) ?_
    show Steps p.tables e below (s₁.setTop (mkF m 7 #[.val (.ref o1), .val (.ref o2), .val (.int (3 : Int32)), .val (.int p3), .unset] [(.int (1 : Int32))])) _
    exact retN X0 hx (t := .boolean) hret (by simp) (hb hby d2_7) hr
  ·
    show Q14 Z o1 o2 kc4 p3 p7 p8 kc6 h0 n0 _ s₁.heap _
    rw [e0]
    exact ⟨rfl, N0, rfl⟩
theorem ef15 (m : MethodId) (x0 : Addr) (x1 : Addr) : entryFrame m #[(.ref x0), (.ref x1)] 2 = mkF m 0 #[.val (.ref x0), .val (.ref x1)] [] := by first | (simp [entryFrame, mkF, argsToLocals, Value.category]; done) | rfl
def Q15 (Z : State) (o1 : Addr) (u2 : Addr) (h0 : Heap) (n0 : Nat) (v : Option Value) (h : Heap) (L : List Loc) : Prop :=
  (v = some (.ref o1) ∧ Fr n0 L ∧ h = h0)
set_option maxRecDepth 65536 in
set_option maxHeartbeats 40000000 in
theorem rm15 (l : Launch) (Z : State) (a0 : Array Value) (hw : ∀ d ∈ tables_1, d.before a0 Z = true) (ws : List Jvm.Cond) (o1 : Addr) (u2 : Addr) (h0 : Heap) (n0 : Nat) (O0 : Old Z n0 h0) (g_o1 : n0 ≤ o1) :
    MetFree l yn0 (head1 (Jvm.Cond.code yn0 jdk_31_method_11_code 2 (some (.object "java/lang/Object")) :: ws) ({ frames := 0, cells := 0, slots := 0, locals := 0 } : Room)) (fun a U => a = #[(.ref o1), (.ref u2)] ∧ Z.Warmed39 U.vm ∧ U.heap = h0) (fun _ _ _ _ _ => True) (fun _ U o U' => ∃ v L, o = .returned v ∧ Q15 Z o1 u2 h0 n0 v U'.heap L ∧ FrameEnd U o U' L ({ frames := 0, cells := 0, slots := 0, locals := 0 } : Room).cells ({ frames := 0, cells := 0, slots := 0, locals := 0 } : Room).slots) := by
  refine MetFree.of_bodySF (plainFor_of_name pn0) hisR ?_
  intro p e s m args below meth c s₁ Bd hml0 hP hK
  obtain ⟨rfl, hZ, hh⟩ := hP
  have hx := Bd.exec
  have hby := Bd.bytes
  have hml : c.maxLocals = 2 := hml0
  have hown : s.vm.findClass "java/util/Objects" = some m.cls := findClass_of_methodNamed Bd.named
  have hnm := (name_of_methodNamed Bd.named Bd.method).1
  have hret := Bd.returns
  have hlk : meth.locks = false := BodyLoose.notSynchronized Bd
  have X0 : Stand p l e ({ frames := 0, cells := 0, slots := 0, locals := 0 } : Room) s m #[(.ref o1), (.ref u2)] below meth c s₁ [] 0 0 := Stand.of_body Bd
  have e0 : s₁.heap = h0 := by rw [← hh, Bd.state]; rfl
  have N0 := Fr.nil n0
  have pre0 : ∀ t, Steps p.tables e below (s₁.setTop (mkF m 0 #[.val (.ref o1), .val (.ref u2)] [])) t → Steps p.tables e below (s₁.setTop (entryFrame m #[(.ref o1), (.ref u2)] 2)) t := fun t k => castTop (ef15 m o1 u2) k
  obtain ⟨fs, hr, hrun, hended, hW, hsame⟩ := X0.leave (v := some (.ref o1)) (fun h => by rw [hret] at h; cases h)
  refine ⟨_, _, pre0 _ ?_, hrun, hended, _, _, rfl, ?_, ⟨_, rfl⟩, hW, hsame.mono (by decide) (by decide)⟩
  ·
    show Steps p.tables e below (s₁.setTop (mkF m 0 #[.val (.ref o1), .val (.ref u2)] [])) _
    refine XS.aloadN X0.here hx rfl (hb hby d1_0) rfl rfl ?_
    refine XS.ifnonnullYes X0.here hx rfl (pc0 := 1) (pc' := 13) rfl (hb hby d1_1) rfl (by decide) (by decide) ?_
    refine XS.aloadN X0.here hx rfl (hb hby d1_13) rfl rfl ?_
    show Steps p.tables e below (s₁.setTop (mkF m 14 #[.val (.ref o1), .val (.ref u2)] [(.ref o1)])) _
    exact retOut X0 hx hret rfl (Or.inr (Or.inr (Or.inr (Or.inr ⟨rfl, rfl, rfl⟩)))) (hb hby d1_14) hr
  ·
    show Q15 Z o1 u2 h0 n0 _ s₁.heap _
    rw [e0]
    exact ⟨rfl, N0, rfl⟩
theorem ef16 (m : MethodId) (x0 : Addr) : entryFrame m #[(.ref x0)] 3 = mkF m 0 #[.val (.ref x0), .unset, .unset] [] := by first | (simp [entryFrame, mkF, argsToLocals, Value.category]; done) | rfl
def Q16 (Z : State) (w1 : Addr) (w2 : Addr) (o1 : Addr) (p3 : Int32) (p4 : Int32) (kc2 : ClassId) (h0 : Heap) (n0 : Nat) (v : Option Value) (h : Heap) (L : List Loc) : Prop :=
  (∃ b7 : Addr, ∃ k7 : ClassId, ∃ v12 : Addr, ∃ v25 : Addr, v = some (.ref b7) ∧ Fr n0 L ∧ Keep h0 h [] ∧ h0.size ≤ b7 ∧ Ovr Z k7 "java/lang/Boolean" ∧ (Arv Z h b7 k7 (.object "java/lang/Boolean") (2 : Int32) [(.ref v12), (.ref v25)] .null) ∧ (Exa Z h b7 "[Ljava/lang/Boolean;") ∧ (Exa Z Z.heap v12 "java/lang/Boolean") ∧ (Fld Z Z.heap v12 "java/lang/Boolean" "value" "Z" (.int p3)) ∧ (Exa Z Z.heap v25 "java/lang/Boolean") ∧ (Fld Z Z.heap v25 "java/lang/Boolean" "value" "Z" (.int p4)))
set_option maxRecDepth 65536 in
set_option maxHeartbeats 40000000 in
theorem rm16 (l : Launch) (Z : State) (a0 : Array Value) (hw : ∀ d ∈ tables_1, d.before a0 Z = true) (w1 : Addr) (w2 : Addr) (G : GW Z w1 w2) (ws : List Jvm.Cond) (o1 : Addr) (p3 : Int32) (p4 : Int32) (kc2 : ClassId) (h0 : Heap) (n0 : Nat) (O0 : Old Z n0 h0) (g_o1 : n0 ≤ o1) (bd_p3 : 0 ≤ p3.toInt ∧ p3.toInt ≤ 1) (bd_p4 : 0 ≤ p4.toInt ∧ p4.toInt ≤ 1) (P0 : Arv Z h0 o1 kc2 .boolean (2 : Int32) [(.int p3), (.int p4)] (.int (0 : Int32))) :
    MetFree l yn1 (head1 (Jvm.Cond.code yn1 prog_11_method_2_code 3 (some (.array (.object "java/lang/Boolean"))) :: ws) ({ frames := 1, cells := 3, slots := 58, locals := 14 } : Room)) (fun a U => a = #[(.ref o1)] ∧ Z.Warmed39 U.vm ∧ U.heap = h0) (fun _ _ _ _ _ => True) (fun _ U o U' => ∃ v L, o = .returned v ∧ Q16 Z w1 w2 o1 p3 p4 kc2 h0 n0 v U'.heap L ∧ ReturnedEndW U o U' L ({ frames := 1, cells := 3, slots := 58, locals := 14 } : Room).cells ({ frames := 1, cells := 3, slots := 58, locals := 14 } : Room).slots) := by
  obtain ⟨S_w1, E_w1, S_w2, E_w2, F_w1_value, F_w2_value⟩ := id G
  refine MetFree.of_bodySF (plainFor_of_name pn1) hisR ?_
  intro p e s m args below meth c s₁ Bd hml0 hP hK
  obtain ⟨rfl, hZ, hh⟩ := hP
  have hx := Bd.exec
  have hby := Bd.bytes
  have hml : c.maxLocals = 3 := hml0
  have hown : s.vm.findClass "com/example/castless/castless/PrimitiveArrays" = some m.cls := findClass_of_methodNamed Bd.named
  have hnm := (name_of_methodNamed Bd.named Bd.method).1
  have hret := Bd.returns
  have hlk : meth.locks = false := BodyLoose.notSynchronized Bd
  have X0 : Stand p l e ({ frames := 1, cells := 3, slots := 58, locals := 14 } : Room) s m #[(.ref o1)] below meth c s₁ [] 0 0 := Stand.of_body Bd
  have e0 : s₁.heap = h0 := by rw [← hh, Bd.state]; rfl
  have N0 := Fr.nil n0
  have pre0 : ∀ t, Steps p.tables e below (s₁.setTop (mkF m 0 #[.val (.ref o1), .unset, .unset] [])) t → Steps p.tables e below (s₁.setTop (entryFrame m #[(.ref o1)] 3)) t := fun t k => castTop (ef16 m o1) k
  obtain ⟨sx1, T1, h1, ks1, X1, e1, E1, hS1, hk1, hZ, hown, st1⟩ := ldcS (s := s) (vm0 := s.vm) X0 hx hZ hown (own_w hw 6 rfl) (own_sa hw) e0 ((State.WarmedH.refl s).since h0.size) (Nat.le_refl _) (g := (mkF m 1 #[.val (.ref o1), .unset, .unset] [(.ref o1)])) rfl (hb hby d0_1) (n := 52) (by decide) (by decide) (by decide) (by decide)
  have M1 : h0.size ≤ h1.size := Nat.le_trans (Nat.le_refl _) E1.1
  have O1 := Old.ext O0 E1
  obtain ⟨_, _, ⟨T2, L2, c2, n2⟩, -, X2, ⟨Lc2, hQ2, l2, y2, z2⟩, st2⟩ := Jvm.LawKit.callS X1 hx (y := yn0) hown (mvT hZ (own_w hw 14 rfl)) (mvT hZ (own_w hw 15 rfl)) (mvT hZ (own_w hw 16 rfl)) (mvT hZ (own_w hw 17 rfl)) (by decide) (backOf (W := 0) (rm15 l Z a0 hw [] o1 sx1 h1 n0 O1 g_o1) hZ (own_w hw 17 rfl) (own_w hw 16 rfl) (by decide) (by decide)) (g := (mkF m 3 #[.val (.ref o1), .unset, .unset] [(.ref sx1), (.ref o1)])) rfl (by rw [hml]; rfl) (argsL := [(.ref o1), (.ref sx1)]) (rest := []) (lenOf pd0 rfl) rfl (by show 2 * 0 + _ ≤ _; exact Nat.le_of_eq rfl) (hb hby d0_3) (fun _ _ => ⟨rfl, e1, (by decide : 2 + 0 ≤ _), (by decide : 56 + 0 ≤ _)⟩)
  dsimp only [Pt.U, Pt.locs, Pt.cells, Pt.slots] at X2 l2 y2 z2 st2 hQ2
  subst l2 y2 z2
  have X2 : Stand p l e ({ frames := 1, cells := 3, slots := 58, locals := 14 } : Room) (s.setVm T1.vm) m #[(.ref o1)] below meth c T2 _ 2 56 := X2
  obtain ⟨rfl, Nq3, e4⟩ := hQ2
  have N2 := Fr.app N0 Nq3
  have f5 := (P0.ext E1)
  obtain ⟨cl6, Ar6, qa6, Sa6, Na6, Ha6, Ga6⟩ := id (f5)
  obtain ⟨T7, h7, k7, X7, e7, E7, A7, EX7, OV7, st7⟩ := newRE X2 hx hZ hown (own_w hw 18 rfl) (own_w hw 19 rfl) e4 (g := (mkF m 9 #[.val (.ref o1), .unset, .unset] [(.int (2 : Int32))])) rfl (hb hby d0_9) rfl (by decide) (cap := 2) (by decide) (by decide) (by decide) (by decide) (ad := "[Ljava/lang/Boolean;") (by decide)
  obtain ⟨b7, g7⟩ : ∃ z, z = h1.size := ⟨_, rfl⟩
  rw [← g7] at A7 EX7 st7
  have hkk7 := Nat.le_trans hk1 E7.1
  have M7 : h0.size ≤ h7.size := Nat.le_trans M1 E7.1
  have O7 := Old.ext O1 E7
  have sz_b7 : h1.size ≤ b7 := Nat.le_of_eq g7.symm
  have g_b7 : n0 ≤ b7 := Nat.le_trans (own_oz O0) (Nat.le_trans M1 sz_b7)
  have V7_0 := Arv.new A7 (by decide)
  have V7 : Arv Z h7 b7 k7 (.object "java/lang/Boolean") (2 : Int32) [.null, .null] .null := V7_0.pad (pad_rep [] .null 2)
  have f8 := (f5.ext E7)
  obtain ⟨cl9, Ar9, qa9, Sa9, Na9, Ha9, Ga9⟩ := id (f8)
  obtain ⟨cl10, Ar10, qa10, Sa10, Na10, Ha10, Ga10⟩ := id (f8)
  have hin10 : ¬ ((0 : Int32) < 0 ∨ cl10.slots.size ≤ ((0 : Int32)).toNatClampNeg) := inb_of Sa10 ⟨by decide, by decide⟩
  have hat10 : cl10.slots[((0 : Int32)).toNatClampNeg]? = some (.int p3) := Has.at Ha10 hin10 rfl
  obtain ⟨_, _, ⟨T11, L11, c11, n11⟩, -, X11, ⟨Lc11, hQ11, l11, y11, z11⟩, st11⟩ := Jvm.LawKit.callS X7 hx (y := yn3) hown (mvT hZ (own_w hw 24 rfl)) (mvT hZ (own_w hw 25 rfl)) (mvT hZ (own_w hw 26 rfl)) (mvT hZ (own_w hw 27 rfl)) (by decide) (backOf (W := 2) (rm8 l Z a0 hw w1 w2 G [] p3 h7 n0 O7 (by have q0 := bd_p3; omega)) hZ (own_w hw 27 rfl) (own_w hw 26 rfl) (by decide) (by decide)) (g := (mkF m 26 #[.val (.ref o1), .val (.ref b7), .val (.int (0 : Int32))] [(.int p3), (.int (0 : Int32)), (.ref b7)])) rfl (by rw [hml]; rfl) (argsL := [(.int p3)]) (rest := [(.int (0 : Int32)), (.ref b7)]) (lenOf pd3 rfl) rfl (by show 2 * 0 + _ ≤ _; exact Nat.le_of_eq rfl) (hb hby d0_26) (fun _ _ => ⟨rfl, e7, (by decide : 3 + 0 ≤ _), (by decide : 58 + 0 ≤ _)⟩)
  dsimp only [Pt.U, Pt.locs, Pt.cells, Pt.slots] at X11 l11 y11 z11 st11 hQ11
  subst l11 y11 z11
  have X11 : Stand p l e ({ frames := 1, cells := 3, slots := 58, locals := 14 } : Room) (s.setVm T1.vm) m #[(.ref o1)] below meth c T11 _ 3 58 := X11
  obtain ⟨v12, rfl, Nq13, e14, f15, f16⟩ := hQ11
  have N11 := Fr.app N2 Nq13
  obtain ⟨cl17, Ar17, qa17, Sa17, Na17, Ha17, Ga17⟩ := id (V7)
  have hin17 : ¬ ((0 : Int32) < 0 ∨ cl17.slots.size ≤ ((0 : Int32)).toNatClampNeg) := inb_of Sa17 ⟨by decide, by decide⟩
  obtain ⟨T18, h18, X18, e18, W18, st18⟩ := stR X11 hx hZ e14 Ar17 (j := (0 : Int32)) hin17 rfl (Sto.ofV Ar17 qa17 OV7 (Ins.self (f15.ext O7.2))) (g := (mkF m 29 #[.val (.ref o1), .val (.ref b7), .val (.int (0 : Int32))] [(.ref v12), (.int (0 : Int32)), (.ref b7)])) rfl rfl (hb hby d0_29)
  have V18 : Arv Z h18 b7 k7 (.object "java/lang/Boolean") (2 : Int32) [(.ref v12), .null] .null := Arv.set Ar17 qa17 Sa17 Na17 Ha17 Ga17 rfl W18 0 rfl (Nat.le_of_ble_eq_true rfl)
  have N18 := Fr.snoc X18 N11 g_b7
  have hkk18 := Nat.le_trans hkk7 (Nat.le_of_eq W18.size.symm)
  have M18 : h0.size ≤ h18.size := Nat.le_trans M7 (Nat.le_of_eq W18.size.symm)
  have O18 := Old.wr O7 W18 g_b7
  have lt19 : o1 < h1.size := (Nat.lt_of_lt_of_le P0.lt E1.1)
  have ne20 : o1 ≠ b7 := Nat.ne_of_lt (Nat.lt_of_lt_of_le lt19 sz_b7)
  have f21 := (f8.other W18 ne20)
  obtain ⟨cl22, Ar22, qa22, Sa22, Na22, Ha22, Ga22⟩ := id (f21)
  obtain ⟨cl23, Ar23, qa23, Sa23, Na23, Ha23, Ga23⟩ := id (f21)
  have hin23 : ¬ ((1 : Int32) < 0 ∨ cl23.slots.size ≤ ((1 : Int32)).toNatClampNeg) := inb_of Sa23 ⟨by decide, by decide⟩
  have hat23 : cl23.slots[((1 : Int32)).toNatClampNeg]? = some (.int p4) := Has.at Ha23 hin23 rfl
  obtain ⟨_, _, ⟨T24, L24, c24, n24⟩, -, X24, ⟨Lc24, hQ24, l24, y24, z24⟩, st24⟩ := Jvm.LawKit.callS X18 hx (y := yn3) hown (mvT hZ (own_w hw 24 rfl)) (mvT hZ (own_w hw 25 rfl)) (mvT hZ (own_w hw 26 rfl)) (mvT hZ (own_w hw 27 rfl)) (by decide) (backOf (W := 2) (rm8 l Z a0 hw w1 w2 G [] p4 h18 n0 O18 (by have q0 := bd_p4; omega)) hZ (own_w hw 27 rfl) (own_w hw 26 rfl) (by decide) (by decide)) (g := (mkF m 26 #[.val (.ref o1), .val (.ref b7), .val (.int (1 : Int32))] [(.int p4), (.int (1 : Int32)), (.ref b7)])) rfl (by rw [hml]; rfl) (argsL := [(.int p4)]) (rest := [(.int (1 : Int32)), (.ref b7)]) (lenOf pd3 rfl) rfl (by show 2 * 0 + _ ≤ _; exact Nat.le_of_eq rfl) (hb hby d0_26) (fun _ _ => ⟨rfl, e18, (by decide : 3 + 0 ≤ _), (by decide : 58 + 0 ≤ _)⟩)
  dsimp only [Pt.U, Pt.locs, Pt.cells, Pt.slots] at X24 l24 y24 z24 st24 hQ24
  subst l24 y24 z24
  have X24 : Stand p l e ({ frames := 1, cells := 3, slots := 58, locals := 14 } : Room) (s.setVm T1.vm) m #[(.ref o1)] below meth c T24 _ 3 58 := X24
  obtain ⟨v25, rfl, Nq26, e27, f28, f29⟩ := hQ24
  have N24 := Fr.app N18 Nq26
  obtain ⟨cl30, Ar30, qa30, Sa30, Na30, Ha30, Ga30⟩ := id (V18)
  have hin30 : ¬ ((1 : Int32) < 0 ∨ cl30.slots.size ≤ ((1 : Int32)).toNatClampNeg) := inb_of Sa30 ⟨by decide, by decide⟩
  obtain ⟨T31, h31, X31, e31, W31, st31⟩ := stR X24 hx hZ e27 Ar30 (j := (1 : Int32)) hin30 rfl (Sto.ofV Ar30 qa30 OV7 (Ins.self (f28.ext O18.2))) (g := (mkF m 29 #[.val (.ref o1), .val (.ref b7), .val (.int (1 : Int32))] [(.ref v25), (.int (1 : Int32)), (.ref b7)])) rfl rfl (hb hby d0_29)
  have V31 : Arv Z h31 b7 k7 (.object "java/lang/Boolean") (2 : Int32) [(.ref v12), (.ref v25)] .null := Arv.set Ar30 qa30 Sa30 Na30 Ha30 Ga30 rfl W31 1 rfl (Nat.le_of_ble_eq_true rfl)
  have N31 := Fr.snoc X31 N24 g_b7
  have hkk31 := Nat.le_trans hkk18 (Nat.le_of_eq W31.size.symm)
  have M31 : h0.size ≤ h31.size := Nat.le_trans M18 (Nat.le_of_eq W31.size.symm)
  have O31 := Old.wr O18 W31 g_b7
  have f32 := (f21.other W31 ne20)
  obtain ⟨cl33, Ar33, qa33, Sa33, Na33, Ha33, Ga33⟩ := id (f32)
  obtain ⟨fs, hr, hrun, hended, hRE⟩ := X31.leaveW hS1 (by rw [e31]; exact hkk31) (v := some (.ref b7)) (fun h => by rw [hret] at h; cases h)
  have KL : Keep h0 h31 [] := (((((Keep.refl h0 []).ext E1).ext E7).wr W18 (Or.inr (Nat.le_trans M1 sz_b7))).wr W31 (Or.inr (Nat.le_trans M1 sz_b7)))
  have f34 := ((EX7.wr W18).wr W31)
  refine ⟨_, _, pre0 _ ?_, hrun, hended, _, _, rfl, ?_, hRE.1, hRE.2.1, hRE.2.2.1, hRE.2.2.2.mono (by decide) (by decide)⟩
  ·
    show Steps p.tables e below (s₁.setTop (mkF m 0 #[.val (.ref o1), .unset, .unset] [])) _
    refine XS.aloadN X0.here hx rfl (hb hby d0_0) rfl rfl ?_
    refine st1 _ ?_
    refine st2 _ ?_
    refine XS.pop X2.here hx rfl (hb hby d0_6) rfl rfl ?_
    refine XS.aloadN X2.here hx rfl (hb hby d0_7) rfl rfl ?_
    refine X2.arraylength hx (by rw [e4]; exact Ar6.1) (State.isArrayOf_alike hZ.alike Ar6.2.1) (g := (mkF m 8 #[.val (.ref o1), .unset, .unset] [(.ref o1)])) rfl rfl (hb hby d0_8) _ ?_
    rw [len_of Sa6 Na6]
    refine st7 _ ?_
    refine XS.astoreN X7.here hx rfl (hb hby d0_12) rfl rfl (l' := #[.val (.ref o1), .val (.ref b7), .unset]) rfl ?_
    refine XS.iconst X7.here hx rfl (hb hby d0_13) ?_
    refine XS.istoreN X7.here hx rfl (hb hby d0_14) rfl (l' := #[.val (.ref o1), .val (.ref b7), .val (.int (0 : Int32))]) rfl ?_
    refine XS.iloadN X7.here hx rfl (hb hby d0_15) rfl ?_
    refine XS.aloadN X7.here hx rfl (hb hby d0_16) rfl rfl ?_
    refine X7.arraylength hx (by rw [e7]; exact Ar9.1) (State.isArrayOf_alike hZ.alike Ar9.2.1) (g := (mkF m 17 #[.val (.ref o1), .val (.ref b7), .val (.int (0 : Int32))] [(.ref o1), (.int (0 : Int32))])) rfl rfl (hb hby d0_17) _ ?_
    rw [len_of Sa9 Na9]
    refine XS.icmpNo X7.here hx rfl (hb hby d0_18) rfl (tlt (by decide : (0 : Int32) < (2 : Int32))).2.1 ?_
    refine XS.aloadN X7.here hx rfl (hb hby d0_21) rfl rfl ?_
    refine XS.iloadN X7.here hx rfl (hb hby d0_22) rfl ?_
    refine XS.aloadN X7.here hx rfl (hb hby d0_23) rfl rfl ?_
    refine XS.iloadN X7.here hx rfl (hb hby d0_24) rfl ?_
    refine X7.baloadBooleans hx (j := (0 : Int32)) (v := (.int p3)) (by rw [e7]; exact Ar10.1) (State.isArrayOf_alike hZ.alike Ar10.2.1) Ar10.2.2 hin10 hat10 (g := (mkF m 25 #[.val (.ref o1), .val (.ref b7), .val (.int (0 : Int32))] [(.int (0 : Int32)), (.ref o1), (.int (0 : Int32)), (.ref b7)])) rfl rfl (hb hby d0_25) _ ?_
    refine st11 _ ?_
    refine st18 _ ?_
    refine XS.iinc X18.here hx rfl (hb hby d0_30) rfl (l' := #[.val (.ref o1), .val (.ref b7), .val (.int (1 : Int32))]) rfl ?_
    refine XS.goto X18.here hx rfl (pc0 := 33) (pc' := 15) rfl (hb hby d0_33) (by decide) (by decide) ?_
    refine XS.iloadN X18.here hx rfl (hb hby d0_15) rfl ?_
    refine XS.aloadN X18.here hx rfl (hb hby d0_16) rfl rfl ?_
    refine X18.arraylength hx (by rw [e18]; exact Ar22.1) (State.isArrayOf_alike hZ.alike Ar22.2.1) (g := (mkF m 17 #[.val (.ref o1), .val (.ref b7), .val (.int (1 : Int32))] [(.ref o1), (.int (1 : Int32))])) rfl rfl (hb hby d0_17) _ ?_
    rw [len_of Sa22 Na22]
    refine XS.icmpNo X18.here hx rfl (hb hby d0_18) rfl (tlt (by decide : (1 : Int32) < (2 : Int32))).2.1 ?_
    refine XS.aloadN X18.here hx rfl (hb hby d0_21) rfl rfl ?_
    refine XS.iloadN X18.here hx rfl (hb hby d0_22) rfl ?_
    refine XS.aloadN X18.here hx rfl (hb hby d0_23) rfl rfl ?_
    refine XS.iloadN X18.here hx rfl (hb hby d0_24) rfl ?_
    refine X18.baloadBooleans hx (j := (1 : Int32)) (v := (.int p4)) (by rw [e18]; exact Ar23.1) (State.isArrayOf_alike hZ.alike Ar23.2.1) Ar23.2.2 hin23 hat23 (g := (mkF m 25 #[.val (.ref o1), .val (.ref b7), .val (.int (1 : Int32))] [(.int (1 : Int32)), (.ref o1), (.int (1 : Int32)), (.ref b7)])) rfl rfl (hb hby d0_25) _ ?_
    refine st24 _ ?_
    refine st31 _ ?_
    refine XS.iinc X31.here hx rfl (hb hby d0_30) rfl (l' := #[.val (.ref o1), .val (.ref b7), .val (.int (2 : Int32))]) rfl ?_
    refine XS.goto X31.here hx rfl (pc0 := 33) (pc' := 15) rfl (hb hby d0_33) (by decide) (by decide) ?_
    refine XS.iloadN X31.here hx rfl (hb hby d0_15) rfl ?_
    refine XS.aloadN X31.here hx rfl (hb hby d0_16) rfl rfl ?_
    refine X31.arraylength hx (by rw [e31]; exact Ar33.1) (State.isArrayOf_alike hZ.alike Ar33.2.1) (g := (mkF m 17 #[.val (.ref o1), .val (.ref b7), .val (.int (2 : Int32))] [(.ref o1), (.int (2 : Int32))])) rfl rfl (hb hby d0_17) _ ?_
    rw [len_of Sa33 Na33]
    refine XS.icmpYes X31.here hx rfl (pc0 := 18) (pc' := 36) rfl (hb hby d0_18) rfl (flt (by decide : ¬ ((2 : Int32) < (2 : Int32)))).2.1 (by decide) (by decide) ?_
    show Steps p.tables e below (T31.setTop (mkF m 36 #[.val (.ref o1), .val (.ref b7), .val (.int (2 : Int32))] [])) _
    refine XS.aloadN X31.here hx rfl (hb hby d0_36) rfl rfl ?_
    show Steps p.tables e below (T31.setTop (mkF m 37 #[.val (.ref o1), .val (.ref b7), .val (.int (2 : Int32))] [(.ref b7)])) _
    exact retOut X31 hx hret rfl (Or.inr (Or.inr (Or.inr (Or.inr ⟨rfl, rfl, rfl⟩)))) (hb hby d0_37) hr
  ·
    show Q16 Z w1 w2 o1 p3 p4 kc2 h0 n0 _ T31.heap _
    rw [e31]
    exact ⟨b7, k7, v12, v25, rfl, N31, KL, (Nat.le_trans M1 sz_b7), OV7, V31, f34, f15, f16, f28, f29⟩
theorem ef17 (m : MethodId) (x0 : Addr) (x1 : Addr) (x2 : Int32) (x3 : Int32) : entryFrame m #[(.ref x0), (.ref x1), (.int x2), (.int x3)] 5 = mkF m 0 #[.val (.ref x0), .val (.ref x1), .val (.int x2), .val (.int x3), .unset] [] := by first | (simp [entryFrame, mkF, argsToLocals, Value.category]; done) | rfl
def Q17 (Z : State) (o1 : Addr) (o2 : Addr) (kc4 : ClassId) (p3 : Int32) (p8 : Int32) (p9 : Int32) (p10 : Int32) (p11 : Int32) (v5 : Addr) (v6 : Addr) (kc7 : ClassId) (h0 : Heap) (n0 : Nat) (v : Option Value) (h : Heap) (L : List Loc) : Prop :=
  ((p10 = p3) ∧ (p8 = p3) ∧ v = some (.int (1 : Int32)) ∧ Fr n0 L ∧ h = h0)
  ∨ ((p10 = p3) ∧ (¬ (p8 = p3)) ∧ v = some (.int (0 : Int32)) ∧ Fr n0 L ∧ h = h0)
  ∨ ((¬ (p10 = p3)) ∧ v = some (.int (0 : Int32)) ∧ Fr n0 L ∧ h = h0)
set_option maxRecDepth 65536 in
set_option maxHeartbeats 40000000 in
theorem rm17 (l : Launch) (Z : State) (a0 : Array Value) (hw : ∀ d ∈ tables_1, d.before a0 Z = true) (ws : List Jvm.Cond) (o1 : Addr) (o2 : Addr) (kc4 : ClassId) (p3 : Int32) (p8 : Int32) (p9 : Int32) (p10 : Int32) (p11 : Int32) (v5 : Addr) (v6 : Addr) (kc7 : ClassId) (h0 : Heap) (n0 : Nat) (O0 : Old Z n0 h0) (g_o1 : n0 ≤ o1) (g_o2 : n0 ≤ o2) (Ov_kc4 : Ovr Z kc4 "java/lang/Boolean") (bd_p3 : 0 ≤ p3.toInt ∧ p3.toInt ≤ 1) (bd_p8 : 0 ≤ p8.toInt ∧ p8.toInt ≤ 1) (bd_p9 : 0 ≤ p9.toInt ∧ p9.toInt ≤ 1) (bd_p10 : 0 ≤ p10.toInt ∧ p10.toInt ≤ 1) (bd_p11 : 0 ≤ p11.toInt ∧ p11.toInt ≤ 1) (P0 : Arv Z h0 o1 kc4 (.object "java/lang/Boolean") (2 : Int32) [(.ref v5), (.ref v6)] .null) (P2 : Arv Z h0 o2 kc7 .boolean (2 : Int32) [(.int p8), (.int p9)] (.int (0 : Int32))) (P4 : Exa Z Z.heap v5 "java/lang/Boolean") (P5 : Fld Z Z.heap v5 "java/lang/Boolean" "value" "Z" (.int p10)) :
    MetFree l yn2 (head1 (Jvm.Cond.code yn2 method_3_code 5 (some .boolean) :: ws) ({ frames := 1, cells := 0, slots := 0, locals := 12 } : Room)) (fun a U => a = #[(.ref o1), (.ref o2), (.int (0 : Int32)), (.int p3)] ∧ Z.Warmed39 U.vm ∧ U.heap = h0) (fun _ _ _ _ _ => True) (fun _ U o U' => ∃ v L, o = .returned v ∧ Q17 Z o1 o2 kc4 p3 p8 p9 p10 p11 v5 v6 kc7 h0 n0 v U'.heap L ∧ FrameEnd U o U' L ({ frames := 1, cells := 0, slots := 0, locals := 12 } : Room).cells ({ frames := 1, cells := 0, slots := 0, locals := 12 } : Room).slots) := by
  refine MetFree.of_bodySF (plainFor_of_name pn2) hisR ?_
  intro p e s m args below meth c s₁ Bd hml0 hP hK
  obtain ⟨rfl, hZ, hh⟩ := hP
  have hx := Bd.exec
  have hby := Bd.bytes
  have hml : c.maxLocals = 5 := hml0
  have hown : s.vm.findClass "com/example/castless/castless/PrimitiveArraysBox333PinLaw" = some m.cls := findClass_of_methodNamed Bd.named
  have hnm := (name_of_methodNamed Bd.named Bd.method).1
  have hret := Bd.returns
  have hlk : meth.locks = false := BodyLoose.notSynchronized Bd
  have X0 : Stand p l e ({ frames := 1, cells := 0, slots := 0, locals := 12 } : Room) s m #[(.ref o1), (.ref o2), (.int (0 : Int32)), (.int p3)] below meth c s₁ [] 0 0 := Stand.of_body Bd
  have e0 : s₁.heap = h0 := by rw [← hh, Bd.state]; rfl
  have N0 := Fr.nil n0
  have pre0 : ∀ t, Steps p.tables e below (s₁.setTop (mkF m 0 #[.val (.ref o1), .val (.ref o2), .val (.int (0 : Int32)), .val (.int p3), .unset] [])) t → Steps p.tables e below (s₁.setTop (entryFrame m #[(.ref o1), (.ref o2), (.int (0 : Int32)), (.int p3)] 5)) t := fun t k => castTop (ef17 m o1 o2 (0 : Int32) p3) k
  obtain ⟨cl1, Ar1, qa1, Sa1, Na1, Ha1, Ga1⟩ := id (P2)
  obtain ⟨cl2, Ar2, qa2, Sa2, Na2, Ha2, Ga2⟩ := id (P0)
  have hin2 : ¬ ((0 : Int32) < 0 ∨ cl2.slots.size ≤ ((0 : Int32)).toNatClampNeg) := inb_of Sa2 ⟨by decide, by decide⟩
  have hat2 : cl2.slots[((0 : Int32)).toNatClampNeg]? = some (.ref v5) := Has.at Ha2 hin2 rfl
  obtain ⟨cq3, kq3, q3a, q3b, q3c⟩ := isOf hZ e0 (P4.ext O0.2)
  obtain ⟨_, _, ⟨T4, L4, c4, n4⟩, -, X4, ⟨Lc4, hQ4, l4, y4, z4⟩, st4⟩ := X0.virtualBack hx (y := yn4) (z := yn4) hown (mvT hZ (own_w hw 31 rfl)) (mvT hZ (own_w hw 32 rfl)) (notFace_of_selects (args := #[]) (mvT hZ (own_w hw 34 rfl))) (mvT hZ (own_w hw 34 rfl)) (mvT hZ (own_w hw 33 rfl)) (by decide) (backOf (W := 0) (rm10 l Z a0 hw [] p10 v5 h0 n0 O0 (by have q0 := bd_p10; omega) P5) hZ (own_w hw 35 rfl) (own_w hw 26 rfl) (by decide) (by decide)) q3a q3c (g := (mkF m 20 #[.val (.ref o1), .val (.ref o2), .val (.int (0 : Int32)), .val (.int p3), .val (.ref v5)] [(.ref v5)])) rfl (by rw [hml]; rfl) (Steps.refl _) (argsL := []) (rest := []) (lenOf pd4 rfl) rfl (by show 2 * 0 + _ ≤ _; exact Nat.le_of_eq rfl) (hb hby d2_20) (fun _ _ => ⟨rfl, e0, (by decide : 0 + 0 ≤ _), (by decide : 0 + 0 ≤ _)⟩)
  dsimp only [Pt.U, Pt.locs, Pt.cells, Pt.slots] at X4 l4 y4 z4 st4 hQ4
  subst l4 y4 z4
  have X4 : Stand p l e ({ frames := 1, cells := 0, slots := 0, locals := 12 } : Room) s m #[(.ref o1), (.ref o2), (.int (0 : Int32)), (.int p3)] below meth c T4 _ 0 0 := X4
  obtain ⟨rfl, Nq5, e6⟩ := hQ4
  have N4 := Fr.app N0 Nq5
  have pre7 : ∀ t, Steps p.tables e below (T4.setTop (mkF m 24 #[.val (.ref o1), .val (.ref o2), .val (.int (0 : Int32)), .val (.int p3), .val (.ref v5)] [(.int p3), (.int p10)])) t → Steps p.tables e below (s₁.setTop (entryFrame m #[(.ref o1), (.ref o2), (.int (0 : Int32)), (.int p3)] 5)) t := fun t k => by
    refine pre0 _ ?_
    show Steps p.tables e below (s₁.setTop (mkF m 0 #[.val (.ref o1), .val (.ref o2), .val (.int (0 : Int32)), .val (.int p3), .unset] [])) _
    refine XS.iloadN X0.here hx rfl (hb hby d2_0) rfl ?_
    refine XS.aloadN X0.here hx rfl (hb hby d2_1) rfl rfl ?_
    refine X0.arraylength hx (by rw [e0]; exact Ar1.1) (State.isArrayOf_alike hZ.alike Ar1.2.1) (g := (mkF m 2 #[.val (.ref o1), .val (.ref o2), .val (.int (0 : Int32)), .val (.int p3), .unset] [(.ref o2), (.int (0 : Int32))])) rfl rfl (hb hby d2_2) _ ?_
    rw [len_of Sa1 Na1]
    refine XS.icmpYes X0.here hx rfl (pc0 := 3) (pc' := 8) rfl (hb hby d2_3) rfl (tlt (by decide : (0 : Int32) < (2 : Int32))).1 (by decide) (by decide) ?_
    refine XS.aloadN X0.here hx rfl (hb hby d2_8) rfl rfl ?_
    refine XS.iloadN X0.here hx rfl (hb hby d2_9) rfl ?_
    refine X0.aaload hx (j := (0 : Int32)) (v := (.ref v5)) (by rw [e0]; exact Ar2.1) (State.isArrayOf_alike hZ.alike Ar2.2.1) rfl Ar2.2.2 hin2 hat2 (g := (mkF m 10 #[.val (.ref o1), .val (.ref o2), .val (.int (0 : Int32)), .val (.int p3), .unset] [(.int (0 : Int32)), (.ref o1)])) rfl rfl (hb hby d2_10) _ ?_
    refine XS.astore X0.here hx rfl (hb hby d2_11) rfl rfl (l' := #[.val (.ref o1), .val (.ref o2), .val (.int (0 : Int32)), .val (.int p3), .val (.ref v5)]) rfl ?_
    refine XS.aload X0.here hx rfl (hb hby d2_13) rfl rfl ?_
    refine XS.ifnullNo X0.here hx rfl (hb hby d2_15) rfl ?_
    refine XS.aload X0.here hx rfl (hb hby d2_18) rfl rfl ?_
    refine st4.trans ?_
    refine XS.iloadN X4.here hx rfl (hb hby d2_23) rfl ?_
    exact k
  by_cases hc8 : p10 = p3
  ·
    obtain ⟨cl9, Ar9, qa9, Sa9, Na9, Ha9, Ga9⟩ := id (P2)
    have hin9 : ¬ ((0 : Int32) < 0 ∨ cl9.slots.size ≤ ((0 : Int32)).toNatClampNeg) := inb_of Sa9 ⟨by decide, by decide⟩
    have hat9 : cl9.slots[((0 : Int32)).toNatClampNeg]? = some (.int p8) := Has.at Ha9 hin9 rfl
    have pre10 : ∀ t, Steps p.tables e below (T4.setTop (mkF m 31 #[.val (.ref o1), .val (.ref o2), .val (.int (0 : Int32)), .val (.int p3), .val (.ref v5)] [(.int p3), (.int p8)])) t → Steps p.tables e below (s₁.setTop (entryFrame m #[(.ref o1), (.ref o2), (.int (0 : Int32)), (.int p3)] 5)) t := fun t k => by
      refine pre7 _ ?_
      show Steps p.tables e below (T4.setTop (mkF m 24 #[.val (.ref o1), .val (.ref o2), .val (.int (0 : Int32)), .val (.int p3), .val (.ref v5)] [(.int p3), (.int p10)])) _
      refine XS.icmpNo X4.here hx rfl (hb hby d2_24) rfl (teq hc8).2 ?_
      refine XS.aloadN X4.here hx rfl (hb hby d2_27) rfl rfl ?_
      refine XS.iloadN X4.here hx rfl (hb hby d2_28) rfl ?_
      refine X4.baloadBooleans hx (j := (0 : Int32)) (v := (.int p8)) (by rw [e6]; exact Ar9.1) (State.isArrayOf_alike hZ.alike Ar9.2.1) Ar9.2.2 hin9 hat9 (g := (mkF m 29 #[.val (.ref o1), .val (.ref o2), .val (.int (0 : Int32)), .val (.int p3), .val (.ref v5)] [(.int (0 : Int32)), (.ref o2)])) rfl rfl (hb hby d2_29) _ ?_
      refine XS.iloadN X4.here hx rfl (hb hby d2_30) rfl ?_
      exact k
    by_cases hc11 : p8 = p3
    ·
      obtain ⟨fs, hr, hrun, hended, hW, hsame⟩ := X4.leave (v := some (.int (1 : Int32))) (fun h => by rw [hret] at h; cases h)
      refine ⟨_, _, pre10 _ ?_, hrun, hended, _, _, rfl, ?_, ⟨_, rfl⟩, hW, hsame.mono (by decide) (by decide)⟩
      ·
        show Steps p.tables e below (T4.setTop (mkF m 31 #[.val (.ref o1), .val (.ref o2), .val (.int (0 : Int32)), .val (.int p3), .val (.ref v5)] [(.int p3), (.int p8)])) _
        refine XS.icmpNo X4.here hx rfl (hb hby d2_31) rfl (teq hc11).2 ?_
        refine XS.iconst X4.here hx rfl (hb hby d2_34) ?_
        refine XS.goto X4.here hx rfl (pc0 := 35) (pc' := 39) rfl (hb hby d2_35) (by decide) (by decide) ?_
        show Steps p.tables e below (T4.setTop (mkF m 39 #[.val (.ref o1), .val (.ref o2), .val (.int (0 : Int32)), .val (.int p3), .val (.ref v5)] [(.int (1 : Int32))])) _
        exact retN X4 hx (t := .boolean) hret (by simp) (hb hby d2_39) hr
      ·
        show Q17 Z o1 o2 kc4 p3 p8 p9 p10 p11 v5 v6 kc7 h0 n0 _ T4.heap _
        rw [e6]
        exact (Or.inl ⟨hc8, hc11, rfl, N4, rfl⟩)
    ·
      obtain ⟨fs, hr, hrun, hended, hW, hsame⟩ := X4.leave (v := some (.int (0 : Int32))) (fun h => by rw [hret] at h; cases h)
      refine ⟨_, _, pre10 _ ?_, hrun, hended, _, _, rfl, ?_, ⟨_, rfl⟩, hW, hsame.mono (by decide) (by decide)⟩
      ·
        show Steps p.tables e below (T4.setTop (mkF m 31 #[.val (.ref o1), .val (.ref o2), .val (.int (0 : Int32)), .val (.int p3), .val (.ref v5)] [(.int p3), (.int p8)])) _
        refine XS.icmpYes X4.here hx rfl (pc0 := 31) (pc' := 38) rfl (hb hby d2_31) rfl (feq hc11).2 (by decide) (by decide) ?_
        refine XS.iconst X4.here hx rfl (hb hby d2_38) ?_
        show Steps p.tables e below (T4.setTop (mkF m 39 #[.val (.ref o1), .val (.ref o2), .val (.int (0 : Int32)), .val (.int p3), .val (.ref v5)] [(.int (0 : Int32))])) _
        exact retN X4 hx (t := .boolean) hret (by simp) (hb hby d2_39) hr
      ·
        show Q17 Z o1 o2 kc4 p3 p8 p9 p10 p11 v5 v6 kc7 h0 n0 _ T4.heap _
        rw [e6]
        exact (Or.inr (Or.inl ⟨hc8, hc11, rfl, N4, rfl⟩))
  ·
    obtain ⟨fs, hr, hrun, hended, hW, hsame⟩ := X4.leave (v := some (.int (0 : Int32))) (fun h => by rw [hret] at h; cases h)
    refine ⟨_, _, pre7 _ ?_, hrun, hended, _, _, rfl, ?_, ⟨_, rfl⟩, hW, hsame.mono (by decide) (by decide)⟩
    ·
      show Steps p.tables e below (T4.setTop (mkF m 24 #[.val (.ref o1), .val (.ref o2), .val (.int (0 : Int32)), .val (.int p3), .val (.ref v5)] [(.int p3), (.int p10)])) _
      refine XS.icmpYes X4.here hx rfl (pc0 := 24) (pc' := 38) rfl (hb hby d2_24) rfl (feq hc8).2 (by decide) (by decide) ?_
      refine XS.iconst X4.here hx rfl (hb hby d2_38) ?_
      show Steps p.tables e below (T4.setTop (mkF m 39 #[.val (.ref o1), .val (.ref o2), .val (.int (0 : Int32)), .val (.int p3), .val (.ref v5)] [(.int (0 : Int32))])) _
      exact retN X4 hx (t := .boolean) hret (by simp) (hb hby d2_39) hr
    ·
      show Q17 Z o1 o2 kc4 p3 p8 p9 p10 p11 v5 v6 kc7 h0 n0 _ T4.heap _
      rw [e6]
      exact (Or.inr (Or.inr ⟨hc8, rfl, N4, rfl⟩))
theorem ef18 (m : MethodId) (x0 : Addr) (x1 : Addr) (x2 : Int32) (x3 : Int32) : entryFrame m #[(.ref x0), (.ref x1), (.int x2), (.int x3)] 5 = mkF m 0 #[.val (.ref x0), .val (.ref x1), .val (.int x2), .val (.int x3), .unset] [] := by first | (simp [entryFrame, mkF, argsToLocals, Value.category]; done) | rfl
def Q18 (Z : State) (o1 : Addr) (o2 : Addr) (kc4 : ClassId) (p3 : Int32) (p8 : Int32) (p9 : Int32) (p10 : Int32) (p11 : Int32) (v5 : Addr) (v6 : Addr) (kc7 : ClassId) (h0 : Heap) (n0 : Nat) (v : Option Value) (h : Heap) (L : List Loc) : Prop :=
  ((p11 = p3) ∧ (p9 = p3) ∧ v = some (.int (1 : Int32)) ∧ Fr n0 L ∧ h = h0)
  ∨ ((p11 = p3) ∧ (¬ (p9 = p3)) ∧ v = some (.int (0 : Int32)) ∧ Fr n0 L ∧ h = h0)
  ∨ ((¬ (p11 = p3)) ∧ v = some (.int (0 : Int32)) ∧ Fr n0 L ∧ h = h0)
set_option maxRecDepth 65536 in
set_option maxHeartbeats 40000000 in
theorem rm18 (l : Launch) (Z : State) (a0 : Array Value) (hw : ∀ d ∈ tables_1, d.before a0 Z = true) (ws : List Jvm.Cond) (o1 : Addr) (o2 : Addr) (kc4 : ClassId) (p3 : Int32) (p8 : Int32) (p9 : Int32) (p10 : Int32) (p11 : Int32) (v5 : Addr) (v6 : Addr) (kc7 : ClassId) (h0 : Heap) (n0 : Nat) (O0 : Old Z n0 h0) (g_o1 : n0 ≤ o1) (g_o2 : n0 ≤ o2) (Ov_kc4 : Ovr Z kc4 "java/lang/Boolean") (bd_p3 : 0 ≤ p3.toInt ∧ p3.toInt ≤ 1) (bd_p8 : 0 ≤ p8.toInt ∧ p8.toInt ≤ 1) (bd_p9 : 0 ≤ p9.toInt ∧ p9.toInt ≤ 1) (bd_p10 : 0 ≤ p10.toInt ∧ p10.toInt ≤ 1) (bd_p11 : 0 ≤ p11.toInt ∧ p11.toInt ≤ 1) (P0 : Arv Z h0 o1 kc4 (.object "java/lang/Boolean") (2 : Int32) [(.ref v5), (.ref v6)] .null) (P2 : Arv Z h0 o2 kc7 .boolean (2 : Int32) [(.int p8), (.int p9)] (.int (0 : Int32))) (P6 : Exa Z Z.heap v6 "java/lang/Boolean") (P7 : Fld Z Z.heap v6 "java/lang/Boolean" "value" "Z" (.int p11)) :
    MetFree l yn2 (head1 (Jvm.Cond.code yn2 method_3_code 5 (some .boolean) :: ws) ({ frames := 1, cells := 0, slots := 0, locals := 12 } : Room)) (fun a U => a = #[(.ref o1), (.ref o2), (.int (1 : Int32)), (.int p3)] ∧ Z.Warmed39 U.vm ∧ U.heap = h0) (fun _ _ _ _ _ => True) (fun _ U o U' => ∃ v L, o = .returned v ∧ Q18 Z o1 o2 kc4 p3 p8 p9 p10 p11 v5 v6 kc7 h0 n0 v U'.heap L ∧ FrameEnd U o U' L ({ frames := 1, cells := 0, slots := 0, locals := 12 } : Room).cells ({ frames := 1, cells := 0, slots := 0, locals := 12 } : Room).slots) := by
  refine MetFree.of_bodySF (plainFor_of_name pn2) hisR ?_
  intro p e s m args below meth c s₁ Bd hml0 hP hK
  obtain ⟨rfl, hZ, hh⟩ := hP
  have hx := Bd.exec
  have hby := Bd.bytes
  have hml : c.maxLocals = 5 := hml0
  have hown : s.vm.findClass "com/example/castless/castless/PrimitiveArraysBox333PinLaw" = some m.cls := findClass_of_methodNamed Bd.named
  have hnm := (name_of_methodNamed Bd.named Bd.method).1
  have hret := Bd.returns
  have hlk : meth.locks = false := BodyLoose.notSynchronized Bd
  have X0 : Stand p l e ({ frames := 1, cells := 0, slots := 0, locals := 12 } : Room) s m #[(.ref o1), (.ref o2), (.int (1 : Int32)), (.int p3)] below meth c s₁ [] 0 0 := Stand.of_body Bd
  have e0 : s₁.heap = h0 := by rw [← hh, Bd.state]; rfl
  have N0 := Fr.nil n0
  have pre0 : ∀ t, Steps p.tables e below (s₁.setTop (mkF m 0 #[.val (.ref o1), .val (.ref o2), .val (.int (1 : Int32)), .val (.int p3), .unset] [])) t → Steps p.tables e below (s₁.setTop (entryFrame m #[(.ref o1), (.ref o2), (.int (1 : Int32)), (.int p3)] 5)) t := fun t k => castTop (ef18 m o1 o2 (1 : Int32) p3) k
  obtain ⟨cl1, Ar1, qa1, Sa1, Na1, Ha1, Ga1⟩ := id (P2)
  obtain ⟨cl2, Ar2, qa2, Sa2, Na2, Ha2, Ga2⟩ := id (P0)
  have hin2 : ¬ ((1 : Int32) < 0 ∨ cl2.slots.size ≤ ((1 : Int32)).toNatClampNeg) := inb_of Sa2 ⟨by decide, by decide⟩
  have hat2 : cl2.slots[((1 : Int32)).toNatClampNeg]? = some (.ref v6) := Has.at Ha2 hin2 rfl
  obtain ⟨cq3, kq3, q3a, q3b, q3c⟩ := isOf hZ e0 (P6.ext O0.2)
  obtain ⟨_, _, ⟨T4, L4, c4, n4⟩, -, X4, ⟨Lc4, hQ4, l4, y4, z4⟩, st4⟩ := X0.virtualBack hx (y := yn4) (z := yn4) hown (mvT hZ (own_w hw 31 rfl)) (mvT hZ (own_w hw 32 rfl)) (notFace_of_selects (args := #[]) (mvT hZ (own_w hw 34 rfl))) (mvT hZ (own_w hw 34 rfl)) (mvT hZ (own_w hw 33 rfl)) (by decide) (backOf (W := 0) (rm10 l Z a0 hw [] p11 v6 h0 n0 O0 (by have q0 := bd_p11; omega) P7) hZ (own_w hw 35 rfl) (own_w hw 26 rfl) (by decide) (by decide)) q3a q3c (g := (mkF m 20 #[.val (.ref o1), .val (.ref o2), .val (.int (1 : Int32)), .val (.int p3), .val (.ref v6)] [(.ref v6)])) rfl (by rw [hml]; rfl) (Steps.refl _) (argsL := []) (rest := []) (lenOf pd4 rfl) rfl (by show 2 * 0 + _ ≤ _; exact Nat.le_of_eq rfl) (hb hby d2_20) (fun _ _ => ⟨rfl, e0, (by decide : 0 + 0 ≤ _), (by decide : 0 + 0 ≤ _)⟩)
  dsimp only [Pt.U, Pt.locs, Pt.cells, Pt.slots] at X4 l4 y4 z4 st4 hQ4
  subst l4 y4 z4
  have X4 : Stand p l e ({ frames := 1, cells := 0, slots := 0, locals := 12 } : Room) s m #[(.ref o1), (.ref o2), (.int (1 : Int32)), (.int p3)] below meth c T4 _ 0 0 := X4
  obtain ⟨rfl, Nq5, e6⟩ := hQ4
  have N4 := Fr.app N0 Nq5
  have pre7 : ∀ t, Steps p.tables e below (T4.setTop (mkF m 24 #[.val (.ref o1), .val (.ref o2), .val (.int (1 : Int32)), .val (.int p3), .val (.ref v6)] [(.int p3), (.int p11)])) t → Steps p.tables e below (s₁.setTop (entryFrame m #[(.ref o1), (.ref o2), (.int (1 : Int32)), (.int p3)] 5)) t := fun t k => by
    refine pre0 _ ?_
    show Steps p.tables e below (s₁.setTop (mkF m 0 #[.val (.ref o1), .val (.ref o2), .val (.int (1 : Int32)), .val (.int p3), .unset] [])) _
    refine XS.iloadN X0.here hx rfl (hb hby d2_0) rfl ?_
    refine XS.aloadN X0.here hx rfl (hb hby d2_1) rfl rfl ?_
    refine X0.arraylength hx (by rw [e0]; exact Ar1.1) (State.isArrayOf_alike hZ.alike Ar1.2.1) (g := (mkF m 2 #[.val (.ref o1), .val (.ref o2), .val (.int (1 : Int32)), .val (.int p3), .unset] [(.ref o2), (.int (1 : Int32))])) rfl rfl (hb hby d2_2) _ ?_
    rw [len_of Sa1 Na1]
    refine XS.icmpYes X0.here hx rfl (pc0 := 3) (pc' := 8) rfl (hb hby d2_3) rfl (tlt (by decide : (1 : Int32) < (2 : Int32))).1 (by decide) (by decide) ?_
    refine XS.aloadN X0.here hx rfl (hb hby d2_8) rfl rfl ?_
    refine XS.iloadN X0.here hx rfl (hb hby d2_9) rfl ?_
    refine X0.aaload hx (j := (1 : Int32)) (v := (.ref v6)) (by rw [e0]; exact Ar2.1) (State.isArrayOf_alike hZ.alike Ar2.2.1) rfl Ar2.2.2 hin2 hat2 (g := (mkF m 10 #[.val (.ref o1), .val (.ref o2), .val (.int (1 : Int32)), .val (.int p3), .unset] [(.int (1 : Int32)), (.ref o1)])) rfl rfl (hb hby d2_10) _ ?_
    refine XS.astore X0.here hx rfl (hb hby d2_11) rfl rfl (l' := #[.val (.ref o1), .val (.ref o2), .val (.int (1 : Int32)), .val (.int p3), .val (.ref v6)]) rfl ?_
    refine XS.aload X0.here hx rfl (hb hby d2_13) rfl rfl ?_
    refine XS.ifnullNo X0.here hx rfl (hb hby d2_15) rfl ?_
    refine XS.aload X0.here hx rfl (hb hby d2_18) rfl rfl ?_
    refine st4.trans ?_
    refine XS.iloadN X4.here hx rfl (hb hby d2_23) rfl ?_
    exact k
  by_cases hc8 : p11 = p3
  ·
    obtain ⟨cl9, Ar9, qa9, Sa9, Na9, Ha9, Ga9⟩ := id (P2)
    have hin9 : ¬ ((1 : Int32) < 0 ∨ cl9.slots.size ≤ ((1 : Int32)).toNatClampNeg) := inb_of Sa9 ⟨by decide, by decide⟩
    have hat9 : cl9.slots[((1 : Int32)).toNatClampNeg]? = some (.int p9) := Has.at Ha9 hin9 rfl
    have pre10 : ∀ t, Steps p.tables e below (T4.setTop (mkF m 31 #[.val (.ref o1), .val (.ref o2), .val (.int (1 : Int32)), .val (.int p3), .val (.ref v6)] [(.int p3), (.int p9)])) t → Steps p.tables e below (s₁.setTop (entryFrame m #[(.ref o1), (.ref o2), (.int (1 : Int32)), (.int p3)] 5)) t := fun t k => by
      refine pre7 _ ?_
      show Steps p.tables e below (T4.setTop (mkF m 24 #[.val (.ref o1), .val (.ref o2), .val (.int (1 : Int32)), .val (.int p3), .val (.ref v6)] [(.int p3), (.int p11)])) _
      refine XS.icmpNo X4.here hx rfl (hb hby d2_24) rfl (teq hc8).2 ?_
      refine XS.aloadN X4.here hx rfl (hb hby d2_27) rfl rfl ?_
      refine XS.iloadN X4.here hx rfl (hb hby d2_28) rfl ?_
      refine X4.baloadBooleans hx (j := (1 : Int32)) (v := (.int p9)) (by rw [e6]; exact Ar9.1) (State.isArrayOf_alike hZ.alike Ar9.2.1) Ar9.2.2 hin9 hat9 (g := (mkF m 29 #[.val (.ref o1), .val (.ref o2), .val (.int (1 : Int32)), .val (.int p3), .val (.ref v6)] [(.int (1 : Int32)), (.ref o2)])) rfl rfl (hb hby d2_29) _ ?_
      refine XS.iloadN X4.here hx rfl (hb hby d2_30) rfl ?_
      exact k
    by_cases hc11 : p9 = p3
    ·
      obtain ⟨fs, hr, hrun, hended, hW, hsame⟩ := X4.leave (v := some (.int (1 : Int32))) (fun h => by rw [hret] at h; cases h)
      refine ⟨_, _, pre10 _ ?_, hrun, hended, _, _, rfl, ?_, ⟨_, rfl⟩, hW, hsame.mono (by decide) (by decide)⟩
      ·
        show Steps p.tables e below (T4.setTop (mkF m 31 #[.val (.ref o1), .val (.ref o2), .val (.int (1 : Int32)), .val (.int p3), .val (.ref v6)] [(.int p3), (.int p9)])) _
        refine XS.icmpNo X4.here hx rfl (hb hby d2_31) rfl (teq hc11).2 ?_
        refine XS.iconst X4.here hx rfl (hb hby d2_34) ?_
        refine XS.goto X4.here hx rfl (pc0 := 35) (pc' := 39) rfl (hb hby d2_35) (by decide) (by decide) ?_
        show Steps p.tables e below (T4.setTop (mkF m 39 #[.val (.ref o1), .val (.ref o2), .val (.int (1 : Int32)), .val (.int p3), .val (.ref v6)] [(.int (1 : Int32))])) _
        exact retN X4 hx (t := .boolean) hret (by simp) (hb hby d2_39) hr
      ·
        show Q18 Z o1 o2 kc4 p3 p8 p9 p10 p11 v5 v6 kc7 h0 n0 _ T4.heap _
        rw [e6]
        exact (Or.inl ⟨hc8, hc11, rfl, N4, rfl⟩)
    ·
      obtain ⟨fs, hr, hrun, hended, hW, hsame⟩ := X4.leave (v := some (.int (0 : Int32))) (fun h => by rw [hret] at h; cases h)
      refine ⟨_, _, pre10 _ ?_, hrun, hended, _, _, rfl, ?_, ⟨_, rfl⟩, hW, hsame.mono (by decide) (by decide)⟩
      ·
        show Steps p.tables e below (T4.setTop (mkF m 31 #[.val (.ref o1), .val (.ref o2), .val (.int (1 : Int32)), .val (.int p3), .val (.ref v6)] [(.int p3), (.int p9)])) _
        refine XS.icmpYes X4.here hx rfl (pc0 := 31) (pc' := 38) rfl (hb hby d2_31) rfl (feq hc11).2 (by decide) (by decide) ?_
        refine XS.iconst X4.here hx rfl (hb hby d2_38) ?_
        show Steps p.tables e below (T4.setTop (mkF m 39 #[.val (.ref o1), .val (.ref o2), .val (.int (1 : Int32)), .val (.int p3), .val (.ref v6)] [(.int (0 : Int32))])) _
        exact retN X4 hx (t := .boolean) hret (by simp) (hb hby d2_39) hr
      ·
        show Q18 Z o1 o2 kc4 p3 p8 p9 p10 p11 v5 v6 kc7 h0 n0 _ T4.heap _
        rw [e6]
        exact (Or.inr (Or.inl ⟨hc8, hc11, rfl, N4, rfl⟩))
  ·
    obtain ⟨fs, hr, hrun, hended, hW, hsame⟩ := X4.leave (v := some (.int (0 : Int32))) (fun h => by rw [hret] at h; cases h)
    refine ⟨_, _, pre7 _ ?_, hrun, hended, _, _, rfl, ?_, ⟨_, rfl⟩, hW, hsame.mono (by decide) (by decide)⟩
    ·
      show Steps p.tables e below (T4.setTop (mkF m 24 #[.val (.ref o1), .val (.ref o2), .val (.int (1 : Int32)), .val (.int p3), .val (.ref v6)] [(.int p3), (.int p11)])) _
      refine XS.icmpYes X4.here hx rfl (pc0 := 24) (pc' := 38) rfl (hb hby d2_24) rfl (feq hc8).2 (by decide) (by decide) ?_
      refine XS.iconst X4.here hx rfl (hb hby d2_38) ?_
      show Steps p.tables e below (T4.setTop (mkF m 39 #[.val (.ref o1), .val (.ref o2), .val (.int (1 : Int32)), .val (.int p3), .val (.ref v6)] [(.int (0 : Int32))])) _
      exact retN X4 hx (t := .boolean) hret (by simp) (hb hby d2_39) hr
    ·
      show Q18 Z o1 o2 kc4 p3 p8 p9 p10 p11 v5 v6 kc7 h0 n0 _ T4.heap _
      rw [e6]
      exact (Or.inr (Or.inr ⟨hc8, rfl, N4, rfl⟩))
theorem ef19 (m : MethodId) (x0 : Addr) (x1 : Addr) (x2 : Int32) (x3 : Int32) : entryFrame m #[(.ref x0), (.ref x1), (.int x2), (.int x3)] 5 = mkF m 0 #[.val (.ref x0), .val (.ref x1), .val (.int x2), .val (.int x3), .unset] [] := by first | (simp [entryFrame, mkF, argsToLocals, Value.category]; done) | rfl
def Q19 (Z : State) (o1 : Addr) (o2 : Addr) (kc4 : ClassId) (p3 : Int32) (p8 : Int32) (p9 : Int32) (p10 : Int32) (p11 : Int32) (kc7 : ClassId) (h0 : Heap) (n0 : Nat) (v : Option Value) (h : Heap) (L : List Loc) : Prop :=
  (v = some (.int (1 : Int32)) ∧ Fr n0 L ∧ h = h0)
set_option maxRecDepth 65536 in
set_option maxHeartbeats 40000000 in
theorem rm19 (l : Launch) (Z : State) (a0 : Array Value) (hw : ∀ d ∈ tables_1, d.before a0 Z = true) (ws : List Jvm.Cond) (o1 : Addr) (o2 : Addr) (kc4 : ClassId) (p3 : Int32) (p8 : Int32) (p9 : Int32) (p10 : Int32) (p11 : Int32) (kc7 : ClassId) (h0 : Heap) (n0 : Nat) (O0 : Old Z n0 h0) (g_o1 : n0 ≤ o1) (g_o2 : n0 ≤ o2) (Ov_kc4 : Ovr Z kc4 "java/lang/Boolean") (bd_p3 : 0 ≤ p3.toInt ∧ p3.toInt ≤ 1) (bd_p8 : 0 ≤ p8.toInt ∧ p8.toInt ≤ 1) (bd_p9 : 0 ≤ p9.toInt ∧ p9.toInt ≤ 1) (bd_p10 : 0 ≤ p10.toInt ∧ p10.toInt ≤ 1) (bd_p11 : 0 ≤ p11.toInt ∧ p11.toInt ≤ 1) (P2 : Arv Z h0 o2 kc7 .boolean (2 : Int32) [(.int p8), (.int p9)] (.int (0 : Int32))) :
    MetFree l yn2 (head1 (Jvm.Cond.code yn2 method_3_code 5 (some .boolean) :: ws) ({ frames := 0, cells := 0, slots := 0, locals := 0 } : Room)) (fun a U => a = #[(.ref o1), (.ref o2), (.int (2 : Int32)), (.int p3)] ∧ Z.Warmed39 U.vm ∧ U.heap = h0) (fun _ _ _ _ _ => True) (fun _ U o U' => ∃ v L, o = .returned v ∧ Q19 Z o1 o2 kc4 p3 p8 p9 p10 p11 kc7 h0 n0 v U'.heap L ∧ FrameEnd U o U' L ({ frames := 0, cells := 0, slots := 0, locals := 0 } : Room).cells ({ frames := 0, cells := 0, slots := 0, locals := 0 } : Room).slots) := by
  refine MetFree.of_bodySF (plainFor_of_name pn2) hisR ?_
  intro p e s m args below meth c s₁ Bd hml0 hP hK
  obtain ⟨rfl, hZ, hh⟩ := hP
  have hx := Bd.exec
  have hby := Bd.bytes
  have hml : c.maxLocals = 5 := hml0
  have hown : s.vm.findClass "com/example/castless/castless/PrimitiveArraysBox333PinLaw" = some m.cls := findClass_of_methodNamed Bd.named
  have hnm := (name_of_methodNamed Bd.named Bd.method).1
  have hret := Bd.returns
  have hlk : meth.locks = false := BodyLoose.notSynchronized Bd
  have X0 : Stand p l e ({ frames := 0, cells := 0, slots := 0, locals := 0 } : Room) s m #[(.ref o1), (.ref o2), (.int (2 : Int32)), (.int p3)] below meth c s₁ [] 0 0 := Stand.of_body Bd
  have e0 : s₁.heap = h0 := by rw [← hh, Bd.state]; rfl
  have N0 := Fr.nil n0
  have pre0 : ∀ t, Steps p.tables e below (s₁.setTop (mkF m 0 #[.val (.ref o1), .val (.ref o2), .val (.int (2 : Int32)), .val (.int p3), .unset] [])) t → Steps p.tables e below (s₁.setTop (entryFrame m #[(.ref o1), (.ref o2), (.int (2 : Int32)), (.int p3)] 5)) t := fun t k => castTop (ef19 m o1 o2 (2 : Int32) p3) k
  obtain ⟨cl1, Ar1, qa1, Sa1, Na1, Ha1, Ga1⟩ := id (P2)
  obtain ⟨fs, hr, hrun, hended, hW, hsame⟩ := X0.leave (v := some (.int (1 : Int32))) (fun h => by rw [hret] at h; cases h)
  refine ⟨_, _, pre0 _ ?_, hrun, hended, _, _, rfl, ?_, ⟨_, rfl⟩, hW, hsame.mono (by decide) (by decide)⟩
  ·
    show Steps p.tables e below (s₁.setTop (mkF m 0 #[.val (.ref o1), .val (.ref o2), .val (.int (2 : Int32)), .val (.int p3), .unset] [])) _
    refine XS.iloadN X0.here hx rfl (hb hby d2_0) rfl ?_
    refine XS.aloadN X0.here hx rfl (hb hby d2_1) rfl rfl ?_
    refine X0.arraylength hx (by rw [e0]; exact Ar1.1) (State.isArrayOf_alike hZ.alike Ar1.2.1) (g := (mkF m 2 #[.val (.ref o1), .val (.ref o2), .val (.int (2 : Int32)), .val (.int p3), .unset] [(.ref o2), (.int (2 : Int32))])) rfl rfl (hb hby d2_2) _ ?_
    rw [len_of Sa1 Na1]
    refine XS.icmpNo X0.here hx rfl (hb hby d2_3) rfl (flt (by decide : ¬ ((2 : Int32) < (2 : Int32)))).1 ?_
    refine XS.iconst X0.here hx rfl (hb hby d2_6) ?_
    show Steps p.tables e below (s₁.setTop (mkF m 7 #[.val (.ref o1), .val (.ref o2), .val (.int (2 : Int32)), .val (.int p3), .unset] [(.int (1 : Int32))])) _
    exact retN X0 hx (t := .boolean) hret (by simp) (hb hby d2_7) hr
  ·
    show Q19 Z o1 o2 kc4 p3 p8 p9 p10 p11 kc7 h0 n0 _ s₁.heap _
    rw [e0]
    exact ⟨rfl, N0, rfl⟩
theorem ef20 (m : MethodId) (x0 : Addr) (x1 : Addr) (x2 : Int32) (x3 : Int32) : entryFrame m #[(.ref x0), (.ref x1), (.int x2), (.int x3)] 5 = mkF m 0 #[.val (.ref x0), .val (.ref x1), .val (.int x2), .val (.int x3), .unset] [] := by first | (simp [entryFrame, mkF, argsToLocals, Value.category]; done) | rfl
def Q20 (Z : State) (o1 : Addr) (o2 : Addr) (kc4 : ClassId) (p3 : Int32) (p8 : Int32) (p9 : Int32) (p10 : Int32) (p11 : Int32) (kc7 : ClassId) (h0 : Heap) (n0 : Nat) (v : Option Value) (h : Heap) (L : List Loc) : Prop :=
  (v = some (.int (1 : Int32)) ∧ Fr n0 L ∧ h = h0)
set_option maxRecDepth 65536 in
set_option maxHeartbeats 40000000 in
theorem rm20 (l : Launch) (Z : State) (a0 : Array Value) (hw : ∀ d ∈ tables_1, d.before a0 Z = true) (ws : List Jvm.Cond) (o1 : Addr) (o2 : Addr) (kc4 : ClassId) (p3 : Int32) (p8 : Int32) (p9 : Int32) (p10 : Int32) (p11 : Int32) (kc7 : ClassId) (h0 : Heap) (n0 : Nat) (O0 : Old Z n0 h0) (g_o1 : n0 ≤ o1) (g_o2 : n0 ≤ o2) (Ov_kc4 : Ovr Z kc4 "java/lang/Boolean") (bd_p3 : 0 ≤ p3.toInt ∧ p3.toInt ≤ 1) (bd_p8 : 0 ≤ p8.toInt ∧ p8.toInt ≤ 1) (bd_p9 : 0 ≤ p9.toInt ∧ p9.toInt ≤ 1) (bd_p10 : 0 ≤ p10.toInt ∧ p10.toInt ≤ 1) (bd_p11 : 0 ≤ p11.toInt ∧ p11.toInt ≤ 1) (P2 : Arv Z h0 o2 kc7 .boolean (2 : Int32) [(.int p8), (.int p9)] (.int (0 : Int32))) :
    MetFree l yn2 (head1 (Jvm.Cond.code yn2 method_3_code 5 (some .boolean) :: ws) ({ frames := 0, cells := 0, slots := 0, locals := 0 } : Room)) (fun a U => a = #[(.ref o1), (.ref o2), (.int (3 : Int32)), (.int p3)] ∧ Z.Warmed39 U.vm ∧ U.heap = h0) (fun _ _ _ _ _ => True) (fun _ U o U' => ∃ v L, o = .returned v ∧ Q20 Z o1 o2 kc4 p3 p8 p9 p10 p11 kc7 h0 n0 v U'.heap L ∧ FrameEnd U o U' L ({ frames := 0, cells := 0, slots := 0, locals := 0 } : Room).cells ({ frames := 0, cells := 0, slots := 0, locals := 0 } : Room).slots) := by
  refine MetFree.of_bodySF (plainFor_of_name pn2) hisR ?_
  intro p e s m args below meth c s₁ Bd hml0 hP hK
  obtain ⟨rfl, hZ, hh⟩ := hP
  have hx := Bd.exec
  have hby := Bd.bytes
  have hml : c.maxLocals = 5 := hml0
  have hown : s.vm.findClass "com/example/castless/castless/PrimitiveArraysBox333PinLaw" = some m.cls := findClass_of_methodNamed Bd.named
  have hnm := (name_of_methodNamed Bd.named Bd.method).1
  have hret := Bd.returns
  have hlk : meth.locks = false := BodyLoose.notSynchronized Bd
  have X0 : Stand p l e ({ frames := 0, cells := 0, slots := 0, locals := 0 } : Room) s m #[(.ref o1), (.ref o2), (.int (3 : Int32)), (.int p3)] below meth c s₁ [] 0 0 := Stand.of_body Bd
  have e0 : s₁.heap = h0 := by rw [← hh, Bd.state]; rfl
  have N0 := Fr.nil n0
  have pre0 : ∀ t, Steps p.tables e below (s₁.setTop (mkF m 0 #[.val (.ref o1), .val (.ref o2), .val (.int (3 : Int32)), .val (.int p3), .unset] [])) t → Steps p.tables e below (s₁.setTop (entryFrame m #[(.ref o1), (.ref o2), (.int (3 : Int32)), (.int p3)] 5)) t := fun t k => castTop (ef20 m o1 o2 (3 : Int32) p3) k
  obtain ⟨cl1, Ar1, qa1, Sa1, Na1, Ha1, Ga1⟩ := id (P2)
  obtain ⟨fs, hr, hrun, hended, hW, hsame⟩ := X0.leave (v := some (.int (1 : Int32))) (fun h => by rw [hret] at h; cases h)
  refine ⟨_, _, pre0 _ ?_, hrun, hended, _, _, rfl, ?_, ⟨_, rfl⟩, hW, hsame.mono (by decide) (by decide)⟩
  ·
    show Steps p.tables e below (s₁.setTop (mkF m 0 #[.val (.ref o1), .val (.ref o2), .val (.int (3 : Int32)), .val (.int p3), .unset] [])) _
    refine XS.iloadN X0.here hx rfl (hb hby d2_0) rfl ?_
    refine XS.aloadN X0.here hx rfl (hb hby d2_1) rfl rfl ?_
    refine X0.arraylength hx (by rw [e0]; exact Ar1.1) (State.isArrayOf_alike hZ.alike Ar1.2.1) (g := (mkF m 2 #[.val (.ref o1), .val (.ref o2), .val (.int (3 : Int32)), .val (.int p3), .unset] [(.ref o2), (.int (3 : Int32))])) rfl rfl (hb hby d2_2) _ ?_
    rw [len_of Sa1 Na1]
    refine XS.icmpNo X0.here hx rfl (hb hby d2_3) rfl (flt (by decide : ¬ ((3 : Int32) < (2 : Int32)))).1 ?_
    refine XS.iconst X0.here hx rfl (hb hby d2_6) ?_
    show Steps p.tables e below (s₁.setTop (mkF m 7 #[.val (.ref o1), .val (.ref o2), .val (.int (3 : Int32)), .val (.int p3), .unset] [(.int (1 : Int32))])) _
    exact retN X0 hx (t := .boolean) hret (by simp) (hb hby d2_7) hr
  ·
    show Q20 Z o1 o2 kc4 p3 p8 p9 p10 p11 kc7 h0 n0 _ s₁.heap _
    rw [e0]
    exact ⟨rfl, N0, rfl⟩
theorem ef21 (m : MethodId) (x0 : Addr) (x1 : Addr) : entryFrame m #[(.ref x0), (.ref x1)] 2 = mkF m 0 #[.val (.ref x0), .val (.ref x1)] [] := by first | (simp [entryFrame, mkF, argsToLocals, Value.category]; done) | rfl
def Q21 (Z : State) (o1 : Addr) (u2 : Addr) (h0 : Heap) (n0 : Nat) (v : Option Value) (h : Heap) (L : List Loc) : Prop :=
  (v = some (.ref o1) ∧ Fr n0 L ∧ h = h0)
set_option maxRecDepth 65536 in
set_option maxHeartbeats 40000000 in
theorem rm21 (l : Launch) (Z : State) (a0 : Array Value) (hw : ∀ d ∈ tables_1, d.before a0 Z = true) (ws : List Jvm.Cond) (o1 : Addr) (u2 : Addr) (h0 : Heap) (n0 : Nat) (O0 : Old Z n0 h0) (g_o1 : n0 ≤ o1) :
    MetFree l yn0 (head1 (Jvm.Cond.code yn0 jdk_31_method_11_code 2 (some (.object "java/lang/Object")) :: ws) ({ frames := 0, cells := 0, slots := 0, locals := 0 } : Room)) (fun a U => a = #[(.ref o1), (.ref u2)] ∧ Z.Warmed39 U.vm ∧ U.heap = h0) (fun _ _ _ _ _ => True) (fun _ U o U' => ∃ v L, o = .returned v ∧ Q21 Z o1 u2 h0 n0 v U'.heap L ∧ FrameEnd U o U' L ({ frames := 0, cells := 0, slots := 0, locals := 0 } : Room).cells ({ frames := 0, cells := 0, slots := 0, locals := 0 } : Room).slots) := by
  refine MetFree.of_bodySF (plainFor_of_name pn0) hisR ?_
  intro p e s m args below meth c s₁ Bd hml0 hP hK
  obtain ⟨rfl, hZ, hh⟩ := hP
  have hx := Bd.exec
  have hby := Bd.bytes
  have hml : c.maxLocals = 2 := hml0
  have hown : s.vm.findClass "java/util/Objects" = some m.cls := findClass_of_methodNamed Bd.named
  have hnm := (name_of_methodNamed Bd.named Bd.method).1
  have hret := Bd.returns
  have hlk : meth.locks = false := BodyLoose.notSynchronized Bd
  have X0 : Stand p l e ({ frames := 0, cells := 0, slots := 0, locals := 0 } : Room) s m #[(.ref o1), (.ref u2)] below meth c s₁ [] 0 0 := Stand.of_body Bd
  have e0 : s₁.heap = h0 := by rw [← hh, Bd.state]; rfl
  have N0 := Fr.nil n0
  have pre0 : ∀ t, Steps p.tables e below (s₁.setTop (mkF m 0 #[.val (.ref o1), .val (.ref u2)] [])) t → Steps p.tables e below (s₁.setTop (entryFrame m #[(.ref o1), (.ref u2)] 2)) t := fun t k => castTop (ef21 m o1 u2) k
  obtain ⟨fs, hr, hrun, hended, hW, hsame⟩ := X0.leave (v := some (.ref o1)) (fun h => by rw [hret] at h; cases h)
  refine ⟨_, _, pre0 _ ?_, hrun, hended, _, _, rfl, ?_, ⟨_, rfl⟩, hW, hsame.mono (by decide) (by decide)⟩
  ·
    show Steps p.tables e below (s₁.setTop (mkF m 0 #[.val (.ref o1), .val (.ref u2)] [])) _
    refine XS.aloadN X0.here hx rfl (hb hby d1_0) rfl rfl ?_
    refine XS.ifnonnullYes X0.here hx rfl (pc0 := 1) (pc' := 13) rfl (hb hby d1_1) rfl (by decide) (by decide) ?_
    refine XS.aloadN X0.here hx rfl (hb hby d1_13) rfl rfl ?_
    show Steps p.tables e below (s₁.setTop (mkF m 14 #[.val (.ref o1), .val (.ref u2)] [(.ref o1)])) _
    exact retOut X0 hx hret rfl (Or.inr (Or.inr (Or.inr (Or.inr ⟨rfl, rfl, rfl⟩)))) (hb hby d1_14) hr
  ·
    show Q21 Z o1 u2 h0 n0 _ s₁.heap _
    rw [e0]
    exact ⟨rfl, N0, rfl⟩
theorem ef22 (m : MethodId) (x0 : Addr) : entryFrame m #[(.ref x0)] 3 = mkF m 0 #[.val (.ref x0), .unset, .unset] [] := by first | (simp [entryFrame, mkF, argsToLocals, Value.category]; done) | rfl
def Q22 (Z : State) (w1 : Addr) (w2 : Addr) (o1 : Addr) (p3 : Int32) (p4 : Int32) (p5 : Int32) (kc2 : ClassId) (h0 : Heap) (n0 : Nat) (v : Option Value) (h : Heap) (L : List Loc) : Prop :=
  (∃ b7 : Addr, ∃ k7 : ClassId, ∃ v12 : Addr, ∃ v25 : Addr, ∃ v36 : Addr, v = some (.ref b7) ∧ Fr n0 L ∧ Keep h0 h [] ∧ h0.size ≤ b7 ∧ Ovr Z k7 "java/lang/Boolean" ∧ (Arv Z h b7 k7 (.object "java/lang/Boolean") (3 : Int32) [(.ref v12), (.ref v25), (.ref v36)] .null) ∧ (Exa Z h b7 "[Ljava/lang/Boolean;") ∧ (Exa Z Z.heap v12 "java/lang/Boolean") ∧ (Fld Z Z.heap v12 "java/lang/Boolean" "value" "Z" (.int p3)) ∧ (Exa Z Z.heap v25 "java/lang/Boolean") ∧ (Fld Z Z.heap v25 "java/lang/Boolean" "value" "Z" (.int p4)) ∧ (Exa Z Z.heap v36 "java/lang/Boolean") ∧ (Fld Z Z.heap v36 "java/lang/Boolean" "value" "Z" (.int p5)))
set_option maxRecDepth 65536 in
set_option maxHeartbeats 40000000 in
theorem rm22 (l : Launch) (Z : State) (a0 : Array Value) (hw : ∀ d ∈ tables_1, d.before a0 Z = true) (w1 : Addr) (w2 : Addr) (G : GW Z w1 w2) (ws : List Jvm.Cond) (o1 : Addr) (p3 : Int32) (p4 : Int32) (p5 : Int32) (kc2 : ClassId) (h0 : Heap) (n0 : Nat) (O0 : Old Z n0 h0) (g_o1 : n0 ≤ o1) (bd_p3 : 0 ≤ p3.toInt ∧ p3.toInt ≤ 1) (bd_p4 : 0 ≤ p4.toInt ∧ p4.toInt ≤ 1) (bd_p5 : 0 ≤ p5.toInt ∧ p5.toInt ≤ 1) (P0 : Arv Z h0 o1 kc2 .boolean (3 : Int32) [(.int p3), (.int p4), (.int p5)] (.int (0 : Int32))) :
    MetFree l yn1 (head1 (Jvm.Cond.code yn1 prog_11_method_2_code 3 (some (.array (.object "java/lang/Boolean"))) :: ws) ({ frames := 1, cells := 3, slots := 59, locals := 14 } : Room)) (fun a U => a = #[(.ref o1)] ∧ Z.Warmed39 U.vm ∧ U.heap = h0) (fun _ _ _ _ _ => True) (fun _ U o U' => ∃ v L, o = .returned v ∧ Q22 Z w1 w2 o1 p3 p4 p5 kc2 h0 n0 v U'.heap L ∧ ReturnedEndW U o U' L ({ frames := 1, cells := 3, slots := 59, locals := 14 } : Room).cells ({ frames := 1, cells := 3, slots := 59, locals := 14 } : Room).slots) := by
  obtain ⟨S_w1, E_w1, S_w2, E_w2, F_w1_value, F_w2_value⟩ := id G
  refine MetFree.of_bodySF (plainFor_of_name pn1) hisR ?_
  intro p e s m args below meth c s₁ Bd hml0 hP hK
  obtain ⟨rfl, hZ, hh⟩ := hP
  have hx := Bd.exec
  have hby := Bd.bytes
  have hml : c.maxLocals = 3 := hml0
  have hown : s.vm.findClass "com/example/castless/castless/PrimitiveArrays" = some m.cls := findClass_of_methodNamed Bd.named
  have hnm := (name_of_methodNamed Bd.named Bd.method).1
  have hret := Bd.returns
  have hlk : meth.locks = false := BodyLoose.notSynchronized Bd
  have X0 : Stand p l e ({ frames := 1, cells := 3, slots := 59, locals := 14 } : Room) s m #[(.ref o1)] below meth c s₁ [] 0 0 := Stand.of_body Bd
  have e0 : s₁.heap = h0 := by rw [← hh, Bd.state]; rfl
  have N0 := Fr.nil n0
  have pre0 : ∀ t, Steps p.tables e below (s₁.setTop (mkF m 0 #[.val (.ref o1), .unset, .unset] [])) t → Steps p.tables e below (s₁.setTop (entryFrame m #[(.ref o1)] 3)) t := fun t k => castTop (ef22 m o1) k
  obtain ⟨sx1, T1, h1, ks1, X1, e1, E1, hS1, hk1, hZ, hown, st1⟩ := ldcS (s := s) (vm0 := s.vm) X0 hx hZ hown (own_w hw 6 rfl) (own_sa hw) e0 ((State.WarmedH.refl s).since h0.size) (Nat.le_refl _) (g := (mkF m 1 #[.val (.ref o1), .unset, .unset] [(.ref o1)])) rfl (hb hby d0_1) (n := 52) (by decide) (by decide) (by decide) (by decide)
  have M1 : h0.size ≤ h1.size := Nat.le_trans (Nat.le_refl _) E1.1
  have O1 := Old.ext O0 E1
  obtain ⟨_, _, ⟨T2, L2, c2, n2⟩, -, X2, ⟨Lc2, hQ2, l2, y2, z2⟩, st2⟩ := Jvm.LawKit.callS X1 hx (y := yn0) hown (mvT hZ (own_w hw 14 rfl)) (mvT hZ (own_w hw 15 rfl)) (mvT hZ (own_w hw 16 rfl)) (mvT hZ (own_w hw 17 rfl)) (by decide) (backOf (W := 0) (rm21 l Z a0 hw [] o1 sx1 h1 n0 O1 g_o1) hZ (own_w hw 17 rfl) (own_w hw 16 rfl) (by decide) (by decide)) (g := (mkF m 3 #[.val (.ref o1), .unset, .unset] [(.ref sx1), (.ref o1)])) rfl (by rw [hml]; rfl) (argsL := [(.ref o1), (.ref sx1)]) (rest := []) (lenOf pd0 rfl) rfl (by show 2 * 0 + _ ≤ _; exact Nat.le_of_eq rfl) (hb hby d0_3) (fun _ _ => ⟨rfl, e1, (by decide : 2 + 0 ≤ _), (by decide : 56 + 0 ≤ _)⟩)
  dsimp only [Pt.U, Pt.locs, Pt.cells, Pt.slots] at X2 l2 y2 z2 st2 hQ2
  subst l2 y2 z2
  have X2 : Stand p l e ({ frames := 1, cells := 3, slots := 59, locals := 14 } : Room) (s.setVm T1.vm) m #[(.ref o1)] below meth c T2 _ 2 56 := X2
  obtain ⟨rfl, Nq3, e4⟩ := hQ2
  have N2 := Fr.app N0 Nq3
  have f5 := (P0.ext E1)
  obtain ⟨cl6, Ar6, qa6, Sa6, Na6, Ha6, Ga6⟩ := id (f5)
  obtain ⟨T7, h7, k7, X7, e7, E7, A7, EX7, OV7, st7⟩ := newRE X2 hx hZ hown (own_w hw 18 rfl) (own_w hw 19 rfl) e4 (g := (mkF m 9 #[.val (.ref o1), .unset, .unset] [(.int (3 : Int32))])) rfl (hb hby d0_9) rfl (by decide) (cap := 3) (by decide) (by decide) (by decide) (by decide) (ad := "[Ljava/lang/Boolean;") (by decide)
  obtain ⟨b7, g7⟩ : ∃ z, z = h1.size := ⟨_, rfl⟩
  rw [← g7] at A7 EX7 st7
  have hkk7 := Nat.le_trans hk1 E7.1
  have M7 : h0.size ≤ h7.size := Nat.le_trans M1 E7.1
  have O7 := Old.ext O1 E7
  have sz_b7 : h1.size ≤ b7 := Nat.le_of_eq g7.symm
  have g_b7 : n0 ≤ b7 := Nat.le_trans (own_oz O0) (Nat.le_trans M1 sz_b7)
  have V7_0 := Arv.new A7 (by decide)
  have V7 : Arv Z h7 b7 k7 (.object "java/lang/Boolean") (3 : Int32) [.null, .null, .null] .null := V7_0.pad (pad_rep [] .null 3)
  have f8 := (f5.ext E7)
  obtain ⟨cl9, Ar9, qa9, Sa9, Na9, Ha9, Ga9⟩ := id (f8)
  obtain ⟨cl10, Ar10, qa10, Sa10, Na10, Ha10, Ga10⟩ := id (f8)
  have hin10 : ¬ ((0 : Int32) < 0 ∨ cl10.slots.size ≤ ((0 : Int32)).toNatClampNeg) := inb_of Sa10 ⟨by decide, by decide⟩
  have hat10 : cl10.slots[((0 : Int32)).toNatClampNeg]? = some (.int p3) := Has.at Ha10 hin10 rfl
  obtain ⟨_, _, ⟨T11, L11, c11, n11⟩, -, X11, ⟨Lc11, hQ11, l11, y11, z11⟩, st11⟩ := Jvm.LawKit.callS X7 hx (y := yn3) hown (mvT hZ (own_w hw 24 rfl)) (mvT hZ (own_w hw 25 rfl)) (mvT hZ (own_w hw 26 rfl)) (mvT hZ (own_w hw 27 rfl)) (by decide) (backOf (W := 2) (rm8 l Z a0 hw w1 w2 G [] p3 h7 n0 O7 (by have q0 := bd_p3; omega)) hZ (own_w hw 27 rfl) (own_w hw 26 rfl) (by decide) (by decide)) (g := (mkF m 26 #[.val (.ref o1), .val (.ref b7), .val (.int (0 : Int32))] [(.int p3), (.int (0 : Int32)), (.ref b7)])) rfl (by rw [hml]; rfl) (argsL := [(.int p3)]) (rest := [(.int (0 : Int32)), (.ref b7)]) (lenOf pd3 rfl) rfl (by show 2 * 0 + _ ≤ _; exact Nat.le_of_eq rfl) (hb hby d0_26) (fun _ _ => ⟨rfl, e7, (by decide : 3 + 0 ≤ _), (by decide : 59 + 0 ≤ _)⟩)
  dsimp only [Pt.U, Pt.locs, Pt.cells, Pt.slots] at X11 l11 y11 z11 st11 hQ11
  subst l11 y11 z11
  have X11 : Stand p l e ({ frames := 1, cells := 3, slots := 59, locals := 14 } : Room) (s.setVm T1.vm) m #[(.ref o1)] below meth c T11 _ 3 59 := X11
  obtain ⟨v12, rfl, Nq13, e14, f15, f16⟩ := hQ11
  have N11 := Fr.app N2 Nq13
  obtain ⟨cl17, Ar17, qa17, Sa17, Na17, Ha17, Ga17⟩ := id (V7)
  have hin17 : ¬ ((0 : Int32) < 0 ∨ cl17.slots.size ≤ ((0 : Int32)).toNatClampNeg) := inb_of Sa17 ⟨by decide, by decide⟩
  obtain ⟨T18, h18, X18, e18, W18, st18⟩ := stR X11 hx hZ e14 Ar17 (j := (0 : Int32)) hin17 rfl (Sto.ofV Ar17 qa17 OV7 (Ins.self (f15.ext O7.2))) (g := (mkF m 29 #[.val (.ref o1), .val (.ref b7), .val (.int (0 : Int32))] [(.ref v12), (.int (0 : Int32)), (.ref b7)])) rfl rfl (hb hby d0_29)
  have V18 : Arv Z h18 b7 k7 (.object "java/lang/Boolean") (3 : Int32) [(.ref v12), .null, .null] .null := Arv.set Ar17 qa17 Sa17 Na17 Ha17 Ga17 rfl W18 0 rfl (Nat.le_of_ble_eq_true rfl)
  have N18 := Fr.snoc X18 N11 g_b7
  have hkk18 := Nat.le_trans hkk7 (Nat.le_of_eq W18.size.symm)
  have M18 : h0.size ≤ h18.size := Nat.le_trans M7 (Nat.le_of_eq W18.size.symm)
  have O18 := Old.wr O7 W18 g_b7
  have lt19 : o1 < h1.size := (Nat.lt_of_lt_of_le P0.lt E1.1)
  have ne20 : o1 ≠ b7 := Nat.ne_of_lt (Nat.lt_of_lt_of_le lt19 sz_b7)
  have f21 := (f8.other W18 ne20)
  obtain ⟨cl22, Ar22, qa22, Sa22, Na22, Ha22, Ga22⟩ := id (f21)
  obtain ⟨cl23, Ar23, qa23, Sa23, Na23, Ha23, Ga23⟩ := id (f21)
  have hin23 : ¬ ((1 : Int32) < 0 ∨ cl23.slots.size ≤ ((1 : Int32)).toNatClampNeg) := inb_of Sa23 ⟨by decide, by decide⟩
  have hat23 : cl23.slots[((1 : Int32)).toNatClampNeg]? = some (.int p4) := Has.at Ha23 hin23 rfl
  obtain ⟨_, _, ⟨T24, L24, c24, n24⟩, -, X24, ⟨Lc24, hQ24, l24, y24, z24⟩, st24⟩ := Jvm.LawKit.callS X18 hx (y := yn3) hown (mvT hZ (own_w hw 24 rfl)) (mvT hZ (own_w hw 25 rfl)) (mvT hZ (own_w hw 26 rfl)) (mvT hZ (own_w hw 27 rfl)) (by decide) (backOf (W := 2) (rm8 l Z a0 hw w1 w2 G [] p4 h18 n0 O18 (by have q0 := bd_p4; omega)) hZ (own_w hw 27 rfl) (own_w hw 26 rfl) (by decide) (by decide)) (g := (mkF m 26 #[.val (.ref o1), .val (.ref b7), .val (.int (1 : Int32))] [(.int p4), (.int (1 : Int32)), (.ref b7)])) rfl (by rw [hml]; rfl) (argsL := [(.int p4)]) (rest := [(.int (1 : Int32)), (.ref b7)]) (lenOf pd3 rfl) rfl (by show 2 * 0 + _ ≤ _; exact Nat.le_of_eq rfl) (hb hby d0_26) (fun _ _ => ⟨rfl, e18, (by decide : 3 + 0 ≤ _), (by decide : 59 + 0 ≤ _)⟩)
  dsimp only [Pt.U, Pt.locs, Pt.cells, Pt.slots] at X24 l24 y24 z24 st24 hQ24
  subst l24 y24 z24
  have X24 : Stand p l e ({ frames := 1, cells := 3, slots := 59, locals := 14 } : Room) (s.setVm T1.vm) m #[(.ref o1)] below meth c T24 _ 3 59 := X24
  obtain ⟨v25, rfl, Nq26, e27, f28, f29⟩ := hQ24
  have N24 := Fr.app N18 Nq26
  obtain ⟨cl30, Ar30, qa30, Sa30, Na30, Ha30, Ga30⟩ := id (V18)
  have hin30 : ¬ ((1 : Int32) < 0 ∨ cl30.slots.size ≤ ((1 : Int32)).toNatClampNeg) := inb_of Sa30 ⟨by decide, by decide⟩
  obtain ⟨T31, h31, X31, e31, W31, st31⟩ := stR X24 hx hZ e27 Ar30 (j := (1 : Int32)) hin30 rfl (Sto.ofV Ar30 qa30 OV7 (Ins.self (f28.ext O18.2))) (g := (mkF m 29 #[.val (.ref o1), .val (.ref b7), .val (.int (1 : Int32))] [(.ref v25), (.int (1 : Int32)), (.ref b7)])) rfl rfl (hb hby d0_29)
  have V31 : Arv Z h31 b7 k7 (.object "java/lang/Boolean") (3 : Int32) [(.ref v12), (.ref v25), .null] .null := Arv.set Ar30 qa30 Sa30 Na30 Ha30 Ga30 rfl W31 1 rfl (Nat.le_of_ble_eq_true rfl)
  have N31 := Fr.snoc X31 N24 g_b7
  have hkk31 := Nat.le_trans hkk18 (Nat.le_of_eq W31.size.symm)
  have M31 : h0.size ≤ h31.size := Nat.le_trans M18 (Nat.le_of_eq W31.size.symm)
  have O31 := Old.wr O18 W31 g_b7
  have f32 := (f21.other W31 ne20)
  obtain ⟨cl33, Ar33, qa33, Sa33, Na33, Ha33, Ga33⟩ := id (f32)
  obtain ⟨cl34, Ar34, qa34, Sa34, Na34, Ha34, Ga34⟩ := id (f32)
  have hin34 : ¬ ((2 : Int32) < 0 ∨ cl34.slots.size ≤ ((2 : Int32)).toNatClampNeg) := inb_of Sa34 ⟨by decide, by decide⟩
  have hat34 : cl34.slots[((2 : Int32)).toNatClampNeg]? = some (.int p5) := Has.at Ha34 hin34 rfl
  obtain ⟨_, _, ⟨T35, L35, c35, n35⟩, -, X35, ⟨Lc35, hQ35, l35, y35, z35⟩, st35⟩ := Jvm.LawKit.callS X31 hx (y := yn3) hown (mvT hZ (own_w hw 24 rfl)) (mvT hZ (own_w hw 25 rfl)) (mvT hZ (own_w hw 26 rfl)) (mvT hZ (own_w hw 27 rfl)) (by decide) (backOf (W := 2) (rm8 l Z a0 hw w1 w2 G [] p5 h31 n0 O31 (by have q0 := bd_p5; omega)) hZ (own_w hw 27 rfl) (own_w hw 26 rfl) (by decide) (by decide)) (g := (mkF m 26 #[.val (.ref o1), .val (.ref b7), .val (.int (2 : Int32))] [(.int p5), (.int (2 : Int32)), (.ref b7)])) rfl (by rw [hml]; rfl) (argsL := [(.int p5)]) (rest := [(.int (2 : Int32)), (.ref b7)]) (lenOf pd3 rfl) rfl (by show 2 * 0 + _ ≤ _; exact Nat.le_of_eq rfl) (hb hby d0_26) (fun _ _ => ⟨rfl, e31, (by decide : 3 + 0 ≤ _), (by decide : 59 + 0 ≤ _)⟩)
  dsimp only [Pt.U, Pt.locs, Pt.cells, Pt.slots] at X35 l35 y35 z35 st35 hQ35
  subst l35 y35 z35
  have X35 : Stand p l e ({ frames := 1, cells := 3, slots := 59, locals := 14 } : Room) (s.setVm T1.vm) m #[(.ref o1)] below meth c T35 _ 3 59 := X35
  obtain ⟨v36, rfl, Nq37, e38, f39, f40⟩ := hQ35
  have N35 := Fr.app N31 Nq37
  obtain ⟨cl41, Ar41, qa41, Sa41, Na41, Ha41, Ga41⟩ := id (V31)
  have hin41 : ¬ ((2 : Int32) < 0 ∨ cl41.slots.size ≤ ((2 : Int32)).toNatClampNeg) := inb_of Sa41 ⟨by decide, by decide⟩
  obtain ⟨T42, h42, X42, e42, W42, st42⟩ := stR X35 hx hZ e38 Ar41 (j := (2 : Int32)) hin41 rfl (Sto.ofV Ar41 qa41 OV7 (Ins.self (f39.ext O31.2))) (g := (mkF m 29 #[.val (.ref o1), .val (.ref b7), .val (.int (2 : Int32))] [(.ref v36), (.int (2 : Int32)), (.ref b7)])) rfl rfl (hb hby d0_29)
  have V42 : Arv Z h42 b7 k7 (.object "java/lang/Boolean") (3 : Int32) [(.ref v12), (.ref v25), (.ref v36)] .null := Arv.set Ar41 qa41 Sa41 Na41 Ha41 Ga41 rfl W42 2 rfl (Nat.le_of_ble_eq_true rfl)
  have N42 := Fr.snoc X42 N35 g_b7
  have hkk42 := Nat.le_trans hkk31 (Nat.le_of_eq W42.size.symm)
  have M42 : h0.size ≤ h42.size := Nat.le_trans M31 (Nat.le_of_eq W42.size.symm)
  have O42 := Old.wr O31 W42 g_b7
  have f43 := (f32.other W42 ne20)
  obtain ⟨cl44, Ar44, qa44, Sa44, Na44, Ha44, Ga44⟩ := id (f43)
  obtain ⟨fs, hr, hrun, hended, hRE⟩ := X42.leaveW hS1 (by rw [e42]; exact hkk42) (v := some (.ref b7)) (fun h => by rw [hret] at h; cases h)
  have KL : Keep h0 h42 [] := ((((((Keep.refl h0 []).ext E1).ext E7).wr W18 (Or.inr (Nat.le_trans M1 sz_b7))).wr W31 (Or.inr (Nat.le_trans M1 sz_b7))).wr W42 (Or.inr (Nat.le_trans M1 sz_b7)))
  have f45 := (((EX7.wr W18).wr W31).wr W42)
  refine ⟨_, _, pre0 _ ?_, hrun, hended, _, _, rfl, ?_, hRE.1, hRE.2.1, hRE.2.2.1, hRE.2.2.2.mono (by decide) (by decide)⟩
  ·
    show Steps p.tables e below (s₁.setTop (mkF m 0 #[.val (.ref o1), .unset, .unset] [])) _
    refine XS.aloadN X0.here hx rfl (hb hby d0_0) rfl rfl ?_
    refine st1 _ ?_
    refine st2 _ ?_
    refine XS.pop X2.here hx rfl (hb hby d0_6) rfl rfl ?_
    refine XS.aloadN X2.here hx rfl (hb hby d0_7) rfl rfl ?_
    refine X2.arraylength hx (by rw [e4]; exact Ar6.1) (State.isArrayOf_alike hZ.alike Ar6.2.1) (g := (mkF m 8 #[.val (.ref o1), .unset, .unset] [(.ref o1)])) rfl rfl (hb hby d0_8) _ ?_
    rw [len_of Sa6 Na6]
    refine st7 _ ?_
    refine XS.astoreN X7.here hx rfl (hb hby d0_12) rfl rfl (l' := #[.val (.ref o1), .val (.ref b7), .unset]) rfl ?_
    refine XS.iconst X7.here hx rfl (hb hby d0_13) ?_
    refine XS.istoreN X7.here hx rfl (hb hby d0_14) rfl (l' := #[.val (.ref o1), .val (.ref b7), .val (.int (0 : Int32))]) rfl ?_
    refine XS.iloadN X7.here hx rfl (hb hby d0_15) rfl ?_
    refine XS.aloadN X7.here hx rfl (hb hby d0_16) rfl rfl ?_
    refine X7.arraylength hx (by rw [e7]; exact Ar9.1) (State.isArrayOf_alike hZ.alike Ar9.2.1) (g := (mkF m 17 #[.val (.ref o1), .val (.ref b7), .val (.int (0 : Int32))] [(.ref o1), (.int (0 : Int32))])) rfl rfl (hb hby d0_17) _ ?_
    rw [len_of Sa9 Na9]
    refine XS.icmpNo X7.here hx rfl (hb hby d0_18) rfl (tlt (by decide : (0 : Int32) < (3 : Int32))).2.1 ?_
    refine XS.aloadN X7.here hx rfl (hb hby d0_21) rfl rfl ?_
    refine XS.iloadN X7.here hx rfl (hb hby d0_22) rfl ?_
    refine XS.aloadN X7.here hx rfl (hb hby d0_23) rfl rfl ?_
    refine XS.iloadN X7.here hx rfl (hb hby d0_24) rfl ?_
    refine X7.baloadBooleans hx (j := (0 : Int32)) (v := (.int p3)) (by rw [e7]; exact Ar10.1) (State.isArrayOf_alike hZ.alike Ar10.2.1) Ar10.2.2 hin10 hat10 (g := (mkF m 25 #[.val (.ref o1), .val (.ref b7), .val (.int (0 : Int32))] [(.int (0 : Int32)), (.ref o1), (.int (0 : Int32)), (.ref b7)])) rfl rfl (hb hby d0_25) _ ?_
    refine st11 _ ?_
    refine st18 _ ?_
    refine XS.iinc X18.here hx rfl (hb hby d0_30) rfl (l' := #[.val (.ref o1), .val (.ref b7), .val (.int (1 : Int32))]) rfl ?_
    refine XS.goto X18.here hx rfl (pc0 := 33) (pc' := 15) rfl (hb hby d0_33) (by decide) (by decide) ?_
    refine XS.iloadN X18.here hx rfl (hb hby d0_15) rfl ?_
    refine XS.aloadN X18.here hx rfl (hb hby d0_16) rfl rfl ?_
    refine X18.arraylength hx (by rw [e18]; exact Ar22.1) (State.isArrayOf_alike hZ.alike Ar22.2.1) (g := (mkF m 17 #[.val (.ref o1), .val (.ref b7), .val (.int (1 : Int32))] [(.ref o1), (.int (1 : Int32))])) rfl rfl (hb hby d0_17) _ ?_
    rw [len_of Sa22 Na22]
    refine XS.icmpNo X18.here hx rfl (hb hby d0_18) rfl (tlt (by decide : (1 : Int32) < (3 : Int32))).2.1 ?_
    refine XS.aloadN X18.here hx rfl (hb hby d0_21) rfl rfl ?_
    refine XS.iloadN X18.here hx rfl (hb hby d0_22) rfl ?_
    refine XS.aloadN X18.here hx rfl (hb hby d0_23) rfl rfl ?_
    refine XS.iloadN X18.here hx rfl (hb hby d0_24) rfl ?_
    refine X18.baloadBooleans hx (j := (1 : Int32)) (v := (.int p4)) (by rw [e18]; exact Ar23.1) (State.isArrayOf_alike hZ.alike Ar23.2.1) Ar23.2.2 hin23 hat23 (g := (mkF m 25 #[.val (.ref o1), .val (.ref b7), .val (.int (1 : Int32))] [(.int (1 : Int32)), (.ref o1), (.int (1 : Int32)), (.ref b7)])) rfl rfl (hb hby d0_25) _ ?_
    refine st24 _ ?_
    refine st31 _ ?_
    refine XS.iinc X31.here hx rfl (hb hby d0_30) rfl (l' := #[.val (.ref o1), .val (.ref b7), .val (.int (2 : Int32))]) rfl ?_
    refine XS.goto X31.here hx rfl (pc0 := 33) (pc' := 15) rfl (hb hby d0_33) (by decide) (by decide) ?_
    refine XS.iloadN X31.here hx rfl (hb hby d0_15) rfl ?_
    refine XS.aloadN X31.here hx rfl (hb hby d0_16) rfl rfl ?_
    refine X31.arraylength hx (by rw [e31]; exact Ar33.1) (State.isArrayOf_alike hZ.alike Ar33.2.1) (g := (mkF m 17 #[.val (.ref o1), .val (.ref b7), .val (.int (2 : Int32))] [(.ref o1), (.int (2 : Int32))])) rfl rfl (hb hby d0_17) _ ?_
    rw [len_of Sa33 Na33]
    refine XS.icmpNo X31.here hx rfl (hb hby d0_18) rfl (tlt (by decide : (2 : Int32) < (3 : Int32))).2.1 ?_
    show Steps p.tables e below (T31.setTop (mkF m 21 #[.val (.ref o1), .val (.ref b7), .val (.int (2 : Int32))] [])) _
    refine XS.aloadN X31.here hx rfl (hb hby d0_21) rfl rfl ?_
    refine XS.iloadN X31.here hx rfl (hb hby d0_22) rfl ?_
    refine XS.aloadN X31.here hx rfl (hb hby d0_23) rfl rfl ?_
    refine XS.iloadN X31.here hx rfl (hb hby d0_24) rfl ?_
    refine X31.baloadBooleans hx (j := (2 : Int32)) (v := (.int p5)) (by rw [e31]; exact Ar34.1) (State.isArrayOf_alike hZ.alike Ar34.2.1) Ar34.2.2 hin34 hat34 (g := (mkF m 25 #[.val (.ref o1), .val (.ref b7), .val (.int (2 : Int32))] [(.int (2 : Int32)), (.ref o1), (.int (2 : Int32)), (.ref b7)])) rfl rfl (hb hby d0_25) _ ?_
    refine st35 _ ?_
    refine st42 _ ?_
    refine XS.iinc X42.here hx rfl (hb hby d0_30) rfl (l' := #[.val (.ref o1), .val (.ref b7), .val (.int (3 : Int32))]) rfl ?_
    refine XS.goto X42.here hx rfl (pc0 := 33) (pc' := 15) rfl (hb hby d0_33) (by decide) (by decide) ?_
    refine XS.iloadN X42.here hx rfl (hb hby d0_15) rfl ?_
    refine XS.aloadN X42.here hx rfl (hb hby d0_16) rfl rfl ?_
    refine X42.arraylength hx (by rw [e42]; exact Ar44.1) (State.isArrayOf_alike hZ.alike Ar44.2.1) (g := (mkF m 17 #[.val (.ref o1), .val (.ref b7), .val (.int (3 : Int32))] [(.ref o1), (.int (3 : Int32))])) rfl rfl (hb hby d0_17) _ ?_
    rw [len_of Sa44 Na44]
    refine XS.icmpYes X42.here hx rfl (pc0 := 18) (pc' := 36) rfl (hb hby d0_18) rfl (flt (by decide : ¬ ((3 : Int32) < (3 : Int32)))).2.1 (by decide) (by decide) ?_
    refine XS.aloadN X42.here hx rfl (hb hby d0_36) rfl rfl ?_
    show Steps p.tables e below (T42.setTop (mkF m 37 #[.val (.ref o1), .val (.ref b7), .val (.int (3 : Int32))] [(.ref b7)])) _
    exact retOut X42 hx hret rfl (Or.inr (Or.inr (Or.inr (Or.inr ⟨rfl, rfl, rfl⟩)))) (hb hby d0_37) hr
  ·
    show Q22 Z w1 w2 o1 p3 p4 p5 kc2 h0 n0 _ T42.heap _
    rw [e42]
    exact ⟨b7, k7, v12, v25, v36, rfl, N42, KL, (Nat.le_trans M1 sz_b7), OV7, V42, f45, f15, f16, f28, f29, f39, f40⟩
theorem ef23 (m : MethodId) (x0 : Addr) (x1 : Addr) (x2 : Int32) (x3 : Int32) : entryFrame m #[(.ref x0), (.ref x1), (.int x2), (.int x3)] 5 = mkF m 0 #[.val (.ref x0), .val (.ref x1), .val (.int x2), .val (.int x3), .unset] [] := by first | (simp [entryFrame, mkF, argsToLocals, Value.category]; done) | rfl
def Q23 (Z : State) (o1 : Addr) (o2 : Addr) (kc4 : ClassId) (p3 : Int32) (p9 : Int32) (p10 : Int32) (p11 : Int32) (p12 : Int32) (p13 : Int32) (p14 : Int32) (v5 : Addr) (v6 : Addr) (v7 : Addr) (kc8 : ClassId) (h0 : Heap) (n0 : Nat) (v : Option Value) (h : Heap) (L : List Loc) : Prop :=
  ((p12 = p3) ∧ (p9 = p3) ∧ v = some (.int (1 : Int32)) ∧ Fr n0 L ∧ h = h0)
  ∨ ((p12 = p3) ∧ (¬ (p9 = p3)) ∧ v = some (.int (0 : Int32)) ∧ Fr n0 L ∧ h = h0)
  ∨ ((¬ (p12 = p3)) ∧ v = some (.int (0 : Int32)) ∧ Fr n0 L ∧ h = h0)
set_option maxRecDepth 65536 in
set_option maxHeartbeats 40000000 in
theorem rm23 (l : Launch) (Z : State) (a0 : Array Value) (hw : ∀ d ∈ tables_1, d.before a0 Z = true) (ws : List Jvm.Cond) (o1 : Addr) (o2 : Addr) (kc4 : ClassId) (p3 : Int32) (p9 : Int32) (p10 : Int32) (p11 : Int32) (p12 : Int32) (p13 : Int32) (p14 : Int32) (v5 : Addr) (v6 : Addr) (v7 : Addr) (kc8 : ClassId) (h0 : Heap) (n0 : Nat) (O0 : Old Z n0 h0) (g_o1 : n0 ≤ o1) (g_o2 : n0 ≤ o2) (Ov_kc4 : Ovr Z kc4 "java/lang/Boolean") (bd_p3 : 0 ≤ p3.toInt ∧ p3.toInt ≤ 1) (bd_p9 : 0 ≤ p9.toInt ∧ p9.toInt ≤ 1) (bd_p10 : 0 ≤ p10.toInt ∧ p10.toInt ≤ 1) (bd_p11 : 0 ≤ p11.toInt ∧ p11.toInt ≤ 1) (bd_p12 : 0 ≤ p12.toInt ∧ p12.toInt ≤ 1) (bd_p13 : 0 ≤ p13.toInt ∧ p13.toInt ≤ 1) (bd_p14 : 0 ≤ p14.toInt ∧ p14.toInt ≤ 1) (P0 : Arv Z h0 o1 kc4 (.object "java/lang/Boolean") (3 : Int32) [(.ref v5), (.ref v6), (.ref v7)] .null) (P2 : Arv Z h0 o2 kc8 .boolean (3 : Int32) [(.int p9), (.int p10), (.int p11)] (.int (0 : Int32))) (P4 : Exa Z Z.heap v5 "java/lang/Boolean") (P5 : Fld Z Z.heap v5 "java/lang/Boolean" "value" "Z" (.int p12)) :
    MetFree l yn2 (head1 (Jvm.Cond.code yn2 method_3_code 5 (some .boolean) :: ws) ({ frames := 1, cells := 0, slots := 0, locals := 12 } : Room)) (fun a U => a = #[(.ref o1), (.ref o2), (.int (0 : Int32)), (.int p3)] ∧ Z.Warmed39 U.vm ∧ U.heap = h0) (fun _ _ _ _ _ => True) (fun _ U o U' => ∃ v L, o = .returned v ∧ Q23 Z o1 o2 kc4 p3 p9 p10 p11 p12 p13 p14 v5 v6 v7 kc8 h0 n0 v U'.heap L ∧ FrameEnd U o U' L ({ frames := 1, cells := 0, slots := 0, locals := 12 } : Room).cells ({ frames := 1, cells := 0, slots := 0, locals := 12 } : Room).slots) := by
  refine MetFree.of_bodySF (plainFor_of_name pn2) hisR ?_
  intro p e s m args below meth c s₁ Bd hml0 hP hK
  obtain ⟨rfl, hZ, hh⟩ := hP
  have hx := Bd.exec
  have hby := Bd.bytes
  have hml : c.maxLocals = 5 := hml0
  have hown : s.vm.findClass "com/example/castless/castless/PrimitiveArraysBox333PinLaw" = some m.cls := findClass_of_methodNamed Bd.named
  have hnm := (name_of_methodNamed Bd.named Bd.method).1
  have hret := Bd.returns
  have hlk : meth.locks = false := BodyLoose.notSynchronized Bd
  have X0 : Stand p l e ({ frames := 1, cells := 0, slots := 0, locals := 12 } : Room) s m #[(.ref o1), (.ref o2), (.int (0 : Int32)), (.int p3)] below meth c s₁ [] 0 0 := Stand.of_body Bd
  have e0 : s₁.heap = h0 := by rw [← hh, Bd.state]; rfl
  have N0 := Fr.nil n0
  have pre0 : ∀ t, Steps p.tables e below (s₁.setTop (mkF m 0 #[.val (.ref o1), .val (.ref o2), .val (.int (0 : Int32)), .val (.int p3), .unset] [])) t → Steps p.tables e below (s₁.setTop (entryFrame m #[(.ref o1), (.ref o2), (.int (0 : Int32)), (.int p3)] 5)) t := fun t k => castTop (ef23 m o1 o2 (0 : Int32) p3) k
  obtain ⟨cl1, Ar1, qa1, Sa1, Na1, Ha1, Ga1⟩ := id (P2)
  obtain ⟨cl2, Ar2, qa2, Sa2, Na2, Ha2, Ga2⟩ := id (P0)
  have hin2 : ¬ ((0 : Int32) < 0 ∨ cl2.slots.size ≤ ((0 : Int32)).toNatClampNeg) := inb_of Sa2 ⟨by decide, by decide⟩
  have hat2 : cl2.slots[((0 : Int32)).toNatClampNeg]? = some (.ref v5) := Has.at Ha2 hin2 rfl
  obtain ⟨cq3, kq3, q3a, q3b, q3c⟩ := isOf hZ e0 (P4.ext O0.2)
  obtain ⟨_, _, ⟨T4, L4, c4, n4⟩, -, X4, ⟨Lc4, hQ4, l4, y4, z4⟩, st4⟩ := X0.virtualBack hx (y := yn4) (z := yn4) hown (mvT hZ (own_w hw 31 rfl)) (mvT hZ (own_w hw 32 rfl)) (notFace_of_selects (args := #[]) (mvT hZ (own_w hw 34 rfl))) (mvT hZ (own_w hw 34 rfl)) (mvT hZ (own_w hw 33 rfl)) (by decide) (backOf (W := 0) (rm10 l Z a0 hw [] p12 v5 h0 n0 O0 (by have q0 := bd_p12; omega) P5) hZ (own_w hw 35 rfl) (own_w hw 26 rfl) (by decide) (by decide)) q3a q3c (g := (mkF m 20 #[.val (.ref o1), .val (.ref o2), .val (.int (0 : Int32)), .val (.int p3), .val (.ref v5)] [(.ref v5)])) rfl (by rw [hml]; rfl) (Steps.refl _) (argsL := []) (rest := []) (lenOf pd4 rfl) rfl (by show 2 * 0 + _ ≤ _; exact Nat.le_of_eq rfl) (hb hby d2_20) (fun _ _ => ⟨rfl, e0, (by decide : 0 + 0 ≤ _), (by decide : 0 + 0 ≤ _)⟩)
  dsimp only [Pt.U, Pt.locs, Pt.cells, Pt.slots] at X4 l4 y4 z4 st4 hQ4
  subst l4 y4 z4
  have X4 : Stand p l e ({ frames := 1, cells := 0, slots := 0, locals := 12 } : Room) s m #[(.ref o1), (.ref o2), (.int (0 : Int32)), (.int p3)] below meth c T4 _ 0 0 := X4
  obtain ⟨rfl, Nq5, e6⟩ := hQ4
  have N4 := Fr.app N0 Nq5
  have pre7 : ∀ t, Steps p.tables e below (T4.setTop (mkF m 24 #[.val (.ref o1), .val (.ref o2), .val (.int (0 : Int32)), .val (.int p3), .val (.ref v5)] [(.int p3), (.int p12)])) t → Steps p.tables e below (s₁.setTop (entryFrame m #[(.ref o1), (.ref o2), (.int (0 : Int32)), (.int p3)] 5)) t := fun t k => by
    refine pre0 _ ?_
    show Steps p.tables e below (s₁.setTop (mkF m 0 #[.val (.ref o1), .val (.ref o2), .val (.int (0 : Int32)), .val (.int p3), .unset] [])) _
    refine XS.iloadN X0.here hx rfl (hb hby d2_0) rfl ?_
    refine XS.aloadN X0.here hx rfl (hb hby d2_1) rfl rfl ?_
    refine X0.arraylength hx (by rw [e0]; exact Ar1.1) (State.isArrayOf_alike hZ.alike Ar1.2.1) (g := (mkF m 2 #[.val (.ref o1), .val (.ref o2), .val (.int (0 : Int32)), .val (.int p3), .unset] [(.ref o2), (.int (0 : Int32))])) rfl rfl (hb hby d2_2) _ ?_
    rw [len_of Sa1 Na1]
    refine XS.icmpYes X0.here hx rfl (pc0 := 3) (pc' := 8) rfl (hb hby d2_3) rfl (tlt (by decide : (0 : Int32) < (3 : Int32))).1 (by decide) (by decide) ?_
    refine XS.aloadN X0.here hx rfl (hb hby d2_8) rfl rfl ?_
    refine XS.iloadN X0.here hx rfl (hb hby d2_9) rfl ?_
    refine X0.aaload hx (j := (0 : Int32)) (v := (.ref v5)) (by rw [e0]; exact Ar2.1) (State.isArrayOf_alike hZ.alike Ar2.2.1) rfl Ar2.2.2 hin2 hat2 (g := (mkF m 10 #[.val (.ref o1), .val (.ref o2), .val (.int (0 : Int32)), .val (.int p3), .unset] [(.int (0 : Int32)), (.ref o1)])) rfl rfl (hb hby d2_10) _ ?_
    refine XS.astore X0.here hx rfl (hb hby d2_11) rfl rfl (l' := #[.val (.ref o1), .val (.ref o2), .val (.int (0 : Int32)), .val (.int p3), .val (.ref v5)]) rfl ?_
    refine XS.aload X0.here hx rfl (hb hby d2_13) rfl rfl ?_
    refine XS.ifnullNo X0.here hx rfl (hb hby d2_15) rfl ?_
    refine XS.aload X0.here hx rfl (hb hby d2_18) rfl rfl ?_
    refine st4.trans ?_
    refine XS.iloadN X4.here hx rfl (hb hby d2_23) rfl ?_
    exact k
  by_cases hc8 : p12 = p3
  ·
    obtain ⟨cl9, Ar9, qa9, Sa9, Na9, Ha9, Ga9⟩ := id (P2)
    have hin9 : ¬ ((0 : Int32) < 0 ∨ cl9.slots.size ≤ ((0 : Int32)).toNatClampNeg) := inb_of Sa9 ⟨by decide, by decide⟩
    have hat9 : cl9.slots[((0 : Int32)).toNatClampNeg]? = some (.int p9) := Has.at Ha9 hin9 rfl
    have pre10 : ∀ t, Steps p.tables e below (T4.setTop (mkF m 31 #[.val (.ref o1), .val (.ref o2), .val (.int (0 : Int32)), .val (.int p3), .val (.ref v5)] [(.int p3), (.int p9)])) t → Steps p.tables e below (s₁.setTop (entryFrame m #[(.ref o1), (.ref o2), (.int (0 : Int32)), (.int p3)] 5)) t := fun t k => by
      refine pre7 _ ?_
      show Steps p.tables e below (T4.setTop (mkF m 24 #[.val (.ref o1), .val (.ref o2), .val (.int (0 : Int32)), .val (.int p3), .val (.ref v5)] [(.int p3), (.int p12)])) _
      refine XS.icmpNo X4.here hx rfl (hb hby d2_24) rfl (teq hc8).2 ?_
      refine XS.aloadN X4.here hx rfl (hb hby d2_27) rfl rfl ?_
      refine XS.iloadN X4.here hx rfl (hb hby d2_28) rfl ?_
      refine X4.baloadBooleans hx (j := (0 : Int32)) (v := (.int p9)) (by rw [e6]; exact Ar9.1) (State.isArrayOf_alike hZ.alike Ar9.2.1) Ar9.2.2 hin9 hat9 (g := (mkF m 29 #[.val (.ref o1), .val (.ref o2), .val (.int (0 : Int32)), .val (.int p3), .val (.ref v5)] [(.int (0 : Int32)), (.ref o2)])) rfl rfl (hb hby d2_29) _ ?_
      refine XS.iloadN X4.here hx rfl (hb hby d2_30) rfl ?_
      exact k
    by_cases hc11 : p9 = p3
    ·
      obtain ⟨fs, hr, hrun, hended, hW, hsame⟩ := X4.leave (v := some (.int (1 : Int32))) (fun h => by rw [hret] at h; cases h)
      refine ⟨_, _, pre10 _ ?_, hrun, hended, _, _, rfl, ?_, ⟨_, rfl⟩, hW, hsame.mono (by decide) (by decide)⟩
      ·
        show Steps p.tables e below (T4.setTop (mkF m 31 #[.val (.ref o1), .val (.ref o2), .val (.int (0 : Int32)), .val (.int p3), .val (.ref v5)] [(.int p3), (.int p9)])) _
        refine XS.icmpNo X4.here hx rfl (hb hby d2_31) rfl (teq hc11).2 ?_
        refine XS.iconst X4.here hx rfl (hb hby d2_34) ?_
        refine XS.goto X4.here hx rfl (pc0 := 35) (pc' := 39) rfl (hb hby d2_35) (by decide) (by decide) ?_
        show Steps p.tables e below (T4.setTop (mkF m 39 #[.val (.ref o1), .val (.ref o2), .val (.int (0 : Int32)), .val (.int p3), .val (.ref v5)] [(.int (1 : Int32))])) _
        exact retN X4 hx (t := .boolean) hret (by simp) (hb hby d2_39) hr
      ·
        show Q23 Z o1 o2 kc4 p3 p9 p10 p11 p12 p13 p14 v5 v6 v7 kc8 h0 n0 _ T4.heap _
        rw [e6]
        exact (Or.inl ⟨hc8, hc11, rfl, N4, rfl⟩)
    ·
      obtain ⟨fs, hr, hrun, hended, hW, hsame⟩ := X4.leave (v := some (.int (0 : Int32))) (fun h => by rw [hret] at h; cases h)
      refine ⟨_, _, pre10 _ ?_, hrun, hended, _, _, rfl, ?_, ⟨_, rfl⟩, hW, hsame.mono (by decide) (by decide)⟩
      ·
        show Steps p.tables e below (T4.setTop (mkF m 31 #[.val (.ref o1), .val (.ref o2), .val (.int (0 : Int32)), .val (.int p3), .val (.ref v5)] [(.int p3), (.int p9)])) _
        refine XS.icmpYes X4.here hx rfl (pc0 := 31) (pc' := 38) rfl (hb hby d2_31) rfl (feq hc11).2 (by decide) (by decide) ?_
        refine XS.iconst X4.here hx rfl (hb hby d2_38) ?_
        show Steps p.tables e below (T4.setTop (mkF m 39 #[.val (.ref o1), .val (.ref o2), .val (.int (0 : Int32)), .val (.int p3), .val (.ref v5)] [(.int (0 : Int32))])) _
        exact retN X4 hx (t := .boolean) hret (by simp) (hb hby d2_39) hr
      ·
        show Q23 Z o1 o2 kc4 p3 p9 p10 p11 p12 p13 p14 v5 v6 v7 kc8 h0 n0 _ T4.heap _
        rw [e6]
        exact (Or.inr (Or.inl ⟨hc8, hc11, rfl, N4, rfl⟩))
  ·
    obtain ⟨fs, hr, hrun, hended, hW, hsame⟩ := X4.leave (v := some (.int (0 : Int32))) (fun h => by rw [hret] at h; cases h)
    refine ⟨_, _, pre7 _ ?_, hrun, hended, _, _, rfl, ?_, ⟨_, rfl⟩, hW, hsame.mono (by decide) (by decide)⟩
    ·
      show Steps p.tables e below (T4.setTop (mkF m 24 #[.val (.ref o1), .val (.ref o2), .val (.int (0 : Int32)), .val (.int p3), .val (.ref v5)] [(.int p3), (.int p12)])) _
      refine XS.icmpYes X4.here hx rfl (pc0 := 24) (pc' := 38) rfl (hb hby d2_24) rfl (feq hc8).2 (by decide) (by decide) ?_
      refine XS.iconst X4.here hx rfl (hb hby d2_38) ?_
      show Steps p.tables e below (T4.setTop (mkF m 39 #[.val (.ref o1), .val (.ref o2), .val (.int (0 : Int32)), .val (.int p3), .val (.ref v5)] [(.int (0 : Int32))])) _
      exact retN X4 hx (t := .boolean) hret (by simp) (hb hby d2_39) hr
    ·
      show Q23 Z o1 o2 kc4 p3 p9 p10 p11 p12 p13 p14 v5 v6 v7 kc8 h0 n0 _ T4.heap _
      rw [e6]
      exact (Or.inr (Or.inr ⟨hc8, rfl, N4, rfl⟩))
theorem ef24 (m : MethodId) (x0 : Addr) (x1 : Addr) (x2 : Int32) (x3 : Int32) : entryFrame m #[(.ref x0), (.ref x1), (.int x2), (.int x3)] 5 = mkF m 0 #[.val (.ref x0), .val (.ref x1), .val (.int x2), .val (.int x3), .unset] [] := by first | (simp [entryFrame, mkF, argsToLocals, Value.category]; done) | rfl
def Q24 (Z : State) (o1 : Addr) (o2 : Addr) (kc4 : ClassId) (p3 : Int32) (p9 : Int32) (p10 : Int32) (p11 : Int32) (p12 : Int32) (p13 : Int32) (p14 : Int32) (v5 : Addr) (v6 : Addr) (v7 : Addr) (kc8 : ClassId) (h0 : Heap) (n0 : Nat) (v : Option Value) (h : Heap) (L : List Loc) : Prop :=
  ((p13 = p3) ∧ (p10 = p3) ∧ v = some (.int (1 : Int32)) ∧ Fr n0 L ∧ h = h0)
  ∨ ((p13 = p3) ∧ (¬ (p10 = p3)) ∧ v = some (.int (0 : Int32)) ∧ Fr n0 L ∧ h = h0)
  ∨ ((¬ (p13 = p3)) ∧ v = some (.int (0 : Int32)) ∧ Fr n0 L ∧ h = h0)
set_option maxRecDepth 65536 in
set_option maxHeartbeats 40000000 in
theorem rm24 (l : Launch) (Z : State) (a0 : Array Value) (hw : ∀ d ∈ tables_1, d.before a0 Z = true) (ws : List Jvm.Cond) (o1 : Addr) (o2 : Addr) (kc4 : ClassId) (p3 : Int32) (p9 : Int32) (p10 : Int32) (p11 : Int32) (p12 : Int32) (p13 : Int32) (p14 : Int32) (v5 : Addr) (v6 : Addr) (v7 : Addr) (kc8 : ClassId) (h0 : Heap) (n0 : Nat) (O0 : Old Z n0 h0) (g_o1 : n0 ≤ o1) (g_o2 : n0 ≤ o2) (Ov_kc4 : Ovr Z kc4 "java/lang/Boolean") (bd_p3 : 0 ≤ p3.toInt ∧ p3.toInt ≤ 1) (bd_p9 : 0 ≤ p9.toInt ∧ p9.toInt ≤ 1) (bd_p10 : 0 ≤ p10.toInt ∧ p10.toInt ≤ 1) (bd_p11 : 0 ≤ p11.toInt ∧ p11.toInt ≤ 1) (bd_p12 : 0 ≤ p12.toInt ∧ p12.toInt ≤ 1) (bd_p13 : 0 ≤ p13.toInt ∧ p13.toInt ≤ 1) (bd_p14 : 0 ≤ p14.toInt ∧ p14.toInt ≤ 1) (P0 : Arv Z h0 o1 kc4 (.object "java/lang/Boolean") (3 : Int32) [(.ref v5), (.ref v6), (.ref v7)] .null) (P2 : Arv Z h0 o2 kc8 .boolean (3 : Int32) [(.int p9), (.int p10), (.int p11)] (.int (0 : Int32))) (P6 : Exa Z Z.heap v6 "java/lang/Boolean") (P7 : Fld Z Z.heap v6 "java/lang/Boolean" "value" "Z" (.int p13)) :
    MetFree l yn2 (head1 (Jvm.Cond.code yn2 method_3_code 5 (some .boolean) :: ws) ({ frames := 1, cells := 0, slots := 0, locals := 12 } : Room)) (fun a U => a = #[(.ref o1), (.ref o2), (.int (1 : Int32)), (.int p3)] ∧ Z.Warmed39 U.vm ∧ U.heap = h0) (fun _ _ _ _ _ => True) (fun _ U o U' => ∃ v L, o = .returned v ∧ Q24 Z o1 o2 kc4 p3 p9 p10 p11 p12 p13 p14 v5 v6 v7 kc8 h0 n0 v U'.heap L ∧ FrameEnd U o U' L ({ frames := 1, cells := 0, slots := 0, locals := 12 } : Room).cells ({ frames := 1, cells := 0, slots := 0, locals := 12 } : Room).slots) := by
  refine MetFree.of_bodySF (plainFor_of_name pn2) hisR ?_
  intro p e s m args below meth c s₁ Bd hml0 hP hK
  obtain ⟨rfl, hZ, hh⟩ := hP
  have hx := Bd.exec
  have hby := Bd.bytes
  have hml : c.maxLocals = 5 := hml0
  have hown : s.vm.findClass "com/example/castless/castless/PrimitiveArraysBox333PinLaw" = some m.cls := findClass_of_methodNamed Bd.named
  have hnm := (name_of_methodNamed Bd.named Bd.method).1
  have hret := Bd.returns
  have hlk : meth.locks = false := BodyLoose.notSynchronized Bd
  have X0 : Stand p l e ({ frames := 1, cells := 0, slots := 0, locals := 12 } : Room) s m #[(.ref o1), (.ref o2), (.int (1 : Int32)), (.int p3)] below meth c s₁ [] 0 0 := Stand.of_body Bd
  have e0 : s₁.heap = h0 := by rw [← hh, Bd.state]; rfl
  have N0 := Fr.nil n0
  have pre0 : ∀ t, Steps p.tables e below (s₁.setTop (mkF m 0 #[.val (.ref o1), .val (.ref o2), .val (.int (1 : Int32)), .val (.int p3), .unset] [])) t → Steps p.tables e below (s₁.setTop (entryFrame m #[(.ref o1), (.ref o2), (.int (1 : Int32)), (.int p3)] 5)) t := fun t k => castTop (ef24 m o1 o2 (1 : Int32) p3) k
  obtain ⟨cl1, Ar1, qa1, Sa1, Na1, Ha1, Ga1⟩ := id (P2)
  obtain ⟨cl2, Ar2, qa2, Sa2, Na2, Ha2, Ga2⟩ := id (P0)
  have hin2 : ¬ ((1 : Int32) < 0 ∨ cl2.slots.size ≤ ((1 : Int32)).toNatClampNeg) := inb_of Sa2 ⟨by decide, by decide⟩
  have hat2 : cl2.slots[((1 : Int32)).toNatClampNeg]? = some (.ref v6) := Has.at Ha2 hin2 rfl
  obtain ⟨cq3, kq3, q3a, q3b, q3c⟩ := isOf hZ e0 (P6.ext O0.2)
  obtain ⟨_, _, ⟨T4, L4, c4, n4⟩, -, X4, ⟨Lc4, hQ4, l4, y4, z4⟩, st4⟩ := X0.virtualBack hx (y := yn4) (z := yn4) hown (mvT hZ (own_w hw 31 rfl)) (mvT hZ (own_w hw 32 rfl)) (notFace_of_selects (args := #[]) (mvT hZ (own_w hw 34 rfl))) (mvT hZ (own_w hw 34 rfl)) (mvT hZ (own_w hw 33 rfl)) (by decide) (backOf (W := 0) (rm10 l Z a0 hw [] p13 v6 h0 n0 O0 (by have q0 := bd_p13; omega) P7) hZ (own_w hw 35 rfl) (own_w hw 26 rfl) (by decide) (by decide)) q3a q3c (g := (mkF m 20 #[.val (.ref o1), .val (.ref o2), .val (.int (1 : Int32)), .val (.int p3), .val (.ref v6)] [(.ref v6)])) rfl (by rw [hml]; rfl) (Steps.refl _) (argsL := []) (rest := []) (lenOf pd4 rfl) rfl (by show 2 * 0 + _ ≤ _; exact Nat.le_of_eq rfl) (hb hby d2_20) (fun _ _ => ⟨rfl, e0, (by decide : 0 + 0 ≤ _), (by decide : 0 + 0 ≤ _)⟩)
  dsimp only [Pt.U, Pt.locs, Pt.cells, Pt.slots] at X4 l4 y4 z4 st4 hQ4
  subst l4 y4 z4
  have X4 : Stand p l e ({ frames := 1, cells := 0, slots := 0, locals := 12 } : Room) s m #[(.ref o1), (.ref o2), (.int (1 : Int32)), (.int p3)] below meth c T4 _ 0 0 := X4
  obtain ⟨rfl, Nq5, e6⟩ := hQ4
  have N4 := Fr.app N0 Nq5
  have pre7 : ∀ t, Steps p.tables e below (T4.setTop (mkF m 24 #[.val (.ref o1), .val (.ref o2), .val (.int (1 : Int32)), .val (.int p3), .val (.ref v6)] [(.int p3), (.int p13)])) t → Steps p.tables e below (s₁.setTop (entryFrame m #[(.ref o1), (.ref o2), (.int (1 : Int32)), (.int p3)] 5)) t := fun t k => by
    refine pre0 _ ?_
    show Steps p.tables e below (s₁.setTop (mkF m 0 #[.val (.ref o1), .val (.ref o2), .val (.int (1 : Int32)), .val (.int p3), .unset] [])) _
    refine XS.iloadN X0.here hx rfl (hb hby d2_0) rfl ?_
    refine XS.aloadN X0.here hx rfl (hb hby d2_1) rfl rfl ?_
    refine X0.arraylength hx (by rw [e0]; exact Ar1.1) (State.isArrayOf_alike hZ.alike Ar1.2.1) (g := (mkF m 2 #[.val (.ref o1), .val (.ref o2), .val (.int (1 : Int32)), .val (.int p3), .unset] [(.ref o2), (.int (1 : Int32))])) rfl rfl (hb hby d2_2) _ ?_
    rw [len_of Sa1 Na1]
    refine XS.icmpYes X0.here hx rfl (pc0 := 3) (pc' := 8) rfl (hb hby d2_3) rfl (tlt (by decide : (1 : Int32) < (3 : Int32))).1 (by decide) (by decide) ?_
    refine XS.aloadN X0.here hx rfl (hb hby d2_8) rfl rfl ?_
    refine XS.iloadN X0.here hx rfl (hb hby d2_9) rfl ?_
    refine X0.aaload hx (j := (1 : Int32)) (v := (.ref v6)) (by rw [e0]; exact Ar2.1) (State.isArrayOf_alike hZ.alike Ar2.2.1) rfl Ar2.2.2 hin2 hat2 (g := (mkF m 10 #[.val (.ref o1), .val (.ref o2), .val (.int (1 : Int32)), .val (.int p3), .unset] [(.int (1 : Int32)), (.ref o1)])) rfl rfl (hb hby d2_10) _ ?_
    refine XS.astore X0.here hx rfl (hb hby d2_11) rfl rfl (l' := #[.val (.ref o1), .val (.ref o2), .val (.int (1 : Int32)), .val (.int p3), .val (.ref v6)]) rfl ?_
    refine XS.aload X0.here hx rfl (hb hby d2_13) rfl rfl ?_
    refine XS.ifnullNo X0.here hx rfl (hb hby d2_15) rfl ?_
    refine XS.aload X0.here hx rfl (hb hby d2_18) rfl rfl ?_
    refine st4.trans ?_
    refine XS.iloadN X4.here hx rfl (hb hby d2_23) rfl ?_
    exact k
  by_cases hc8 : p13 = p3
  ·
    obtain ⟨cl9, Ar9, qa9, Sa9, Na9, Ha9, Ga9⟩ := id (P2)
    have hin9 : ¬ ((1 : Int32) < 0 ∨ cl9.slots.size ≤ ((1 : Int32)).toNatClampNeg) := inb_of Sa9 ⟨by decide, by decide⟩
    have hat9 : cl9.slots[((1 : Int32)).toNatClampNeg]? = some (.int p10) := Has.at Ha9 hin9 rfl
    have pre10 : ∀ t, Steps p.tables e below (T4.setTop (mkF m 31 #[.val (.ref o1), .val (.ref o2), .val (.int (1 : Int32)), .val (.int p3), .val (.ref v6)] [(.int p3), (.int p10)])) t → Steps p.tables e below (s₁.setTop (entryFrame m #[(.ref o1), (.ref o2), (.int (1 : Int32)), (.int p3)] 5)) t := fun t k => by
      refine pre7 _ ?_
      show Steps p.tables e below (T4.setTop (mkF m 24 #[.val (.ref o1), .val (.ref o2), .val (.int (1 : Int32)), .val (.int p3), .val (.ref v6)] [(.int p3), (.int p13)])) _
      refine XS.icmpNo X4.here hx rfl (hb hby d2_24) rfl (teq hc8).2 ?_
      refine XS.aloadN X4.here hx rfl (hb hby d2_27) rfl rfl ?_
      refine XS.iloadN X4.here hx rfl (hb hby d2_28) rfl ?_
      refine X4.baloadBooleans hx (j := (1 : Int32)) (v := (.int p10)) (by rw [e6]; exact Ar9.1) (State.isArrayOf_alike hZ.alike Ar9.2.1) Ar9.2.2 hin9 hat9 (g := (mkF m 29 #[.val (.ref o1), .val (.ref o2), .val (.int (1 : Int32)), .val (.int p3), .val (.ref v6)] [(.int (1 : Int32)), (.ref o2)])) rfl rfl (hb hby d2_29) _ ?_
      refine XS.iloadN X4.here hx rfl (hb hby d2_30) rfl ?_
      exact k
    by_cases hc11 : p10 = p3
    ·
      obtain ⟨fs, hr, hrun, hended, hW, hsame⟩ := X4.leave (v := some (.int (1 : Int32))) (fun h => by rw [hret] at h; cases h)
      refine ⟨_, _, pre10 _ ?_, hrun, hended, _, _, rfl, ?_, ⟨_, rfl⟩, hW, hsame.mono (by decide) (by decide)⟩
      ·
        show Steps p.tables e below (T4.setTop (mkF m 31 #[.val (.ref o1), .val (.ref o2), .val (.int (1 : Int32)), .val (.int p3), .val (.ref v6)] [(.int p3), (.int p10)])) _
        refine XS.icmpNo X4.here hx rfl (hb hby d2_31) rfl (teq hc11).2 ?_
        refine XS.iconst X4.here hx rfl (hb hby d2_34) ?_
        refine XS.goto X4.here hx rfl (pc0 := 35) (pc' := 39) rfl (hb hby d2_35) (by decide) (by decide) ?_
        show Steps p.tables e below (T4.setTop (mkF m 39 #[.val (.ref o1), .val (.ref o2), .val (.int (1 : Int32)), .val (.int p3), .val (.ref v6)] [(.int (1 : Int32))])) _
        exact retN X4 hx (t := .boolean) hret (by simp) (hb hby d2_39) hr
      ·
        show Q24 Z o1 o2 kc4 p3 p9 p10 p11 p12 p13 p14 v5 v6 v7 kc8 h0 n0 _ T4.heap _
        rw [e6]
        exact (Or.inl ⟨hc8, hc11, rfl, N4, rfl⟩)
    ·
      obtain ⟨fs, hr, hrun, hended, hW, hsame⟩ := X4.leave (v := some (.int (0 : Int32))) (fun h => by rw [hret] at h; cases h)
      refine ⟨_, _, pre10 _ ?_, hrun, hended, _, _, rfl, ?_, ⟨_, rfl⟩, hW, hsame.mono (by decide) (by decide)⟩
      ·
        show Steps p.tables e below (T4.setTop (mkF m 31 #[.val (.ref o1), .val (.ref o2), .val (.int (1 : Int32)), .val (.int p3), .val (.ref v6)] [(.int p3), (.int p10)])) _
        refine XS.icmpYes X4.here hx rfl (pc0 := 31) (pc' := 38) rfl (hb hby d2_31) rfl (feq hc11).2 (by decide) (by decide) ?_
        refine XS.iconst X4.here hx rfl (hb hby d2_38) ?_
        show Steps p.tables e below (T4.setTop (mkF m 39 #[.val (.ref o1), .val (.ref o2), .val (.int (1 : Int32)), .val (.int p3), .val (.ref v6)] [(.int (0 : Int32))])) _
        exact retN X4 hx (t := .boolean) hret (by simp) (hb hby d2_39) hr
      ·
        show Q24 Z o1 o2 kc4 p3 p9 p10 p11 p12 p13 p14 v5 v6 v7 kc8 h0 n0 _ T4.heap _
        rw [e6]
        exact (Or.inr (Or.inl ⟨hc8, hc11, rfl, N4, rfl⟩))
  ·
    obtain ⟨fs, hr, hrun, hended, hW, hsame⟩ := X4.leave (v := some (.int (0 : Int32))) (fun h => by rw [hret] at h; cases h)
    refine ⟨_, _, pre7 _ ?_, hrun, hended, _, _, rfl, ?_, ⟨_, rfl⟩, hW, hsame.mono (by decide) (by decide)⟩
    ·
      show Steps p.tables e below (T4.setTop (mkF m 24 #[.val (.ref o1), .val (.ref o2), .val (.int (1 : Int32)), .val (.int p3), .val (.ref v6)] [(.int p3), (.int p13)])) _
      refine XS.icmpYes X4.here hx rfl (pc0 := 24) (pc' := 38) rfl (hb hby d2_24) rfl (feq hc8).2 (by decide) (by decide) ?_
      refine XS.iconst X4.here hx rfl (hb hby d2_38) ?_
      show Steps p.tables e below (T4.setTop (mkF m 39 #[.val (.ref o1), .val (.ref o2), .val (.int (1 : Int32)), .val (.int p3), .val (.ref v6)] [(.int (0 : Int32))])) _
      exact retN X4 hx (t := .boolean) hret (by simp) (hb hby d2_39) hr
    ·
      show Q24 Z o1 o2 kc4 p3 p9 p10 p11 p12 p13 p14 v5 v6 v7 kc8 h0 n0 _ T4.heap _
      rw [e6]
      exact (Or.inr (Or.inr ⟨hc8, rfl, N4, rfl⟩))
theorem ef25 (m : MethodId) (x0 : Addr) (x1 : Addr) (x2 : Int32) (x3 : Int32) : entryFrame m #[(.ref x0), (.ref x1), (.int x2), (.int x3)] 5 = mkF m 0 #[.val (.ref x0), .val (.ref x1), .val (.int x2), .val (.int x3), .unset] [] := by first | (simp [entryFrame, mkF, argsToLocals, Value.category]; done) | rfl
def Q25 (Z : State) (o1 : Addr) (o2 : Addr) (kc4 : ClassId) (p3 : Int32) (p9 : Int32) (p10 : Int32) (p11 : Int32) (p12 : Int32) (p13 : Int32) (p14 : Int32) (v5 : Addr) (v6 : Addr) (v7 : Addr) (kc8 : ClassId) (h0 : Heap) (n0 : Nat) (v : Option Value) (h : Heap) (L : List Loc) : Prop :=
  ((p14 = p3) ∧ (p11 = p3) ∧ v = some (.int (1 : Int32)) ∧ Fr n0 L ∧ h = h0)
  ∨ ((p14 = p3) ∧ (¬ (p11 = p3)) ∧ v = some (.int (0 : Int32)) ∧ Fr n0 L ∧ h = h0)
  ∨ ((¬ (p14 = p3)) ∧ v = some (.int (0 : Int32)) ∧ Fr n0 L ∧ h = h0)
set_option maxRecDepth 65536 in
set_option maxHeartbeats 40000000 in
theorem rm25 (l : Launch) (Z : State) (a0 : Array Value) (hw : ∀ d ∈ tables_1, d.before a0 Z = true) (ws : List Jvm.Cond) (o1 : Addr) (o2 : Addr) (kc4 : ClassId) (p3 : Int32) (p9 : Int32) (p10 : Int32) (p11 : Int32) (p12 : Int32) (p13 : Int32) (p14 : Int32) (v5 : Addr) (v6 : Addr) (v7 : Addr) (kc8 : ClassId) (h0 : Heap) (n0 : Nat) (O0 : Old Z n0 h0) (g_o1 : n0 ≤ o1) (g_o2 : n0 ≤ o2) (Ov_kc4 : Ovr Z kc4 "java/lang/Boolean") (bd_p3 : 0 ≤ p3.toInt ∧ p3.toInt ≤ 1) (bd_p9 : 0 ≤ p9.toInt ∧ p9.toInt ≤ 1) (bd_p10 : 0 ≤ p10.toInt ∧ p10.toInt ≤ 1) (bd_p11 : 0 ≤ p11.toInt ∧ p11.toInt ≤ 1) (bd_p12 : 0 ≤ p12.toInt ∧ p12.toInt ≤ 1) (bd_p13 : 0 ≤ p13.toInt ∧ p13.toInt ≤ 1) (bd_p14 : 0 ≤ p14.toInt ∧ p14.toInt ≤ 1) (P0 : Arv Z h0 o1 kc4 (.object "java/lang/Boolean") (3 : Int32) [(.ref v5), (.ref v6), (.ref v7)] .null) (P2 : Arv Z h0 o2 kc8 .boolean (3 : Int32) [(.int p9), (.int p10), (.int p11)] (.int (0 : Int32))) (P8 : Exa Z Z.heap v7 "java/lang/Boolean") (P9 : Fld Z Z.heap v7 "java/lang/Boolean" "value" "Z" (.int p14)) :
    MetFree l yn2 (head1 (Jvm.Cond.code yn2 method_3_code 5 (some .boolean) :: ws) ({ frames := 1, cells := 0, slots := 0, locals := 12 } : Room)) (fun a U => a = #[(.ref o1), (.ref o2), (.int (2 : Int32)), (.int p3)] ∧ Z.Warmed39 U.vm ∧ U.heap = h0) (fun _ _ _ _ _ => True) (fun _ U o U' => ∃ v L, o = .returned v ∧ Q25 Z o1 o2 kc4 p3 p9 p10 p11 p12 p13 p14 v5 v6 v7 kc8 h0 n0 v U'.heap L ∧ FrameEnd U o U' L ({ frames := 1, cells := 0, slots := 0, locals := 12 } : Room).cells ({ frames := 1, cells := 0, slots := 0, locals := 12 } : Room).slots) := by
  refine MetFree.of_bodySF (plainFor_of_name pn2) hisR ?_
  intro p e s m args below meth c s₁ Bd hml0 hP hK
  obtain ⟨rfl, hZ, hh⟩ := hP
  have hx := Bd.exec
  have hby := Bd.bytes
  have hml : c.maxLocals = 5 := hml0
  have hown : s.vm.findClass "com/example/castless/castless/PrimitiveArraysBox333PinLaw" = some m.cls := findClass_of_methodNamed Bd.named
  have hnm := (name_of_methodNamed Bd.named Bd.method).1
  have hret := Bd.returns
  have hlk : meth.locks = false := BodyLoose.notSynchronized Bd
  have X0 : Stand p l e ({ frames := 1, cells := 0, slots := 0, locals := 12 } : Room) s m #[(.ref o1), (.ref o2), (.int (2 : Int32)), (.int p3)] below meth c s₁ [] 0 0 := Stand.of_body Bd
  have e0 : s₁.heap = h0 := by rw [← hh, Bd.state]; rfl
  have N0 := Fr.nil n0
  have pre0 : ∀ t, Steps p.tables e below (s₁.setTop (mkF m 0 #[.val (.ref o1), .val (.ref o2), .val (.int (2 : Int32)), .val (.int p3), .unset] [])) t → Steps p.tables e below (s₁.setTop (entryFrame m #[(.ref o1), (.ref o2), (.int (2 : Int32)), (.int p3)] 5)) t := fun t k => castTop (ef25 m o1 o2 (2 : Int32) p3) k
  obtain ⟨cl1, Ar1, qa1, Sa1, Na1, Ha1, Ga1⟩ := id (P2)
  obtain ⟨cl2, Ar2, qa2, Sa2, Na2, Ha2, Ga2⟩ := id (P0)
  have hin2 : ¬ ((2 : Int32) < 0 ∨ cl2.slots.size ≤ ((2 : Int32)).toNatClampNeg) := inb_of Sa2 ⟨by decide, by decide⟩
  have hat2 : cl2.slots[((2 : Int32)).toNatClampNeg]? = some (.ref v7) := Has.at Ha2 hin2 rfl
  obtain ⟨cq3, kq3, q3a, q3b, q3c⟩ := isOf hZ e0 (P8.ext O0.2)
  obtain ⟨_, _, ⟨T4, L4, c4, n4⟩, -, X4, ⟨Lc4, hQ4, l4, y4, z4⟩, st4⟩ := X0.virtualBack hx (y := yn4) (z := yn4) hown (mvT hZ (own_w hw 31 rfl)) (mvT hZ (own_w hw 32 rfl)) (notFace_of_selects (args := #[]) (mvT hZ (own_w hw 34 rfl))) (mvT hZ (own_w hw 34 rfl)) (mvT hZ (own_w hw 33 rfl)) (by decide) (backOf (W := 0) (rm10 l Z a0 hw [] p14 v7 h0 n0 O0 (by have q0 := bd_p14; omega) P9) hZ (own_w hw 35 rfl) (own_w hw 26 rfl) (by decide) (by decide)) q3a q3c (g := (mkF m 20 #[.val (.ref o1), .val (.ref o2), .val (.int (2 : Int32)), .val (.int p3), .val (.ref v7)] [(.ref v7)])) rfl (by rw [hml]; rfl) (Steps.refl _) (argsL := []) (rest := []) (lenOf pd4 rfl) rfl (by show 2 * 0 + _ ≤ _; exact Nat.le_of_eq rfl) (hb hby d2_20) (fun _ _ => ⟨rfl, e0, (by decide : 0 + 0 ≤ _), (by decide : 0 + 0 ≤ _)⟩)
  dsimp only [Pt.U, Pt.locs, Pt.cells, Pt.slots] at X4 l4 y4 z4 st4 hQ4
  subst l4 y4 z4
  have X4 : Stand p l e ({ frames := 1, cells := 0, slots := 0, locals := 12 } : Room) s m #[(.ref o1), (.ref o2), (.int (2 : Int32)), (.int p3)] below meth c T4 _ 0 0 := X4
  obtain ⟨rfl, Nq5, e6⟩ := hQ4
  have N4 := Fr.app N0 Nq5
  have pre7 : ∀ t, Steps p.tables e below (T4.setTop (mkF m 24 #[.val (.ref o1), .val (.ref o2), .val (.int (2 : Int32)), .val (.int p3), .val (.ref v7)] [(.int p3), (.int p14)])) t → Steps p.tables e below (s₁.setTop (entryFrame m #[(.ref o1), (.ref o2), (.int (2 : Int32)), (.int p3)] 5)) t := fun t k => by
    refine pre0 _ ?_
    show Steps p.tables e below (s₁.setTop (mkF m 0 #[.val (.ref o1), .val (.ref o2), .val (.int (2 : Int32)), .val (.int p3), .unset] [])) _
    refine XS.iloadN X0.here hx rfl (hb hby d2_0) rfl ?_
    refine XS.aloadN X0.here hx rfl (hb hby d2_1) rfl rfl ?_
    refine X0.arraylength hx (by rw [e0]; exact Ar1.1) (State.isArrayOf_alike hZ.alike Ar1.2.1) (g := (mkF m 2 #[.val (.ref o1), .val (.ref o2), .val (.int (2 : Int32)), .val (.int p3), .unset] [(.ref o2), (.int (2 : Int32))])) rfl rfl (hb hby d2_2) _ ?_
    rw [len_of Sa1 Na1]
    refine XS.icmpYes X0.here hx rfl (pc0 := 3) (pc' := 8) rfl (hb hby d2_3) rfl (tlt (by decide : (2 : Int32) < (3 : Int32))).1 (by decide) (by decide) ?_
    refine XS.aloadN X0.here hx rfl (hb hby d2_8) rfl rfl ?_
    refine XS.iloadN X0.here hx rfl (hb hby d2_9) rfl ?_
    refine X0.aaload hx (j := (2 : Int32)) (v := (.ref v7)) (by rw [e0]; exact Ar2.1) (State.isArrayOf_alike hZ.alike Ar2.2.1) rfl Ar2.2.2 hin2 hat2 (g := (mkF m 10 #[.val (.ref o1), .val (.ref o2), .val (.int (2 : Int32)), .val (.int p3), .unset] [(.int (2 : Int32)), (.ref o1)])) rfl rfl (hb hby d2_10) _ ?_
    refine XS.astore X0.here hx rfl (hb hby d2_11) rfl rfl (l' := #[.val (.ref o1), .val (.ref o2), .val (.int (2 : Int32)), .val (.int p3), .val (.ref v7)]) rfl ?_
    refine XS.aload X0.here hx rfl (hb hby d2_13) rfl rfl ?_
    refine XS.ifnullNo X0.here hx rfl (hb hby d2_15) rfl ?_
    refine XS.aload X0.here hx rfl (hb hby d2_18) rfl rfl ?_
    refine st4.trans ?_
    refine XS.iloadN X4.here hx rfl (hb hby d2_23) rfl ?_
    exact k
  by_cases hc8 : p14 = p3
  ·
    obtain ⟨cl9, Ar9, qa9, Sa9, Na9, Ha9, Ga9⟩ := id (P2)
    have hin9 : ¬ ((2 : Int32) < 0 ∨ cl9.slots.size ≤ ((2 : Int32)).toNatClampNeg) := inb_of Sa9 ⟨by decide, by decide⟩
    have hat9 : cl9.slots[((2 : Int32)).toNatClampNeg]? = some (.int p11) := Has.at Ha9 hin9 rfl
    have pre10 : ∀ t, Steps p.tables e below (T4.setTop (mkF m 31 #[.val (.ref o1), .val (.ref o2), .val (.int (2 : Int32)), .val (.int p3), .val (.ref v7)] [(.int p3), (.int p11)])) t → Steps p.tables e below (s₁.setTop (entryFrame m #[(.ref o1), (.ref o2), (.int (2 : Int32)), (.int p3)] 5)) t := fun t k => by
      refine pre7 _ ?_
      show Steps p.tables e below (T4.setTop (mkF m 24 #[.val (.ref o1), .val (.ref o2), .val (.int (2 : Int32)), .val (.int p3), .val (.ref v7)] [(.int p3), (.int p14)])) _
      refine XS.icmpNo X4.here hx rfl (hb hby d2_24) rfl (teq hc8).2 ?_
      refine XS.aloadN X4.here hx rfl (hb hby d2_27) rfl rfl ?_
      refine XS.iloadN X4.here hx rfl (hb hby d2_28) rfl ?_
      refine X4.baloadBooleans hx (j := (2 : Int32)) (v := (.int p11)) (by rw [e6]; exact Ar9.1) (State.isArrayOf_alike hZ.alike Ar9.2.1) Ar9.2.2 hin9 hat9 (g := (mkF m 29 #[.val (.ref o1), .val (.ref o2), .val (.int (2 : Int32)), .val (.int p3), .val (.ref v7)] [(.int (2 : Int32)), (.ref o2)])) rfl rfl (hb hby d2_29) _ ?_
      refine XS.iloadN X4.here hx rfl (hb hby d2_30) rfl ?_
      exact k
    by_cases hc11 : p11 = p3
    ·
      obtain ⟨fs, hr, hrun, hended, hW, hsame⟩ := X4.leave (v := some (.int (1 : Int32))) (fun h => by rw [hret] at h; cases h)
      refine ⟨_, _, pre10 _ ?_, hrun, hended, _, _, rfl, ?_, ⟨_, rfl⟩, hW, hsame.mono (by decide) (by decide)⟩
      ·
        show Steps p.tables e below (T4.setTop (mkF m 31 #[.val (.ref o1), .val (.ref o2), .val (.int (2 : Int32)), .val (.int p3), .val (.ref v7)] [(.int p3), (.int p11)])) _
        refine XS.icmpNo X4.here hx rfl (hb hby d2_31) rfl (teq hc11).2 ?_
        refine XS.iconst X4.here hx rfl (hb hby d2_34) ?_
        refine XS.goto X4.here hx rfl (pc0 := 35) (pc' := 39) rfl (hb hby d2_35) (by decide) (by decide) ?_
        show Steps p.tables e below (T4.setTop (mkF m 39 #[.val (.ref o1), .val (.ref o2), .val (.int (2 : Int32)), .val (.int p3), .val (.ref v7)] [(.int (1 : Int32))])) _
        exact retN X4 hx (t := .boolean) hret (by simp) (hb hby d2_39) hr
      ·
        show Q25 Z o1 o2 kc4 p3 p9 p10 p11 p12 p13 p14 v5 v6 v7 kc8 h0 n0 _ T4.heap _
        rw [e6]
        exact (Or.inl ⟨hc8, hc11, rfl, N4, rfl⟩)
    ·
      obtain ⟨fs, hr, hrun, hended, hW, hsame⟩ := X4.leave (v := some (.int (0 : Int32))) (fun h => by rw [hret] at h; cases h)
      refine ⟨_, _, pre10 _ ?_, hrun, hended, _, _, rfl, ?_, ⟨_, rfl⟩, hW, hsame.mono (by decide) (by decide)⟩
      ·
        show Steps p.tables e below (T4.setTop (mkF m 31 #[.val (.ref o1), .val (.ref o2), .val (.int (2 : Int32)), .val (.int p3), .val (.ref v7)] [(.int p3), (.int p11)])) _
        refine XS.icmpYes X4.here hx rfl (pc0 := 31) (pc' := 38) rfl (hb hby d2_31) rfl (feq hc11).2 (by decide) (by decide) ?_
        refine XS.iconst X4.here hx rfl (hb hby d2_38) ?_
        show Steps p.tables e below (T4.setTop (mkF m 39 #[.val (.ref o1), .val (.ref o2), .val (.int (2 : Int32)), .val (.int p3), .val (.ref v7)] [(.int (0 : Int32))])) _
        exact retN X4 hx (t := .boolean) hret (by simp) (hb hby d2_39) hr
      ·
        show Q25 Z o1 o2 kc4 p3 p9 p10 p11 p12 p13 p14 v5 v6 v7 kc8 h0 n0 _ T4.heap _
        rw [e6]
        exact (Or.inr (Or.inl ⟨hc8, hc11, rfl, N4, rfl⟩))
  ·
    obtain ⟨fs, hr, hrun, hended, hW, hsame⟩ := X4.leave (v := some (.int (0 : Int32))) (fun h => by rw [hret] at h; cases h)
    refine ⟨_, _, pre7 _ ?_, hrun, hended, _, _, rfl, ?_, ⟨_, rfl⟩, hW, hsame.mono (by decide) (by decide)⟩
    ·
      show Steps p.tables e below (T4.setTop (mkF m 24 #[.val (.ref o1), .val (.ref o2), .val (.int (2 : Int32)), .val (.int p3), .val (.ref v7)] [(.int p3), (.int p14)])) _
      refine XS.icmpYes X4.here hx rfl (pc0 := 24) (pc' := 38) rfl (hb hby d2_24) rfl (feq hc8).2 (by decide) (by decide) ?_
      refine XS.iconst X4.here hx rfl (hb hby d2_38) ?_
      show Steps p.tables e below (T4.setTop (mkF m 39 #[.val (.ref o1), .val (.ref o2), .val (.int (2 : Int32)), .val (.int p3), .val (.ref v7)] [(.int (0 : Int32))])) _
      exact retN X4 hx (t := .boolean) hret (by simp) (hb hby d2_39) hr
    ·
      show Q25 Z o1 o2 kc4 p3 p9 p10 p11 p12 p13 p14 v5 v6 v7 kc8 h0 n0 _ T4.heap _
      rw [e6]
      exact (Or.inr (Or.inr ⟨hc8, rfl, N4, rfl⟩))
theorem ef26 (m : MethodId) (x0 : Addr) (x1 : Addr) (x2 : Int32) (x3 : Int32) : entryFrame m #[(.ref x0), (.ref x1), (.int x2), (.int x3)] 5 = mkF m 0 #[.val (.ref x0), .val (.ref x1), .val (.int x2), .val (.int x3), .unset] [] := by first | (simp [entryFrame, mkF, argsToLocals, Value.category]; done) | rfl
def Q26 (Z : State) (o1 : Addr) (o2 : Addr) (kc4 : ClassId) (p3 : Int32) (p9 : Int32) (p10 : Int32) (p11 : Int32) (p12 : Int32) (p13 : Int32) (p14 : Int32) (kc8 : ClassId) (h0 : Heap) (n0 : Nat) (v : Option Value) (h : Heap) (L : List Loc) : Prop :=
  (v = some (.int (1 : Int32)) ∧ Fr n0 L ∧ h = h0)
set_option maxRecDepth 65536 in
set_option maxHeartbeats 40000000 in
theorem rm26 (l : Launch) (Z : State) (a0 : Array Value) (hw : ∀ d ∈ tables_1, d.before a0 Z = true) (ws : List Jvm.Cond) (o1 : Addr) (o2 : Addr) (kc4 : ClassId) (p3 : Int32) (p9 : Int32) (p10 : Int32) (p11 : Int32) (p12 : Int32) (p13 : Int32) (p14 : Int32) (kc8 : ClassId) (h0 : Heap) (n0 : Nat) (O0 : Old Z n0 h0) (g_o1 : n0 ≤ o1) (g_o2 : n0 ≤ o2) (Ov_kc4 : Ovr Z kc4 "java/lang/Boolean") (bd_p3 : 0 ≤ p3.toInt ∧ p3.toInt ≤ 1) (bd_p9 : 0 ≤ p9.toInt ∧ p9.toInt ≤ 1) (bd_p10 : 0 ≤ p10.toInt ∧ p10.toInt ≤ 1) (bd_p11 : 0 ≤ p11.toInt ∧ p11.toInt ≤ 1) (bd_p12 : 0 ≤ p12.toInt ∧ p12.toInt ≤ 1) (bd_p13 : 0 ≤ p13.toInt ∧ p13.toInt ≤ 1) (bd_p14 : 0 ≤ p14.toInt ∧ p14.toInt ≤ 1) (P2 : Arv Z h0 o2 kc8 .boolean (3 : Int32) [(.int p9), (.int p10), (.int p11)] (.int (0 : Int32))) :
    MetFree l yn2 (head1 (Jvm.Cond.code yn2 method_3_code 5 (some .boolean) :: ws) ({ frames := 0, cells := 0, slots := 0, locals := 0 } : Room)) (fun a U => a = #[(.ref o1), (.ref o2), (.int (3 : Int32)), (.int p3)] ∧ Z.Warmed39 U.vm ∧ U.heap = h0) (fun _ _ _ _ _ => True) (fun _ U o U' => ∃ v L, o = .returned v ∧ Q26 Z o1 o2 kc4 p3 p9 p10 p11 p12 p13 p14 kc8 h0 n0 v U'.heap L ∧ FrameEnd U o U' L ({ frames := 0, cells := 0, slots := 0, locals := 0 } : Room).cells ({ frames := 0, cells := 0, slots := 0, locals := 0 } : Room).slots) := by
  refine MetFree.of_bodySF (plainFor_of_name pn2) hisR ?_
  intro p e s m args below meth c s₁ Bd hml0 hP hK
  obtain ⟨rfl, hZ, hh⟩ := hP
  have hx := Bd.exec
  have hby := Bd.bytes
  have hml : c.maxLocals = 5 := hml0
  have hown : s.vm.findClass "com/example/castless/castless/PrimitiveArraysBox333PinLaw" = some m.cls := findClass_of_methodNamed Bd.named
  have hnm := (name_of_methodNamed Bd.named Bd.method).1
  have hret := Bd.returns
  have hlk : meth.locks = false := BodyLoose.notSynchronized Bd
  have X0 : Stand p l e ({ frames := 0, cells := 0, slots := 0, locals := 0 } : Room) s m #[(.ref o1), (.ref o2), (.int (3 : Int32)), (.int p3)] below meth c s₁ [] 0 0 := Stand.of_body Bd
  have e0 : s₁.heap = h0 := by rw [← hh, Bd.state]; rfl
  have N0 := Fr.nil n0
  have pre0 : ∀ t, Steps p.tables e below (s₁.setTop (mkF m 0 #[.val (.ref o1), .val (.ref o2), .val (.int (3 : Int32)), .val (.int p3), .unset] [])) t → Steps p.tables e below (s₁.setTop (entryFrame m #[(.ref o1), (.ref o2), (.int (3 : Int32)), (.int p3)] 5)) t := fun t k => castTop (ef26 m o1 o2 (3 : Int32) p3) k
  obtain ⟨cl1, Ar1, qa1, Sa1, Na1, Ha1, Ga1⟩ := id (P2)
  obtain ⟨fs, hr, hrun, hended, hW, hsame⟩ := X0.leave (v := some (.int (1 : Int32))) (fun h => by rw [hret] at h; cases h)
  refine ⟨_, _, pre0 _ ?_, hrun, hended, _, _, rfl, ?_, ⟨_, rfl⟩, hW, hsame.mono (by decide) (by decide)⟩
  ·
    show Steps p.tables e below (s₁.setTop (mkF m 0 #[.val (.ref o1), .val (.ref o2), .val (.int (3 : Int32)), .val (.int p3), .unset] [])) _
    refine XS.iloadN X0.here hx rfl (hb hby d2_0) rfl ?_
    refine XS.aloadN X0.here hx rfl (hb hby d2_1) rfl rfl ?_
    refine X0.arraylength hx (by rw [e0]; exact Ar1.1) (State.isArrayOf_alike hZ.alike Ar1.2.1) (g := (mkF m 2 #[.val (.ref o1), .val (.ref o2), .val (.int (3 : Int32)), .val (.int p3), .unset] [(.ref o2), (.int (3 : Int32))])) rfl rfl (hb hby d2_2) _ ?_
    rw [len_of Sa1 Na1]
    refine XS.icmpNo X0.here hx rfl (hb hby d2_3) rfl (flt (by decide : ¬ ((3 : Int32) < (3 : Int32)))).1 ?_
    refine XS.iconst X0.here hx rfl (hb hby d2_6) ?_
    show Steps p.tables e below (s₁.setTop (mkF m 7 #[.val (.ref o1), .val (.ref o2), .val (.int (3 : Int32)), .val (.int p3), .unset] [(.int (1 : Int32))])) _
    exact retN X0 hx (t := .boolean) hret (by simp) (hb hby d2_7) hr
  ·
    show Q26 Z o1 o2 kc4 p3 p9 p10 p11 p12 p13 p14 kc8 h0 n0 _ s₁.heap _
    rw [e0]
    exact ⟨rfl, N0, rfl⟩
theorem ef27 (m : MethodId) (x0 : Addr) (x1 : Addr) : entryFrame m #[(.ref x0), (.ref x1)] 2 = mkF m 0 #[.val (.ref x0), .val (.ref x1)] [] := by first | (simp [entryFrame, mkF, argsToLocals, Value.category]; done) | rfl
def Q27 (Z : State) (o1 : Addr) (u2 : Addr) (h0 : Heap) (n0 : Nat) (v : Option Value) (h : Heap) (L : List Loc) : Prop :=
  (v = some (.ref o1) ∧ Fr n0 L ∧ h = h0)
set_option maxRecDepth 65536 in
set_option maxHeartbeats 40000000 in
theorem rm27 (l : Launch) (Z : State) (a0 : Array Value) (hw : ∀ d ∈ tables_1, d.before a0 Z = true) (ws : List Jvm.Cond) (o1 : Addr) (u2 : Addr) (h0 : Heap) (n0 : Nat) (O0 : Old Z n0 h0) (g_o1 : n0 ≤ o1) :
    MetFree l yn0 (head1 (Jvm.Cond.code yn0 jdk_31_method_11_code 2 (some (.object "java/lang/Object")) :: ws) ({ frames := 0, cells := 0, slots := 0, locals := 0 } : Room)) (fun a U => a = #[(.ref o1), (.ref u2)] ∧ Z.Warmed39 U.vm ∧ U.heap = h0) (fun _ _ _ _ _ => True) (fun _ U o U' => ∃ v L, o = .returned v ∧ Q27 Z o1 u2 h0 n0 v U'.heap L ∧ FrameEnd U o U' L ({ frames := 0, cells := 0, slots := 0, locals := 0 } : Room).cells ({ frames := 0, cells := 0, slots := 0, locals := 0 } : Room).slots) := by
  refine MetFree.of_bodySF (plainFor_of_name pn0) hisR ?_
  intro p e s m args below meth c s₁ Bd hml0 hP hK
  obtain ⟨rfl, hZ, hh⟩ := hP
  have hx := Bd.exec
  have hby := Bd.bytes
  have hml : c.maxLocals = 2 := hml0
  have hown : s.vm.findClass "java/util/Objects" = some m.cls := findClass_of_methodNamed Bd.named
  have hnm := (name_of_methodNamed Bd.named Bd.method).1
  have hret := Bd.returns
  have hlk : meth.locks = false := BodyLoose.notSynchronized Bd
  have X0 : Stand p l e ({ frames := 0, cells := 0, slots := 0, locals := 0 } : Room) s m #[(.ref o1), (.ref u2)] below meth c s₁ [] 0 0 := Stand.of_body Bd
  have e0 : s₁.heap = h0 := by rw [← hh, Bd.state]; rfl
  have N0 := Fr.nil n0
  have pre0 : ∀ t, Steps p.tables e below (s₁.setTop (mkF m 0 #[.val (.ref o1), .val (.ref u2)] [])) t → Steps p.tables e below (s₁.setTop (entryFrame m #[(.ref o1), (.ref u2)] 2)) t := fun t k => castTop (ef27 m o1 u2) k
  obtain ⟨fs, hr, hrun, hended, hW, hsame⟩ := X0.leave (v := some (.ref o1)) (fun h => by rw [hret] at h; cases h)
  refine ⟨_, _, pre0 _ ?_, hrun, hended, _, _, rfl, ?_, ⟨_, rfl⟩, hW, hsame.mono (by decide) (by decide)⟩
  ·
    show Steps p.tables e below (s₁.setTop (mkF m 0 #[.val (.ref o1), .val (.ref u2)] [])) _
    refine XS.aloadN X0.here hx rfl (hb hby d1_0) rfl rfl ?_
    refine XS.ifnonnullYes X0.here hx rfl (pc0 := 1) (pc' := 13) rfl (hb hby d1_1) rfl (by decide) (by decide) ?_
    refine XS.aloadN X0.here hx rfl (hb hby d1_13) rfl rfl ?_
    show Steps p.tables e below (s₁.setTop (mkF m 14 #[.val (.ref o1), .val (.ref u2)] [(.ref o1)])) _
    exact retOut X0 hx hret rfl (Or.inr (Or.inr (Or.inr (Or.inr ⟨rfl, rfl, rfl⟩)))) (hb hby d1_14) hr
  ·
    show Q27 Z o1 u2 h0 n0 _ s₁.heap _
    rw [e0]
    exact ⟨rfl, N0, rfl⟩
theorem ef28 (m : MethodId) (x0 : Addr) : entryFrame m #[(.ref x0)] 3 = mkF m 0 #[.val (.ref x0), .unset, .unset] [] := by first | (simp [entryFrame, mkF, argsToLocals, Value.category]; done) | rfl
def Q28 (Z : State) (w1 : Addr) (w2 : Addr) (o1 : Addr) (p3 : Int32) (p4 : Int32) (p5 : Int32) (p6 : Int32) (kc2 : ClassId) (h0 : Heap) (n0 : Nat) (v : Option Value) (h : Heap) (L : List Loc) : Prop :=
  (∃ b7 : Addr, ∃ k7 : ClassId, ∃ v12 : Addr, ∃ v25 : Addr, ∃ v36 : Addr, ∃ v47 : Addr, v = some (.ref b7) ∧ Fr n0 L ∧ Keep h0 h [] ∧ h0.size ≤ b7 ∧ Ovr Z k7 "java/lang/Boolean" ∧ (Arv Z h b7 k7 (.object "java/lang/Boolean") (4 : Int32) [(.ref v12), (.ref v25), (.ref v36), (.ref v47)] .null) ∧ (Exa Z h b7 "[Ljava/lang/Boolean;") ∧ (Exa Z Z.heap v12 "java/lang/Boolean") ∧ (Fld Z Z.heap v12 "java/lang/Boolean" "value" "Z" (.int p3)) ∧ (Exa Z Z.heap v25 "java/lang/Boolean") ∧ (Fld Z Z.heap v25 "java/lang/Boolean" "value" "Z" (.int p4)) ∧ (Exa Z Z.heap v36 "java/lang/Boolean") ∧ (Fld Z Z.heap v36 "java/lang/Boolean" "value" "Z" (.int p5)) ∧ (Exa Z Z.heap v47 "java/lang/Boolean") ∧ (Fld Z Z.heap v47 "java/lang/Boolean" "value" "Z" (.int p6)))
set_option maxRecDepth 65536 in
set_option maxHeartbeats 40000000 in
theorem rm28 (l : Launch) (Z : State) (a0 : Array Value) (hw : ∀ d ∈ tables_1, d.before a0 Z = true) (w1 : Addr) (w2 : Addr) (G : GW Z w1 w2) (ws : List Jvm.Cond) (o1 : Addr) (p3 : Int32) (p4 : Int32) (p5 : Int32) (p6 : Int32) (kc2 : ClassId) (h0 : Heap) (n0 : Nat) (O0 : Old Z n0 h0) (g_o1 : n0 ≤ o1) (bd_p3 : 0 ≤ p3.toInt ∧ p3.toInt ≤ 1) (bd_p4 : 0 ≤ p4.toInt ∧ p4.toInt ≤ 1) (bd_p5 : 0 ≤ p5.toInt ∧ p5.toInt ≤ 1) (bd_p6 : 0 ≤ p6.toInt ∧ p6.toInt ≤ 1) (P0 : Arv Z h0 o1 kc2 .boolean (4 : Int32) [(.int p3), (.int p4), (.int p5), (.int p6)] (.int (0 : Int32))) :
    MetFree l yn1 (head1 (Jvm.Cond.code yn1 prog_11_method_2_code 3 (some (.array (.object "java/lang/Boolean"))) :: ws) ({ frames := 1, cells := 3, slots := 60, locals := 14 } : Room)) (fun a U => a = #[(.ref o1)] ∧ Z.Warmed39 U.vm ∧ U.heap = h0) (fun _ _ _ _ _ => True) (fun _ U o U' => ∃ v L, o = .returned v ∧ Q28 Z w1 w2 o1 p3 p4 p5 p6 kc2 h0 n0 v U'.heap L ∧ ReturnedEndW U o U' L ({ frames := 1, cells := 3, slots := 60, locals := 14 } : Room).cells ({ frames := 1, cells := 3, slots := 60, locals := 14 } : Room).slots) := by
  obtain ⟨S_w1, E_w1, S_w2, E_w2, F_w1_value, F_w2_value⟩ := id G
  refine MetFree.of_bodySF (plainFor_of_name pn1) hisR ?_
  intro p e s m args below meth c s₁ Bd hml0 hP hK
  obtain ⟨rfl, hZ, hh⟩ := hP
  have hx := Bd.exec
  have hby := Bd.bytes
  have hml : c.maxLocals = 3 := hml0
  have hown : s.vm.findClass "com/example/castless/castless/PrimitiveArrays" = some m.cls := findClass_of_methodNamed Bd.named
  have hnm := (name_of_methodNamed Bd.named Bd.method).1
  have hret := Bd.returns
  have hlk : meth.locks = false := BodyLoose.notSynchronized Bd
  have X0 : Stand p l e ({ frames := 1, cells := 3, slots := 60, locals := 14 } : Room) s m #[(.ref o1)] below meth c s₁ [] 0 0 := Stand.of_body Bd
  have e0 : s₁.heap = h0 := by rw [← hh, Bd.state]; rfl
  have N0 := Fr.nil n0
  have pre0 : ∀ t, Steps p.tables e below (s₁.setTop (mkF m 0 #[.val (.ref o1), .unset, .unset] [])) t → Steps p.tables e below (s₁.setTop (entryFrame m #[(.ref o1)] 3)) t := fun t k => castTop (ef28 m o1) k
  obtain ⟨sx1, T1, h1, ks1, X1, e1, E1, hS1, hk1, hZ, hown, st1⟩ := ldcS (s := s) (vm0 := s.vm) X0 hx hZ hown (own_w hw 6 rfl) (own_sa hw) e0 ((State.WarmedH.refl s).since h0.size) (Nat.le_refl _) (g := (mkF m 1 #[.val (.ref o1), .unset, .unset] [(.ref o1)])) rfl (hb hby d0_1) (n := 52) (by decide) (by decide) (by decide) (by decide)
  have M1 : h0.size ≤ h1.size := Nat.le_trans (Nat.le_refl _) E1.1
  have O1 := Old.ext O0 E1
  obtain ⟨_, _, ⟨T2, L2, c2, n2⟩, -, X2, ⟨Lc2, hQ2, l2, y2, z2⟩, st2⟩ := Jvm.LawKit.callS X1 hx (y := yn0) hown (mvT hZ (own_w hw 14 rfl)) (mvT hZ (own_w hw 15 rfl)) (mvT hZ (own_w hw 16 rfl)) (mvT hZ (own_w hw 17 rfl)) (by decide) (backOf (W := 0) (rm27 l Z a0 hw [] o1 sx1 h1 n0 O1 g_o1) hZ (own_w hw 17 rfl) (own_w hw 16 rfl) (by decide) (by decide)) (g := (mkF m 3 #[.val (.ref o1), .unset, .unset] [(.ref sx1), (.ref o1)])) rfl (by rw [hml]; rfl) (argsL := [(.ref o1), (.ref sx1)]) (rest := []) (lenOf pd0 rfl) rfl (by show 2 * 0 + _ ≤ _; exact Nat.le_of_eq rfl) (hb hby d0_3) (fun _ _ => ⟨rfl, e1, (by decide : 2 + 0 ≤ _), (by decide : 56 + 0 ≤ _)⟩)
  dsimp only [Pt.U, Pt.locs, Pt.cells, Pt.slots] at X2 l2 y2 z2 st2 hQ2
  subst l2 y2 z2
  have X2 : Stand p l e ({ frames := 1, cells := 3, slots := 60, locals := 14 } : Room) (s.setVm T1.vm) m #[(.ref o1)] below meth c T2 _ 2 56 := X2
  obtain ⟨rfl, Nq3, e4⟩ := hQ2
  have N2 := Fr.app N0 Nq3
  have f5 := (P0.ext E1)
  obtain ⟨cl6, Ar6, qa6, Sa6, Na6, Ha6, Ga6⟩ := id (f5)
  obtain ⟨T7, h7, k7, X7, e7, E7, A7, EX7, OV7, st7⟩ := newRE X2 hx hZ hown (own_w hw 18 rfl) (own_w hw 19 rfl) e4 (g := (mkF m 9 #[.val (.ref o1), .unset, .unset] [(.int (4 : Int32))])) rfl (hb hby d0_9) rfl (by decide) (cap := 4) (by decide) (by decide) (by decide) (by decide) (ad := "[Ljava/lang/Boolean;") (by decide)
  obtain ⟨b7, g7⟩ : ∃ z, z = h1.size := ⟨_, rfl⟩
  rw [← g7] at A7 EX7 st7
  have hkk7 := Nat.le_trans hk1 E7.1
  have M7 : h0.size ≤ h7.size := Nat.le_trans M1 E7.1
  have O7 := Old.ext O1 E7
  have sz_b7 : h1.size ≤ b7 := Nat.le_of_eq g7.symm
  have g_b7 : n0 ≤ b7 := Nat.le_trans (own_oz O0) (Nat.le_trans M1 sz_b7)
  have V7_0 := Arv.new A7 (by decide)
  have V7 : Arv Z h7 b7 k7 (.object "java/lang/Boolean") (4 : Int32) [.null, .null, .null, .null] .null := V7_0.pad (pad_rep [] .null 4)
  have f8 := (f5.ext E7)
  obtain ⟨cl9, Ar9, qa9, Sa9, Na9, Ha9, Ga9⟩ := id (f8)
  obtain ⟨cl10, Ar10, qa10, Sa10, Na10, Ha10, Ga10⟩ := id (f8)
  have hin10 : ¬ ((0 : Int32) < 0 ∨ cl10.slots.size ≤ ((0 : Int32)).toNatClampNeg) := inb_of Sa10 ⟨by decide, by decide⟩
  have hat10 : cl10.slots[((0 : Int32)).toNatClampNeg]? = some (.int p3) := Has.at Ha10 hin10 rfl
  obtain ⟨_, _, ⟨T11, L11, c11, n11⟩, -, X11, ⟨Lc11, hQ11, l11, y11, z11⟩, st11⟩ := Jvm.LawKit.callS X7 hx (y := yn3) hown (mvT hZ (own_w hw 24 rfl)) (mvT hZ (own_w hw 25 rfl)) (mvT hZ (own_w hw 26 rfl)) (mvT hZ (own_w hw 27 rfl)) (by decide) (backOf (W := 2) (rm8 l Z a0 hw w1 w2 G [] p3 h7 n0 O7 (by have q0 := bd_p3; omega)) hZ (own_w hw 27 rfl) (own_w hw 26 rfl) (by decide) (by decide)) (g := (mkF m 26 #[.val (.ref o1), .val (.ref b7), .val (.int (0 : Int32))] [(.int p3), (.int (0 : Int32)), (.ref b7)])) rfl (by rw [hml]; rfl) (argsL := [(.int p3)]) (rest := [(.int (0 : Int32)), (.ref b7)]) (lenOf pd3 rfl) rfl (by show 2 * 0 + _ ≤ _; exact Nat.le_of_eq rfl) (hb hby d0_26) (fun _ _ => ⟨rfl, e7, (by decide : 3 + 0 ≤ _), (by decide : 60 + 0 ≤ _)⟩)
  dsimp only [Pt.U, Pt.locs, Pt.cells, Pt.slots] at X11 l11 y11 z11 st11 hQ11
  subst l11 y11 z11
  have X11 : Stand p l e ({ frames := 1, cells := 3, slots := 60, locals := 14 } : Room) (s.setVm T1.vm) m #[(.ref o1)] below meth c T11 _ 3 60 := X11
  obtain ⟨v12, rfl, Nq13, e14, f15, f16⟩ := hQ11
  have N11 := Fr.app N2 Nq13
  obtain ⟨cl17, Ar17, qa17, Sa17, Na17, Ha17, Ga17⟩ := id (V7)
  have hin17 : ¬ ((0 : Int32) < 0 ∨ cl17.slots.size ≤ ((0 : Int32)).toNatClampNeg) := inb_of Sa17 ⟨by decide, by decide⟩
  obtain ⟨T18, h18, X18, e18, W18, st18⟩ := stR X11 hx hZ e14 Ar17 (j := (0 : Int32)) hin17 rfl (Sto.ofV Ar17 qa17 OV7 (Ins.self (f15.ext O7.2))) (g := (mkF m 29 #[.val (.ref o1), .val (.ref b7), .val (.int (0 : Int32))] [(.ref v12), (.int (0 : Int32)), (.ref b7)])) rfl rfl (hb hby d0_29)
  have V18 : Arv Z h18 b7 k7 (.object "java/lang/Boolean") (4 : Int32) [(.ref v12), .null, .null, .null] .null := Arv.set Ar17 qa17 Sa17 Na17 Ha17 Ga17 rfl W18 0 rfl (Nat.le_of_ble_eq_true rfl)
  have N18 := Fr.snoc X18 N11 g_b7
  have hkk18 := Nat.le_trans hkk7 (Nat.le_of_eq W18.size.symm)
  have M18 : h0.size ≤ h18.size := Nat.le_trans M7 (Nat.le_of_eq W18.size.symm)
  have O18 := Old.wr O7 W18 g_b7
  have lt19 : o1 < h1.size := (Nat.lt_of_lt_of_le P0.lt E1.1)
  have ne20 : o1 ≠ b7 := Nat.ne_of_lt (Nat.lt_of_lt_of_le lt19 sz_b7)
  have f21 := (f8.other W18 ne20)
  obtain ⟨cl22, Ar22, qa22, Sa22, Na22, Ha22, Ga22⟩ := id (f21)
  obtain ⟨cl23, Ar23, qa23, Sa23, Na23, Ha23, Ga23⟩ := id (f21)
  have hin23 : ¬ ((1 : Int32) < 0 ∨ cl23.slots.size ≤ ((1 : Int32)).toNatClampNeg) := inb_of Sa23 ⟨by decide, by decide⟩
  have hat23 : cl23.slots[((1 : Int32)).toNatClampNeg]? = some (.int p4) := Has.at Ha23 hin23 rfl
  obtain ⟨_, _, ⟨T24, L24, c24, n24⟩, -, X24, ⟨Lc24, hQ24, l24, y24, z24⟩, st24⟩ := Jvm.LawKit.callS X18 hx (y := yn3) hown (mvT hZ (own_w hw 24 rfl)) (mvT hZ (own_w hw 25 rfl)) (mvT hZ (own_w hw 26 rfl)) (mvT hZ (own_w hw 27 rfl)) (by decide) (backOf (W := 2) (rm8 l Z a0 hw w1 w2 G [] p4 h18 n0 O18 (by have q0 := bd_p4; omega)) hZ (own_w hw 27 rfl) (own_w hw 26 rfl) (by decide) (by decide)) (g := (mkF m 26 #[.val (.ref o1), .val (.ref b7), .val (.int (1 : Int32))] [(.int p4), (.int (1 : Int32)), (.ref b7)])) rfl (by rw [hml]; rfl) (argsL := [(.int p4)]) (rest := [(.int (1 : Int32)), (.ref b7)]) (lenOf pd3 rfl) rfl (by show 2 * 0 + _ ≤ _; exact Nat.le_of_eq rfl) (hb hby d0_26) (fun _ _ => ⟨rfl, e18, (by decide : 3 + 0 ≤ _), (by decide : 60 + 0 ≤ _)⟩)
  dsimp only [Pt.U, Pt.locs, Pt.cells, Pt.slots] at X24 l24 y24 z24 st24 hQ24
  subst l24 y24 z24
  have X24 : Stand p l e ({ frames := 1, cells := 3, slots := 60, locals := 14 } : Room) (s.setVm T1.vm) m #[(.ref o1)] below meth c T24 _ 3 60 := X24
  obtain ⟨v25, rfl, Nq26, e27, f28, f29⟩ := hQ24
  have N24 := Fr.app N18 Nq26
  obtain ⟨cl30, Ar30, qa30, Sa30, Na30, Ha30, Ga30⟩ := id (V18)
  have hin30 : ¬ ((1 : Int32) < 0 ∨ cl30.slots.size ≤ ((1 : Int32)).toNatClampNeg) := inb_of Sa30 ⟨by decide, by decide⟩
  obtain ⟨T31, h31, X31, e31, W31, st31⟩ := stR X24 hx hZ e27 Ar30 (j := (1 : Int32)) hin30 rfl (Sto.ofV Ar30 qa30 OV7 (Ins.self (f28.ext O18.2))) (g := (mkF m 29 #[.val (.ref o1), .val (.ref b7), .val (.int (1 : Int32))] [(.ref v25), (.int (1 : Int32)), (.ref b7)])) rfl rfl (hb hby d0_29)
  have V31 : Arv Z h31 b7 k7 (.object "java/lang/Boolean") (4 : Int32) [(.ref v12), (.ref v25), .null, .null] .null := Arv.set Ar30 qa30 Sa30 Na30 Ha30 Ga30 rfl W31 1 rfl (Nat.le_of_ble_eq_true rfl)
  have N31 := Fr.snoc X31 N24 g_b7
  have hkk31 := Nat.le_trans hkk18 (Nat.le_of_eq W31.size.symm)
  have M31 : h0.size ≤ h31.size := Nat.le_trans M18 (Nat.le_of_eq W31.size.symm)
  have O31 := Old.wr O18 W31 g_b7
  have f32 := (f21.other W31 ne20)
  obtain ⟨cl33, Ar33, qa33, Sa33, Na33, Ha33, Ga33⟩ := id (f32)
  obtain ⟨cl34, Ar34, qa34, Sa34, Na34, Ha34, Ga34⟩ := id (f32)
  have hin34 : ¬ ((2 : Int32) < 0 ∨ cl34.slots.size ≤ ((2 : Int32)).toNatClampNeg) := inb_of Sa34 ⟨by decide, by decide⟩
  have hat34 : cl34.slots[((2 : Int32)).toNatClampNeg]? = some (.int p5) := Has.at Ha34 hin34 rfl
  obtain ⟨_, _, ⟨T35, L35, c35, n35⟩, -, X35, ⟨Lc35, hQ35, l35, y35, z35⟩, st35⟩ := Jvm.LawKit.callS X31 hx (y := yn3) hown (mvT hZ (own_w hw 24 rfl)) (mvT hZ (own_w hw 25 rfl)) (mvT hZ (own_w hw 26 rfl)) (mvT hZ (own_w hw 27 rfl)) (by decide) (backOf (W := 2) (rm8 l Z a0 hw w1 w2 G [] p5 h31 n0 O31 (by have q0 := bd_p5; omega)) hZ (own_w hw 27 rfl) (own_w hw 26 rfl) (by decide) (by decide)) (g := (mkF m 26 #[.val (.ref o1), .val (.ref b7), .val (.int (2 : Int32))] [(.int p5), (.int (2 : Int32)), (.ref b7)])) rfl (by rw [hml]; rfl) (argsL := [(.int p5)]) (rest := [(.int (2 : Int32)), (.ref b7)]) (lenOf pd3 rfl) rfl (by show 2 * 0 + _ ≤ _; exact Nat.le_of_eq rfl) (hb hby d0_26) (fun _ _ => ⟨rfl, e31, (by decide : 3 + 0 ≤ _), (by decide : 60 + 0 ≤ _)⟩)
  dsimp only [Pt.U, Pt.locs, Pt.cells, Pt.slots] at X35 l35 y35 z35 st35 hQ35
  subst l35 y35 z35
  have X35 : Stand p l e ({ frames := 1, cells := 3, slots := 60, locals := 14 } : Room) (s.setVm T1.vm) m #[(.ref o1)] below meth c T35 _ 3 60 := X35
  obtain ⟨v36, rfl, Nq37, e38, f39, f40⟩ := hQ35
  have N35 := Fr.app N31 Nq37
  obtain ⟨cl41, Ar41, qa41, Sa41, Na41, Ha41, Ga41⟩ := id (V31)
  have hin41 : ¬ ((2 : Int32) < 0 ∨ cl41.slots.size ≤ ((2 : Int32)).toNatClampNeg) := inb_of Sa41 ⟨by decide, by decide⟩
  obtain ⟨T42, h42, X42, e42, W42, st42⟩ := stR X35 hx hZ e38 Ar41 (j := (2 : Int32)) hin41 rfl (Sto.ofV Ar41 qa41 OV7 (Ins.self (f39.ext O31.2))) (g := (mkF m 29 #[.val (.ref o1), .val (.ref b7), .val (.int (2 : Int32))] [(.ref v36), (.int (2 : Int32)), (.ref b7)])) rfl rfl (hb hby d0_29)
  have V42 : Arv Z h42 b7 k7 (.object "java/lang/Boolean") (4 : Int32) [(.ref v12), (.ref v25), (.ref v36), .null] .null := Arv.set Ar41 qa41 Sa41 Na41 Ha41 Ga41 rfl W42 2 rfl (Nat.le_of_ble_eq_true rfl)
  have N42 := Fr.snoc X42 N35 g_b7
  have hkk42 := Nat.le_trans hkk31 (Nat.le_of_eq W42.size.symm)
  have M42 : h0.size ≤ h42.size := Nat.le_trans M31 (Nat.le_of_eq W42.size.symm)
  have O42 := Old.wr O31 W42 g_b7
  have f43 := (f32.other W42 ne20)
  obtain ⟨cl44, Ar44, qa44, Sa44, Na44, Ha44, Ga44⟩ := id (f43)
  obtain ⟨cl45, Ar45, qa45, Sa45, Na45, Ha45, Ga45⟩ := id (f43)
  have hin45 : ¬ ((3 : Int32) < 0 ∨ cl45.slots.size ≤ ((3 : Int32)).toNatClampNeg) := inb_of Sa45 ⟨by decide, by decide⟩
  have hat45 : cl45.slots[((3 : Int32)).toNatClampNeg]? = some (.int p6) := Has.at Ha45 hin45 rfl
  obtain ⟨_, _, ⟨T46, L46, c46, n46⟩, -, X46, ⟨Lc46, hQ46, l46, y46, z46⟩, st46⟩ := Jvm.LawKit.callS X42 hx (y := yn3) hown (mvT hZ (own_w hw 24 rfl)) (mvT hZ (own_w hw 25 rfl)) (mvT hZ (own_w hw 26 rfl)) (mvT hZ (own_w hw 27 rfl)) (by decide) (backOf (W := 2) (rm8 l Z a0 hw w1 w2 G [] p6 h42 n0 O42 (by have q0 := bd_p6; omega)) hZ (own_w hw 27 rfl) (own_w hw 26 rfl) (by decide) (by decide)) (g := (mkF m 26 #[.val (.ref o1), .val (.ref b7), .val (.int (3 : Int32))] [(.int p6), (.int (3 : Int32)), (.ref b7)])) rfl (by rw [hml]; rfl) (argsL := [(.int p6)]) (rest := [(.int (3 : Int32)), (.ref b7)]) (lenOf pd3 rfl) rfl (by show 2 * 0 + _ ≤ _; exact Nat.le_of_eq rfl) (hb hby d0_26) (fun _ _ => ⟨rfl, e42, (by decide : 3 + 0 ≤ _), (by decide : 60 + 0 ≤ _)⟩)
  dsimp only [Pt.U, Pt.locs, Pt.cells, Pt.slots] at X46 l46 y46 z46 st46 hQ46
  subst l46 y46 z46
  have X46 : Stand p l e ({ frames := 1, cells := 3, slots := 60, locals := 14 } : Room) (s.setVm T1.vm) m #[(.ref o1)] below meth c T46 _ 3 60 := X46
  obtain ⟨v47, rfl, Nq48, e49, f50, f51⟩ := hQ46
  have N46 := Fr.app N42 Nq48
  obtain ⟨cl52, Ar52, qa52, Sa52, Na52, Ha52, Ga52⟩ := id (V42)
  have hin52 : ¬ ((3 : Int32) < 0 ∨ cl52.slots.size ≤ ((3 : Int32)).toNatClampNeg) := inb_of Sa52 ⟨by decide, by decide⟩
  obtain ⟨T53, h53, X53, e53, W53, st53⟩ := stR X46 hx hZ e49 Ar52 (j := (3 : Int32)) hin52 rfl (Sto.ofV Ar52 qa52 OV7 (Ins.self (f50.ext O42.2))) (g := (mkF m 29 #[.val (.ref o1), .val (.ref b7), .val (.int (3 : Int32))] [(.ref v47), (.int (3 : Int32)), (.ref b7)])) rfl rfl (hb hby d0_29)
  have V53 : Arv Z h53 b7 k7 (.object "java/lang/Boolean") (4 : Int32) [(.ref v12), (.ref v25), (.ref v36), (.ref v47)] .null := Arv.set Ar52 qa52 Sa52 Na52 Ha52 Ga52 rfl W53 3 rfl (Nat.le_of_ble_eq_true rfl)
  have N53 := Fr.snoc X53 N46 g_b7
  have hkk53 := Nat.le_trans hkk42 (Nat.le_of_eq W53.size.symm)
  have M53 : h0.size ≤ h53.size := Nat.le_trans M42 (Nat.le_of_eq W53.size.symm)
  have O53 := Old.wr O42 W53 g_b7
  have f54 := (f43.other W53 ne20)
  obtain ⟨cl55, Ar55, qa55, Sa55, Na55, Ha55, Ga55⟩ := id (f54)
  obtain ⟨fs, hr, hrun, hended, hRE⟩ := X53.leaveW hS1 (by rw [e53]; exact hkk53) (v := some (.ref b7)) (fun h => by rw [hret] at h; cases h)
  have KL : Keep h0 h53 [] := (((((((Keep.refl h0 []).ext E1).ext E7).wr W18 (Or.inr (Nat.le_trans M1 sz_b7))).wr W31 (Or.inr (Nat.le_trans M1 sz_b7))).wr W42 (Or.inr (Nat.le_trans M1 sz_b7))).wr W53 (Or.inr (Nat.le_trans M1 sz_b7)))
  have f56 := ((((EX7.wr W18).wr W31).wr W42).wr W53)
  refine ⟨_, _, pre0 _ ?_, hrun, hended, _, _, rfl, ?_, hRE.1, hRE.2.1, hRE.2.2.1, hRE.2.2.2.mono (by decide) (by decide)⟩
  ·
    show Steps p.tables e below (s₁.setTop (mkF m 0 #[.val (.ref o1), .unset, .unset] [])) _
    refine XS.aloadN X0.here hx rfl (hb hby d0_0) rfl rfl ?_
    refine st1 _ ?_
    refine st2 _ ?_
    refine XS.pop X2.here hx rfl (hb hby d0_6) rfl rfl ?_
    refine XS.aloadN X2.here hx rfl (hb hby d0_7) rfl rfl ?_
    refine X2.arraylength hx (by rw [e4]; exact Ar6.1) (State.isArrayOf_alike hZ.alike Ar6.2.1) (g := (mkF m 8 #[.val (.ref o1), .unset, .unset] [(.ref o1)])) rfl rfl (hb hby d0_8) _ ?_
    rw [len_of Sa6 Na6]
    refine st7 _ ?_
    refine XS.astoreN X7.here hx rfl (hb hby d0_12) rfl rfl (l' := #[.val (.ref o1), .val (.ref b7), .unset]) rfl ?_
    refine XS.iconst X7.here hx rfl (hb hby d0_13) ?_
    refine XS.istoreN X7.here hx rfl (hb hby d0_14) rfl (l' := #[.val (.ref o1), .val (.ref b7), .val (.int (0 : Int32))]) rfl ?_
    refine XS.iloadN X7.here hx rfl (hb hby d0_15) rfl ?_
    refine XS.aloadN X7.here hx rfl (hb hby d0_16) rfl rfl ?_
    refine X7.arraylength hx (by rw [e7]; exact Ar9.1) (State.isArrayOf_alike hZ.alike Ar9.2.1) (g := (mkF m 17 #[.val (.ref o1), .val (.ref b7), .val (.int (0 : Int32))] [(.ref o1), (.int (0 : Int32))])) rfl rfl (hb hby d0_17) _ ?_
    rw [len_of Sa9 Na9]
    refine XS.icmpNo X7.here hx rfl (hb hby d0_18) rfl (tlt (by decide : (0 : Int32) < (4 : Int32))).2.1 ?_
    refine XS.aloadN X7.here hx rfl (hb hby d0_21) rfl rfl ?_
    refine XS.iloadN X7.here hx rfl (hb hby d0_22) rfl ?_
    refine XS.aloadN X7.here hx rfl (hb hby d0_23) rfl rfl ?_
    refine XS.iloadN X7.here hx rfl (hb hby d0_24) rfl ?_
    refine X7.baloadBooleans hx (j := (0 : Int32)) (v := (.int p3)) (by rw [e7]; exact Ar10.1) (State.isArrayOf_alike hZ.alike Ar10.2.1) Ar10.2.2 hin10 hat10 (g := (mkF m 25 #[.val (.ref o1), .val (.ref b7), .val (.int (0 : Int32))] [(.int (0 : Int32)), (.ref o1), (.int (0 : Int32)), (.ref b7)])) rfl rfl (hb hby d0_25) _ ?_
    refine st11 _ ?_
    refine st18 _ ?_
    refine XS.iinc X18.here hx rfl (hb hby d0_30) rfl (l' := #[.val (.ref o1), .val (.ref b7), .val (.int (1 : Int32))]) rfl ?_
    refine XS.goto X18.here hx rfl (pc0 := 33) (pc' := 15) rfl (hb hby d0_33) (by decide) (by decide) ?_
    refine XS.iloadN X18.here hx rfl (hb hby d0_15) rfl ?_
    refine XS.aloadN X18.here hx rfl (hb hby d0_16) rfl rfl ?_
    refine X18.arraylength hx (by rw [e18]; exact Ar22.1) (State.isArrayOf_alike hZ.alike Ar22.2.1) (g := (mkF m 17 #[.val (.ref o1), .val (.ref b7), .val (.int (1 : Int32))] [(.ref o1), (.int (1 : Int32))])) rfl rfl (hb hby d0_17) _ ?_
    rw [len_of Sa22 Na22]
    refine XS.icmpNo X18.here hx rfl (hb hby d0_18) rfl (tlt (by decide : (1 : Int32) < (4 : Int32))).2.1 ?_
    refine XS.aloadN X18.here hx rfl (hb hby d0_21) rfl rfl ?_
    refine XS.iloadN X18.here hx rfl (hb hby d0_22) rfl ?_
    refine XS.aloadN X18.here hx rfl (hb hby d0_23) rfl rfl ?_
    refine XS.iloadN X18.here hx rfl (hb hby d0_24) rfl ?_
    refine X18.baloadBooleans hx (j := (1 : Int32)) (v := (.int p4)) (by rw [e18]; exact Ar23.1) (State.isArrayOf_alike hZ.alike Ar23.2.1) Ar23.2.2 hin23 hat23 (g := (mkF m 25 #[.val (.ref o1), .val (.ref b7), .val (.int (1 : Int32))] [(.int (1 : Int32)), (.ref o1), (.int (1 : Int32)), (.ref b7)])) rfl rfl (hb hby d0_25) _ ?_
    refine st24 _ ?_
    refine st31 _ ?_
    refine XS.iinc X31.here hx rfl (hb hby d0_30) rfl (l' := #[.val (.ref o1), .val (.ref b7), .val (.int (2 : Int32))]) rfl ?_
    refine XS.goto X31.here hx rfl (pc0 := 33) (pc' := 15) rfl (hb hby d0_33) (by decide) (by decide) ?_
    refine XS.iloadN X31.here hx rfl (hb hby d0_15) rfl ?_
    refine XS.aloadN X31.here hx rfl (hb hby d0_16) rfl rfl ?_
    refine X31.arraylength hx (by rw [e31]; exact Ar33.1) (State.isArrayOf_alike hZ.alike Ar33.2.1) (g := (mkF m 17 #[.val (.ref o1), .val (.ref b7), .val (.int (2 : Int32))] [(.ref o1), (.int (2 : Int32))])) rfl rfl (hb hby d0_17) _ ?_
    rw [len_of Sa33 Na33]
    refine XS.icmpNo X31.here hx rfl (hb hby d0_18) rfl (tlt (by decide : (2 : Int32) < (4 : Int32))).2.1 ?_
    show Steps p.tables e below (T31.setTop (mkF m 21 #[.val (.ref o1), .val (.ref b7), .val (.int (2 : Int32))] [])) _
    refine XS.aloadN X31.here hx rfl (hb hby d0_21) rfl rfl ?_
    refine XS.iloadN X31.here hx rfl (hb hby d0_22) rfl ?_
    refine XS.aloadN X31.here hx rfl (hb hby d0_23) rfl rfl ?_
    refine XS.iloadN X31.here hx rfl (hb hby d0_24) rfl ?_
    refine X31.baloadBooleans hx (j := (2 : Int32)) (v := (.int p5)) (by rw [e31]; exact Ar34.1) (State.isArrayOf_alike hZ.alike Ar34.2.1) Ar34.2.2 hin34 hat34 (g := (mkF m 25 #[.val (.ref o1), .val (.ref b7), .val (.int (2 : Int32))] [(.int (2 : Int32)), (.ref o1), (.int (2 : Int32)), (.ref b7)])) rfl rfl (hb hby d0_25) _ ?_
    refine st35 _ ?_
    refine st42 _ ?_
    refine XS.iinc X42.here hx rfl (hb hby d0_30) rfl (l' := #[.val (.ref o1), .val (.ref b7), .val (.int (3 : Int32))]) rfl ?_
    refine XS.goto X42.here hx rfl (pc0 := 33) (pc' := 15) rfl (hb hby d0_33) (by decide) (by decide) ?_
    refine XS.iloadN X42.here hx rfl (hb hby d0_15) rfl ?_
    refine XS.aloadN X42.here hx rfl (hb hby d0_16) rfl rfl ?_
    refine X42.arraylength hx (by rw [e42]; exact Ar44.1) (State.isArrayOf_alike hZ.alike Ar44.2.1) (g := (mkF m 17 #[.val (.ref o1), .val (.ref b7), .val (.int (3 : Int32))] [(.ref o1), (.int (3 : Int32))])) rfl rfl (hb hby d0_17) _ ?_
    rw [len_of Sa44 Na44]
    refine XS.icmpNo X42.here hx rfl (hb hby d0_18) rfl (tlt (by decide : (3 : Int32) < (4 : Int32))).2.1 ?_
    refine XS.aloadN X42.here hx rfl (hb hby d0_21) rfl rfl ?_
    refine XS.iloadN X42.here hx rfl (hb hby d0_22) rfl ?_
    refine XS.aloadN X42.here hx rfl (hb hby d0_23) rfl rfl ?_
    refine XS.iloadN X42.here hx rfl (hb hby d0_24) rfl ?_
    refine X42.baloadBooleans hx (j := (3 : Int32)) (v := (.int p6)) (by rw [e42]; exact Ar45.1) (State.isArrayOf_alike hZ.alike Ar45.2.1) Ar45.2.2 hin45 hat45 (g := (mkF m 25 #[.val (.ref o1), .val (.ref b7), .val (.int (3 : Int32))] [(.int (3 : Int32)), (.ref o1), (.int (3 : Int32)), (.ref b7)])) rfl rfl (hb hby d0_25) _ ?_
    refine st46 _ ?_
    refine st53 _ ?_
    refine XS.iinc X53.here hx rfl (hb hby d0_30) rfl (l' := #[.val (.ref o1), .val (.ref b7), .val (.int (4 : Int32))]) rfl ?_
    refine XS.goto X53.here hx rfl (pc0 := 33) (pc' := 15) rfl (hb hby d0_33) (by decide) (by decide) ?_
    refine XS.iloadN X53.here hx rfl (hb hby d0_15) rfl ?_
    refine XS.aloadN X53.here hx rfl (hb hby d0_16) rfl rfl ?_
    refine X53.arraylength hx (by rw [e53]; exact Ar55.1) (State.isArrayOf_alike hZ.alike Ar55.2.1) (g := (mkF m 17 #[.val (.ref o1), .val (.ref b7), .val (.int (4 : Int32))] [(.ref o1), (.int (4 : Int32))])) rfl rfl (hb hby d0_17) _ ?_
    rw [len_of Sa55 Na55]
    refine XS.icmpYes X53.here hx rfl (pc0 := 18) (pc' := 36) rfl (hb hby d0_18) rfl (flt (by decide : ¬ ((4 : Int32) < (4 : Int32)))).2.1 (by decide) (by decide) ?_
    refine XS.aloadN X53.here hx rfl (hb hby d0_36) rfl rfl ?_
    show Steps p.tables e below (T53.setTop (mkF m 37 #[.val (.ref o1), .val (.ref b7), .val (.int (4 : Int32))] [(.ref b7)])) _
    exact retOut X53 hx hret rfl (Or.inr (Or.inr (Or.inr (Or.inr ⟨rfl, rfl, rfl⟩)))) (hb hby d0_37) hr
  ·
    show Q28 Z w1 w2 o1 p3 p4 p5 p6 kc2 h0 n0 _ T53.heap _
    rw [e53]
    exact ⟨b7, k7, v12, v25, v36, v47, rfl, N53, KL, (Nat.le_trans M1 sz_b7), OV7, V53, f56, f15, f16, f28, f29, f39, f40, f50, f51⟩
theorem ef29 (m : MethodId) (x0 : Addr) (x1 : Addr) (x2 : Int32) (x3 : Int32) : entryFrame m #[(.ref x0), (.ref x1), (.int x2), (.int x3)] 5 = mkF m 0 #[.val (.ref x0), .val (.ref x1), .val (.int x2), .val (.int x3), .unset] [] := by first | (simp [entryFrame, mkF, argsToLocals, Value.category]; done) | rfl
def Q29 (Z : State) (o1 : Addr) (o2 : Addr) (kc4 : ClassId) (p3 : Int32) (p10 : Int32) (p11 : Int32) (p12 : Int32) (p13 : Int32) (p14 : Int32) (p15 : Int32) (p16 : Int32) (p17 : Int32) (v5 : Addr) (v6 : Addr) (v7 : Addr) (v8 : Addr) (kc9 : ClassId) (h0 : Heap) (n0 : Nat) (v : Option Value) (h : Heap) (L : List Loc) : Prop :=
  ((p14 = p3) ∧ (p10 = p3) ∧ v = some (.int (1 : Int32)) ∧ Fr n0 L ∧ h = h0)
  ∨ ((p14 = p3) ∧ (¬ (p10 = p3)) ∧ v = some (.int (0 : Int32)) ∧ Fr n0 L ∧ h = h0)
  ∨ ((¬ (p14 = p3)) ∧ v = some (.int (0 : Int32)) ∧ Fr n0 L ∧ h = h0)
set_option maxRecDepth 65536 in
set_option maxHeartbeats 40000000 in
theorem rm29 (l : Launch) (Z : State) (a0 : Array Value) (hw : ∀ d ∈ tables_1, d.before a0 Z = true) (ws : List Jvm.Cond) (o1 : Addr) (o2 : Addr) (kc4 : ClassId) (p3 : Int32) (p10 : Int32) (p11 : Int32) (p12 : Int32) (p13 : Int32) (p14 : Int32) (p15 : Int32) (p16 : Int32) (p17 : Int32) (v5 : Addr) (v6 : Addr) (v7 : Addr) (v8 : Addr) (kc9 : ClassId) (h0 : Heap) (n0 : Nat) (O0 : Old Z n0 h0) (g_o1 : n0 ≤ o1) (g_o2 : n0 ≤ o2) (Ov_kc4 : Ovr Z kc4 "java/lang/Boolean") (bd_p3 : 0 ≤ p3.toInt ∧ p3.toInt ≤ 1) (bd_p10 : 0 ≤ p10.toInt ∧ p10.toInt ≤ 1) (bd_p11 : 0 ≤ p11.toInt ∧ p11.toInt ≤ 1) (bd_p12 : 0 ≤ p12.toInt ∧ p12.toInt ≤ 1) (bd_p13 : 0 ≤ p13.toInt ∧ p13.toInt ≤ 1) (bd_p14 : 0 ≤ p14.toInt ∧ p14.toInt ≤ 1) (bd_p15 : 0 ≤ p15.toInt ∧ p15.toInt ≤ 1) (bd_p16 : 0 ≤ p16.toInt ∧ p16.toInt ≤ 1) (bd_p17 : 0 ≤ p17.toInt ∧ p17.toInt ≤ 1) (P0 : Arv Z h0 o1 kc4 (.object "java/lang/Boolean") (4 : Int32) [(.ref v5), (.ref v6), (.ref v7), (.ref v8)] .null) (P2 : Arv Z h0 o2 kc9 .boolean (4 : Int32) [(.int p10), (.int p11), (.int p12), (.int p13)] (.int (0 : Int32))) (P4 : Exa Z Z.heap v5 "java/lang/Boolean") (P5 : Fld Z Z.heap v5 "java/lang/Boolean" "value" "Z" (.int p14)) :
    MetFree l yn2 (head1 (Jvm.Cond.code yn2 method_3_code 5 (some .boolean) :: ws) ({ frames := 1, cells := 0, slots := 0, locals := 12 } : Room)) (fun a U => a = #[(.ref o1), (.ref o2), (.int (0 : Int32)), (.int p3)] ∧ Z.Warmed39 U.vm ∧ U.heap = h0) (fun _ _ _ _ _ => True) (fun _ U o U' => ∃ v L, o = .returned v ∧ Q29 Z o1 o2 kc4 p3 p10 p11 p12 p13 p14 p15 p16 p17 v5 v6 v7 v8 kc9 h0 n0 v U'.heap L ∧ FrameEnd U o U' L ({ frames := 1, cells := 0, slots := 0, locals := 12 } : Room).cells ({ frames := 1, cells := 0, slots := 0, locals := 12 } : Room).slots) := by
  refine MetFree.of_bodySF (plainFor_of_name pn2) hisR ?_
  intro p e s m args below meth c s₁ Bd hml0 hP hK
  obtain ⟨rfl, hZ, hh⟩ := hP
  have hx := Bd.exec
  have hby := Bd.bytes
  have hml : c.maxLocals = 5 := hml0
  have hown : s.vm.findClass "com/example/castless/castless/PrimitiveArraysBox333PinLaw" = some m.cls := findClass_of_methodNamed Bd.named
  have hnm := (name_of_methodNamed Bd.named Bd.method).1
  have hret := Bd.returns
  have hlk : meth.locks = false := BodyLoose.notSynchronized Bd
  have X0 : Stand p l e ({ frames := 1, cells := 0, slots := 0, locals := 12 } : Room) s m #[(.ref o1), (.ref o2), (.int (0 : Int32)), (.int p3)] below meth c s₁ [] 0 0 := Stand.of_body Bd
  have e0 : s₁.heap = h0 := by rw [← hh, Bd.state]; rfl
  have N0 := Fr.nil n0
  have pre0 : ∀ t, Steps p.tables e below (s₁.setTop (mkF m 0 #[.val (.ref o1), .val (.ref o2), .val (.int (0 : Int32)), .val (.int p3), .unset] [])) t → Steps p.tables e below (s₁.setTop (entryFrame m #[(.ref o1), (.ref o2), (.int (0 : Int32)), (.int p3)] 5)) t := fun t k => castTop (ef29 m o1 o2 (0 : Int32) p3) k
  obtain ⟨cl1, Ar1, qa1, Sa1, Na1, Ha1, Ga1⟩ := id (P2)
  obtain ⟨cl2, Ar2, qa2, Sa2, Na2, Ha2, Ga2⟩ := id (P0)
  have hin2 : ¬ ((0 : Int32) < 0 ∨ cl2.slots.size ≤ ((0 : Int32)).toNatClampNeg) := inb_of Sa2 ⟨by decide, by decide⟩
  have hat2 : cl2.slots[((0 : Int32)).toNatClampNeg]? = some (.ref v5) := Has.at Ha2 hin2 rfl
  obtain ⟨cq3, kq3, q3a, q3b, q3c⟩ := isOf hZ e0 (P4.ext O0.2)
  obtain ⟨_, _, ⟨T4, L4, c4, n4⟩, -, X4, ⟨Lc4, hQ4, l4, y4, z4⟩, st4⟩ := X0.virtualBack hx (y := yn4) (z := yn4) hown (mvT hZ (own_w hw 31 rfl)) (mvT hZ (own_w hw 32 rfl)) (notFace_of_selects (args := #[]) (mvT hZ (own_w hw 34 rfl))) (mvT hZ (own_w hw 34 rfl)) (mvT hZ (own_w hw 33 rfl)) (by decide) (backOf (W := 0) (rm10 l Z a0 hw [] p14 v5 h0 n0 O0 (by have q0 := bd_p14; omega) P5) hZ (own_w hw 35 rfl) (own_w hw 26 rfl) (by decide) (by decide)) q3a q3c (g := (mkF m 20 #[.val (.ref o1), .val (.ref o2), .val (.int (0 : Int32)), .val (.int p3), .val (.ref v5)] [(.ref v5)])) rfl (by rw [hml]; rfl) (Steps.refl _) (argsL := []) (rest := []) (lenOf pd4 rfl) rfl (by show 2 * 0 + _ ≤ _; exact Nat.le_of_eq rfl) (hb hby d2_20) (fun _ _ => ⟨rfl, e0, (by decide : 0 + 0 ≤ _), (by decide : 0 + 0 ≤ _)⟩)
  dsimp only [Pt.U, Pt.locs, Pt.cells, Pt.slots] at X4 l4 y4 z4 st4 hQ4
  subst l4 y4 z4
  have X4 : Stand p l e ({ frames := 1, cells := 0, slots := 0, locals := 12 } : Room) s m #[(.ref o1), (.ref o2), (.int (0 : Int32)), (.int p3)] below meth c T4 _ 0 0 := X4
  obtain ⟨rfl, Nq5, e6⟩ := hQ4
  have N4 := Fr.app N0 Nq5
  have pre7 : ∀ t, Steps p.tables e below (T4.setTop (mkF m 24 #[.val (.ref o1), .val (.ref o2), .val (.int (0 : Int32)), .val (.int p3), .val (.ref v5)] [(.int p3), (.int p14)])) t → Steps p.tables e below (s₁.setTop (entryFrame m #[(.ref o1), (.ref o2), (.int (0 : Int32)), (.int p3)] 5)) t := fun t k => by
    refine pre0 _ ?_
    show Steps p.tables e below (s₁.setTop (mkF m 0 #[.val (.ref o1), .val (.ref o2), .val (.int (0 : Int32)), .val (.int p3), .unset] [])) _
    refine XS.iloadN X0.here hx rfl (hb hby d2_0) rfl ?_
    refine XS.aloadN X0.here hx rfl (hb hby d2_1) rfl rfl ?_
    refine X0.arraylength hx (by rw [e0]; exact Ar1.1) (State.isArrayOf_alike hZ.alike Ar1.2.1) (g := (mkF m 2 #[.val (.ref o1), .val (.ref o2), .val (.int (0 : Int32)), .val (.int p3), .unset] [(.ref o2), (.int (0 : Int32))])) rfl rfl (hb hby d2_2) _ ?_
    rw [len_of Sa1 Na1]
    refine XS.icmpYes X0.here hx rfl (pc0 := 3) (pc' := 8) rfl (hb hby d2_3) rfl (tlt (by decide : (0 : Int32) < (4 : Int32))).1 (by decide) (by decide) ?_
    refine XS.aloadN X0.here hx rfl (hb hby d2_8) rfl rfl ?_
    refine XS.iloadN X0.here hx rfl (hb hby d2_9) rfl ?_
    refine X0.aaload hx (j := (0 : Int32)) (v := (.ref v5)) (by rw [e0]; exact Ar2.1) (State.isArrayOf_alike hZ.alike Ar2.2.1) rfl Ar2.2.2 hin2 hat2 (g := (mkF m 10 #[.val (.ref o1), .val (.ref o2), .val (.int (0 : Int32)), .val (.int p3), .unset] [(.int (0 : Int32)), (.ref o1)])) rfl rfl (hb hby d2_10) _ ?_
    refine XS.astore X0.here hx rfl (hb hby d2_11) rfl rfl (l' := #[.val (.ref o1), .val (.ref o2), .val (.int (0 : Int32)), .val (.int p3), .val (.ref v5)]) rfl ?_
    refine XS.aload X0.here hx rfl (hb hby d2_13) rfl rfl ?_
    refine XS.ifnullNo X0.here hx rfl (hb hby d2_15) rfl ?_
    refine XS.aload X0.here hx rfl (hb hby d2_18) rfl rfl ?_
    refine st4.trans ?_
    refine XS.iloadN X4.here hx rfl (hb hby d2_23) rfl ?_
    exact k
  by_cases hc8 : p14 = p3
  ·
    obtain ⟨cl9, Ar9, qa9, Sa9, Na9, Ha9, Ga9⟩ := id (P2)
    have hin9 : ¬ ((0 : Int32) < 0 ∨ cl9.slots.size ≤ ((0 : Int32)).toNatClampNeg) := inb_of Sa9 ⟨by decide, by decide⟩
    have hat9 : cl9.slots[((0 : Int32)).toNatClampNeg]? = some (.int p10) := Has.at Ha9 hin9 rfl
    have pre10 : ∀ t, Steps p.tables e below (T4.setTop (mkF m 31 #[.val (.ref o1), .val (.ref o2), .val (.int (0 : Int32)), .val (.int p3), .val (.ref v5)] [(.int p3), (.int p10)])) t → Steps p.tables e below (s₁.setTop (entryFrame m #[(.ref o1), (.ref o2), (.int (0 : Int32)), (.int p3)] 5)) t := fun t k => by
      refine pre7 _ ?_
      show Steps p.tables e below (T4.setTop (mkF m 24 #[.val (.ref o1), .val (.ref o2), .val (.int (0 : Int32)), .val (.int p3), .val (.ref v5)] [(.int p3), (.int p14)])) _
      refine XS.icmpNo X4.here hx rfl (hb hby d2_24) rfl (teq hc8).2 ?_
      refine XS.aloadN X4.here hx rfl (hb hby d2_27) rfl rfl ?_
      refine XS.iloadN X4.here hx rfl (hb hby d2_28) rfl ?_
      refine X4.baloadBooleans hx (j := (0 : Int32)) (v := (.int p10)) (by rw [e6]; exact Ar9.1) (State.isArrayOf_alike hZ.alike Ar9.2.1) Ar9.2.2 hin9 hat9 (g := (mkF m 29 #[.val (.ref o1), .val (.ref o2), .val (.int (0 : Int32)), .val (.int p3), .val (.ref v5)] [(.int (0 : Int32)), (.ref o2)])) rfl rfl (hb hby d2_29) _ ?_
      refine XS.iloadN X4.here hx rfl (hb hby d2_30) rfl ?_
      exact k
    by_cases hc11 : p10 = p3
    ·
      obtain ⟨fs, hr, hrun, hended, hW, hsame⟩ := X4.leave (v := some (.int (1 : Int32))) (fun h => by rw [hret] at h; cases h)
      refine ⟨_, _, pre10 _ ?_, hrun, hended, _, _, rfl, ?_, ⟨_, rfl⟩, hW, hsame.mono (by decide) (by decide)⟩
      ·
        show Steps p.tables e below (T4.setTop (mkF m 31 #[.val (.ref o1), .val (.ref o2), .val (.int (0 : Int32)), .val (.int p3), .val (.ref v5)] [(.int p3), (.int p10)])) _
        refine XS.icmpNo X4.here hx rfl (hb hby d2_31) rfl (teq hc11).2 ?_
        refine XS.iconst X4.here hx rfl (hb hby d2_34) ?_
        refine XS.goto X4.here hx rfl (pc0 := 35) (pc' := 39) rfl (hb hby d2_35) (by decide) (by decide) ?_
        show Steps p.tables e below (T4.setTop (mkF m 39 #[.val (.ref o1), .val (.ref o2), .val (.int (0 : Int32)), .val (.int p3), .val (.ref v5)] [(.int (1 : Int32))])) _
        exact retN X4 hx (t := .boolean) hret (by simp) (hb hby d2_39) hr
      ·
        show Q29 Z o1 o2 kc4 p3 p10 p11 p12 p13 p14 p15 p16 p17 v5 v6 v7 v8 kc9 h0 n0 _ T4.heap _
        rw [e6]
        exact (Or.inl ⟨hc8, hc11, rfl, N4, rfl⟩)
    ·
      obtain ⟨fs, hr, hrun, hended, hW, hsame⟩ := X4.leave (v := some (.int (0 : Int32))) (fun h => by rw [hret] at h; cases h)
      refine ⟨_, _, pre10 _ ?_, hrun, hended, _, _, rfl, ?_, ⟨_, rfl⟩, hW, hsame.mono (by decide) (by decide)⟩
      ·
        show Steps p.tables e below (T4.setTop (mkF m 31 #[.val (.ref o1), .val (.ref o2), .val (.int (0 : Int32)), .val (.int p3), .val (.ref v5)] [(.int p3), (.int p10)])) _
        refine XS.icmpYes X4.here hx rfl (pc0 := 31) (pc' := 38) rfl (hb hby d2_31) rfl (feq hc11).2 (by decide) (by decide) ?_
        refine XS.iconst X4.here hx rfl (hb hby d2_38) ?_
        show Steps p.tables e below (T4.setTop (mkF m 39 #[.val (.ref o1), .val (.ref o2), .val (.int (0 : Int32)), .val (.int p3), .val (.ref v5)] [(.int (0 : Int32))])) _
        exact retN X4 hx (t := .boolean) hret (by simp) (hb hby d2_39) hr
      ·
        show Q29 Z o1 o2 kc4 p3 p10 p11 p12 p13 p14 p15 p16 p17 v5 v6 v7 v8 kc9 h0 n0 _ T4.heap _
        rw [e6]
        exact (Or.inr (Or.inl ⟨hc8, hc11, rfl, N4, rfl⟩))
  ·
    obtain ⟨fs, hr, hrun, hended, hW, hsame⟩ := X4.leave (v := some (.int (0 : Int32))) (fun h => by rw [hret] at h; cases h)
    refine ⟨_, _, pre7 _ ?_, hrun, hended, _, _, rfl, ?_, ⟨_, rfl⟩, hW, hsame.mono (by decide) (by decide)⟩
    ·
      show Steps p.tables e below (T4.setTop (mkF m 24 #[.val (.ref o1), .val (.ref o2), .val (.int (0 : Int32)), .val (.int p3), .val (.ref v5)] [(.int p3), (.int p14)])) _
      refine XS.icmpYes X4.here hx rfl (pc0 := 24) (pc' := 38) rfl (hb hby d2_24) rfl (feq hc8).2 (by decide) (by decide) ?_
      refine XS.iconst X4.here hx rfl (hb hby d2_38) ?_
      show Steps p.tables e below (T4.setTop (mkF m 39 #[.val (.ref o1), .val (.ref o2), .val (.int (0 : Int32)), .val (.int p3), .val (.ref v5)] [(.int (0 : Int32))])) _
      exact retN X4 hx (t := .boolean) hret (by simp) (hb hby d2_39) hr
    ·
      show Q29 Z o1 o2 kc4 p3 p10 p11 p12 p13 p14 p15 p16 p17 v5 v6 v7 v8 kc9 h0 n0 _ T4.heap _
      rw [e6]
      exact (Or.inr (Or.inr ⟨hc8, rfl, N4, rfl⟩))
theorem ef30 (m : MethodId) (x0 : Addr) (x1 : Addr) (x2 : Int32) (x3 : Int32) : entryFrame m #[(.ref x0), (.ref x1), (.int x2), (.int x3)] 5 = mkF m 0 #[.val (.ref x0), .val (.ref x1), .val (.int x2), .val (.int x3), .unset] [] := by first | (simp [entryFrame, mkF, argsToLocals, Value.category]; done) | rfl
def Q30 (Z : State) (o1 : Addr) (o2 : Addr) (kc4 : ClassId) (p3 : Int32) (p10 : Int32) (p11 : Int32) (p12 : Int32) (p13 : Int32) (p14 : Int32) (p15 : Int32) (p16 : Int32) (p17 : Int32) (v5 : Addr) (v6 : Addr) (v7 : Addr) (v8 : Addr) (kc9 : ClassId) (h0 : Heap) (n0 : Nat) (v : Option Value) (h : Heap) (L : List Loc) : Prop :=
  ((p15 = p3) ∧ (p11 = p3) ∧ v = some (.int (1 : Int32)) ∧ Fr n0 L ∧ h = h0)
  ∨ ((p15 = p3) ∧ (¬ (p11 = p3)) ∧ v = some (.int (0 : Int32)) ∧ Fr n0 L ∧ h = h0)
  ∨ ((¬ (p15 = p3)) ∧ v = some (.int (0 : Int32)) ∧ Fr n0 L ∧ h = h0)
set_option maxRecDepth 65536 in
set_option maxHeartbeats 40000000 in
theorem rm30 (l : Launch) (Z : State) (a0 : Array Value) (hw : ∀ d ∈ tables_1, d.before a0 Z = true) (ws : List Jvm.Cond) (o1 : Addr) (o2 : Addr) (kc4 : ClassId) (p3 : Int32) (p10 : Int32) (p11 : Int32) (p12 : Int32) (p13 : Int32) (p14 : Int32) (p15 : Int32) (p16 : Int32) (p17 : Int32) (v5 : Addr) (v6 : Addr) (v7 : Addr) (v8 : Addr) (kc9 : ClassId) (h0 : Heap) (n0 : Nat) (O0 : Old Z n0 h0) (g_o1 : n0 ≤ o1) (g_o2 : n0 ≤ o2) (Ov_kc4 : Ovr Z kc4 "java/lang/Boolean") (bd_p3 : 0 ≤ p3.toInt ∧ p3.toInt ≤ 1) (bd_p10 : 0 ≤ p10.toInt ∧ p10.toInt ≤ 1) (bd_p11 : 0 ≤ p11.toInt ∧ p11.toInt ≤ 1) (bd_p12 : 0 ≤ p12.toInt ∧ p12.toInt ≤ 1) (bd_p13 : 0 ≤ p13.toInt ∧ p13.toInt ≤ 1) (bd_p14 : 0 ≤ p14.toInt ∧ p14.toInt ≤ 1) (bd_p15 : 0 ≤ p15.toInt ∧ p15.toInt ≤ 1) (bd_p16 : 0 ≤ p16.toInt ∧ p16.toInt ≤ 1) (bd_p17 : 0 ≤ p17.toInt ∧ p17.toInt ≤ 1) (P0 : Arv Z h0 o1 kc4 (.object "java/lang/Boolean") (4 : Int32) [(.ref v5), (.ref v6), (.ref v7), (.ref v8)] .null) (P2 : Arv Z h0 o2 kc9 .boolean (4 : Int32) [(.int p10), (.int p11), (.int p12), (.int p13)] (.int (0 : Int32))) (P6 : Exa Z Z.heap v6 "java/lang/Boolean") (P7 : Fld Z Z.heap v6 "java/lang/Boolean" "value" "Z" (.int p15)) :
    MetFree l yn2 (head1 (Jvm.Cond.code yn2 method_3_code 5 (some .boolean) :: ws) ({ frames := 1, cells := 0, slots := 0, locals := 12 } : Room)) (fun a U => a = #[(.ref o1), (.ref o2), (.int (1 : Int32)), (.int p3)] ∧ Z.Warmed39 U.vm ∧ U.heap = h0) (fun _ _ _ _ _ => True) (fun _ U o U' => ∃ v L, o = .returned v ∧ Q30 Z o1 o2 kc4 p3 p10 p11 p12 p13 p14 p15 p16 p17 v5 v6 v7 v8 kc9 h0 n0 v U'.heap L ∧ FrameEnd U o U' L ({ frames := 1, cells := 0, slots := 0, locals := 12 } : Room).cells ({ frames := 1, cells := 0, slots := 0, locals := 12 } : Room).slots) := by
  refine MetFree.of_bodySF (plainFor_of_name pn2) hisR ?_
  intro p e s m args below meth c s₁ Bd hml0 hP hK
  obtain ⟨rfl, hZ, hh⟩ := hP
  have hx := Bd.exec
  have hby := Bd.bytes
  have hml : c.maxLocals = 5 := hml0
  have hown : s.vm.findClass "com/example/castless/castless/PrimitiveArraysBox333PinLaw" = some m.cls := findClass_of_methodNamed Bd.named
  have hnm := (name_of_methodNamed Bd.named Bd.method).1
  have hret := Bd.returns
  have hlk : meth.locks = false := BodyLoose.notSynchronized Bd
  have X0 : Stand p l e ({ frames := 1, cells := 0, slots := 0, locals := 12 } : Room) s m #[(.ref o1), (.ref o2), (.int (1 : Int32)), (.int p3)] below meth c s₁ [] 0 0 := Stand.of_body Bd
  have e0 : s₁.heap = h0 := by rw [← hh, Bd.state]; rfl
  have N0 := Fr.nil n0
  have pre0 : ∀ t, Steps p.tables e below (s₁.setTop (mkF m 0 #[.val (.ref o1), .val (.ref o2), .val (.int (1 : Int32)), .val (.int p3), .unset] [])) t → Steps p.tables e below (s₁.setTop (entryFrame m #[(.ref o1), (.ref o2), (.int (1 : Int32)), (.int p3)] 5)) t := fun t k => castTop (ef30 m o1 o2 (1 : Int32) p3) k
  obtain ⟨cl1, Ar1, qa1, Sa1, Na1, Ha1, Ga1⟩ := id (P2)
  obtain ⟨cl2, Ar2, qa2, Sa2, Na2, Ha2, Ga2⟩ := id (P0)
  have hin2 : ¬ ((1 : Int32) < 0 ∨ cl2.slots.size ≤ ((1 : Int32)).toNatClampNeg) := inb_of Sa2 ⟨by decide, by decide⟩
  have hat2 : cl2.slots[((1 : Int32)).toNatClampNeg]? = some (.ref v6) := Has.at Ha2 hin2 rfl
  obtain ⟨cq3, kq3, q3a, q3b, q3c⟩ := isOf hZ e0 (P6.ext O0.2)
  obtain ⟨_, _, ⟨T4, L4, c4, n4⟩, -, X4, ⟨Lc4, hQ4, l4, y4, z4⟩, st4⟩ := X0.virtualBack hx (y := yn4) (z := yn4) hown (mvT hZ (own_w hw 31 rfl)) (mvT hZ (own_w hw 32 rfl)) (notFace_of_selects (args := #[]) (mvT hZ (own_w hw 34 rfl))) (mvT hZ (own_w hw 34 rfl)) (mvT hZ (own_w hw 33 rfl)) (by decide) (backOf (W := 0) (rm10 l Z a0 hw [] p15 v6 h0 n0 O0 (by have q0 := bd_p15; omega) P7) hZ (own_w hw 35 rfl) (own_w hw 26 rfl) (by decide) (by decide)) q3a q3c (g := (mkF m 20 #[.val (.ref o1), .val (.ref o2), .val (.int (1 : Int32)), .val (.int p3), .val (.ref v6)] [(.ref v6)])) rfl (by rw [hml]; rfl) (Steps.refl _) (argsL := []) (rest := []) (lenOf pd4 rfl) rfl (by show 2 * 0 + _ ≤ _; exact Nat.le_of_eq rfl) (hb hby d2_20) (fun _ _ => ⟨rfl, e0, (by decide : 0 + 0 ≤ _), (by decide : 0 + 0 ≤ _)⟩)
  dsimp only [Pt.U, Pt.locs, Pt.cells, Pt.slots] at X4 l4 y4 z4 st4 hQ4
  subst l4 y4 z4
  have X4 : Stand p l e ({ frames := 1, cells := 0, slots := 0, locals := 12 } : Room) s m #[(.ref o1), (.ref o2), (.int (1 : Int32)), (.int p3)] below meth c T4 _ 0 0 := X4
  obtain ⟨rfl, Nq5, e6⟩ := hQ4
  have N4 := Fr.app N0 Nq5
  have pre7 : ∀ t, Steps p.tables e below (T4.setTop (mkF m 24 #[.val (.ref o1), .val (.ref o2), .val (.int (1 : Int32)), .val (.int p3), .val (.ref v6)] [(.int p3), (.int p15)])) t → Steps p.tables e below (s₁.setTop (entryFrame m #[(.ref o1), (.ref o2), (.int (1 : Int32)), (.int p3)] 5)) t := fun t k => by
    refine pre0 _ ?_
    show Steps p.tables e below (s₁.setTop (mkF m 0 #[.val (.ref o1), .val (.ref o2), .val (.int (1 : Int32)), .val (.int p3), .unset] [])) _
    refine XS.iloadN X0.here hx rfl (hb hby d2_0) rfl ?_
    refine XS.aloadN X0.here hx rfl (hb hby d2_1) rfl rfl ?_
    refine X0.arraylength hx (by rw [e0]; exact Ar1.1) (State.isArrayOf_alike hZ.alike Ar1.2.1) (g := (mkF m 2 #[.val (.ref o1), .val (.ref o2), .val (.int (1 : Int32)), .val (.int p3), .unset] [(.ref o2), (.int (1 : Int32))])) rfl rfl (hb hby d2_2) _ ?_
    rw [len_of Sa1 Na1]
    refine XS.icmpYes X0.here hx rfl (pc0 := 3) (pc' := 8) rfl (hb hby d2_3) rfl (tlt (by decide : (1 : Int32) < (4 : Int32))).1 (by decide) (by decide) ?_
    refine XS.aloadN X0.here hx rfl (hb hby d2_8) rfl rfl ?_
    refine XS.iloadN X0.here hx rfl (hb hby d2_9) rfl ?_
    refine X0.aaload hx (j := (1 : Int32)) (v := (.ref v6)) (by rw [e0]; exact Ar2.1) (State.isArrayOf_alike hZ.alike Ar2.2.1) rfl Ar2.2.2 hin2 hat2 (g := (mkF m 10 #[.val (.ref o1), .val (.ref o2), .val (.int (1 : Int32)), .val (.int p3), .unset] [(.int (1 : Int32)), (.ref o1)])) rfl rfl (hb hby d2_10) _ ?_
    refine XS.astore X0.here hx rfl (hb hby d2_11) rfl rfl (l' := #[.val (.ref o1), .val (.ref o2), .val (.int (1 : Int32)), .val (.int p3), .val (.ref v6)]) rfl ?_
    refine XS.aload X0.here hx rfl (hb hby d2_13) rfl rfl ?_
    refine XS.ifnullNo X0.here hx rfl (hb hby d2_15) rfl ?_
    refine XS.aload X0.here hx rfl (hb hby d2_18) rfl rfl ?_
    refine st4.trans ?_
    refine XS.iloadN X4.here hx rfl (hb hby d2_23) rfl ?_
    exact k
  by_cases hc8 : p15 = p3
  ·
    obtain ⟨cl9, Ar9, qa9, Sa9, Na9, Ha9, Ga9⟩ := id (P2)
    have hin9 : ¬ ((1 : Int32) < 0 ∨ cl9.slots.size ≤ ((1 : Int32)).toNatClampNeg) := inb_of Sa9 ⟨by decide, by decide⟩
    have hat9 : cl9.slots[((1 : Int32)).toNatClampNeg]? = some (.int p11) := Has.at Ha9 hin9 rfl
    have pre10 : ∀ t, Steps p.tables e below (T4.setTop (mkF m 31 #[.val (.ref o1), .val (.ref o2), .val (.int (1 : Int32)), .val (.int p3), .val (.ref v6)] [(.int p3), (.int p11)])) t → Steps p.tables e below (s₁.setTop (entryFrame m #[(.ref o1), (.ref o2), (.int (1 : Int32)), (.int p3)] 5)) t := fun t k => by
      refine pre7 _ ?_
      show Steps p.tables e below (T4.setTop (mkF m 24 #[.val (.ref o1), .val (.ref o2), .val (.int (1 : Int32)), .val (.int p3), .val (.ref v6)] [(.int p3), (.int p15)])) _
      refine XS.icmpNo X4.here hx rfl (hb hby d2_24) rfl (teq hc8).2 ?_
      refine XS.aloadN X4.here hx rfl (hb hby d2_27) rfl rfl ?_
      refine XS.iloadN X4.here hx rfl (hb hby d2_28) rfl ?_
      refine X4.baloadBooleans hx (j := (1 : Int32)) (v := (.int p11)) (by rw [e6]; exact Ar9.1) (State.isArrayOf_alike hZ.alike Ar9.2.1) Ar9.2.2 hin9 hat9 (g := (mkF m 29 #[.val (.ref o1), .val (.ref o2), .val (.int (1 : Int32)), .val (.int p3), .val (.ref v6)] [(.int (1 : Int32)), (.ref o2)])) rfl rfl (hb hby d2_29) _ ?_
      refine XS.iloadN X4.here hx rfl (hb hby d2_30) rfl ?_
      exact k
    by_cases hc11 : p11 = p3
    ·
      obtain ⟨fs, hr, hrun, hended, hW, hsame⟩ := X4.leave (v := some (.int (1 : Int32))) (fun h => by rw [hret] at h; cases h)
      refine ⟨_, _, pre10 _ ?_, hrun, hended, _, _, rfl, ?_, ⟨_, rfl⟩, hW, hsame.mono (by decide) (by decide)⟩
      ·
        show Steps p.tables e below (T4.setTop (mkF m 31 #[.val (.ref o1), .val (.ref o2), .val (.int (1 : Int32)), .val (.int p3), .val (.ref v6)] [(.int p3), (.int p11)])) _
        refine XS.icmpNo X4.here hx rfl (hb hby d2_31) rfl (teq hc11).2 ?_
        refine XS.iconst X4.here hx rfl (hb hby d2_34) ?_
        refine XS.goto X4.here hx rfl (pc0 := 35) (pc' := 39) rfl (hb hby d2_35) (by decide) (by decide) ?_
        show Steps p.tables e below (T4.setTop (mkF m 39 #[.val (.ref o1), .val (.ref o2), .val (.int (1 : Int32)), .val (.int p3), .val (.ref v6)] [(.int (1 : Int32))])) _
        exact retN X4 hx (t := .boolean) hret (by simp) (hb hby d2_39) hr
      ·
        show Q30 Z o1 o2 kc4 p3 p10 p11 p12 p13 p14 p15 p16 p17 v5 v6 v7 v8 kc9 h0 n0 _ T4.heap _
        rw [e6]
        exact (Or.inl ⟨hc8, hc11, rfl, N4, rfl⟩)
    ·
      obtain ⟨fs, hr, hrun, hended, hW, hsame⟩ := X4.leave (v := some (.int (0 : Int32))) (fun h => by rw [hret] at h; cases h)
      refine ⟨_, _, pre10 _ ?_, hrun, hended, _, _, rfl, ?_, ⟨_, rfl⟩, hW, hsame.mono (by decide) (by decide)⟩
      ·
        show Steps p.tables e below (T4.setTop (mkF m 31 #[.val (.ref o1), .val (.ref o2), .val (.int (1 : Int32)), .val (.int p3), .val (.ref v6)] [(.int p3), (.int p11)])) _
        refine XS.icmpYes X4.here hx rfl (pc0 := 31) (pc' := 38) rfl (hb hby d2_31) rfl (feq hc11).2 (by decide) (by decide) ?_
        refine XS.iconst X4.here hx rfl (hb hby d2_38) ?_
        show Steps p.tables e below (T4.setTop (mkF m 39 #[.val (.ref o1), .val (.ref o2), .val (.int (1 : Int32)), .val (.int p3), .val (.ref v6)] [(.int (0 : Int32))])) _
        exact retN X4 hx (t := .boolean) hret (by simp) (hb hby d2_39) hr
      ·
        show Q30 Z o1 o2 kc4 p3 p10 p11 p12 p13 p14 p15 p16 p17 v5 v6 v7 v8 kc9 h0 n0 _ T4.heap _
        rw [e6]
        exact (Or.inr (Or.inl ⟨hc8, hc11, rfl, N4, rfl⟩))
  ·
    obtain ⟨fs, hr, hrun, hended, hW, hsame⟩ := X4.leave (v := some (.int (0 : Int32))) (fun h => by rw [hret] at h; cases h)
    refine ⟨_, _, pre7 _ ?_, hrun, hended, _, _, rfl, ?_, ⟨_, rfl⟩, hW, hsame.mono (by decide) (by decide)⟩
    ·
      show Steps p.tables e below (T4.setTop (mkF m 24 #[.val (.ref o1), .val (.ref o2), .val (.int (1 : Int32)), .val (.int p3), .val (.ref v6)] [(.int p3), (.int p15)])) _
      refine XS.icmpYes X4.here hx rfl (pc0 := 24) (pc' := 38) rfl (hb hby d2_24) rfl (feq hc8).2 (by decide) (by decide) ?_
      refine XS.iconst X4.here hx rfl (hb hby d2_38) ?_
      show Steps p.tables e below (T4.setTop (mkF m 39 #[.val (.ref o1), .val (.ref o2), .val (.int (1 : Int32)), .val (.int p3), .val (.ref v6)] [(.int (0 : Int32))])) _
      exact retN X4 hx (t := .boolean) hret (by simp) (hb hby d2_39) hr
    ·
      show Q30 Z o1 o2 kc4 p3 p10 p11 p12 p13 p14 p15 p16 p17 v5 v6 v7 v8 kc9 h0 n0 _ T4.heap _
      rw [e6]
      exact (Or.inr (Or.inr ⟨hc8, rfl, N4, rfl⟩))
theorem ef31 (m : MethodId) (x0 : Addr) (x1 : Addr) (x2 : Int32) (x3 : Int32) : entryFrame m #[(.ref x0), (.ref x1), (.int x2), (.int x3)] 5 = mkF m 0 #[.val (.ref x0), .val (.ref x1), .val (.int x2), .val (.int x3), .unset] [] := by first | (simp [entryFrame, mkF, argsToLocals, Value.category]; done) | rfl
def Q31 (Z : State) (o1 : Addr) (o2 : Addr) (kc4 : ClassId) (p3 : Int32) (p10 : Int32) (p11 : Int32) (p12 : Int32) (p13 : Int32) (p14 : Int32) (p15 : Int32) (p16 : Int32) (p17 : Int32) (v5 : Addr) (v6 : Addr) (v7 : Addr) (v8 : Addr) (kc9 : ClassId) (h0 : Heap) (n0 : Nat) (v : Option Value) (h : Heap) (L : List Loc) : Prop :=
  ((p16 = p3) ∧ (p12 = p3) ∧ v = some (.int (1 : Int32)) ∧ Fr n0 L ∧ h = h0)
  ∨ ((p16 = p3) ∧ (¬ (p12 = p3)) ∧ v = some (.int (0 : Int32)) ∧ Fr n0 L ∧ h = h0)
  ∨ ((¬ (p16 = p3)) ∧ v = some (.int (0 : Int32)) ∧ Fr n0 L ∧ h = h0)
set_option maxRecDepth 65536 in
set_option maxHeartbeats 40000000 in
theorem rm31 (l : Launch) (Z : State) (a0 : Array Value) (hw : ∀ d ∈ tables_1, d.before a0 Z = true) (ws : List Jvm.Cond) (o1 : Addr) (o2 : Addr) (kc4 : ClassId) (p3 : Int32) (p10 : Int32) (p11 : Int32) (p12 : Int32) (p13 : Int32) (p14 : Int32) (p15 : Int32) (p16 : Int32) (p17 : Int32) (v5 : Addr) (v6 : Addr) (v7 : Addr) (v8 : Addr) (kc9 : ClassId) (h0 : Heap) (n0 : Nat) (O0 : Old Z n0 h0) (g_o1 : n0 ≤ o1) (g_o2 : n0 ≤ o2) (Ov_kc4 : Ovr Z kc4 "java/lang/Boolean") (bd_p3 : 0 ≤ p3.toInt ∧ p3.toInt ≤ 1) (bd_p10 : 0 ≤ p10.toInt ∧ p10.toInt ≤ 1) (bd_p11 : 0 ≤ p11.toInt ∧ p11.toInt ≤ 1) (bd_p12 : 0 ≤ p12.toInt ∧ p12.toInt ≤ 1) (bd_p13 : 0 ≤ p13.toInt ∧ p13.toInt ≤ 1) (bd_p14 : 0 ≤ p14.toInt ∧ p14.toInt ≤ 1) (bd_p15 : 0 ≤ p15.toInt ∧ p15.toInt ≤ 1) (bd_p16 : 0 ≤ p16.toInt ∧ p16.toInt ≤ 1) (bd_p17 : 0 ≤ p17.toInt ∧ p17.toInt ≤ 1) (P0 : Arv Z h0 o1 kc4 (.object "java/lang/Boolean") (4 : Int32) [(.ref v5), (.ref v6), (.ref v7), (.ref v8)] .null) (P2 : Arv Z h0 o2 kc9 .boolean (4 : Int32) [(.int p10), (.int p11), (.int p12), (.int p13)] (.int (0 : Int32))) (P8 : Exa Z Z.heap v7 "java/lang/Boolean") (P9 : Fld Z Z.heap v7 "java/lang/Boolean" "value" "Z" (.int p16)) :
    MetFree l yn2 (head1 (Jvm.Cond.code yn2 method_3_code 5 (some .boolean) :: ws) ({ frames := 1, cells := 0, slots := 0, locals := 12 } : Room)) (fun a U => a = #[(.ref o1), (.ref o2), (.int (2 : Int32)), (.int p3)] ∧ Z.Warmed39 U.vm ∧ U.heap = h0) (fun _ _ _ _ _ => True) (fun _ U o U' => ∃ v L, o = .returned v ∧ Q31 Z o1 o2 kc4 p3 p10 p11 p12 p13 p14 p15 p16 p17 v5 v6 v7 v8 kc9 h0 n0 v U'.heap L ∧ FrameEnd U o U' L ({ frames := 1, cells := 0, slots := 0, locals := 12 } : Room).cells ({ frames := 1, cells := 0, slots := 0, locals := 12 } : Room).slots) := by
  refine MetFree.of_bodySF (plainFor_of_name pn2) hisR ?_
  intro p e s m args below meth c s₁ Bd hml0 hP hK
  obtain ⟨rfl, hZ, hh⟩ := hP
  have hx := Bd.exec
  have hby := Bd.bytes
  have hml : c.maxLocals = 5 := hml0
  have hown : s.vm.findClass "com/example/castless/castless/PrimitiveArraysBox333PinLaw" = some m.cls := findClass_of_methodNamed Bd.named
  have hnm := (name_of_methodNamed Bd.named Bd.method).1
  have hret := Bd.returns
  have hlk : meth.locks = false := BodyLoose.notSynchronized Bd
  have X0 : Stand p l e ({ frames := 1, cells := 0, slots := 0, locals := 12 } : Room) s m #[(.ref o1), (.ref o2), (.int (2 : Int32)), (.int p3)] below meth c s₁ [] 0 0 := Stand.of_body Bd
  have e0 : s₁.heap = h0 := by rw [← hh, Bd.state]; rfl
  have N0 := Fr.nil n0
  have pre0 : ∀ t, Steps p.tables e below (s₁.setTop (mkF m 0 #[.val (.ref o1), .val (.ref o2), .val (.int (2 : Int32)), .val (.int p3), .unset] [])) t → Steps p.tables e below (s₁.setTop (entryFrame m #[(.ref o1), (.ref o2), (.int (2 : Int32)), (.int p3)] 5)) t := fun t k => castTop (ef31 m o1 o2 (2 : Int32) p3) k
  obtain ⟨cl1, Ar1, qa1, Sa1, Na1, Ha1, Ga1⟩ := id (P2)
  obtain ⟨cl2, Ar2, qa2, Sa2, Na2, Ha2, Ga2⟩ := id (P0)
  have hin2 : ¬ ((2 : Int32) < 0 ∨ cl2.slots.size ≤ ((2 : Int32)).toNatClampNeg) := inb_of Sa2 ⟨by decide, by decide⟩
  have hat2 : cl2.slots[((2 : Int32)).toNatClampNeg]? = some (.ref v7) := Has.at Ha2 hin2 rfl
  obtain ⟨cq3, kq3, q3a, q3b, q3c⟩ := isOf hZ e0 (P8.ext O0.2)
  obtain ⟨_, _, ⟨T4, L4, c4, n4⟩, -, X4, ⟨Lc4, hQ4, l4, y4, z4⟩, st4⟩ := X0.virtualBack hx (y := yn4) (z := yn4) hown (mvT hZ (own_w hw 31 rfl)) (mvT hZ (own_w hw 32 rfl)) (notFace_of_selects (args := #[]) (mvT hZ (own_w hw 34 rfl))) (mvT hZ (own_w hw 34 rfl)) (mvT hZ (own_w hw 33 rfl)) (by decide) (backOf (W := 0) (rm10 l Z a0 hw [] p16 v7 h0 n0 O0 (by have q0 := bd_p16; omega) P9) hZ (own_w hw 35 rfl) (own_w hw 26 rfl) (by decide) (by decide)) q3a q3c (g := (mkF m 20 #[.val (.ref o1), .val (.ref o2), .val (.int (2 : Int32)), .val (.int p3), .val (.ref v7)] [(.ref v7)])) rfl (by rw [hml]; rfl) (Steps.refl _) (argsL := []) (rest := []) (lenOf pd4 rfl) rfl (by show 2 * 0 + _ ≤ _; exact Nat.le_of_eq rfl) (hb hby d2_20) (fun _ _ => ⟨rfl, e0, (by decide : 0 + 0 ≤ _), (by decide : 0 + 0 ≤ _)⟩)
  dsimp only [Pt.U, Pt.locs, Pt.cells, Pt.slots] at X4 l4 y4 z4 st4 hQ4
  subst l4 y4 z4
  have X4 : Stand p l e ({ frames := 1, cells := 0, slots := 0, locals := 12 } : Room) s m #[(.ref o1), (.ref o2), (.int (2 : Int32)), (.int p3)] below meth c T4 _ 0 0 := X4
  obtain ⟨rfl, Nq5, e6⟩ := hQ4
  have N4 := Fr.app N0 Nq5
  have pre7 : ∀ t, Steps p.tables e below (T4.setTop (mkF m 24 #[.val (.ref o1), .val (.ref o2), .val (.int (2 : Int32)), .val (.int p3), .val (.ref v7)] [(.int p3), (.int p16)])) t → Steps p.tables e below (s₁.setTop (entryFrame m #[(.ref o1), (.ref o2), (.int (2 : Int32)), (.int p3)] 5)) t := fun t k => by
    refine pre0 _ ?_
    show Steps p.tables e below (s₁.setTop (mkF m 0 #[.val (.ref o1), .val (.ref o2), .val (.int (2 : Int32)), .val (.int p3), .unset] [])) _
    refine XS.iloadN X0.here hx rfl (hb hby d2_0) rfl ?_
    refine XS.aloadN X0.here hx rfl (hb hby d2_1) rfl rfl ?_
    refine X0.arraylength hx (by rw [e0]; exact Ar1.1) (State.isArrayOf_alike hZ.alike Ar1.2.1) (g := (mkF m 2 #[.val (.ref o1), .val (.ref o2), .val (.int (2 : Int32)), .val (.int p3), .unset] [(.ref o2), (.int (2 : Int32))])) rfl rfl (hb hby d2_2) _ ?_
    rw [len_of Sa1 Na1]
    refine XS.icmpYes X0.here hx rfl (pc0 := 3) (pc' := 8) rfl (hb hby d2_3) rfl (tlt (by decide : (2 : Int32) < (4 : Int32))).1 (by decide) (by decide) ?_
    refine XS.aloadN X0.here hx rfl (hb hby d2_8) rfl rfl ?_
    refine XS.iloadN X0.here hx rfl (hb hby d2_9) rfl ?_
    refine X0.aaload hx (j := (2 : Int32)) (v := (.ref v7)) (by rw [e0]; exact Ar2.1) (State.isArrayOf_alike hZ.alike Ar2.2.1) rfl Ar2.2.2 hin2 hat2 (g := (mkF m 10 #[.val (.ref o1), .val (.ref o2), .val (.int (2 : Int32)), .val (.int p3), .unset] [(.int (2 : Int32)), (.ref o1)])) rfl rfl (hb hby d2_10) _ ?_
    refine XS.astore X0.here hx rfl (hb hby d2_11) rfl rfl (l' := #[.val (.ref o1), .val (.ref o2), .val (.int (2 : Int32)), .val (.int p3), .val (.ref v7)]) rfl ?_
    refine XS.aload X0.here hx rfl (hb hby d2_13) rfl rfl ?_
    refine XS.ifnullNo X0.here hx rfl (hb hby d2_15) rfl ?_
    refine XS.aload X0.here hx rfl (hb hby d2_18) rfl rfl ?_
    refine st4.trans ?_
    refine XS.iloadN X4.here hx rfl (hb hby d2_23) rfl ?_
    exact k
  by_cases hc8 : p16 = p3
  ·
    obtain ⟨cl9, Ar9, qa9, Sa9, Na9, Ha9, Ga9⟩ := id (P2)
    have hin9 : ¬ ((2 : Int32) < 0 ∨ cl9.slots.size ≤ ((2 : Int32)).toNatClampNeg) := inb_of Sa9 ⟨by decide, by decide⟩
    have hat9 : cl9.slots[((2 : Int32)).toNatClampNeg]? = some (.int p12) := Has.at Ha9 hin9 rfl
    have pre10 : ∀ t, Steps p.tables e below (T4.setTop (mkF m 31 #[.val (.ref o1), .val (.ref o2), .val (.int (2 : Int32)), .val (.int p3), .val (.ref v7)] [(.int p3), (.int p12)])) t → Steps p.tables e below (s₁.setTop (entryFrame m #[(.ref o1), (.ref o2), (.int (2 : Int32)), (.int p3)] 5)) t := fun t k => by
      refine pre7 _ ?_
      show Steps p.tables e below (T4.setTop (mkF m 24 #[.val (.ref o1), .val (.ref o2), .val (.int (2 : Int32)), .val (.int p3), .val (.ref v7)] [(.int p3), (.int p16)])) _
      refine XS.icmpNo X4.here hx rfl (hb hby d2_24) rfl (teq hc8).2 ?_
      refine XS.aloadN X4.here hx rfl (hb hby d2_27) rfl rfl ?_
      refine XS.iloadN X4.here hx rfl (hb hby d2_28) rfl ?_
      refine X4.baloadBooleans hx (j := (2 : Int32)) (v := (.int p12)) (by rw [e6]; exact Ar9.1) (State.isArrayOf_alike hZ.alike Ar9.2.1) Ar9.2.2 hin9 hat9 (g := (mkF m 29 #[.val (.ref o1), .val (.ref o2), .val (.int (2 : Int32)), .val (.int p3), .val (.ref v7)] [(.int (2 : Int32)), (.ref o2)])) rfl rfl (hb hby d2_29) _ ?_
      refine XS.iloadN X4.here hx rfl (hb hby d2_30) rfl ?_
      exact k
    by_cases hc11 : p12 = p3
    ·
      obtain ⟨fs, hr, hrun, hended, hW, hsame⟩ := X4.leave (v := some (.int (1 : Int32))) (fun h => by rw [hret] at h; cases h)
      refine ⟨_, _, pre10 _ ?_, hrun, hended, _, _, rfl, ?_, ⟨_, rfl⟩, hW, hsame.mono (by decide) (by decide)⟩
      ·
        show Steps p.tables e below (T4.setTop (mkF m 31 #[.val (.ref o1), .val (.ref o2), .val (.int (2 : Int32)), .val (.int p3), .val (.ref v7)] [(.int p3), (.int p12)])) _
        refine XS.icmpNo X4.here hx rfl (hb hby d2_31) rfl (teq hc11).2 ?_
        refine XS.iconst X4.here hx rfl (hb hby d2_34) ?_
        refine XS.goto X4.here hx rfl (pc0 := 35) (pc' := 39) rfl (hb hby d2_35) (by decide) (by decide) ?_
        show Steps p.tables e below (T4.setTop (mkF m 39 #[.val (.ref o1), .val (.ref o2), .val (.int (2 : Int32)), .val (.int p3), .val (.ref v7)] [(.int (1 : Int32))])) _
        exact retN X4 hx (t := .boolean) hret (by simp) (hb hby d2_39) hr
      ·
        show Q31 Z o1 o2 kc4 p3 p10 p11 p12 p13 p14 p15 p16 p17 v5 v6 v7 v8 kc9 h0 n0 _ T4.heap _
        rw [e6]
        exact (Or.inl ⟨hc8, hc11, rfl, N4, rfl⟩)
    ·
      obtain ⟨fs, hr, hrun, hended, hW, hsame⟩ := X4.leave (v := some (.int (0 : Int32))) (fun h => by rw [hret] at h; cases h)
      refine ⟨_, _, pre10 _ ?_, hrun, hended, _, _, rfl, ?_, ⟨_, rfl⟩, hW, hsame.mono (by decide) (by decide)⟩
      ·
        show Steps p.tables e below (T4.setTop (mkF m 31 #[.val (.ref o1), .val (.ref o2), .val (.int (2 : Int32)), .val (.int p3), .val (.ref v7)] [(.int p3), (.int p12)])) _
        refine XS.icmpYes X4.here hx rfl (pc0 := 31) (pc' := 38) rfl (hb hby d2_31) rfl (feq hc11).2 (by decide) (by decide) ?_
        refine XS.iconst X4.here hx rfl (hb hby d2_38) ?_
        show Steps p.tables e below (T4.setTop (mkF m 39 #[.val (.ref o1), .val (.ref o2), .val (.int (2 : Int32)), .val (.int p3), .val (.ref v7)] [(.int (0 : Int32))])) _
        exact retN X4 hx (t := .boolean) hret (by simp) (hb hby d2_39) hr
      ·
        show Q31 Z o1 o2 kc4 p3 p10 p11 p12 p13 p14 p15 p16 p17 v5 v6 v7 v8 kc9 h0 n0 _ T4.heap _
        rw [e6]
        exact (Or.inr (Or.inl ⟨hc8, hc11, rfl, N4, rfl⟩))
  ·
    obtain ⟨fs, hr, hrun, hended, hW, hsame⟩ := X4.leave (v := some (.int (0 : Int32))) (fun h => by rw [hret] at h; cases h)
    refine ⟨_, _, pre7 _ ?_, hrun, hended, _, _, rfl, ?_, ⟨_, rfl⟩, hW, hsame.mono (by decide) (by decide)⟩
    ·
      show Steps p.tables e below (T4.setTop (mkF m 24 #[.val (.ref o1), .val (.ref o2), .val (.int (2 : Int32)), .val (.int p3), .val (.ref v7)] [(.int p3), (.int p16)])) _
      refine XS.icmpYes X4.here hx rfl (pc0 := 24) (pc' := 38) rfl (hb hby d2_24) rfl (feq hc8).2 (by decide) (by decide) ?_
      refine XS.iconst X4.here hx rfl (hb hby d2_38) ?_
      show Steps p.tables e below (T4.setTop (mkF m 39 #[.val (.ref o1), .val (.ref o2), .val (.int (2 : Int32)), .val (.int p3), .val (.ref v7)] [(.int (0 : Int32))])) _
      exact retN X4 hx (t := .boolean) hret (by simp) (hb hby d2_39) hr
    ·
      show Q31 Z o1 o2 kc4 p3 p10 p11 p12 p13 p14 p15 p16 p17 v5 v6 v7 v8 kc9 h0 n0 _ T4.heap _
      rw [e6]
      exact (Or.inr (Or.inr ⟨hc8, rfl, N4, rfl⟩))
theorem ef32 (m : MethodId) (x0 : Addr) (x1 : Addr) (x2 : Int32) (x3 : Int32) : entryFrame m #[(.ref x0), (.ref x1), (.int x2), (.int x3)] 5 = mkF m 0 #[.val (.ref x0), .val (.ref x1), .val (.int x2), .val (.int x3), .unset] [] := by first | (simp [entryFrame, mkF, argsToLocals, Value.category]; done) | rfl
def Q32 (Z : State) (o1 : Addr) (o2 : Addr) (kc4 : ClassId) (p3 : Int32) (p10 : Int32) (p11 : Int32) (p12 : Int32) (p13 : Int32) (p14 : Int32) (p15 : Int32) (p16 : Int32) (p17 : Int32) (v5 : Addr) (v6 : Addr) (v7 : Addr) (v8 : Addr) (kc9 : ClassId) (h0 : Heap) (n0 : Nat) (v : Option Value) (h : Heap) (L : List Loc) : Prop :=
  ((p17 = p3) ∧ (p13 = p3) ∧ v = some (.int (1 : Int32)) ∧ Fr n0 L ∧ h = h0)
  ∨ ((p17 = p3) ∧ (¬ (p13 = p3)) ∧ v = some (.int (0 : Int32)) ∧ Fr n0 L ∧ h = h0)
  ∨ ((¬ (p17 = p3)) ∧ v = some (.int (0 : Int32)) ∧ Fr n0 L ∧ h = h0)
set_option maxRecDepth 65536 in
set_option maxHeartbeats 40000000 in
theorem rm32 (l : Launch) (Z : State) (a0 : Array Value) (hw : ∀ d ∈ tables_1, d.before a0 Z = true) (ws : List Jvm.Cond) (o1 : Addr) (o2 : Addr) (kc4 : ClassId) (p3 : Int32) (p10 : Int32) (p11 : Int32) (p12 : Int32) (p13 : Int32) (p14 : Int32) (p15 : Int32) (p16 : Int32) (p17 : Int32) (v5 : Addr) (v6 : Addr) (v7 : Addr) (v8 : Addr) (kc9 : ClassId) (h0 : Heap) (n0 : Nat) (O0 : Old Z n0 h0) (g_o1 : n0 ≤ o1) (g_o2 : n0 ≤ o2) (Ov_kc4 : Ovr Z kc4 "java/lang/Boolean") (bd_p3 : 0 ≤ p3.toInt ∧ p3.toInt ≤ 1) (bd_p10 : 0 ≤ p10.toInt ∧ p10.toInt ≤ 1) (bd_p11 : 0 ≤ p11.toInt ∧ p11.toInt ≤ 1) (bd_p12 : 0 ≤ p12.toInt ∧ p12.toInt ≤ 1) (bd_p13 : 0 ≤ p13.toInt ∧ p13.toInt ≤ 1) (bd_p14 : 0 ≤ p14.toInt ∧ p14.toInt ≤ 1) (bd_p15 : 0 ≤ p15.toInt ∧ p15.toInt ≤ 1) (bd_p16 : 0 ≤ p16.toInt ∧ p16.toInt ≤ 1) (bd_p17 : 0 ≤ p17.toInt ∧ p17.toInt ≤ 1) (P0 : Arv Z h0 o1 kc4 (.object "java/lang/Boolean") (4 : Int32) [(.ref v5), (.ref v6), (.ref v7), (.ref v8)] .null) (P2 : Arv Z h0 o2 kc9 .boolean (4 : Int32) [(.int p10), (.int p11), (.int p12), (.int p13)] (.int (0 : Int32))) (P10 : Exa Z Z.heap v8 "java/lang/Boolean") (P11 : Fld Z Z.heap v8 "java/lang/Boolean" "value" "Z" (.int p17)) :
    MetFree l yn2 (head1 (Jvm.Cond.code yn2 method_3_code 5 (some .boolean) :: ws) ({ frames := 1, cells := 0, slots := 0, locals := 12 } : Room)) (fun a U => a = #[(.ref o1), (.ref o2), (.int (3 : Int32)), (.int p3)] ∧ Z.Warmed39 U.vm ∧ U.heap = h0) (fun _ _ _ _ _ => True) (fun _ U o U' => ∃ v L, o = .returned v ∧ Q32 Z o1 o2 kc4 p3 p10 p11 p12 p13 p14 p15 p16 p17 v5 v6 v7 v8 kc9 h0 n0 v U'.heap L ∧ FrameEnd U o U' L ({ frames := 1, cells := 0, slots := 0, locals := 12 } : Room).cells ({ frames := 1, cells := 0, slots := 0, locals := 12 } : Room).slots) := by
  refine MetFree.of_bodySF (plainFor_of_name pn2) hisR ?_
  intro p e s m args below meth c s₁ Bd hml0 hP hK
  obtain ⟨rfl, hZ, hh⟩ := hP
  have hx := Bd.exec
  have hby := Bd.bytes
  have hml : c.maxLocals = 5 := hml0
  have hown : s.vm.findClass "com/example/castless/castless/PrimitiveArraysBox333PinLaw" = some m.cls := findClass_of_methodNamed Bd.named
  have hnm := (name_of_methodNamed Bd.named Bd.method).1
  have hret := Bd.returns
  have hlk : meth.locks = false := BodyLoose.notSynchronized Bd
  have X0 : Stand p l e ({ frames := 1, cells := 0, slots := 0, locals := 12 } : Room) s m #[(.ref o1), (.ref o2), (.int (3 : Int32)), (.int p3)] below meth c s₁ [] 0 0 := Stand.of_body Bd
  have e0 : s₁.heap = h0 := by rw [← hh, Bd.state]; rfl
  have N0 := Fr.nil n0
  have pre0 : ∀ t, Steps p.tables e below (s₁.setTop (mkF m 0 #[.val (.ref o1), .val (.ref o2), .val (.int (3 : Int32)), .val (.int p3), .unset] [])) t → Steps p.tables e below (s₁.setTop (entryFrame m #[(.ref o1), (.ref o2), (.int (3 : Int32)), (.int p3)] 5)) t := fun t k => castTop (ef32 m o1 o2 (3 : Int32) p3) k
  obtain ⟨cl1, Ar1, qa1, Sa1, Na1, Ha1, Ga1⟩ := id (P2)
  obtain ⟨cl2, Ar2, qa2, Sa2, Na2, Ha2, Ga2⟩ := id (P0)
  have hin2 : ¬ ((3 : Int32) < 0 ∨ cl2.slots.size ≤ ((3 : Int32)).toNatClampNeg) := inb_of Sa2 ⟨by decide, by decide⟩
  have hat2 : cl2.slots[((3 : Int32)).toNatClampNeg]? = some (.ref v8) := Has.at Ha2 hin2 rfl
  obtain ⟨cq3, kq3, q3a, q3b, q3c⟩ := isOf hZ e0 (P10.ext O0.2)
  obtain ⟨_, _, ⟨T4, L4, c4, n4⟩, -, X4, ⟨Lc4, hQ4, l4, y4, z4⟩, st4⟩ := X0.virtualBack hx (y := yn4) (z := yn4) hown (mvT hZ (own_w hw 31 rfl)) (mvT hZ (own_w hw 32 rfl)) (notFace_of_selects (args := #[]) (mvT hZ (own_w hw 34 rfl))) (mvT hZ (own_w hw 34 rfl)) (mvT hZ (own_w hw 33 rfl)) (by decide) (backOf (W := 0) (rm10 l Z a0 hw [] p17 v8 h0 n0 O0 (by have q0 := bd_p17; omega) P11) hZ (own_w hw 35 rfl) (own_w hw 26 rfl) (by decide) (by decide)) q3a q3c (g := (mkF m 20 #[.val (.ref o1), .val (.ref o2), .val (.int (3 : Int32)), .val (.int p3), .val (.ref v8)] [(.ref v8)])) rfl (by rw [hml]; rfl) (Steps.refl _) (argsL := []) (rest := []) (lenOf pd4 rfl) rfl (by show 2 * 0 + _ ≤ _; exact Nat.le_of_eq rfl) (hb hby d2_20) (fun _ _ => ⟨rfl, e0, (by decide : 0 + 0 ≤ _), (by decide : 0 + 0 ≤ _)⟩)
  dsimp only [Pt.U, Pt.locs, Pt.cells, Pt.slots] at X4 l4 y4 z4 st4 hQ4
  subst l4 y4 z4
  have X4 : Stand p l e ({ frames := 1, cells := 0, slots := 0, locals := 12 } : Room) s m #[(.ref o1), (.ref o2), (.int (3 : Int32)), (.int p3)] below meth c T4 _ 0 0 := X4
  obtain ⟨rfl, Nq5, e6⟩ := hQ4
  have N4 := Fr.app N0 Nq5
  have pre7 : ∀ t, Steps p.tables e below (T4.setTop (mkF m 24 #[.val (.ref o1), .val (.ref o2), .val (.int (3 : Int32)), .val (.int p3), .val (.ref v8)] [(.int p3), (.int p17)])) t → Steps p.tables e below (s₁.setTop (entryFrame m #[(.ref o1), (.ref o2), (.int (3 : Int32)), (.int p3)] 5)) t := fun t k => by
    refine pre0 _ ?_
    show Steps p.tables e below (s₁.setTop (mkF m 0 #[.val (.ref o1), .val (.ref o2), .val (.int (3 : Int32)), .val (.int p3), .unset] [])) _
    refine XS.iloadN X0.here hx rfl (hb hby d2_0) rfl ?_
    refine XS.aloadN X0.here hx rfl (hb hby d2_1) rfl rfl ?_
    refine X0.arraylength hx (by rw [e0]; exact Ar1.1) (State.isArrayOf_alike hZ.alike Ar1.2.1) (g := (mkF m 2 #[.val (.ref o1), .val (.ref o2), .val (.int (3 : Int32)), .val (.int p3), .unset] [(.ref o2), (.int (3 : Int32))])) rfl rfl (hb hby d2_2) _ ?_
    rw [len_of Sa1 Na1]
    refine XS.icmpYes X0.here hx rfl (pc0 := 3) (pc' := 8) rfl (hb hby d2_3) rfl (tlt (by decide : (3 : Int32) < (4 : Int32))).1 (by decide) (by decide) ?_
    refine XS.aloadN X0.here hx rfl (hb hby d2_8) rfl rfl ?_
    refine XS.iloadN X0.here hx rfl (hb hby d2_9) rfl ?_
    refine X0.aaload hx (j := (3 : Int32)) (v := (.ref v8)) (by rw [e0]; exact Ar2.1) (State.isArrayOf_alike hZ.alike Ar2.2.1) rfl Ar2.2.2 hin2 hat2 (g := (mkF m 10 #[.val (.ref o1), .val (.ref o2), .val (.int (3 : Int32)), .val (.int p3), .unset] [(.int (3 : Int32)), (.ref o1)])) rfl rfl (hb hby d2_10) _ ?_
    refine XS.astore X0.here hx rfl (hb hby d2_11) rfl rfl (l' := #[.val (.ref o1), .val (.ref o2), .val (.int (3 : Int32)), .val (.int p3), .val (.ref v8)]) rfl ?_
    refine XS.aload X0.here hx rfl (hb hby d2_13) rfl rfl ?_
    refine XS.ifnullNo X0.here hx rfl (hb hby d2_15) rfl ?_
    refine XS.aload X0.here hx rfl (hb hby d2_18) rfl rfl ?_
    refine st4.trans ?_
    refine XS.iloadN X4.here hx rfl (hb hby d2_23) rfl ?_
    exact k
  by_cases hc8 : p17 = p3
  ·
    obtain ⟨cl9, Ar9, qa9, Sa9, Na9, Ha9, Ga9⟩ := id (P2)
    have hin9 : ¬ ((3 : Int32) < 0 ∨ cl9.slots.size ≤ ((3 : Int32)).toNatClampNeg) := inb_of Sa9 ⟨by decide, by decide⟩
    have hat9 : cl9.slots[((3 : Int32)).toNatClampNeg]? = some (.int p13) := Has.at Ha9 hin9 rfl
    have pre10 : ∀ t, Steps p.tables e below (T4.setTop (mkF m 31 #[.val (.ref o1), .val (.ref o2), .val (.int (3 : Int32)), .val (.int p3), .val (.ref v8)] [(.int p3), (.int p13)])) t → Steps p.tables e below (s₁.setTop (entryFrame m #[(.ref o1), (.ref o2), (.int (3 : Int32)), (.int p3)] 5)) t := fun t k => by
      refine pre7 _ ?_
      show Steps p.tables e below (T4.setTop (mkF m 24 #[.val (.ref o1), .val (.ref o2), .val (.int (3 : Int32)), .val (.int p3), .val (.ref v8)] [(.int p3), (.int p17)])) _
      refine XS.icmpNo X4.here hx rfl (hb hby d2_24) rfl (teq hc8).2 ?_
      refine XS.aloadN X4.here hx rfl (hb hby d2_27) rfl rfl ?_
      refine XS.iloadN X4.here hx rfl (hb hby d2_28) rfl ?_
      refine X4.baloadBooleans hx (j := (3 : Int32)) (v := (.int p13)) (by rw [e6]; exact Ar9.1) (State.isArrayOf_alike hZ.alike Ar9.2.1) Ar9.2.2 hin9 hat9 (g := (mkF m 29 #[.val (.ref o1), .val (.ref o2), .val (.int (3 : Int32)), .val (.int p3), .val (.ref v8)] [(.int (3 : Int32)), (.ref o2)])) rfl rfl (hb hby d2_29) _ ?_
      refine XS.iloadN X4.here hx rfl (hb hby d2_30) rfl ?_
      exact k
    by_cases hc11 : p13 = p3
    ·
      obtain ⟨fs, hr, hrun, hended, hW, hsame⟩ := X4.leave (v := some (.int (1 : Int32))) (fun h => by rw [hret] at h; cases h)
      refine ⟨_, _, pre10 _ ?_, hrun, hended, _, _, rfl, ?_, ⟨_, rfl⟩, hW, hsame.mono (by decide) (by decide)⟩
      ·
        show Steps p.tables e below (T4.setTop (mkF m 31 #[.val (.ref o1), .val (.ref o2), .val (.int (3 : Int32)), .val (.int p3), .val (.ref v8)] [(.int p3), (.int p13)])) _
        refine XS.icmpNo X4.here hx rfl (hb hby d2_31) rfl (teq hc11).2 ?_
        refine XS.iconst X4.here hx rfl (hb hby d2_34) ?_
        refine XS.goto X4.here hx rfl (pc0 := 35) (pc' := 39) rfl (hb hby d2_35) (by decide) (by decide) ?_
        show Steps p.tables e below (T4.setTop (mkF m 39 #[.val (.ref o1), .val (.ref o2), .val (.int (3 : Int32)), .val (.int p3), .val (.ref v8)] [(.int (1 : Int32))])) _
        exact retN X4 hx (t := .boolean) hret (by simp) (hb hby d2_39) hr
      ·
        show Q32 Z o1 o2 kc4 p3 p10 p11 p12 p13 p14 p15 p16 p17 v5 v6 v7 v8 kc9 h0 n0 _ T4.heap _
        rw [e6]
        exact (Or.inl ⟨hc8, hc11, rfl, N4, rfl⟩)
    ·
      obtain ⟨fs, hr, hrun, hended, hW, hsame⟩ := X4.leave (v := some (.int (0 : Int32))) (fun h => by rw [hret] at h; cases h)
      refine ⟨_, _, pre10 _ ?_, hrun, hended, _, _, rfl, ?_, ⟨_, rfl⟩, hW, hsame.mono (by decide) (by decide)⟩
      ·
        show Steps p.tables e below (T4.setTop (mkF m 31 #[.val (.ref o1), .val (.ref o2), .val (.int (3 : Int32)), .val (.int p3), .val (.ref v8)] [(.int p3), (.int p13)])) _
        refine XS.icmpYes X4.here hx rfl (pc0 := 31) (pc' := 38) rfl (hb hby d2_31) rfl (feq hc11).2 (by decide) (by decide) ?_
        refine XS.iconst X4.here hx rfl (hb hby d2_38) ?_
        show Steps p.tables e below (T4.setTop (mkF m 39 #[.val (.ref o1), .val (.ref o2), .val (.int (3 : Int32)), .val (.int p3), .val (.ref v8)] [(.int (0 : Int32))])) _
        exact retN X4 hx (t := .boolean) hret (by simp) (hb hby d2_39) hr
      ·
        show Q32 Z o1 o2 kc4 p3 p10 p11 p12 p13 p14 p15 p16 p17 v5 v6 v7 v8 kc9 h0 n0 _ T4.heap _
        rw [e6]
        exact (Or.inr (Or.inl ⟨hc8, hc11, rfl, N4, rfl⟩))
  ·
    obtain ⟨fs, hr, hrun, hended, hW, hsame⟩ := X4.leave (v := some (.int (0 : Int32))) (fun h => by rw [hret] at h; cases h)
    refine ⟨_, _, pre7 _ ?_, hrun, hended, _, _, rfl, ?_, ⟨_, rfl⟩, hW, hsame.mono (by decide) (by decide)⟩
    ·
      show Steps p.tables e below (T4.setTop (mkF m 24 #[.val (.ref o1), .val (.ref o2), .val (.int (3 : Int32)), .val (.int p3), .val (.ref v8)] [(.int p3), (.int p17)])) _
      refine XS.icmpYes X4.here hx rfl (pc0 := 24) (pc' := 38) rfl (hb hby d2_24) rfl (feq hc8).2 (by decide) (by decide) ?_
      refine XS.iconst X4.here hx rfl (hb hby d2_38) ?_
      show Steps p.tables e below (T4.setTop (mkF m 39 #[.val (.ref o1), .val (.ref o2), .val (.int (3 : Int32)), .val (.int p3), .val (.ref v8)] [(.int (0 : Int32))])) _
      exact retN X4 hx (t := .boolean) hret (by simp) (hb hby d2_39) hr
    ·
      show Q32 Z o1 o2 kc4 p3 p10 p11 p12 p13 p14 p15 p16 p17 v5 v6 v7 v8 kc9 h0 n0 _ T4.heap _
      rw [e6]
      exact (Or.inr (Or.inr ⟨hc8, rfl, N4, rfl⟩))
theorem ef0 (m : MethodId) (x0 : Int32) (x1 : Int32) : entryFrame m #[(.int x0), (.int x1)] maxLocals = mkF m 0 #[.val (.int x0), .val (.int x1), .unset, .unset, .unset, .unset, .unset, .unset, .unset] [] := by first | (simp [entryFrame, mkF, argsToLocals, Value.category, maxLocals]; done) | rfl
set_option maxRecDepth 65536 in
set_option maxHeartbeats 40000000 in
theorem rm0 (l : Launch) (Z : State) (a0 : Array Value) (hw : ∀ d ∈ tables_1, d.before a0 Z = true) (w1 : Addr) (w2 : Addr) (G : GW Z w1 w2) (ws : List Jvm.Cond) (p1 : Int32) (p2 : Int32) (h0 : Heap) (n0 : Nat) (O0 : Old Z n0 h0) :
    MetFree l x (head1 (Jvm.Cond.code x code maxLocals ret :: ws) room_1) (fun a U => a = #[(.int p1), (.int p2)] ∧ Z.Warmed39 U.vm ∧ U.heap = h0) (fun _ _ _ _ _ => True) (fun _ U o U' => ∃ v L, o = .returned v ∧ Q0 n0 v U'.heap L ∧ ReturnedEndW U o U' L 16 1152) := by
  obtain ⟨S_w1, E_w1, S_w2, E_w2, F_w1_value, F_w2_value⟩ := id G
  refine MetFree.of_bodySF (plainFor_of_name pn2) hisR ?_
  intro p e s m args below meth c s₁ Bd hml0 hP hK
  obtain ⟨rfl, hZ, hh⟩ := hP
  have hx := Bd.exec
  have hby := Bd.bytes
  have hml : c.maxLocals = 9 := hml0
  have hown : s.vm.findClass "com/example/castless/castless/PrimitiveArraysBox333PinLaw" = some m.cls := findClass_of_methodNamed Bd.named
  have hnm := (name_of_methodNamed Bd.named Bd.method).1
  have hret := Bd.returns
  have hlk : meth.locks = false := BodyLoose.notSynchronized Bd
  have X0 : Stand p l e room_1 s m #[(.int p1), (.int p2)] below meth c s₁ [] 0 0 := Stand.of_body Bd
  have e0 : s₁.heap = h0 := by rw [← hh, Bd.state]; rfl
  have N0 := Fr.nil n0
  have pre0 : ∀ t, Steps p.tables e below (s₁.setTop (mkF m 0 #[.val (.int p1), .val (.int p2), .unset, .unset, .unset, .unset, .unset, .unset, .unset] [])) t → Steps p.tables e below (s₁.setTop (entryFrame m #[(.int p1), (.int p2)] maxLocals)) t := fun t k => castTop (ef0 m p1 p2) k
  have pre1 : ∀ t, Steps p.tables e below (s₁.setTop (mkF m 10 #[.val (.int p1), .val (.int p2), .val (.int ((p1 &&& (2147483647 : Int32)) % (5 : Int32))), .unset, .unset, .unset, .unset, .unset, .unset] [(.int (p2 &&& (1 : Int32)))])) t → Steps p.tables e below (s₁.setTop (entryFrame m #[(.int p1), (.int p2)] maxLocals)) t := fun t k => by
    refine pre0 _ ?_
    show Steps p.tables e below (s₁.setTop (mkF m 0 #[.val (.int p1), .val (.int p2), .unset, .unset, .unset, .unset, .unset, .unset, .unset] [])) _
    refine XS.iloadN X0.here hx rfl (hb hby at_0) rfl ?_
    refine X0.ldcInt hx hown (mvT hZ (own_w hw 0 rfl)) (g := (mkF m 1 #[.val (.int p1), .val (.int p2), .unset, .unset, .unset, .unset, .unset, .unset, .unset] [(.int p1)])) rfl (hb hby at_1) _ ?_
    refine XS.iand X0.here hx rfl (hb hby at_3) rfl ?_
    refine XS.iconst X0.here hx rfl (hb hby at_4) ?_
    refine iremM X0 hx rfl (hb hby at_5) rfl (by decide : ¬ ((5 : Int32) = (0 : Int32))) ?_
    refine XS.istoreN X0.here hx rfl (hb hby at_6) rfl (l' := #[.val (.int p1), .val (.int p2), .val (.int ((p1 &&& (2147483647 : Int32)) % (5 : Int32))), .unset, .unset, .unset, .unset, .unset, .unset]) rfl ?_
    refine XS.iloadN X0.here hx rfl (hb hby at_7) rfl ?_
    refine XS.iconst X0.here hx rfl (hb hby at_8) ?_
    refine XS.iand X0.here hx rfl (hb hby at_9) rfl ?_
    exact k
  obtain ⟨z2, hz2⟩ : ∃ z : Int32, z = if (p2 &&& (1 : Int32)) = (0 : Int32) then (0 : Int32) else (1 : Int32) := ⟨_, rfl⟩
  have bz2 : 0 ≤ z2.toInt ∧ z2.toInt ≤ 1 := by rw [hz2]; split <;> decide
  have nz2 : nar .boolean z2 = z2 := by rw [hz2]; split <;> decide
  have pre2 : ∀ t, Steps p.tables e below (s₁.setTop (mkF m 18 #[.val (.int p1), .val (.int p2), .val (.int ((p1 &&& (2147483647 : Int32)) % (5 : Int32))), .unset, .unset, .unset, .unset, .unset, .unset] [(.int z2)])) t → Steps p.tables e below (s₁.setTop (entryFrame m #[(.int p1), (.int p2)] maxLocals)) t := fun t k => by
    by_cases hc2 : (p2 &&& (1 : Int32)) = (0 : Int32)
    ·
      rw [hz2, if_pos hc2] at k
      refine pre1 _ ?_
      show Steps p.tables e below (s₁.setTop (mkF m 10 #[.val (.int p1), .val (.int p2), .val (.int ((p1 &&& (2147483647 : Int32)) % (5 : Int32))), .unset, .unset, .unset, .unset, .unset, .unset] [(.int (p2 &&& (1 : Int32)))])) _
      refine XS.ifYes X0.here hx rfl (pc0 := 10) (pc' := 17) rfl (hb hby at_10) rfl ((if0 _ _).trans (teq hc2).1) (by decide) (by decide) ?_
      refine XS.iconst X0.here hx rfl (hb hby at_17) ?_
      exact k
    ·
      rw [hz2, if_neg hc2] at k
      refine pre1 _ ?_
      show Steps p.tables e below (s₁.setTop (mkF m 10 #[.val (.int p1), .val (.int p2), .val (.int ((p1 &&& (2147483647 : Int32)) % (5 : Int32))), .unset, .unset, .unset, .unset, .unset, .unset] [(.int (p2 &&& (1 : Int32)))])) _
      refine XS.ifNo X0.here hx rfl (hb hby at_10) rfl ((if0 _ _).trans (feq hc2).1) ?_
      refine XS.iconst X0.here hx rfl (hb hby at_13) ?_
      refine XS.goto X0.here hx rfl (pc0 := 14) (pc' := 18) rfl (hb hby at_14) (by decide) (by decide) ?_
      exact k
  have pre3 : ∀ t, Steps p.tables e below (s₁.setTop (mkF m 22 #[.val (.int p1), .val (.int p2), .val (.int ((p1 &&& (2147483647 : Int32)) % (5 : Int32))), .val (.int z2), .unset, .unset, .unset, .unset, .unset] [(.int (p2 &&& (2 : Int32)))])) t → Steps p.tables e below (s₁.setTop (entryFrame m #[(.int p1), (.int p2)] maxLocals)) t := fun t k => by
    refine pre2 _ ?_
    show Steps p.tables e below (s₁.setTop (mkF m 18 #[.val (.int p1), .val (.int p2), .val (.int ((p1 &&& (2147483647 : Int32)) % (5 : Int32))), .unset, .unset, .unset, .unset, .unset, .unset] [(.int z2)])) _
    refine XS.istoreN X0.here hx rfl (hb hby at_18) rfl (l' := #[.val (.int p1), .val (.int p2), .val (.int ((p1 &&& (2147483647 : Int32)) % (5 : Int32))), .val (.int z2), .unset, .unset, .unset, .unset, .unset]) rfl ?_
    refine XS.iloadN X0.here hx rfl (hb hby at_19) rfl ?_
    refine XS.iconst X0.here hx rfl (hb hby at_20) ?_
    refine XS.iand X0.here hx rfl (hb hby at_21) rfl ?_
    exact k
  obtain ⟨z4, hz4⟩ : ∃ z : Int32, z = if (p2 &&& (2 : Int32)) = (0 : Int32) then (0 : Int32) else (1 : Int32) := ⟨_, rfl⟩
  have bz4 : 0 ≤ z4.toInt ∧ z4.toInt ≤ 1 := by rw [hz4]; split <;> decide
  have nz4 : nar .boolean z4 = z4 := by rw [hz4]; split <;> decide
  have pre4 : ∀ t, Steps p.tables e below (s₁.setTop (mkF m 30 #[.val (.int p1), .val (.int p2), .val (.int ((p1 &&& (2147483647 : Int32)) % (5 : Int32))), .val (.int z2), .unset, .unset, .unset, .unset, .unset] [(.int z4)])) t → Steps p.tables e below (s₁.setTop (entryFrame m #[(.int p1), (.int p2)] maxLocals)) t := fun t k => by
    by_cases hc4 : (p2 &&& (2 : Int32)) = (0 : Int32)
    ·
      rw [hz4, if_pos hc4] at k
      refine pre3 _ ?_
      show Steps p.tables e below (s₁.setTop (mkF m 22 #[.val (.int p1), .val (.int p2), .val (.int ((p1 &&& (2147483647 : Int32)) % (5 : Int32))), .val (.int z2), .unset, .unset, .unset, .unset, .unset] [(.int (p2 &&& (2 : Int32)))])) _
      refine XS.ifYes X0.here hx rfl (pc0 := 22) (pc' := 29) rfl (hb hby at_22) rfl ((if0 _ _).trans (teq hc4).1) (by decide) (by decide) ?_
      refine XS.iconst X0.here hx rfl (hb hby at_29) ?_
      exact k
    ·
      rw [hz4, if_neg hc4] at k
      refine pre3 _ ?_
      show Steps p.tables e below (s₁.setTop (mkF m 22 #[.val (.int p1), .val (.int p2), .val (.int ((p1 &&& (2147483647 : Int32)) % (5 : Int32))), .val (.int z2), .unset, .unset, .unset, .unset, .unset] [(.int (p2 &&& (2 : Int32)))])) _
      refine XS.ifNo X0.here hx rfl (hb hby at_22) rfl ((if0 _ _).trans (feq hc4).1) ?_
      refine XS.iconst X0.here hx rfl (hb hby at_25) ?_
      refine XS.goto X0.here hx rfl (pc0 := 26) (pc' := 30) rfl (hb hby at_26) (by decide) (by decide) ?_
      exact k
  have pre5 : ∀ t, Steps p.tables e below (s₁.setTop (mkF m 35 #[.val (.int p1), .val (.int p2), .val (.int ((p1 &&& (2147483647 : Int32)) % (5 : Int32))), .val (.int z2), .val (.int z4), .unset, .unset, .unset, .unset] [(.int (p2 &&& (4 : Int32)))])) t → Steps p.tables e below (s₁.setTop (entryFrame m #[(.int p1), (.int p2)] maxLocals)) t := fun t k => by
    refine pre4 _ ?_
    show Steps p.tables e below (s₁.setTop (mkF m 30 #[.val (.int p1), .val (.int p2), .val (.int ((p1 &&& (2147483647 : Int32)) % (5 : Int32))), .val (.int z2), .unset, .unset, .unset, .unset, .unset] [(.int z4)])) _
    refine XS.istore X0.here hx rfl (hb hby at_30) rfl (l' := #[.val (.int p1), .val (.int p2), .val (.int ((p1 &&& (2147483647 : Int32)) % (5 : Int32))), .val (.int z2), .val (.int z4), .unset, .unset, .unset, .unset]) rfl ?_
    refine XS.iloadN X0.here hx rfl (hb hby at_32) rfl ?_
    refine XS.iconst X0.here hx rfl (hb hby at_33) ?_
    refine XS.iand X0.here hx rfl (hb hby at_34) rfl ?_
    exact k
  obtain ⟨z6, hz6⟩ : ∃ z : Int32, z = if (p2 &&& (4 : Int32)) = (0 : Int32) then (0 : Int32) else (1 : Int32) := ⟨_, rfl⟩
  have bz6 : 0 ≤ z6.toInt ∧ z6.toInt ≤ 1 := by rw [hz6]; split <;> decide
  have nz6 : nar .boolean z6 = z6 := by rw [hz6]; split <;> decide
  have pre6 : ∀ t, Steps p.tables e below (s₁.setTop (mkF m 43 #[.val (.int p1), .val (.int p2), .val (.int ((p1 &&& (2147483647 : Int32)) % (5 : Int32))), .val (.int z2), .val (.int z4), .unset, .unset, .unset, .unset] [(.int z6)])) t → Steps p.tables e below (s₁.setTop (entryFrame m #[(.int p1), (.int p2)] maxLocals)) t := fun t k => by
    by_cases hc6 : (p2 &&& (4 : Int32)) = (0 : Int32)
    ·
      rw [hz6, if_pos hc6] at k
      refine pre5 _ ?_
      show Steps p.tables e below (s₁.setTop (mkF m 35 #[.val (.int p1), .val (.int p2), .val (.int ((p1 &&& (2147483647 : Int32)) % (5 : Int32))), .val (.int z2), .val (.int z4), .unset, .unset, .unset, .unset] [(.int (p2 &&& (4 : Int32)))])) _
      refine XS.ifYes X0.here hx rfl (pc0 := 35) (pc' := 42) rfl (hb hby at_35) rfl ((if0 _ _).trans (teq hc6).1) (by decide) (by decide) ?_
      refine XS.iconst X0.here hx rfl (hb hby at_42) ?_
      exact k
    ·
      rw [hz6, if_neg hc6] at k
      refine pre5 _ ?_
      show Steps p.tables e below (s₁.setTop (mkF m 35 #[.val (.int p1), .val (.int p2), .val (.int ((p1 &&& (2147483647 : Int32)) % (5 : Int32))), .val (.int z2), .val (.int z4), .unset, .unset, .unset, .unset] [(.int (p2 &&& (4 : Int32)))])) _
      refine XS.ifNo X0.here hx rfl (hb hby at_35) rfl ((if0 _ _).trans (feq hc6).1) ?_
      refine XS.iconst X0.here hx rfl (hb hby at_38) ?_
      refine XS.goto X0.here hx rfl (pc0 := 39) (pc' := 43) rfl (hb hby at_39) (by decide) (by decide) ?_
      exact k
  have pre7 : ∀ t, Steps p.tables e below (s₁.setTop (mkF m 49 #[.val (.int p1), .val (.int p2), .val (.int ((p1 &&& (2147483647 : Int32)) % (5 : Int32))), .val (.int z2), .val (.int z4), .val (.int z6), .unset, .unset, .unset] [(.int (p2 &&& (8 : Int32)))])) t → Steps p.tables e below (s₁.setTop (entryFrame m #[(.int p1), (.int p2)] maxLocals)) t := fun t k => by
    refine pre6 _ ?_
    show Steps p.tables e below (s₁.setTop (mkF m 43 #[.val (.int p1), .val (.int p2), .val (.int ((p1 &&& (2147483647 : Int32)) % (5 : Int32))), .val (.int z2), .val (.int z4), .unset, .unset, .unset, .unset] [(.int z6)])) _
    refine XS.istore X0.here hx rfl (hb hby at_43) rfl (l' := #[.val (.int p1), .val (.int p2), .val (.int ((p1 &&& (2147483647 : Int32)) % (5 : Int32))), .val (.int z2), .val (.int z4), .val (.int z6), .unset, .unset, .unset]) rfl ?_
    refine XS.iloadN X0.here hx rfl (hb hby at_45) rfl ?_
    refine XS.bipush X0.here hx rfl (hb hby at_46) ?_
    refine XS.iand X0.here hx rfl (hb hby at_48) rfl ?_
    exact k
  obtain ⟨z8, hz8⟩ : ∃ z : Int32, z = if (p2 &&& (8 : Int32)) = (0 : Int32) then (0 : Int32) else (1 : Int32) := ⟨_, rfl⟩
  have bz8 : 0 ≤ z8.toInt ∧ z8.toInt ≤ 1 := by rw [hz8]; split <;> decide
  have nz8 : nar .boolean z8 = z8 := by rw [hz8]; split <;> decide
  have pre8 : ∀ t, Steps p.tables e below (s₁.setTop (mkF m 57 #[.val (.int p1), .val (.int p2), .val (.int ((p1 &&& (2147483647 : Int32)) % (5 : Int32))), .val (.int z2), .val (.int z4), .val (.int z6), .unset, .unset, .unset] [(.int z8)])) t → Steps p.tables e below (s₁.setTop (entryFrame m #[(.int p1), (.int p2)] maxLocals)) t := fun t k => by
    by_cases hc8 : (p2 &&& (8 : Int32)) = (0 : Int32)
    ·
      rw [hz8, if_pos hc8] at k
      refine pre7 _ ?_
      show Steps p.tables e below (s₁.setTop (mkF m 49 #[.val (.int p1), .val (.int p2), .val (.int ((p1 &&& (2147483647 : Int32)) % (5 : Int32))), .val (.int z2), .val (.int z4), .val (.int z6), .unset, .unset, .unset] [(.int (p2 &&& (8 : Int32)))])) _
      refine XS.ifYes X0.here hx rfl (pc0 := 49) (pc' := 56) rfl (hb hby at_49) rfl ((if0 _ _).trans (teq hc8).1) (by decide) (by decide) ?_
      refine XS.iconst X0.here hx rfl (hb hby at_56) ?_
      exact k
    ·
      rw [hz8, if_neg hc8] at k
      refine pre7 _ ?_
      show Steps p.tables e below (s₁.setTop (mkF m 49 #[.val (.int p1), .val (.int p2), .val (.int ((p1 &&& (2147483647 : Int32)) % (5 : Int32))), .val (.int z2), .val (.int z4), .val (.int z6), .unset, .unset, .unset] [(.int (p2 &&& (8 : Int32)))])) _
      refine XS.ifNo X0.here hx rfl (hb hby at_49) rfl ((if0 _ _).trans (feq hc8).1) ?_
      refine XS.iconst X0.here hx rfl (hb hby at_52) ?_
      refine XS.goto X0.here hx rfl (pc0 := 53) (pc' := 57) rfl (hb hby at_53) (by decide) (by decide) ?_
      exact k
  have pre9 : ∀ t, Steps p.tables e below (s₁.setTop (mkF m 60 #[.val (.int p1), .val (.int p2), .val (.int ((p1 &&& (2147483647 : Int32)) % (5 : Int32))), .val (.int z2), .val (.int z4), .val (.int z6), .val (.int z8), .unset, .unset] [(.int ((p1 &&& (2147483647 : Int32)) % (5 : Int32)))])) t → Steps p.tables e below (s₁.setTop (entryFrame m #[(.int p1), (.int p2)] maxLocals)) t := fun t k => by
    refine pre8 _ ?_
    show Steps p.tables e below (s₁.setTop (mkF m 57 #[.val (.int p1), .val (.int p2), .val (.int ((p1 &&& (2147483647 : Int32)) % (5 : Int32))), .val (.int z2), .val (.int z4), .val (.int z6), .unset, .unset, .unset] [(.int z8)])) _
    refine XS.istore X0.here hx rfl (hb hby at_57) rfl (l' := #[.val (.int p1), .val (.int p2), .val (.int ((p1 &&& (2147483647 : Int32)) % (5 : Int32))), .val (.int z2), .val (.int z4), .val (.int z6), .val (.int z8), .unset, .unset]) rfl ?_
    refine XS.iloadN X0.here hx rfl (hb hby at_59) rfl ?_
    exact k
  by_cases hc10 : ((p1 &&& (2147483647 : Int32)) % (5 : Int32)) = (0 : Int32)
  ·
    have pre11 : ∀ t, Steps p.tables e below (s₁.setTop (mkF m 60 #[.val (.int p1), .val (.int p2), .val (.int (0 : Int32)), .val (.int z2), .val (.int z4), .val (.int z6), .val (.int z8), .unset, .unset] [(.int (0 : Int32))])) t → Steps p.tables e below (s₁.setTop (entryFrame m #[(.int p1), (.int p2)] maxLocals)) t := fun t k => pre9 t (by rw [hc10]; exact k)
    obtain ⟨T12, h12, k12, X12, e12, E12, A12, EX12, st12⟩ := newPE X0 hx hZ (own_w hw 1 rfl) e0 (g := (mkF m 60 #[.val (.int p1), .val (.int p2), .val (.int (0 : Int32)), .val (.int z2), .val (.int z4), .val (.int z6), .val (.int z8), .unset, .unset] [(.int (0 : Int32))])) rfl (hb hby at_60) rfl (by decide) (cap := 0) (by decide) (by decide) (by decide) (by decide) (ad := "[Z") (by decide)
    obtain ⟨b12, g12⟩ : ∃ z, z = h0.size := ⟨_, rfl⟩
    rw [← g12] at A12 EX12 st12
    have M12 : h0.size ≤ h12.size := Nat.le_trans (Nat.le_refl _) E12.1
    have O12 := Old.ext O0 E12
    have sz_b12 : h0.size ≤ b12 := Nat.le_of_eq g12.symm
    have g_b12 : n0 ≤ b12 := Nat.le_trans (own_oz O0) (Nat.le_trans (Nat.le_refl _) sz_b12)
    have V12_0 := Arv.new A12 (by decide)
    have V12 : Arv Z h12 b12 k12 .boolean (0 : Int32) [] (.int (0 : Int32)) := V12_0
    obtain ⟨_, _, ⟨T13, L13, c13, n13⟩, -, X13, hSn13, hgr13, ⟨Lc13, hQ13, l13, y13, z13⟩, st13⟩ := callSS X12 hx (y := yn1) hown (mvT hZ (own_w hw 2 rfl)) (mvT hZ (own_w hw 3 rfl)) (mvT hZ (own_w hw 4 rfl)) (mvT hZ (own_w hw 5 rfl)) (by decide) (backOfS (W := 0) (rm2 l Z a0 hw [] b12 k12 h12 n0 O12 g_b12 V12) hZ (own_w hw 5 rfl) (own_w hw 4 rfl) (by decide) (by decide)) (g := (mkF m 108 #[.val (.int p1), .val (.int p2), .val (.int (0 : Int32)), .val (.int z2), .val (.int z4), .val (.int z6), .val (.int z8), .val (.ref b12), .unset] [(.ref b12)])) rfl (by rw [hml]; rfl) (argsL := [(.ref b12)]) (rest := []) (lenOf pd1 rfl) rfl (by show 2 * 0 + _ ≤ _; exact Nat.le_of_eq rfl) (hb hby at_108) (fun _ _ => ⟨rfl, e12, (by decide : 1 + 3 ≤ _), (by decide : 0 + 56 ≤ _)⟩)
    dsimp only [Pt.U, Pt.locs, Pt.cells, Pt.slots] at X13 l13 y13 z13 st13 hQ13
    subst l13 y13 z13
    have hS13 : s.Since T13.vm T13.heap.size := hSn13
    have hZ := State.Warmed39.trans (t := s) hZ hS13.1
    have hown : (s.setVm T13.vm).vm.findClass "com/example/castless/castless/PrimitiveArraysBox333PinLaw" = some m.cls := by rw [show (s.setVm T13.vm).vm = T13.vm from rfl, hS13.1.alike.findClass]; exact hown
    have X13 : Stand p l e room_1 (s.setVm T13.vm) m #[(.int p1), (.int p2)] below meth c T13 _ 4 56 := X13
    obtain ⟨b14, k15, rfl, Nq16, K17, sz_b14, OV18, f19, f20⟩ := hQ13
    have N13 := Fr.app N0 Nq16
    have g_b14 : n0 ≤ b14 := Nat.le_trans (own_oz O12) sz_b14
    have M13 : h0.size ≤ T13.heap.size := Nat.le_trans M12 K17.1
    have O13 := Old.keep O12 K17 all0
    obtain ⟨cl21, Ar21, qa21, Sa21, Na21, Ha21, Ga21⟩ := id (f19)
    have f22 := (V12.keep K17 nin0)
    obtain ⟨_, _, ⟨T23, L23, c23, n23⟩, -, X23, ⟨Lc23, hQ23, l23, y23, z23⟩, st23⟩ := Jvm.LawKit.callS X13 hx (y := yn2) hown (mvT hZ (own_w hw 20 rfl)) (mvT hZ (own_w hw 21 rfl)) (mvT hZ (own_w hw 22 rfl)) (mvT hZ (own_w hw 23 rfl)) (by decide) (backOf (W := 0) (rm3 l Z a0 hw [] b14 b12 k15 z2 k12 T13.heap n0 O13 g_b14 g_b12 OV18 (by have q0 := bz2; omega) f22) hZ (own_w hw 23 rfl) (own_w hw 22 rfl) (by decide) (by decide)) (g := (mkF m 133 #[.val (.int p1), .val (.int p2), .val (.int (0 : Int32)), .val (.int z2), .val (.int z4), .val (.int z6), .val (.int z8), .val (.ref b12), .val (.ref b14)] [(.int z2), (.int (0 : Int32)), (.ref b12), (.ref b14)])) rfl (by rw [hml]; rfl) (argsL := [(.ref b14), (.ref b12), (.int (0 : Int32)), (.int z2)]) (rest := []) (lenOf pd2 rfl) rfl (by show 2 * 0 + _ ≤ _; exact Nat.le_of_eq rfl) (hb hby at_133) (fun _ _ => ⟨rfl, rfl, (by decide : 4 + 0 ≤ _), (by decide : 56 + 0 ≤ _)⟩)
    dsimp only [Pt.U, Pt.locs, Pt.cells, Pt.slots] at X23 l23 y23 z23 st23 hQ23
    subst l23 y23 z23
    have X23 : Stand p l e room_1 (s.setVm T13.vm) m #[(.int p1), (.int p2)] below meth c T23 _ 4 56 := X23
    obtain ⟨rfl, Nq24, e25⟩ := hQ23
    have N23 := Fr.app N13 Nq24
    obtain ⟨_, _, ⟨T26, L26, c26, n26⟩, -, X26, ⟨Lc26, hQ26, l26, y26, z26⟩, st26⟩ := Jvm.LawKit.callS X23 hx (y := yn2) hown (mvT hZ (own_w hw 20 rfl)) (mvT hZ (own_w hw 21 rfl)) (mvT hZ (own_w hw 22 rfl)) (mvT hZ (own_w hw 23 rfl)) (by decide) (backOf (W := 0) (rm4 l Z a0 hw [] b14 b12 k15 z4 k12 T13.heap n0 O13 g_b14 g_b12 OV18 (by have q0 := bz4; omega) f22) hZ (own_w hw 23 rfl) (own_w hw 22 rfl) (by decide) (by decide)) (g := (mkF m 146 #[.val (.int p1), .val (.int p2), .val (.int (0 : Int32)), .val (.int z2), .val (.int z4), .val (.int z6), .val (.int z8), .val (.ref b12), .val (.ref b14)] [(.int z4), (.int (1 : Int32)), (.ref b12), (.ref b14)])) rfl (by rw [hml]; rfl) (argsL := [(.ref b14), (.ref b12), (.int (1 : Int32)), (.int z4)]) (rest := []) (lenOf pd2 rfl) rfl (by show 2 * 0 + _ ≤ _; exact Nat.le_of_eq rfl) (hb hby at_146) (fun _ _ => ⟨rfl, e25, (by decide : 4 + 0 ≤ _), (by decide : 56 + 0 ≤ _)⟩)
    dsimp only [Pt.U, Pt.locs, Pt.cells, Pt.slots] at X26 l26 y26 z26 st26 hQ26
    subst l26 y26 z26
    have X26 : Stand p l e room_1 (s.setVm T13.vm) m #[(.int p1), (.int p2)] below meth c T26 _ 4 56 := X26
    obtain ⟨rfl, Nq27, e28⟩ := hQ26
    have N26 := Fr.app N23 Nq27
    obtain ⟨_, _, ⟨T29, L29, c29, n29⟩, -, X29, ⟨Lc29, hQ29, l29, y29, z29⟩, st29⟩ := Jvm.LawKit.callS X26 hx (y := yn2) hown (mvT hZ (own_w hw 20 rfl)) (mvT hZ (own_w hw 21 rfl)) (mvT hZ (own_w hw 22 rfl)) (mvT hZ (own_w hw 23 rfl)) (by decide) (backOf (W := 0) (rm5 l Z a0 hw [] b14 b12 k15 z6 k12 T13.heap n0 O13 g_b14 g_b12 OV18 (by have q0 := bz6; omega) f22) hZ (own_w hw 23 rfl) (own_w hw 22 rfl) (by decide) (by decide)) (g := (mkF m 159 #[.val (.int p1), .val (.int p2), .val (.int (0 : Int32)), .val (.int z2), .val (.int z4), .val (.int z6), .val (.int z8), .val (.ref b12), .val (.ref b14)] [(.int z6), (.int (2 : Int32)), (.ref b12), (.ref b14)])) rfl (by rw [hml]; rfl) (argsL := [(.ref b14), (.ref b12), (.int (2 : Int32)), (.int z6)]) (rest := []) (lenOf pd2 rfl) rfl (by show 2 * 0 + _ ≤ _; exact Nat.le_of_eq rfl) (hb hby at_159) (fun _ _ => ⟨rfl, e28, (by decide : 4 + 0 ≤ _), (by decide : 56 + 0 ≤ _)⟩)
    dsimp only [Pt.U, Pt.locs, Pt.cells, Pt.slots] at X29 l29 y29 z29 st29 hQ29
    subst l29 y29 z29
    have X29 : Stand p l e room_1 (s.setVm T13.vm) m #[(.int p1), (.int p2)] below meth c T29 _ 4 56 := X29
    obtain ⟨rfl, Nq30, e31⟩ := hQ29
    have N29 := Fr.app N26 Nq30
    obtain ⟨_, _, ⟨T32, L32, c32, n32⟩, -, X32, ⟨Lc32, hQ32, l32, y32, z32⟩, st32⟩ := Jvm.LawKit.callS X29 hx (y := yn2) hown (mvT hZ (own_w hw 20 rfl)) (mvT hZ (own_w hw 21 rfl)) (mvT hZ (own_w hw 22 rfl)) (mvT hZ (own_w hw 23 rfl)) (by decide) (backOf (W := 0) (rm6 l Z a0 hw [] b14 b12 k15 z8 k12 T13.heap n0 O13 g_b14 g_b12 OV18 (by have q0 := bz8; omega) f22) hZ (own_w hw 23 rfl) (own_w hw 22 rfl) (by decide) (by decide)) (g := (mkF m 172 #[.val (.int p1), .val (.int p2), .val (.int (0 : Int32)), .val (.int z2), .val (.int z4), .val (.int z6), .val (.int z8), .val (.ref b12), .val (.ref b14)] [(.int z8), (.int (3 : Int32)), (.ref b12), (.ref b14)])) rfl (by rw [hml]; rfl) (argsL := [(.ref b14), (.ref b12), (.int (3 : Int32)), (.int z8)]) (rest := []) (lenOf pd2 rfl) rfl (by show 2 * 0 + _ ≤ _; exact Nat.le_of_eq rfl) (hb hby at_172) (fun _ _ => ⟨rfl, e31, (by decide : 4 + 0 ≤ _), (by decide : 56 + 0 ≤ _)⟩)
    dsimp only [Pt.U, Pt.locs, Pt.cells, Pt.slots] at X32 l32 y32 z32 st32 hQ32
    subst l32 y32 z32
    have X32 : Stand p l e room_1 (s.setVm T13.vm) m #[(.int p1), (.int p2)] below meth c T32 _ 4 56 := X32
    obtain ⟨rfl, Nq33, e34⟩ := hQ32
    have N32 := Fr.app N29 Nq33
    obtain ⟨fs, hr, hrun, hended, hRE⟩ := X32.leaveW hS13 (by rw [e34]; exact (Nat.le_refl _)) (v := some (.int (1 : Int32))) (fun h => by rw [hret] at h; cases h)
    refine ⟨_, _, pre11 _ ?_, hrun, hended, _, _, rfl, ?_, hRE.1, hRE.2.1, hRE.2.2.1, hRE.2.2.2.mono (by decide) (by decide)⟩
    ·
      show Steps p.tables e below (s₁.setTop (mkF m 60 #[.val (.int p1), .val (.int p2), .val (.int (0 : Int32)), .val (.int z2), .val (.int z4), .val (.int z6), .val (.int z8), .unset, .unset] [(.int (0 : Int32))])) _
      refine st12 _ ?_
      refine XS.astore X12.here hx rfl (hb hby at_62) rfl rfl (l' := #[.val (.int p1), .val (.int p2), .val (.int (0 : Int32)), .val (.int z2), .val (.int z4), .val (.int z6), .val (.int z8), .val (.ref b12), .unset]) rfl ?_
      refine XS.iloadN X12.here hx rfl (hb hby at_64) rfl ?_
      refine XS.ifYes X12.here hx rfl (pc0 := 65) (pc' := 73) rfl (hb hby at_65) rfl ((if0 _ _).trans (flt (by decide : ¬ ((0 : Int32) < (0 : Int32)))).2.2.2) (by decide) (by decide) ?_
      refine XS.iloadN X12.here hx rfl (hb hby at_73) rfl ?_
      refine XS.iconst X12.here hx rfl (hb hby at_74) ?_
      refine XS.icmpYes X12.here hx rfl (pc0 := 75) (pc' := 84) rfl (hb hby at_75) rfl (flt (by decide : ¬ ((1 : Int32) < (0 : Int32)))).2.2.2 (by decide) (by decide) ?_
      refine XS.iloadN X12.here hx rfl (hb hby at_84) rfl ?_
      refine XS.iconst X12.here hx rfl (hb hby at_85) ?_
      refine XS.icmpYes X12.here hx rfl (pc0 := 86) (pc' := 95) rfl (hb hby at_86) rfl (flt (by decide : ¬ ((2 : Int32) < (0 : Int32)))).2.2.2 (by decide) (by decide) ?_
      refine XS.iloadN X12.here hx rfl (hb hby at_95) rfl ?_
      refine XS.iconst X12.here hx rfl (hb hby at_96) ?_
      refine XS.icmpYes X12.here hx rfl (pc0 := 97) (pc' := 106) rfl (hb hby at_97) rfl (flt (by decide : ¬ ((3 : Int32) < (0 : Int32)))).2.2.2 (by decide) (by decide) ?_
      refine XS.aload X12.here hx rfl (hb hby at_106) rfl rfl ?_
      refine st13.trans ?_
      refine XS.astore X13.here hx rfl (hb hby at_111) rfl rfl (l' := #[.val (.int p1), .val (.int p2), .val (.int (0 : Int32)), .val (.int z2), .val (.int z4), .val (.int z6), .val (.int z8), .val (.ref b12), .val (.ref b14)]) rfl ?_
      refine XS.aload X13.here hx rfl (hb hby at_113) rfl rfl ?_
      show Steps p.tables e below (T13.setTop (mkF m 115 #[.val (.int p1), .val (.int p2), .val (.int (0 : Int32)), .val (.int z2), .val (.int z4), .val (.int z6), .val (.int z8), .val (.ref b12), .val (.ref b14)] [(.ref b14)])) _
      refine XS.ifnullNo X13.here hx rfl (hb hby at_115) rfl ?_
      refine XS.aload X13.here hx rfl (hb hby at_118) rfl rfl ?_
      refine X13.arraylength hx Ar21.1 (State.isArrayOf_alike hZ.alike Ar21.2.1) (g := (mkF m 120 #[.val (.int p1), .val (.int p2), .val (.int (0 : Int32)), .val (.int z2), .val (.int z4), .val (.int z6), .val (.int z8), .val (.ref b12), .val (.ref b14)] [(.ref b14)])) rfl rfl (hb hby at_120) _ ?_
      rw [len_of Sa21 Na21]
      refine XS.iloadN X13.here hx rfl (hb hby at_121) rfl ?_
      refine XS.icmpYes X13.here hx rfl (pc0 := 122) (pc' := 127) rfl (hb hby at_122) rfl (teq (by decide : (0 : Int32) = (0 : Int32))).1 (by decide) (by decide) ?_
      refine XS.aload X13.here hx rfl (hb hby at_127) rfl rfl ?_
      refine XS.aload X13.here hx rfl (hb hby at_129) rfl rfl ?_
      refine XS.iconst X13.here hx rfl (hb hby at_131) ?_
      refine XS.iloadN X13.here hx rfl (hb hby at_132) rfl ?_
      refine st23 _ ?_
      refine XS.ifNo X23.here hx rfl (hb hby at_136) rfl ((if0 _ _).trans (feq (by decide : ¬ ((1 : Int32) = (0 : Int32)))).1) ?_
      refine XS.aload X23.here hx rfl (hb hby at_139) rfl rfl ?_
      refine XS.aload X23.here hx rfl (hb hby at_141) rfl rfl ?_
      refine XS.iconst X23.here hx rfl (hb hby at_143) ?_
      refine XS.iload X23.here hx rfl (hb hby at_144) rfl ?_
      refine st26 _ ?_
      refine XS.ifNo X26.here hx rfl (hb hby at_149) rfl ((if0 _ _).trans (feq (by decide : ¬ ((1 : Int32) = (0 : Int32)))).1) ?_
      refine XS.aload X26.here hx rfl (hb hby at_152) rfl rfl ?_
      refine XS.aload X26.here hx rfl (hb hby at_154) rfl rfl ?_
      refine XS.iconst X26.here hx rfl (hb hby at_156) ?_
      refine XS.iload X26.here hx rfl (hb hby at_157) rfl ?_
      refine st29 _ ?_
      refine XS.ifNo X29.here hx rfl (hb hby at_162) rfl ((if0 _ _).trans (feq (by decide : ¬ ((1 : Int32) = (0 : Int32)))).1) ?_
      refine XS.aload X29.here hx rfl (hb hby at_165) rfl rfl ?_
      refine XS.aload X29.here hx rfl (hb hby at_167) rfl rfl ?_
      refine XS.iconst X29.here hx rfl (hb hby at_169) ?_
      refine XS.iload X29.here hx rfl (hb hby at_170) rfl ?_
      refine st32 _ ?_
      refine XS.ifNo X32.here hx rfl (hb hby at_175) rfl ((if0 _ _).trans (feq (by decide : ¬ ((1 : Int32) = (0 : Int32)))).1) ?_
      refine XS.iconst X32.here hx rfl (hb hby at_178) ?_
      refine XS.goto X32.here hx rfl (pc0 := 179) (pc' := 183) rfl (hb hby at_179) (by decide) (by decide) ?_
      show Steps p.tables e below (T32.setTop (mkF m 183 #[.val (.int p1), .val (.int p2), .val (.int (0 : Int32)), .val (.int z2), .val (.int z4), .val (.int z6), .val (.int z8), .val (.ref b12), .val (.ref b14)] [(.int (1 : Int32))])) _
      exact retN X32 hx (t := .boolean) hret (by simp) (hb hby at_183) hr
    ·
      show Q0 n0 _ T32.heap _
      rw [e34]
      exact ⟨rfl, N32⟩
  ·
    by_cases hc35 : ((p1 &&& (2147483647 : Int32)) % (5 : Int32)) = (1 : Int32)
    ·
      have pre36 : ∀ t, Steps p.tables e below (s₁.setTop (mkF m 60 #[.val (.int p1), .val (.int p2), .val (.int (1 : Int32)), .val (.int z2), .val (.int z4), .val (.int z6), .val (.int z8), .unset, .unset] [(.int (1 : Int32))])) t → Steps p.tables e below (s₁.setTop (entryFrame m #[(.int p1), (.int p2)] maxLocals)) t := fun t k => pre9 t (by rw [hc35]; exact k)
      obtain ⟨T37, h37, k37, X37, e37, E37, A37, EX37, st37⟩ := newPE X0 hx hZ (own_w hw 1 rfl) e0 (g := (mkF m 60 #[.val (.int p1), .val (.int p2), .val (.int (1 : Int32)), .val (.int z2), .val (.int z4), .val (.int z6), .val (.int z8), .unset, .unset] [(.int (1 : Int32))])) rfl (hb hby at_60) rfl (by decide) (cap := 1) (by decide) (by decide) (by decide) (by decide) (ad := "[Z") (by decide)
      obtain ⟨b37, g37⟩ : ∃ z, z = h0.size := ⟨_, rfl⟩
      rw [← g37] at A37 EX37 st37
      have M37 : h0.size ≤ h37.size := Nat.le_trans (Nat.le_refl _) E37.1
      have O37 := Old.ext O0 E37
      have sz_b37 : h0.size ≤ b37 := Nat.le_of_eq g37.symm
      have g_b37 : n0 ≤ b37 := Nat.le_trans (own_oz O0) (Nat.le_trans (Nat.le_refl _) sz_b37)
      have V37_0 := Arv.new A37 (by decide)
      have V37 : Arv Z h37 b37 k37 .boolean (1 : Int32) [(.int (0 : Int32))] (.int (0 : Int32)) := V37_0.pad (pad_rep [] (.int (0 : Int32)) 1)
      obtain ⟨cl38, Ar38, qa38, Sa38, Na38, Ha38, Ga38⟩ := id (V37)
      have hin38 : ¬ ((0 : Int32) < 0 ∨ cl38.slots.size ≤ ((0 : Int32)).toNatClampNeg) := inb_of Sa38 ⟨by decide, by decide⟩
      have hbz39 : 0 ≤ z2.toInt ∧ z2.toInt ≤ 1 := by have q0 := bz2; omega
      obtain ⟨T40, h40, X40, e40, W40, st40⟩ := stZ X37 hx hZ e37 Ar38 (j := (0 : Int32)) hin38 (g := (mkF m 72 #[.val (.int p1), .val (.int p2), .val (.int (1 : Int32)), .val (.int z2), .val (.int z4), .val (.int z6), .val (.int z8), .val (.ref b37), .unset] [(.int z2), (.int (0 : Int32)), (.ref b37)])) rfl rfl (hb hby at_72)
      rw [own_nz hbz39] at W40
      have V40 : Arv Z h40 b37 k37 .boolean (1 : Int32) [(.int z2)] (.int (0 : Int32)) := Arv.set Ar38 qa38 Sa38 Na38 Ha38 Ga38 (own_fz hbz39) W40 0 rfl (Nat.le_of_ble_eq_true rfl)
      have N40 := Fr.snoc X40 N0 g_b37
      have M40 : h0.size ≤ h40.size := Nat.le_trans M37 (Nat.le_of_eq W40.size.symm)
      have O40 := Old.wr O37 W40 g_b37
      obtain ⟨_, _, ⟨T41, L41, c41, n41⟩, -, X41, hSn41, hgr41, ⟨Lc41, hQ41, l41, y41, z41⟩, st41⟩ := callSS X40 hx (y := yn1) hown (mvT hZ (own_w hw 2 rfl)) (mvT hZ (own_w hw 3 rfl)) (mvT hZ (own_w hw 4 rfl)) (mvT hZ (own_w hw 5 rfl)) (by decide) (backOfS (W := 0) (rm9 l Z a0 hw w1 w2 G [] b37 z2 k37 h40 n0 O40 g_b37 (by have q0 := bz2; omega) V40) hZ (own_w hw 5 rfl) (own_w hw 4 rfl) (by decide) (by decide)) (g := (mkF m 108 #[.val (.int p1), .val (.int p2), .val (.int (1 : Int32)), .val (.int z2), .val (.int z4), .val (.int z6), .val (.int z8), .val (.ref b37), .unset] [(.ref b37)])) rfl (by rw [hml]; rfl) (argsL := [(.ref b37)]) (rest := []) (lenOf pd1 rfl) rfl (by show 2 * 0 + _ ≤ _; exact Nat.le_of_eq rfl) (hb hby at_108) (fun _ _ => ⟨rfl, e40, (by decide : 1 + 3 ≤ _), (by decide : 1 + 57 ≤ _)⟩)
      dsimp only [Pt.U, Pt.locs, Pt.cells, Pt.slots] at X41 l41 y41 z41 st41 hQ41
      subst l41 y41 z41
      have hS41 : s.Since T41.vm T41.heap.size := hSn41
      have hZ := State.Warmed39.trans (t := s) hZ hS41.1
      have hown : (s.setVm T41.vm).vm.findClass "com/example/castless/castless/PrimitiveArraysBox333PinLaw" = some m.cls := by rw [show (s.setVm T41.vm).vm = T41.vm from rfl, hS41.1.alike.findClass]; exact hown
      have X41 : Stand p l e room_1 (s.setVm T41.vm) m #[(.int p1), (.int p2)] below meth c T41 _ 4 58 := X41
      obtain ⟨b42, k43, v44, rfl, Nq45, K46, sz_b42, OV47, f48, f49, f50, f51⟩ := hQ41
      have N41 := Fr.app N40 Nq45
      have g_b42 : n0 ≤ b42 := Nat.le_trans (own_oz O40) sz_b42
      have M41 : h0.size ≤ T41.heap.size := Nat.le_trans M40 K46.1
      have O41 := Old.keep O40 K46 all0
      obtain ⟨cl52, Ar52, qa52, Sa52, Na52, Ha52, Ga52⟩ := id (f48)
      have f53 := (V40.keep K46 nin0)
      obtain ⟨_, _, ⟨T54, L54, c54, n54⟩, -, X54, ⟨Lc54, hQ54, l54, y54, z54⟩, st54⟩ := Jvm.LawKit.callS X41 hx (y := yn2) hown (mvT hZ (own_w hw 20 rfl)) (mvT hZ (own_w hw 21 rfl)) (mvT hZ (own_w hw 22 rfl)) (mvT hZ (own_w hw 23 rfl)) (by decide) (backOf (W := 0) (rm11 l Z a0 hw [] b42 b37 k43 z2 z2 z2 v44 k37 T41.heap n0 O41 g_b42 g_b37 OV47 (by have q0 := bz2; omega) (by have q0 := bz2; omega) (by have q0 := bz2; omega) f48 f53 f50 f51) hZ (own_w hw 23 rfl) (own_w hw 22 rfl) (by decide) (by decide)) (g := (mkF m 133 #[.val (.int p1), .val (.int p2), .val (.int (1 : Int32)), .val (.int z2), .val (.int z4), .val (.int z6), .val (.int z8), .val (.ref b37), .val (.ref b42)] [(.int z2), (.int (0 : Int32)), (.ref b37), (.ref b42)])) rfl (by rw [hml]; rfl) (argsL := [(.ref b42), (.ref b37), (.int (0 : Int32)), (.int z2)]) (rest := []) (lenOf pd2 rfl) rfl (by show 2 * 0 + _ ≤ _; exact Nat.le_of_eq rfl) (hb hby at_133) (fun _ _ => ⟨rfl, rfl, (by decide : 4 + 0 ≤ _), (by decide : 58 + 0 ≤ _)⟩)
      dsimp only [Pt.U, Pt.locs, Pt.cells, Pt.slots] at X54 l54 y54 z54 st54 hQ54
      subst l54 y54 z54
      have pre55 : ∀ t, Steps p.tables e below (T41.setTop (mkF m 133 #[.val (.int p1), .val (.int p2), .val (.int (1 : Int32)), .val (.int z2), .val (.int z4), .val (.int z6), .val (.int z8), .val (.ref b37), .val (.ref b42)] [(.int z2), (.int (0 : Int32)), (.ref b37), (.ref b42)])) t → Steps p.tables e below (s₁.setTop (entryFrame m #[(.int p1), (.int p2)] maxLocals)) t := fun t k => by
        refine pre36 _ ?_
        show Steps p.tables e below (s₁.setTop (mkF m 60 #[.val (.int p1), .val (.int p2), .val (.int (1 : Int32)), .val (.int z2), .val (.int z4), .val (.int z6), .val (.int z8), .unset, .unset] [(.int (1 : Int32))])) _
        refine st37 _ ?_
        refine XS.astore X37.here hx rfl (hb hby at_62) rfl rfl (l' := #[.val (.int p1), .val (.int p2), .val (.int (1 : Int32)), .val (.int z2), .val (.int z4), .val (.int z6), .val (.int z8), .val (.ref b37), .unset]) rfl ?_
        refine XS.iloadN X37.here hx rfl (hb hby at_64) rfl ?_
        refine XS.ifNo X37.here hx rfl (hb hby at_65) rfl ((if0 _ _).trans (tlt (by decide : (0 : Int32) < (1 : Int32))).2.2.2) ?_
        refine XS.aload X37.here hx rfl (hb hby at_68) rfl rfl ?_
        refine XS.iconst X37.here hx rfl (hb hby at_70) ?_
        refine XS.iloadN X37.here hx rfl (hb hby at_71) rfl ?_
        refine st40 _ ?_
        refine XS.iloadN X40.here hx rfl (hb hby at_73) rfl ?_
        refine XS.iconst X40.here hx rfl (hb hby at_74) ?_
        refine XS.icmpYes X40.here hx rfl (pc0 := 75) (pc' := 84) rfl (hb hby at_75) rfl (flt (by decide : ¬ ((1 : Int32) < (1 : Int32)))).2.2.2 (by decide) (by decide) ?_
        refine XS.iloadN X40.here hx rfl (hb hby at_84) rfl ?_
        refine XS.iconst X40.here hx rfl (hb hby at_85) ?_
        refine XS.icmpYes X40.here hx rfl (pc0 := 86) (pc' := 95) rfl (hb hby at_86) rfl (flt (by decide : ¬ ((2 : Int32) < (1 : Int32)))).2.2.2 (by decide) (by decide) ?_
        refine XS.iloadN X40.here hx rfl (hb hby at_95) rfl ?_
        refine XS.iconst X40.here hx rfl (hb hby at_96) ?_
        refine XS.icmpYes X40.here hx rfl (pc0 := 97) (pc' := 106) rfl (hb hby at_97) rfl (flt (by decide : ¬ ((3 : Int32) < (1 : Int32)))).2.2.2 (by decide) (by decide) ?_
        show Steps p.tables e below (T40.setTop (mkF m 106 #[.val (.int p1), .val (.int p2), .val (.int (1 : Int32)), .val (.int z2), .val (.int z4), .val (.int z6), .val (.int z8), .val (.ref b37), .unset] [])) _
        refine XS.aload X40.here hx rfl (hb hby at_106) rfl rfl ?_
        refine st41.trans ?_
        refine XS.astore X41.here hx rfl (hb hby at_111) rfl rfl (l' := #[.val (.int p1), .val (.int p2), .val (.int (1 : Int32)), .val (.int z2), .val (.int z4), .val (.int z6), .val (.int z8), .val (.ref b37), .val (.ref b42)]) rfl ?_
        refine XS.aload X41.here hx rfl (hb hby at_113) rfl rfl ?_
        refine XS.ifnullNo X41.here hx rfl (hb hby at_115) rfl ?_
        refine XS.aload X41.here hx rfl (hb hby at_118) rfl rfl ?_
        refine X41.arraylength hx Ar52.1 (State.isArrayOf_alike hZ.alike Ar52.2.1) (g := (mkF m 120 #[.val (.int p1), .val (.int p2), .val (.int (1 : Int32)), .val (.int z2), .val (.int z4), .val (.int z6), .val (.int z8), .val (.ref b37), .val (.ref b42)] [(.ref b42)])) rfl rfl (hb hby at_120) _ ?_
        rw [len_of Sa52 Na52]
        refine XS.iloadN X41.here hx rfl (hb hby at_121) rfl ?_
        refine XS.icmpYes X41.here hx rfl (pc0 := 122) (pc' := 127) rfl (hb hby at_122) rfl (teq (by decide : (1 : Int32) = (1 : Int32))).1 (by decide) (by decide) ?_
        refine XS.aload X41.here hx rfl (hb hby at_127) rfl rfl ?_
        refine XS.aload X41.here hx rfl (hb hby at_129) rfl rfl ?_
        refine XS.iconst X41.here hx rfl (hb hby at_131) ?_
        refine XS.iloadN X41.here hx rfl (hb hby at_132) rfl ?_
        exact k
      have X54 : Stand p l e room_1 (s.setVm T41.vm) m #[(.int p1), (.int p2)] below meth c T54 _ 4 58 := X54
      rcases hQ54 with ⟨hc56, hc57, rfl, Nq58, e59⟩ | ⟨hc60, hc61, rfl, Nq62, e63⟩ | ⟨hc64, rfl, Nq65, e66⟩
      ·
        have N54 := Fr.app N41 Nq58
        obtain ⟨_, _, ⟨T67, L67, c67, n67⟩, -, X67, ⟨Lc67, hQ67, l67, y67, z67⟩, st67⟩ := Jvm.LawKit.callS X54 hx (y := yn2) hown (mvT hZ (own_w hw 20 rfl)) (mvT hZ (own_w hw 21 rfl)) (mvT hZ (own_w hw 22 rfl)) (mvT hZ (own_w hw 23 rfl)) (by decide) (backOf (W := 0) (rm12 l Z a0 hw [] b42 b37 k43 z4 z2 z2 k37 T41.heap n0 O41 g_b42 g_b37 OV47 (by have q0 := bz4; omega) (by have q0 := bz2; omega) (by have q0 := bz2; omega) f53) hZ (own_w hw 23 rfl) (own_w hw 22 rfl) (by decide) (by decide)) (g := (mkF m 146 #[.val (.int p1), .val (.int p2), .val (.int (1 : Int32)), .val (.int z2), .val (.int z4), .val (.int z6), .val (.int z8), .val (.ref b37), .val (.ref b42)] [(.int z4), (.int (1 : Int32)), (.ref b37), (.ref b42)])) rfl (by rw [hml]; rfl) (argsL := [(.ref b42), (.ref b37), (.int (1 : Int32)), (.int z4)]) (rest := []) (lenOf pd2 rfl) rfl (by show 2 * 0 + _ ≤ _; exact Nat.le_of_eq rfl) (hb hby at_146) (fun _ _ => ⟨rfl, e59, (by decide : 4 + 0 ≤ _), (by decide : 58 + 0 ≤ _)⟩)
        dsimp only [Pt.U, Pt.locs, Pt.cells, Pt.slots] at X67 l67 y67 z67 st67 hQ67
        subst l67 y67 z67
        have X67 : Stand p l e room_1 (s.setVm T41.vm) m #[(.int p1), (.int p2)] below meth c T67 _ 4 58 := X67
        obtain ⟨rfl, Nq68, e69⟩ := hQ67
        have N67 := Fr.app N54 Nq68
        obtain ⟨_, _, ⟨T70, L70, c70, n70⟩, -, X70, ⟨Lc70, hQ70, l70, y70, z70⟩, st70⟩ := Jvm.LawKit.callS X67 hx (y := yn2) hown (mvT hZ (own_w hw 20 rfl)) (mvT hZ (own_w hw 21 rfl)) (mvT hZ (own_w hw 22 rfl)) (mvT hZ (own_w hw 23 rfl)) (by decide) (backOf (W := 0) (rm13 l Z a0 hw [] b42 b37 k43 z6 z2 z2 k37 T41.heap n0 O41 g_b42 g_b37 OV47 (by have q0 := bz6; omega) (by have q0 := bz2; omega) (by have q0 := bz2; omega) f53) hZ (own_w hw 23 rfl) (own_w hw 22 rfl) (by decide) (by decide)) (g := (mkF m 159 #[.val (.int p1), .val (.int p2), .val (.int (1 : Int32)), .val (.int z2), .val (.int z4), .val (.int z6), .val (.int z8), .val (.ref b37), .val (.ref b42)] [(.int z6), (.int (2 : Int32)), (.ref b37), (.ref b42)])) rfl (by rw [hml]; rfl) (argsL := [(.ref b42), (.ref b37), (.int (2 : Int32)), (.int z6)]) (rest := []) (lenOf pd2 rfl) rfl (by show 2 * 0 + _ ≤ _; exact Nat.le_of_eq rfl) (hb hby at_159) (fun _ _ => ⟨rfl, e69, (by decide : 4 + 0 ≤ _), (by decide : 58 + 0 ≤ _)⟩)
        dsimp only [Pt.U, Pt.locs, Pt.cells, Pt.slots] at X70 l70 y70 z70 st70 hQ70
        subst l70 y70 z70
        have X70 : Stand p l e room_1 (s.setVm T41.vm) m #[(.int p1), (.int p2)] below meth c T70 _ 4 58 := X70
        obtain ⟨rfl, Nq71, e72⟩ := hQ70
        have N70 := Fr.app N67 Nq71
        obtain ⟨_, _, ⟨T73, L73, c73, n73⟩, -, X73, ⟨Lc73, hQ73, l73, y73, z73⟩, st73⟩ := Jvm.LawKit.callS X70 hx (y := yn2) hown (mvT hZ (own_w hw 20 rfl)) (mvT hZ (own_w hw 21 rfl)) (mvT hZ (own_w hw 22 rfl)) (mvT hZ (own_w hw 23 rfl)) (by decide) (backOf (W := 0) (rm14 l Z a0 hw [] b42 b37 k43 z8 z2 z2 k37 T41.heap n0 O41 g_b42 g_b37 OV47 (by have q0 := bz8; omega) (by have q0 := bz2; omega) (by have q0 := bz2; omega) f53) hZ (own_w hw 23 rfl) (own_w hw 22 rfl) (by decide) (by decide)) (g := (mkF m 172 #[.val (.int p1), .val (.int p2), .val (.int (1 : Int32)), .val (.int z2), .val (.int z4), .val (.int z6), .val (.int z8), .val (.ref b37), .val (.ref b42)] [(.int z8), (.int (3 : Int32)), (.ref b37), (.ref b42)])) rfl (by rw [hml]; rfl) (argsL := [(.ref b42), (.ref b37), (.int (3 : Int32)), (.int z8)]) (rest := []) (lenOf pd2 rfl) rfl (by show 2 * 0 + _ ≤ _; exact Nat.le_of_eq rfl) (hb hby at_172) (fun _ _ => ⟨rfl, e72, (by decide : 4 + 0 ≤ _), (by decide : 58 + 0 ≤ _)⟩)
        dsimp only [Pt.U, Pt.locs, Pt.cells, Pt.slots] at X73 l73 y73 z73 st73 hQ73
        subst l73 y73 z73
        have X73 : Stand p l e room_1 (s.setVm T41.vm) m #[(.int p1), (.int p2)] below meth c T73 _ 4 58 := X73
        obtain ⟨rfl, Nq74, e75⟩ := hQ73
        have N73 := Fr.app N70 Nq74
        obtain ⟨fs, hr, hrun, hended, hRE⟩ := X73.leaveW hS41 (by rw [e75]; exact (Nat.le_refl _)) (v := some (.int (1 : Int32))) (fun h => by rw [hret] at h; cases h)
        refine ⟨_, _, pre55 _ ?_, hrun, hended, _, _, rfl, ?_, hRE.1, hRE.2.1, hRE.2.2.1, hRE.2.2.2.mono (by decide) (by decide)⟩
        ·
          show Steps p.tables e below (T41.setTop (mkF m 133 #[.val (.int p1), .val (.int p2), .val (.int (1 : Int32)), .val (.int z2), .val (.int z4), .val (.int z6), .val (.int z8), .val (.ref b37), .val (.ref b42)] [(.int z2), (.int (0 : Int32)), (.ref b37), (.ref b42)])) _
          refine st54 _ ?_
          refine XS.ifNo X54.here hx rfl (hb hby at_136) rfl ((if0 _ _).trans (feq (by decide : ¬ ((1 : Int32) = (0 : Int32)))).1) ?_
          refine XS.aload X54.here hx rfl (hb hby at_139) rfl rfl ?_
          refine XS.aload X54.here hx rfl (hb hby at_141) rfl rfl ?_
          refine XS.iconst X54.here hx rfl (hb hby at_143) ?_
          refine XS.iload X54.here hx rfl (hb hby at_144) rfl ?_
          refine st67 _ ?_
          refine XS.ifNo X67.here hx rfl (hb hby at_149) rfl ((if0 _ _).trans (feq (by decide : ¬ ((1 : Int32) = (0 : Int32)))).1) ?_
          refine XS.aload X67.here hx rfl (hb hby at_152) rfl rfl ?_
          refine XS.aload X67.here hx rfl (hb hby at_154) rfl rfl ?_
          refine XS.iconst X67.here hx rfl (hb hby at_156) ?_
          refine XS.iload X67.here hx rfl (hb hby at_157) rfl ?_
          refine st70 _ ?_
          refine XS.ifNo X70.here hx rfl (hb hby at_162) rfl ((if0 _ _).trans (feq (by decide : ¬ ((1 : Int32) = (0 : Int32)))).1) ?_
          refine XS.aload X70.here hx rfl (hb hby at_165) rfl rfl ?_
          refine XS.aload X70.here hx rfl (hb hby at_167) rfl rfl ?_
          refine XS.iconst X70.here hx rfl (hb hby at_169) ?_
          refine XS.iload X70.here hx rfl (hb hby at_170) rfl ?_
          refine st73 _ ?_
          refine XS.ifNo X73.here hx rfl (hb hby at_175) rfl ((if0 _ _).trans (feq (by decide : ¬ ((1 : Int32) = (0 : Int32)))).1) ?_
          refine XS.iconst X73.here hx rfl (hb hby at_178) ?_
          refine XS.goto X73.here hx rfl (pc0 := 179) (pc' := 183) rfl (hb hby at_179) (by decide) (by decide) ?_
          show Steps p.tables e below (T73.setTop (mkF m 183 #[.val (.int p1), .val (.int p2), .val (.int (1 : Int32)), .val (.int z2), .val (.int z4), .val (.int z6), .val (.int z8), .val (.ref b37), .val (.ref b42)] [(.int (1 : Int32))])) _
          exact retN X73 hx (t := .boolean) hret (by simp) (hb hby at_183) hr
        ·
          show Q0 n0 _ T73.heap _
          rw [e75]
          exact ⟨rfl, N73⟩
      ·
        exact absurd (rfl : z2 = z2) hc61
      ·
        exact absurd (rfl : z2 = z2) hc64
    ·
      by_cases hc76 : ((p1 &&& (2147483647 : Int32)) % (5 : Int32)) = (2 : Int32)
      ·
        have pre77 : ∀ t, Steps p.tables e below (s₁.setTop (mkF m 60 #[.val (.int p1), .val (.int p2), .val (.int (2 : Int32)), .val (.int z2), .val (.int z4), .val (.int z6), .val (.int z8), .unset, .unset] [(.int (2 : Int32))])) t → Steps p.tables e below (s₁.setTop (entryFrame m #[(.int p1), (.int p2)] maxLocals)) t := fun t k => pre9 t (by rw [hc76]; exact k)
        obtain ⟨T78, h78, k78, X78, e78, E78, A78, EX78, st78⟩ := newPE X0 hx hZ (own_w hw 1 rfl) e0 (g := (mkF m 60 #[.val (.int p1), .val (.int p2), .val (.int (2 : Int32)), .val (.int z2), .val (.int z4), .val (.int z6), .val (.int z8), .unset, .unset] [(.int (2 : Int32))])) rfl (hb hby at_60) rfl (by decide) (cap := 2) (by decide) (by decide) (by decide) (by decide) (ad := "[Z") (by decide)
        obtain ⟨b78, g78⟩ : ∃ z, z = h0.size := ⟨_, rfl⟩
        rw [← g78] at A78 EX78 st78
        have M78 : h0.size ≤ h78.size := Nat.le_trans (Nat.le_refl _) E78.1
        have O78 := Old.ext O0 E78
        have sz_b78 : h0.size ≤ b78 := Nat.le_of_eq g78.symm
        have g_b78 : n0 ≤ b78 := Nat.le_trans (own_oz O0) (Nat.le_trans (Nat.le_refl _) sz_b78)
        have V78_0 := Arv.new A78 (by decide)
        have V78 : Arv Z h78 b78 k78 .boolean (2 : Int32) [(.int (0 : Int32)), (.int (0 : Int32))] (.int (0 : Int32)) := V78_0.pad (pad_rep [] (.int (0 : Int32)) 2)
        obtain ⟨cl79, Ar79, qa79, Sa79, Na79, Ha79, Ga79⟩ := id (V78)
        have hin79 : ¬ ((0 : Int32) < 0 ∨ cl79.slots.size ≤ ((0 : Int32)).toNatClampNeg) := inb_of Sa79 ⟨by decide, by decide⟩
        have hbz80 : 0 ≤ z2.toInt ∧ z2.toInt ≤ 1 := by have q0 := bz2; omega
        obtain ⟨T81, h81, X81, e81, W81, st81⟩ := stZ X78 hx hZ e78 Ar79 (j := (0 : Int32)) hin79 (g := (mkF m 72 #[.val (.int p1), .val (.int p2), .val (.int (2 : Int32)), .val (.int z2), .val (.int z4), .val (.int z6), .val (.int z8), .val (.ref b78), .unset] [(.int z2), (.int (0 : Int32)), (.ref b78)])) rfl rfl (hb hby at_72)
        rw [own_nz hbz80] at W81
        have V81 : Arv Z h81 b78 k78 .boolean (2 : Int32) [(.int z2), (.int (0 : Int32))] (.int (0 : Int32)) := Arv.set Ar79 qa79 Sa79 Na79 Ha79 Ga79 (own_fz hbz80) W81 0 rfl (Nat.le_of_ble_eq_true rfl)
        have N81 := Fr.snoc X81 N0 g_b78
        have M81 : h0.size ≤ h81.size := Nat.le_trans M78 (Nat.le_of_eq W81.size.symm)
        have O81 := Old.wr O78 W81 g_b78
        obtain ⟨cl82, Ar82, qa82, Sa82, Na82, Ha82, Ga82⟩ := id (V81)
        have hin82 : ¬ ((1 : Int32) < 0 ∨ cl82.slots.size ≤ ((1 : Int32)).toNatClampNeg) := inb_of Sa82 ⟨by decide, by decide⟩
        have hbz83 : 0 ≤ z4.toInt ∧ z4.toInt ≤ 1 := by have q0 := bz4; omega
        obtain ⟨T84, h84, X84, e84, W84, st84⟩ := stZ X81 hx hZ e81 Ar82 (j := (1 : Int32)) hin82 (g := (mkF m 83 #[.val (.int p1), .val (.int p2), .val (.int (2 : Int32)), .val (.int z2), .val (.int z4), .val (.int z6), .val (.int z8), .val (.ref b78), .unset] [(.int z4), (.int (1 : Int32)), (.ref b78)])) rfl rfl (hb hby at_83)
        rw [own_nz hbz83] at W84
        have V84 : Arv Z h84 b78 k78 .boolean (2 : Int32) [(.int z2), (.int z4)] (.int (0 : Int32)) := Arv.set Ar82 qa82 Sa82 Na82 Ha82 Ga82 (own_fz hbz83) W84 1 rfl (Nat.le_of_ble_eq_true rfl)
        have N84 := Fr.snoc X84 N81 g_b78
        have M84 : h0.size ≤ h84.size := Nat.le_trans M81 (Nat.le_of_eq W84.size.symm)
        have O84 := Old.wr O81 W84 g_b78
        obtain ⟨_, _, ⟨T85, L85, c85, n85⟩, -, X85, hSn85, hgr85, ⟨Lc85, hQ85, l85, y85, z85⟩, st85⟩ := callSS X84 hx (y := yn1) hown (mvT hZ (own_w hw 2 rfl)) (mvT hZ (own_w hw 3 rfl)) (mvT hZ (own_w hw 4 rfl)) (mvT hZ (own_w hw 5 rfl)) (by decide) (backOfS (W := 0) (rm16 l Z a0 hw w1 w2 G [] b78 z2 z4 k78 h84 n0 O84 g_b78 (by have q0 := bz2; omega) (by have q0 := bz4; omega) V84) hZ (own_w hw 5 rfl) (own_w hw 4 rfl) (by decide) (by decide)) (g := (mkF m 108 #[.val (.int p1), .val (.int p2), .val (.int (2 : Int32)), .val (.int z2), .val (.int z4), .val (.int z6), .val (.int z8), .val (.ref b78), .unset] [(.ref b78)])) rfl (by rw [hml]; rfl) (argsL := [(.ref b78)]) (rest := []) (lenOf pd1 rfl) rfl (by show 2 * 0 + _ ≤ _; exact Nat.le_of_eq rfl) (hb hby at_108) (fun _ _ => ⟨rfl, e84, (by decide : 1 + 3 ≤ _), (by decide : 2 + 58 ≤ _)⟩)
        dsimp only [Pt.U, Pt.locs, Pt.cells, Pt.slots] at X85 l85 y85 z85 st85 hQ85
        subst l85 y85 z85
        have hS85 : s.Since T85.vm T85.heap.size := hSn85
        have hZ := State.Warmed39.trans (t := s) hZ hS85.1
        have hown : (s.setVm T85.vm).vm.findClass "com/example/castless/castless/PrimitiveArraysBox333PinLaw" = some m.cls := by rw [show (s.setVm T85.vm).vm = T85.vm from rfl, hS85.1.alike.findClass]; exact hown
        have X85 : Stand p l e room_1 (s.setVm T85.vm) m #[(.int p1), (.int p2)] below meth c T85 _ 4 60 := X85
        obtain ⟨b86, k87, v88, v89, rfl, Nq90, K91, sz_b86, OV92, f93, f94, f95, f96, f97, f98⟩ := hQ85
        have N85 := Fr.app N84 Nq90
        have g_b86 : n0 ≤ b86 := Nat.le_trans (own_oz O84) sz_b86
        have M85 : h0.size ≤ T85.heap.size := Nat.le_trans M84 K91.1
        have O85 := Old.keep O84 K91 all0
        obtain ⟨cl99, Ar99, qa99, Sa99, Na99, Ha99, Ga99⟩ := id (f93)
        have f100 := (V84.keep K91 nin0)
        obtain ⟨_, _, ⟨T101, L101, c101, n101⟩, -, X101, ⟨Lc101, hQ101, l101, y101, z101⟩, st101⟩ := Jvm.LawKit.callS X85 hx (y := yn2) hown (mvT hZ (own_w hw 20 rfl)) (mvT hZ (own_w hw 21 rfl)) (mvT hZ (own_w hw 22 rfl)) (mvT hZ (own_w hw 23 rfl)) (by decide) (backOf (W := 0) (rm17 l Z a0 hw [] b86 b78 k87 z2 z2 z4 z2 z4 v88 v89 k78 T85.heap n0 O85 g_b86 g_b78 OV92 (by have q0 := bz2; omega) (by have q0 := bz2; omega) (by have q0 := bz4; omega) (by have q0 := bz2; omega) (by have q0 := bz4; omega) f93 f100 f95 f96) hZ (own_w hw 23 rfl) (own_w hw 22 rfl) (by decide) (by decide)) (g := (mkF m 133 #[.val (.int p1), .val (.int p2), .val (.int (2 : Int32)), .val (.int z2), .val (.int z4), .val (.int z6), .val (.int z8), .val (.ref b78), .val (.ref b86)] [(.int z2), (.int (0 : Int32)), (.ref b78), (.ref b86)])) rfl (by rw [hml]; rfl) (argsL := [(.ref b86), (.ref b78), (.int (0 : Int32)), (.int z2)]) (rest := []) (lenOf pd2 rfl) rfl (by show 2 * 0 + _ ≤ _; exact Nat.le_of_eq rfl) (hb hby at_133) (fun _ _ => ⟨rfl, rfl, (by decide : 4 + 0 ≤ _), (by decide : 60 + 0 ≤ _)⟩)
        dsimp only [Pt.U, Pt.locs, Pt.cells, Pt.slots] at X101 l101 y101 z101 st101 hQ101
        subst l101 y101 z101
        have pre102 : ∀ t, Steps p.tables e below (T85.setTop (mkF m 133 #[.val (.int p1), .val (.int p2), .val (.int (2 : Int32)), .val (.int z2), .val (.int z4), .val (.int z6), .val (.int z8), .val (.ref b78), .val (.ref b86)] [(.int z2), (.int (0 : Int32)), (.ref b78), (.ref b86)])) t → Steps p.tables e below (s₁.setTop (entryFrame m #[(.int p1), (.int p2)] maxLocals)) t := fun t k => by
          refine pre77 _ ?_
          show Steps p.tables e below (s₁.setTop (mkF m 60 #[.val (.int p1), .val (.int p2), .val (.int (2 : Int32)), .val (.int z2), .val (.int z4), .val (.int z6), .val (.int z8), .unset, .unset] [(.int (2 : Int32))])) _
          refine st78 _ ?_
          refine XS.astore X78.here hx rfl (hb hby at_62) rfl rfl (l' := #[.val (.int p1), .val (.int p2), .val (.int (2 : Int32)), .val (.int z2), .val (.int z4), .val (.int z6), .val (.int z8), .val (.ref b78), .unset]) rfl ?_
          refine XS.iloadN X78.here hx rfl (hb hby at_64) rfl ?_
          refine XS.ifNo X78.here hx rfl (hb hby at_65) rfl ((if0 _ _).trans (tlt (by decide : (0 : Int32) < (2 : Int32))).2.2.2) ?_
          refine XS.aload X78.here hx rfl (hb hby at_68) rfl rfl ?_
          refine XS.iconst X78.here hx rfl (hb hby at_70) ?_
          refine XS.iloadN X78.here hx rfl (hb hby at_71) rfl ?_
          refine st81 _ ?_
          refine XS.iloadN X81.here hx rfl (hb hby at_73) rfl ?_
          refine XS.iconst X81.here hx rfl (hb hby at_74) ?_
          refine XS.icmpNo X81.here hx rfl (hb hby at_75) rfl (tlt (by decide : (1 : Int32) < (2 : Int32))).2.2.2 ?_
          refine XS.aload X81.here hx rfl (hb hby at_78) rfl rfl ?_
          refine XS.iconst X81.here hx rfl (hb hby at_80) ?_
          refine XS.iload X81.here hx rfl (hb hby at_81) rfl ?_
          refine st84 _ ?_
          refine XS.iloadN X84.here hx rfl (hb hby at_84) rfl ?_
          refine XS.iconst X84.here hx rfl (hb hby at_85) ?_
          show Steps p.tables e below (T84.setTop (mkF m 86 #[.val (.int p1), .val (.int p2), .val (.int (2 : Int32)), .val (.int z2), .val (.int z4), .val (.int z6), .val (.int z8), .val (.ref b78), .unset] [(.int (2 : Int32)), (.int (2 : Int32))])) _
          refine XS.icmpYes X84.here hx rfl (pc0 := 86) (pc' := 95) rfl (hb hby at_86) rfl (flt (by decide : ¬ ((2 : Int32) < (2 : Int32)))).2.2.2 (by decide) (by decide) ?_
          refine XS.iloadN X84.here hx rfl (hb hby at_95) rfl ?_
          refine XS.iconst X84.here hx rfl (hb hby at_96) ?_
          refine XS.icmpYes X84.here hx rfl (pc0 := 97) (pc' := 106) rfl (hb hby at_97) rfl (flt (by decide : ¬ ((3 : Int32) < (2 : Int32)))).2.2.2 (by decide) (by decide) ?_
          refine XS.aload X84.here hx rfl (hb hby at_106) rfl rfl ?_
          refine st85.trans ?_
          refine XS.astore X85.here hx rfl (hb hby at_111) rfl rfl (l' := #[.val (.int p1), .val (.int p2), .val (.int (2 : Int32)), .val (.int z2), .val (.int z4), .val (.int z6), .val (.int z8), .val (.ref b78), .val (.ref b86)]) rfl ?_
          refine XS.aload X85.here hx rfl (hb hby at_113) rfl rfl ?_
          refine XS.ifnullNo X85.here hx rfl (hb hby at_115) rfl ?_
          refine XS.aload X85.here hx rfl (hb hby at_118) rfl rfl ?_
          refine X85.arraylength hx Ar99.1 (State.isArrayOf_alike hZ.alike Ar99.2.1) (g := (mkF m 120 #[.val (.int p1), .val (.int p2), .val (.int (2 : Int32)), .val (.int z2), .val (.int z4), .val (.int z6), .val (.int z8), .val (.ref b78), .val (.ref b86)] [(.ref b86)])) rfl rfl (hb hby at_120) _ ?_
          rw [len_of Sa99 Na99]
          refine XS.iloadN X85.here hx rfl (hb hby at_121) rfl ?_
          refine XS.icmpYes X85.here hx rfl (pc0 := 122) (pc' := 127) rfl (hb hby at_122) rfl (teq (by decide : (2 : Int32) = (2 : Int32))).1 (by decide) (by decide) ?_
          refine XS.aload X85.here hx rfl (hb hby at_127) rfl rfl ?_
          refine XS.aload X85.here hx rfl (hb hby at_129) rfl rfl ?_
          refine XS.iconst X85.here hx rfl (hb hby at_131) ?_
          refine XS.iloadN X85.here hx rfl (hb hby at_132) rfl ?_
          exact k
        have X101 : Stand p l e room_1 (s.setVm T85.vm) m #[(.int p1), (.int p2)] below meth c T101 _ 4 60 := X101
        rcases hQ101 with ⟨hc103, hc104, rfl, Nq105, e106⟩ | ⟨hc107, hc108, rfl, Nq109, e110⟩ | ⟨hc111, rfl, Nq112, e113⟩
        ·
          have N101 := Fr.app N85 Nq105
          obtain ⟨_, _, ⟨T114, L114, c114, n114⟩, -, X114, ⟨Lc114, hQ114, l114, y114, z114⟩, st114⟩ := Jvm.LawKit.callS X101 hx (y := yn2) hown (mvT hZ (own_w hw 20 rfl)) (mvT hZ (own_w hw 21 rfl)) (mvT hZ (own_w hw 22 rfl)) (mvT hZ (own_w hw 23 rfl)) (by decide) (backOf (W := 0) (rm18 l Z a0 hw [] b86 b78 k87 z4 z2 z4 z2 z4 v88 v89 k78 T85.heap n0 O85 g_b86 g_b78 OV92 (by have q0 := bz4; omega) (by have q0 := bz2; omega) (by have q0 := bz4; omega) (by have q0 := bz2; omega) (by have q0 := bz4; omega) f93 f100 f97 f98) hZ (own_w hw 23 rfl) (own_w hw 22 rfl) (by decide) (by decide)) (g := (mkF m 146 #[.val (.int p1), .val (.int p2), .val (.int (2 : Int32)), .val (.int z2), .val (.int z4), .val (.int z6), .val (.int z8), .val (.ref b78), .val (.ref b86)] [(.int z4), (.int (1 : Int32)), (.ref b78), (.ref b86)])) rfl (by rw [hml]; rfl) (argsL := [(.ref b86), (.ref b78), (.int (1 : Int32)), (.int z4)]) (rest := []) (lenOf pd2 rfl) rfl (by show 2 * 0 + _ ≤ _; exact Nat.le_of_eq rfl) (hb hby at_146) (fun _ _ => ⟨rfl, e106, (by decide : 4 + 0 ≤ _), (by decide : 60 + 0 ≤ _)⟩)
          dsimp only [Pt.U, Pt.locs, Pt.cells, Pt.slots] at X114 l114 y114 z114 st114 hQ114
          subst l114 y114 z114
          have pre115 : ∀ t, Steps p.tables e below (T101.setTop (mkF m 146 #[.val (.int p1), .val (.int p2), .val (.int (2 : Int32)), .val (.int z2), .val (.int z4), .val (.int z6), .val (.int z8), .val (.ref b78), .val (.ref b86)] [(.int z4), (.int (1 : Int32)), (.ref b78), (.ref b86)])) t → Steps p.tables e below (s₁.setTop (entryFrame m #[(.int p1), (.int p2)] maxLocals)) t := fun t k => by
            refine pre102 _ ?_
            show Steps p.tables e below (T85.setTop (mkF m 133 #[.val (.int p1), .val (.int p2), .val (.int (2 : Int32)), .val (.int z2), .val (.int z4), .val (.int z6), .val (.int z8), .val (.ref b78), .val (.ref b86)] [(.int z2), (.int (0 : Int32)), (.ref b78), (.ref b86)])) _
            refine st101 _ ?_
            refine XS.ifNo X101.here hx rfl (hb hby at_136) rfl ((if0 _ _).trans (feq (by decide : ¬ ((1 : Int32) = (0 : Int32)))).1) ?_
            refine XS.aload X101.here hx rfl (hb hby at_139) rfl rfl ?_
            refine XS.aload X101.here hx rfl (hb hby at_141) rfl rfl ?_
            refine XS.iconst X101.here hx rfl (hb hby at_143) ?_
            refine XS.iload X101.here hx rfl (hb hby at_144) rfl ?_
            exact k
          have X114 : Stand p l e room_1 (s.setVm T85.vm) m #[(.int p1), (.int p2)] below meth c T114 _ 4 60 := X114
          rcases hQ114 with ⟨hc116, hc117, rfl, Nq118, e119⟩ | ⟨hc120, hc121, rfl, Nq122, e123⟩ | ⟨hc124, rfl, Nq125, e126⟩
          ·
            have N114 := Fr.app N101 Nq118
            obtain ⟨_, _, ⟨T127, L127, c127, n127⟩, -, X127, ⟨Lc127, hQ127, l127, y127, z127⟩, st127⟩ := Jvm.LawKit.callS X114 hx (y := yn2) hown (mvT hZ (own_w hw 20 rfl)) (mvT hZ (own_w hw 21 rfl)) (mvT hZ (own_w hw 22 rfl)) (mvT hZ (own_w hw 23 rfl)) (by decide) (backOf (W := 0) (rm19 l Z a0 hw [] b86 b78 k87 z6 z2 z4 z2 z4 k78 T85.heap n0 O85 g_b86 g_b78 OV92 (by have q0 := bz6; omega) (by have q0 := bz2; omega) (by have q0 := bz4; omega) (by have q0 := bz2; omega) (by have q0 := bz4; omega) f100) hZ (own_w hw 23 rfl) (own_w hw 22 rfl) (by decide) (by decide)) (g := (mkF m 159 #[.val (.int p1), .val (.int p2), .val (.int (2 : Int32)), .val (.int z2), .val (.int z4), .val (.int z6), .val (.int z8), .val (.ref b78), .val (.ref b86)] [(.int z6), (.int (2 : Int32)), (.ref b78), (.ref b86)])) rfl (by rw [hml]; rfl) (argsL := [(.ref b86), (.ref b78), (.int (2 : Int32)), (.int z6)]) (rest := []) (lenOf pd2 rfl) rfl (by show 2 * 0 + _ ≤ _; exact Nat.le_of_eq rfl) (hb hby at_159) (fun _ _ => ⟨rfl, e119, (by decide : 4 + 0 ≤ _), (by decide : 60 + 0 ≤ _)⟩)
            dsimp only [Pt.U, Pt.locs, Pt.cells, Pt.slots] at X127 l127 y127 z127 st127 hQ127
            subst l127 y127 z127
            have X127 : Stand p l e room_1 (s.setVm T85.vm) m #[(.int p1), (.int p2)] below meth c T127 _ 4 60 := X127
            obtain ⟨rfl, Nq128, e129⟩ := hQ127
            have N127 := Fr.app N114 Nq128
            obtain ⟨_, _, ⟨T130, L130, c130, n130⟩, -, X130, ⟨Lc130, hQ130, l130, y130, z130⟩, st130⟩ := Jvm.LawKit.callS X127 hx (y := yn2) hown (mvT hZ (own_w hw 20 rfl)) (mvT hZ (own_w hw 21 rfl)) (mvT hZ (own_w hw 22 rfl)) (mvT hZ (own_w hw 23 rfl)) (by decide) (backOf (W := 0) (rm20 l Z a0 hw [] b86 b78 k87 z8 z2 z4 z2 z4 k78 T85.heap n0 O85 g_b86 g_b78 OV92 (by have q0 := bz8; omega) (by have q0 := bz2; omega) (by have q0 := bz4; omega) (by have q0 := bz2; omega) (by have q0 := bz4; omega) f100) hZ (own_w hw 23 rfl) (own_w hw 22 rfl) (by decide) (by decide)) (g := (mkF m 172 #[.val (.int p1), .val (.int p2), .val (.int (2 : Int32)), .val (.int z2), .val (.int z4), .val (.int z6), .val (.int z8), .val (.ref b78), .val (.ref b86)] [(.int z8), (.int (3 : Int32)), (.ref b78), (.ref b86)])) rfl (by rw [hml]; rfl) (argsL := [(.ref b86), (.ref b78), (.int (3 : Int32)), (.int z8)]) (rest := []) (lenOf pd2 rfl) rfl (by show 2 * 0 + _ ≤ _; exact Nat.le_of_eq rfl) (hb hby at_172) (fun _ _ => ⟨rfl, e129, (by decide : 4 + 0 ≤ _), (by decide : 60 + 0 ≤ _)⟩)
            dsimp only [Pt.U, Pt.locs, Pt.cells, Pt.slots] at X130 l130 y130 z130 st130 hQ130
            subst l130 y130 z130
            have X130 : Stand p l e room_1 (s.setVm T85.vm) m #[(.int p1), (.int p2)] below meth c T130 _ 4 60 := X130
            obtain ⟨rfl, Nq131, e132⟩ := hQ130
            have N130 := Fr.app N127 Nq131
            obtain ⟨fs, hr, hrun, hended, hRE⟩ := X130.leaveW hS85 (by rw [e132]; exact (Nat.le_refl _)) (v := some (.int (1 : Int32))) (fun h => by rw [hret] at h; cases h)
            refine ⟨_, _, pre115 _ ?_, hrun, hended, _, _, rfl, ?_, hRE.1, hRE.2.1, hRE.2.2.1, hRE.2.2.2.mono (by decide) (by decide)⟩
            ·
              show Steps p.tables e below (T101.setTop (mkF m 146 #[.val (.int p1), .val (.int p2), .val (.int (2 : Int32)), .val (.int z2), .val (.int z4), .val (.int z6), .val (.int z8), .val (.ref b78), .val (.ref b86)] [(.int z4), (.int (1 : Int32)), (.ref b78), (.ref b86)])) _
              refine st114 _ ?_
              refine XS.ifNo X114.here hx rfl (hb hby at_149) rfl ((if0 _ _).trans (feq (by decide : ¬ ((1 : Int32) = (0 : Int32)))).1) ?_
              refine XS.aload X114.here hx rfl (hb hby at_152) rfl rfl ?_
              refine XS.aload X114.here hx rfl (hb hby at_154) rfl rfl ?_
              refine XS.iconst X114.here hx rfl (hb hby at_156) ?_
              refine XS.iload X114.here hx rfl (hb hby at_157) rfl ?_
              refine st127 _ ?_
              refine XS.ifNo X127.here hx rfl (hb hby at_162) rfl ((if0 _ _).trans (feq (by decide : ¬ ((1 : Int32) = (0 : Int32)))).1) ?_
              refine XS.aload X127.here hx rfl (hb hby at_165) rfl rfl ?_
              refine XS.aload X127.here hx rfl (hb hby at_167) rfl rfl ?_
              refine XS.iconst X127.here hx rfl (hb hby at_169) ?_
              refine XS.iload X127.here hx rfl (hb hby at_170) rfl ?_
              refine st130 _ ?_
              refine XS.ifNo X130.here hx rfl (hb hby at_175) rfl ((if0 _ _).trans (feq (by decide : ¬ ((1 : Int32) = (0 : Int32)))).1) ?_
              refine XS.iconst X130.here hx rfl (hb hby at_178) ?_
              refine XS.goto X130.here hx rfl (pc0 := 179) (pc' := 183) rfl (hb hby at_179) (by decide) (by decide) ?_
              show Steps p.tables e below (T130.setTop (mkF m 183 #[.val (.int p1), .val (.int p2), .val (.int (2 : Int32)), .val (.int z2), .val (.int z4), .val (.int z6), .val (.int z8), .val (.ref b78), .val (.ref b86)] [(.int (1 : Int32))])) _
              exact retN X130 hx (t := .boolean) hret (by simp) (hb hby at_183) hr
            ·
              show Q0 n0 _ T130.heap _
              rw [e132]
              exact ⟨rfl, N130⟩
          ·
            exact absurd (rfl : z4 = z4) hc121
          ·
            exact absurd (rfl : z4 = z4) hc124
        ·
          exact absurd (rfl : z2 = z2) hc108
        ·
          exact absurd (rfl : z2 = z2) hc111
      ·
        by_cases hc133 : ((p1 &&& (2147483647 : Int32)) % (5 : Int32)) = (3 : Int32)
        ·
          have pre134 : ∀ t, Steps p.tables e below (s₁.setTop (mkF m 60 #[.val (.int p1), .val (.int p2), .val (.int (3 : Int32)), .val (.int z2), .val (.int z4), .val (.int z6), .val (.int z8), .unset, .unset] [(.int (3 : Int32))])) t → Steps p.tables e below (s₁.setTop (entryFrame m #[(.int p1), (.int p2)] maxLocals)) t := fun t k => pre9 t (by rw [hc133]; exact k)
          obtain ⟨T135, h135, k135, X135, e135, E135, A135, EX135, st135⟩ := newPE X0 hx hZ (own_w hw 1 rfl) e0 (g := (mkF m 60 #[.val (.int p1), .val (.int p2), .val (.int (3 : Int32)), .val (.int z2), .val (.int z4), .val (.int z6), .val (.int z8), .unset, .unset] [(.int (3 : Int32))])) rfl (hb hby at_60) rfl (by decide) (cap := 3) (by decide) (by decide) (by decide) (by decide) (ad := "[Z") (by decide)
          obtain ⟨b135, g135⟩ : ∃ z, z = h0.size := ⟨_, rfl⟩
          rw [← g135] at A135 EX135 st135
          have M135 : h0.size ≤ h135.size := Nat.le_trans (Nat.le_refl _) E135.1
          have O135 := Old.ext O0 E135
          have sz_b135 : h0.size ≤ b135 := Nat.le_of_eq g135.symm
          have g_b135 : n0 ≤ b135 := Nat.le_trans (own_oz O0) (Nat.le_trans (Nat.le_refl _) sz_b135)
          have V135_0 := Arv.new A135 (by decide)
          have V135 : Arv Z h135 b135 k135 .boolean (3 : Int32) [(.int (0 : Int32)), (.int (0 : Int32)), (.int (0 : Int32))] (.int (0 : Int32)) := V135_0.pad (pad_rep [] (.int (0 : Int32)) 3)
          obtain ⟨cl136, Ar136, qa136, Sa136, Na136, Ha136, Ga136⟩ := id (V135)
          have hin136 : ¬ ((0 : Int32) < 0 ∨ cl136.slots.size ≤ ((0 : Int32)).toNatClampNeg) := inb_of Sa136 ⟨by decide, by decide⟩
          have hbz137 : 0 ≤ z2.toInt ∧ z2.toInt ≤ 1 := by have q0 := bz2; omega
          obtain ⟨T138, h138, X138, e138, W138, st138⟩ := stZ X135 hx hZ e135 Ar136 (j := (0 : Int32)) hin136 (g := (mkF m 72 #[.val (.int p1), .val (.int p2), .val (.int (3 : Int32)), .val (.int z2), .val (.int z4), .val (.int z6), .val (.int z8), .val (.ref b135), .unset] [(.int z2), (.int (0 : Int32)), (.ref b135)])) rfl rfl (hb hby at_72)
          rw [own_nz hbz137] at W138
          have V138 : Arv Z h138 b135 k135 .boolean (3 : Int32) [(.int z2), (.int (0 : Int32)), (.int (0 : Int32))] (.int (0 : Int32)) := Arv.set Ar136 qa136 Sa136 Na136 Ha136 Ga136 (own_fz hbz137) W138 0 rfl (Nat.le_of_ble_eq_true rfl)
          have N138 := Fr.snoc X138 N0 g_b135
          have M138 : h0.size ≤ h138.size := Nat.le_trans M135 (Nat.le_of_eq W138.size.symm)
          have O138 := Old.wr O135 W138 g_b135
          obtain ⟨cl139, Ar139, qa139, Sa139, Na139, Ha139, Ga139⟩ := id (V138)
          have hin139 : ¬ ((1 : Int32) < 0 ∨ cl139.slots.size ≤ ((1 : Int32)).toNatClampNeg) := inb_of Sa139 ⟨by decide, by decide⟩
          have hbz140 : 0 ≤ z4.toInt ∧ z4.toInt ≤ 1 := by have q0 := bz4; omega
          obtain ⟨T141, h141, X141, e141, W141, st141⟩ := stZ X138 hx hZ e138 Ar139 (j := (1 : Int32)) hin139 (g := (mkF m 83 #[.val (.int p1), .val (.int p2), .val (.int (3 : Int32)), .val (.int z2), .val (.int z4), .val (.int z6), .val (.int z8), .val (.ref b135), .unset] [(.int z4), (.int (1 : Int32)), (.ref b135)])) rfl rfl (hb hby at_83)
          rw [own_nz hbz140] at W141
          have V141 : Arv Z h141 b135 k135 .boolean (3 : Int32) [(.int z2), (.int z4), (.int (0 : Int32))] (.int (0 : Int32)) := Arv.set Ar139 qa139 Sa139 Na139 Ha139 Ga139 (own_fz hbz140) W141 1 rfl (Nat.le_of_ble_eq_true rfl)
          have N141 := Fr.snoc X141 N138 g_b135
          have M141 : h0.size ≤ h141.size := Nat.le_trans M138 (Nat.le_of_eq W141.size.symm)
          have O141 := Old.wr O138 W141 g_b135
          obtain ⟨cl142, Ar142, qa142, Sa142, Na142, Ha142, Ga142⟩ := id (V141)
          have hin142 : ¬ ((2 : Int32) < 0 ∨ cl142.slots.size ≤ ((2 : Int32)).toNatClampNeg) := inb_of Sa142 ⟨by decide, by decide⟩
          have hbz143 : 0 ≤ z6.toInt ∧ z6.toInt ≤ 1 := by have q0 := bz6; omega
          obtain ⟨T144, h144, X144, e144, W144, st144⟩ := stZ X141 hx hZ e141 Ar142 (j := (2 : Int32)) hin142 (g := (mkF m 94 #[.val (.int p1), .val (.int p2), .val (.int (3 : Int32)), .val (.int z2), .val (.int z4), .val (.int z6), .val (.int z8), .val (.ref b135), .unset] [(.int z6), (.int (2 : Int32)), (.ref b135)])) rfl rfl (hb hby at_94)
          rw [own_nz hbz143] at W144
          have V144 : Arv Z h144 b135 k135 .boolean (3 : Int32) [(.int z2), (.int z4), (.int z6)] (.int (0 : Int32)) := Arv.set Ar142 qa142 Sa142 Na142 Ha142 Ga142 (own_fz hbz143) W144 2 rfl (Nat.le_of_ble_eq_true rfl)
          have N144 := Fr.snoc X144 N141 g_b135
          have M144 : h0.size ≤ h144.size := Nat.le_trans M141 (Nat.le_of_eq W144.size.symm)
          have O144 := Old.wr O141 W144 g_b135
          obtain ⟨_, _, ⟨T145, L145, c145, n145⟩, -, X145, hSn145, hgr145, ⟨Lc145, hQ145, l145, y145, z145⟩, st145⟩ := callSS X144 hx (y := yn1) hown (mvT hZ (own_w hw 2 rfl)) (mvT hZ (own_w hw 3 rfl)) (mvT hZ (own_w hw 4 rfl)) (mvT hZ (own_w hw 5 rfl)) (by decide) (backOfS (W := 0) (rm22 l Z a0 hw w1 w2 G [] b135 z2 z4 z6 k135 h144 n0 O144 g_b135 (by have q0 := bz2; omega) (by have q0 := bz4; omega) (by have q0 := bz6; omega) V144) hZ (own_w hw 5 rfl) (own_w hw 4 rfl) (by decide) (by decide)) (g := (mkF m 108 #[.val (.int p1), .val (.int p2), .val (.int (3 : Int32)), .val (.int z2), .val (.int z4), .val (.int z6), .val (.int z8), .val (.ref b135), .unset] [(.ref b135)])) rfl (by rw [hml]; rfl) (argsL := [(.ref b135)]) (rest := []) (lenOf pd1 rfl) rfl (by show 2 * 0 + _ ≤ _; exact Nat.le_of_eq rfl) (hb hby at_108) (fun _ _ => ⟨rfl, e144, (by decide : 1 + 3 ≤ _), (by decide : 3 + 59 ≤ _)⟩)
          dsimp only [Pt.U, Pt.locs, Pt.cells, Pt.slots] at X145 l145 y145 z145 st145 hQ145
          subst l145 y145 z145
          have hS145 : s.Since T145.vm T145.heap.size := hSn145
          have hZ := State.Warmed39.trans (t := s) hZ hS145.1
          have hown : (s.setVm T145.vm).vm.findClass "com/example/castless/castless/PrimitiveArraysBox333PinLaw" = some m.cls := by rw [show (s.setVm T145.vm).vm = T145.vm from rfl, hS145.1.alike.findClass]; exact hown
          have X145 : Stand p l e room_1 (s.setVm T145.vm) m #[(.int p1), (.int p2)] below meth c T145 _ 4 62 := X145
          obtain ⟨b146, k147, v148, v149, v150, rfl, Nq151, K152, sz_b146, OV153, f154, f155, f156, f157, f158, f159, f160, f161⟩ := hQ145
          have N145 := Fr.app N144 Nq151
          have g_b146 : n0 ≤ b146 := Nat.le_trans (own_oz O144) sz_b146
          have M145 : h0.size ≤ T145.heap.size := Nat.le_trans M144 K152.1
          have O145 := Old.keep O144 K152 all0
          obtain ⟨cl162, Ar162, qa162, Sa162, Na162, Ha162, Ga162⟩ := id (f154)
          have f163 := (V144.keep K152 nin0)
          obtain ⟨_, _, ⟨T164, L164, c164, n164⟩, -, X164, ⟨Lc164, hQ164, l164, y164, z164⟩, st164⟩ := Jvm.LawKit.callS X145 hx (y := yn2) hown (mvT hZ (own_w hw 20 rfl)) (mvT hZ (own_w hw 21 rfl)) (mvT hZ (own_w hw 22 rfl)) (mvT hZ (own_w hw 23 rfl)) (by decide) (backOf (W := 0) (rm23 l Z a0 hw [] b146 b135 k147 z2 z2 z4 z6 z2 z4 z6 v148 v149 v150 k135 T145.heap n0 O145 g_b146 g_b135 OV153 (by have q0 := bz2; omega) (by have q0 := bz2; omega) (by have q0 := bz4; omega) (by have q0 := bz6; omega) (by have q0 := bz2; omega) (by have q0 := bz4; omega) (by have q0 := bz6; omega) f154 f163 f156 f157) hZ (own_w hw 23 rfl) (own_w hw 22 rfl) (by decide) (by decide)) (g := (mkF m 133 #[.val (.int p1), .val (.int p2), .val (.int (3 : Int32)), .val (.int z2), .val (.int z4), .val (.int z6), .val (.int z8), .val (.ref b135), .val (.ref b146)] [(.int z2), (.int (0 : Int32)), (.ref b135), (.ref b146)])) rfl (by rw [hml]; rfl) (argsL := [(.ref b146), (.ref b135), (.int (0 : Int32)), (.int z2)]) (rest := []) (lenOf pd2 rfl) rfl (by show 2 * 0 + _ ≤ _; exact Nat.le_of_eq rfl) (hb hby at_133) (fun _ _ => ⟨rfl, rfl, (by decide : 4 + 0 ≤ _), (by decide : 62 + 0 ≤ _)⟩)
          dsimp only [Pt.U, Pt.locs, Pt.cells, Pt.slots] at X164 l164 y164 z164 st164 hQ164
          subst l164 y164 z164
          have pre165 : ∀ t, Steps p.tables e below (T145.setTop (mkF m 133 #[.val (.int p1), .val (.int p2), .val (.int (3 : Int32)), .val (.int z2), .val (.int z4), .val (.int z6), .val (.int z8), .val (.ref b135), .val (.ref b146)] [(.int z2), (.int (0 : Int32)), (.ref b135), (.ref b146)])) t → Steps p.tables e below (s₁.setTop (entryFrame m #[(.int p1), (.int p2)] maxLocals)) t := fun t k => by
            refine pre134 _ ?_
            show Steps p.tables e below (s₁.setTop (mkF m 60 #[.val (.int p1), .val (.int p2), .val (.int (3 : Int32)), .val (.int z2), .val (.int z4), .val (.int z6), .val (.int z8), .unset, .unset] [(.int (3 : Int32))])) _
            refine st135 _ ?_
            refine XS.astore X135.here hx rfl (hb hby at_62) rfl rfl (l' := #[.val (.int p1), .val (.int p2), .val (.int (3 : Int32)), .val (.int z2), .val (.int z4), .val (.int z6), .val (.int z8), .val (.ref b135), .unset]) rfl ?_
            refine XS.iloadN X135.here hx rfl (hb hby at_64) rfl ?_
            refine XS.ifNo X135.here hx rfl (hb hby at_65) rfl ((if0 _ _).trans (tlt (by decide : (0 : Int32) < (3 : Int32))).2.2.2) ?_
            refine XS.aload X135.here hx rfl (hb hby at_68) rfl rfl ?_
            refine XS.iconst X135.here hx rfl (hb hby at_70) ?_
            refine XS.iloadN X135.here hx rfl (hb hby at_71) rfl ?_
            refine st138 _ ?_
            refine XS.iloadN X138.here hx rfl (hb hby at_73) rfl ?_
            refine XS.iconst X138.here hx rfl (hb hby at_74) ?_
            refine XS.icmpNo X138.here hx rfl (hb hby at_75) rfl (tlt (by decide : (1 : Int32) < (3 : Int32))).2.2.2 ?_
            refine XS.aload X138.here hx rfl (hb hby at_78) rfl rfl ?_
            refine XS.iconst X138.here hx rfl (hb hby at_80) ?_
            refine XS.iload X138.here hx rfl (hb hby at_81) rfl ?_
            refine st141 _ ?_
            refine XS.iloadN X141.here hx rfl (hb hby at_84) rfl ?_
            refine XS.iconst X141.here hx rfl (hb hby at_85) ?_
            show Steps p.tables e below (T141.setTop (mkF m 86 #[.val (.int p1), .val (.int p2), .val (.int (3 : Int32)), .val (.int z2), .val (.int z4), .val (.int z6), .val (.int z8), .val (.ref b135), .unset] [(.int (2 : Int32)), (.int (3 : Int32))])) _
            refine XS.icmpNo X141.here hx rfl (hb hby at_86) rfl (tlt (by decide : (2 : Int32) < (3 : Int32))).2.2.2 ?_
            refine XS.aload X141.here hx rfl (hb hby at_89) rfl rfl ?_
            refine XS.iconst X141.here hx rfl (hb hby at_91) ?_
            refine XS.iload X141.here hx rfl (hb hby at_92) rfl ?_
            refine st144 _ ?_
            refine XS.iloadN X144.here hx rfl (hb hby at_95) rfl ?_
            refine XS.iconst X144.here hx rfl (hb hby at_96) ?_
            refine XS.icmpYes X144.here hx rfl (pc0 := 97) (pc' := 106) rfl (hb hby at_97) rfl (flt (by decide : ¬ ((3 : Int32) < (3 : Int32)))).2.2.2 (by decide) (by decide) ?_
            refine XS.aload X144.here hx rfl (hb hby at_106) rfl rfl ?_
            refine st145.trans ?_
            refine XS.astore X145.here hx rfl (hb hby at_111) rfl rfl (l' := #[.val (.int p1), .val (.int p2), .val (.int (3 : Int32)), .val (.int z2), .val (.int z4), .val (.int z6), .val (.int z8), .val (.ref b135), .val (.ref b146)]) rfl ?_
            refine XS.aload X145.here hx rfl (hb hby at_113) rfl rfl ?_
            refine XS.ifnullNo X145.here hx rfl (hb hby at_115) rfl ?_
            refine XS.aload X145.here hx rfl (hb hby at_118) rfl rfl ?_
            refine X145.arraylength hx Ar162.1 (State.isArrayOf_alike hZ.alike Ar162.2.1) (g := (mkF m 120 #[.val (.int p1), .val (.int p2), .val (.int (3 : Int32)), .val (.int z2), .val (.int z4), .val (.int z6), .val (.int z8), .val (.ref b135), .val (.ref b146)] [(.ref b146)])) rfl rfl (hb hby at_120) _ ?_
            rw [len_of Sa162 Na162]
            refine XS.iloadN X145.here hx rfl (hb hby at_121) rfl ?_
            refine XS.icmpYes X145.here hx rfl (pc0 := 122) (pc' := 127) rfl (hb hby at_122) rfl (teq (by decide : (3 : Int32) = (3 : Int32))).1 (by decide) (by decide) ?_
            refine XS.aload X145.here hx rfl (hb hby at_127) rfl rfl ?_
            refine XS.aload X145.here hx rfl (hb hby at_129) rfl rfl ?_
            refine XS.iconst X145.here hx rfl (hb hby at_131) ?_
            refine XS.iloadN X145.here hx rfl (hb hby at_132) rfl ?_
            exact k
          have X164 : Stand p l e room_1 (s.setVm T145.vm) m #[(.int p1), (.int p2)] below meth c T164 _ 4 62 := X164
          rcases hQ164 with ⟨hc166, hc167, rfl, Nq168, e169⟩ | ⟨hc170, hc171, rfl, Nq172, e173⟩ | ⟨hc174, rfl, Nq175, e176⟩
          ·
            have N164 := Fr.app N145 Nq168
            obtain ⟨_, _, ⟨T177, L177, c177, n177⟩, -, X177, ⟨Lc177, hQ177, l177, y177, z177⟩, st177⟩ := Jvm.LawKit.callS X164 hx (y := yn2) hown (mvT hZ (own_w hw 20 rfl)) (mvT hZ (own_w hw 21 rfl)) (mvT hZ (own_w hw 22 rfl)) (mvT hZ (own_w hw 23 rfl)) (by decide) (backOf (W := 0) (rm24 l Z a0 hw [] b146 b135 k147 z4 z2 z4 z6 z2 z4 z6 v148 v149 v150 k135 T145.heap n0 O145 g_b146 g_b135 OV153 (by have q0 := bz4; omega) (by have q0 := bz2; omega) (by have q0 := bz4; omega) (by have q0 := bz6; omega) (by have q0 := bz2; omega) (by have q0 := bz4; omega) (by have q0 := bz6; omega) f154 f163 f158 f159) hZ (own_w hw 23 rfl) (own_w hw 22 rfl) (by decide) (by decide)) (g := (mkF m 146 #[.val (.int p1), .val (.int p2), .val (.int (3 : Int32)), .val (.int z2), .val (.int z4), .val (.int z6), .val (.int z8), .val (.ref b135), .val (.ref b146)] [(.int z4), (.int (1 : Int32)), (.ref b135), (.ref b146)])) rfl (by rw [hml]; rfl) (argsL := [(.ref b146), (.ref b135), (.int (1 : Int32)), (.int z4)]) (rest := []) (lenOf pd2 rfl) rfl (by show 2 * 0 + _ ≤ _; exact Nat.le_of_eq rfl) (hb hby at_146) (fun _ _ => ⟨rfl, e169, (by decide : 4 + 0 ≤ _), (by decide : 62 + 0 ≤ _)⟩)
            dsimp only [Pt.U, Pt.locs, Pt.cells, Pt.slots] at X177 l177 y177 z177 st177 hQ177
            subst l177 y177 z177
            have pre178 : ∀ t, Steps p.tables e below (T164.setTop (mkF m 146 #[.val (.int p1), .val (.int p2), .val (.int (3 : Int32)), .val (.int z2), .val (.int z4), .val (.int z6), .val (.int z8), .val (.ref b135), .val (.ref b146)] [(.int z4), (.int (1 : Int32)), (.ref b135), (.ref b146)])) t → Steps p.tables e below (s₁.setTop (entryFrame m #[(.int p1), (.int p2)] maxLocals)) t := fun t k => by
              refine pre165 _ ?_
              show Steps p.tables e below (T145.setTop (mkF m 133 #[.val (.int p1), .val (.int p2), .val (.int (3 : Int32)), .val (.int z2), .val (.int z4), .val (.int z6), .val (.int z8), .val (.ref b135), .val (.ref b146)] [(.int z2), (.int (0 : Int32)), (.ref b135), (.ref b146)])) _
              refine st164 _ ?_
              refine XS.ifNo X164.here hx rfl (hb hby at_136) rfl ((if0 _ _).trans (feq (by decide : ¬ ((1 : Int32) = (0 : Int32)))).1) ?_
              refine XS.aload X164.here hx rfl (hb hby at_139) rfl rfl ?_
              refine XS.aload X164.here hx rfl (hb hby at_141) rfl rfl ?_
              refine XS.iconst X164.here hx rfl (hb hby at_143) ?_
              refine XS.iload X164.here hx rfl (hb hby at_144) rfl ?_
              exact k
            have X177 : Stand p l e room_1 (s.setVm T145.vm) m #[(.int p1), (.int p2)] below meth c T177 _ 4 62 := X177
            rcases hQ177 with ⟨hc179, hc180, rfl, Nq181, e182⟩ | ⟨hc183, hc184, rfl, Nq185, e186⟩ | ⟨hc187, rfl, Nq188, e189⟩
            ·
              have N177 := Fr.app N164 Nq181
              obtain ⟨_, _, ⟨T190, L190, c190, n190⟩, -, X190, ⟨Lc190, hQ190, l190, y190, z190⟩, st190⟩ := Jvm.LawKit.callS X177 hx (y := yn2) hown (mvT hZ (own_w hw 20 rfl)) (mvT hZ (own_w hw 21 rfl)) (mvT hZ (own_w hw 22 rfl)) (mvT hZ (own_w hw 23 rfl)) (by decide) (backOf (W := 0) (rm25 l Z a0 hw [] b146 b135 k147 z6 z2 z4 z6 z2 z4 z6 v148 v149 v150 k135 T145.heap n0 O145 g_b146 g_b135 OV153 (by have q0 := bz6; omega) (by have q0 := bz2; omega) (by have q0 := bz4; omega) (by have q0 := bz6; omega) (by have q0 := bz2; omega) (by have q0 := bz4; omega) (by have q0 := bz6; omega) f154 f163 f160 f161) hZ (own_w hw 23 rfl) (own_w hw 22 rfl) (by decide) (by decide)) (g := (mkF m 159 #[.val (.int p1), .val (.int p2), .val (.int (3 : Int32)), .val (.int z2), .val (.int z4), .val (.int z6), .val (.int z8), .val (.ref b135), .val (.ref b146)] [(.int z6), (.int (2 : Int32)), (.ref b135), (.ref b146)])) rfl (by rw [hml]; rfl) (argsL := [(.ref b146), (.ref b135), (.int (2 : Int32)), (.int z6)]) (rest := []) (lenOf pd2 rfl) rfl (by show 2 * 0 + _ ≤ _; exact Nat.le_of_eq rfl) (hb hby at_159) (fun _ _ => ⟨rfl, e182, (by decide : 4 + 0 ≤ _), (by decide : 62 + 0 ≤ _)⟩)
              dsimp only [Pt.U, Pt.locs, Pt.cells, Pt.slots] at X190 l190 y190 z190 st190 hQ190
              subst l190 y190 z190
              have pre191 : ∀ t, Steps p.tables e below (T177.setTop (mkF m 159 #[.val (.int p1), .val (.int p2), .val (.int (3 : Int32)), .val (.int z2), .val (.int z4), .val (.int z6), .val (.int z8), .val (.ref b135), .val (.ref b146)] [(.int z6), (.int (2 : Int32)), (.ref b135), (.ref b146)])) t → Steps p.tables e below (s₁.setTop (entryFrame m #[(.int p1), (.int p2)] maxLocals)) t := fun t k => by
                refine pre178 _ ?_
                show Steps p.tables e below (T164.setTop (mkF m 146 #[.val (.int p1), .val (.int p2), .val (.int (3 : Int32)), .val (.int z2), .val (.int z4), .val (.int z6), .val (.int z8), .val (.ref b135), .val (.ref b146)] [(.int z4), (.int (1 : Int32)), (.ref b135), (.ref b146)])) _
                refine st177 _ ?_
                refine XS.ifNo X177.here hx rfl (hb hby at_149) rfl ((if0 _ _).trans (feq (by decide : ¬ ((1 : Int32) = (0 : Int32)))).1) ?_
                refine XS.aload X177.here hx rfl (hb hby at_152) rfl rfl ?_
                refine XS.aload X177.here hx rfl (hb hby at_154) rfl rfl ?_
                refine XS.iconst X177.here hx rfl (hb hby at_156) ?_
                refine XS.iload X177.here hx rfl (hb hby at_157) rfl ?_
                exact k
              have X190 : Stand p l e room_1 (s.setVm T145.vm) m #[(.int p1), (.int p2)] below meth c T190 _ 4 62 := X190
              rcases hQ190 with ⟨hc192, hc193, rfl, Nq194, e195⟩ | ⟨hc196, hc197, rfl, Nq198, e199⟩ | ⟨hc200, rfl, Nq201, e202⟩
              ·
                have N190 := Fr.app N177 Nq194
                obtain ⟨_, _, ⟨T203, L203, c203, n203⟩, -, X203, ⟨Lc203, hQ203, l203, y203, z203⟩, st203⟩ := Jvm.LawKit.callS X190 hx (y := yn2) hown (mvT hZ (own_w hw 20 rfl)) (mvT hZ (own_w hw 21 rfl)) (mvT hZ (own_w hw 22 rfl)) (mvT hZ (own_w hw 23 rfl)) (by decide) (backOf (W := 0) (rm26 l Z a0 hw [] b146 b135 k147 z8 z2 z4 z6 z2 z4 z6 k135 T145.heap n0 O145 g_b146 g_b135 OV153 (by have q0 := bz8; omega) (by have q0 := bz2; omega) (by have q0 := bz4; omega) (by have q0 := bz6; omega) (by have q0 := bz2; omega) (by have q0 := bz4; omega) (by have q0 := bz6; omega) f163) hZ (own_w hw 23 rfl) (own_w hw 22 rfl) (by decide) (by decide)) (g := (mkF m 172 #[.val (.int p1), .val (.int p2), .val (.int (3 : Int32)), .val (.int z2), .val (.int z4), .val (.int z6), .val (.int z8), .val (.ref b135), .val (.ref b146)] [(.int z8), (.int (3 : Int32)), (.ref b135), (.ref b146)])) rfl (by rw [hml]; rfl) (argsL := [(.ref b146), (.ref b135), (.int (3 : Int32)), (.int z8)]) (rest := []) (lenOf pd2 rfl) rfl (by show 2 * 0 + _ ≤ _; exact Nat.le_of_eq rfl) (hb hby at_172) (fun _ _ => ⟨rfl, e195, (by decide : 4 + 0 ≤ _), (by decide : 62 + 0 ≤ _)⟩)
                dsimp only [Pt.U, Pt.locs, Pt.cells, Pt.slots] at X203 l203 y203 z203 st203 hQ203
                subst l203 y203 z203
                have X203 : Stand p l e room_1 (s.setVm T145.vm) m #[(.int p1), (.int p2)] below meth c T203 _ 4 62 := X203
                obtain ⟨rfl, Nq204, e205⟩ := hQ203
                have N203 := Fr.app N190 Nq204
                obtain ⟨fs, hr, hrun, hended, hRE⟩ := X203.leaveW hS145 (by rw [e205]; exact (Nat.le_refl _)) (v := some (.int (1 : Int32))) (fun h => by rw [hret] at h; cases h)
                refine ⟨_, _, pre191 _ ?_, hrun, hended, _, _, rfl, ?_, hRE.1, hRE.2.1, hRE.2.2.1, hRE.2.2.2.mono (by decide) (by decide)⟩
                ·
                  show Steps p.tables e below (T177.setTop (mkF m 159 #[.val (.int p1), .val (.int p2), .val (.int (3 : Int32)), .val (.int z2), .val (.int z4), .val (.int z6), .val (.int z8), .val (.ref b135), .val (.ref b146)] [(.int z6), (.int (2 : Int32)), (.ref b135), (.ref b146)])) _
                  refine st190 _ ?_
                  refine XS.ifNo X190.here hx rfl (hb hby at_162) rfl ((if0 _ _).trans (feq (by decide : ¬ ((1 : Int32) = (0 : Int32)))).1) ?_
                  refine XS.aload X190.here hx rfl (hb hby at_165) rfl rfl ?_
                  refine XS.aload X190.here hx rfl (hb hby at_167) rfl rfl ?_
                  refine XS.iconst X190.here hx rfl (hb hby at_169) ?_
                  refine XS.iload X190.here hx rfl (hb hby at_170) rfl ?_
                  refine st203 _ ?_
                  show Steps p.tables e below (T203.setTop (mkF m 175 #[.val (.int p1), .val (.int p2), .val (.int (3 : Int32)), .val (.int z2), .val (.int z4), .val (.int z6), .val (.int z8), .val (.ref b135), .val (.ref b146)] [(.int (1 : Int32))])) _
                  refine XS.ifNo X203.here hx rfl (hb hby at_175) rfl ((if0 _ _).trans (feq (by decide : ¬ ((1 : Int32) = (0 : Int32)))).1) ?_
                  refine XS.iconst X203.here hx rfl (hb hby at_178) ?_
                  refine XS.goto X203.here hx rfl (pc0 := 179) (pc' := 183) rfl (hb hby at_179) (by decide) (by decide) ?_
                  show Steps p.tables e below (T203.setTop (mkF m 183 #[.val (.int p1), .val (.int p2), .val (.int (3 : Int32)), .val (.int z2), .val (.int z4), .val (.int z6), .val (.int z8), .val (.ref b135), .val (.ref b146)] [(.int (1 : Int32))])) _
                  exact retN X203 hx (t := .boolean) hret (by simp) (hb hby at_183) hr
                ·
                  show Q0 n0 _ T203.heap _
                  rw [e205]
                  exact ⟨rfl, N203⟩
              ·
                exact absurd (rfl : z6 = z6) hc197
              ·
                exact absurd (rfl : z6 = z6) hc200
            ·
              exact absurd (rfl : z4 = z4) hc184
            ·
              exact absurd (rfl : z4 = z4) hc187
          ·
            exact absurd (rfl : z2 = z2) hc171
          ·
            exact absurd (rfl : z2 = z2) hc174
        ·
          have hq206 : ((p1 &&& (2147483647 : Int32)) % (5 : Int32)) = (4 : Int32) := (own_geq (n := 4) (k := (4 : Int32)) (by decide) (by have q0 := own_rem (x := (p1 &&& (2147483647 : Int32))) (k := (5 : Int32)) (n := 5) (by decide) (by decide) (by have q0 := own_and (x := p1) (k := (2147483647 : Int32)) (n := 2147483647) (by decide) (by decide); omega); have q1 := own_neq (n := 0) (k := (0 : Int32)) (by decide) hc10; have q2 := own_neq (n := 1) (k := (1 : Int32)) (by decide) hc35; have q3 := own_neq (n := 2) (k := (2 : Int32)) (by decide) hc76; have q4 := own_neq (n := 3) (k := (3 : Int32)) (by decide) hc133; omega))
          have pre207 : ∀ t, Steps p.tables e below (s₁.setTop (mkF m 60 #[.val (.int p1), .val (.int p2), .val (.int (4 : Int32)), .val (.int z2), .val (.int z4), .val (.int z6), .val (.int z8), .unset, .unset] [(.int (4 : Int32))])) t → Steps p.tables e below (s₁.setTop (entryFrame m #[(.int p1), (.int p2)] maxLocals)) t := fun t k => pre9 t (by rw [hq206]; exact k)
          obtain ⟨T208, h208, k208, X208, e208, E208, A208, EX208, st208⟩ := newPE X0 hx hZ (own_w hw 1 rfl) e0 (g := (mkF m 60 #[.val (.int p1), .val (.int p2), .val (.int (4 : Int32)), .val (.int z2), .val (.int z4), .val (.int z6), .val (.int z8), .unset, .unset] [(.int (4 : Int32))])) rfl (hb hby at_60) rfl (by decide) (cap := 4) (by decide) (by decide) (by decide) (by decide) (ad := "[Z") (by decide)
          obtain ⟨b208, g208⟩ : ∃ z, z = h0.size := ⟨_, rfl⟩
          rw [← g208] at A208 EX208 st208
          have M208 : h0.size ≤ h208.size := Nat.le_trans (Nat.le_refl _) E208.1
          have O208 := Old.ext O0 E208
          have sz_b208 : h0.size ≤ b208 := Nat.le_of_eq g208.symm
          have g_b208 : n0 ≤ b208 := Nat.le_trans (own_oz O0) (Nat.le_trans (Nat.le_refl _) sz_b208)
          have V208_0 := Arv.new A208 (by decide)
          have V208 : Arv Z h208 b208 k208 .boolean (4 : Int32) [(.int (0 : Int32)), (.int (0 : Int32)), (.int (0 : Int32)), (.int (0 : Int32))] (.int (0 : Int32)) := V208_0.pad (pad_rep [] (.int (0 : Int32)) 4)
          obtain ⟨cl209, Ar209, qa209, Sa209, Na209, Ha209, Ga209⟩ := id (V208)
          have hin209 : ¬ ((0 : Int32) < 0 ∨ cl209.slots.size ≤ ((0 : Int32)).toNatClampNeg) := inb_of Sa209 ⟨by decide, by decide⟩
          have hbz210 : 0 ≤ z2.toInt ∧ z2.toInt ≤ 1 := by have q0 := bz2; omega
          obtain ⟨T211, h211, X211, e211, W211, st211⟩ := stZ X208 hx hZ e208 Ar209 (j := (0 : Int32)) hin209 (g := (mkF m 72 #[.val (.int p1), .val (.int p2), .val (.int (4 : Int32)), .val (.int z2), .val (.int z4), .val (.int z6), .val (.int z8), .val (.ref b208), .unset] [(.int z2), (.int (0 : Int32)), (.ref b208)])) rfl rfl (hb hby at_72)
          rw [own_nz hbz210] at W211
          have V211 : Arv Z h211 b208 k208 .boolean (4 : Int32) [(.int z2), (.int (0 : Int32)), (.int (0 : Int32)), (.int (0 : Int32))] (.int (0 : Int32)) := Arv.set Ar209 qa209 Sa209 Na209 Ha209 Ga209 (own_fz hbz210) W211 0 rfl (Nat.le_of_ble_eq_true rfl)
          have N211 := Fr.snoc X211 N0 g_b208
          have M211 : h0.size ≤ h211.size := Nat.le_trans M208 (Nat.le_of_eq W211.size.symm)
          have O211 := Old.wr O208 W211 g_b208
          obtain ⟨cl212, Ar212, qa212, Sa212, Na212, Ha212, Ga212⟩ := id (V211)
          have hin212 : ¬ ((1 : Int32) < 0 ∨ cl212.slots.size ≤ ((1 : Int32)).toNatClampNeg) := inb_of Sa212 ⟨by decide, by decide⟩
          have hbz213 : 0 ≤ z4.toInt ∧ z4.toInt ≤ 1 := by have q0 := bz4; omega
          obtain ⟨T214, h214, X214, e214, W214, st214⟩ := stZ X211 hx hZ e211 Ar212 (j := (1 : Int32)) hin212 (g := (mkF m 83 #[.val (.int p1), .val (.int p2), .val (.int (4 : Int32)), .val (.int z2), .val (.int z4), .val (.int z6), .val (.int z8), .val (.ref b208), .unset] [(.int z4), (.int (1 : Int32)), (.ref b208)])) rfl rfl (hb hby at_83)
          rw [own_nz hbz213] at W214
          have V214 : Arv Z h214 b208 k208 .boolean (4 : Int32) [(.int z2), (.int z4), (.int (0 : Int32)), (.int (0 : Int32))] (.int (0 : Int32)) := Arv.set Ar212 qa212 Sa212 Na212 Ha212 Ga212 (own_fz hbz213) W214 1 rfl (Nat.le_of_ble_eq_true rfl)
          have N214 := Fr.snoc X214 N211 g_b208
          have M214 : h0.size ≤ h214.size := Nat.le_trans M211 (Nat.le_of_eq W214.size.symm)
          have O214 := Old.wr O211 W214 g_b208
          obtain ⟨cl215, Ar215, qa215, Sa215, Na215, Ha215, Ga215⟩ := id (V214)
          have hin215 : ¬ ((2 : Int32) < 0 ∨ cl215.slots.size ≤ ((2 : Int32)).toNatClampNeg) := inb_of Sa215 ⟨by decide, by decide⟩
          have hbz216 : 0 ≤ z6.toInt ∧ z6.toInt ≤ 1 := by have q0 := bz6; omega
          obtain ⟨T217, h217, X217, e217, W217, st217⟩ := stZ X214 hx hZ e214 Ar215 (j := (2 : Int32)) hin215 (g := (mkF m 94 #[.val (.int p1), .val (.int p2), .val (.int (4 : Int32)), .val (.int z2), .val (.int z4), .val (.int z6), .val (.int z8), .val (.ref b208), .unset] [(.int z6), (.int (2 : Int32)), (.ref b208)])) rfl rfl (hb hby at_94)
          rw [own_nz hbz216] at W217
          have V217 : Arv Z h217 b208 k208 .boolean (4 : Int32) [(.int z2), (.int z4), (.int z6), (.int (0 : Int32))] (.int (0 : Int32)) := Arv.set Ar215 qa215 Sa215 Na215 Ha215 Ga215 (own_fz hbz216) W217 2 rfl (Nat.le_of_ble_eq_true rfl)
          have N217 := Fr.snoc X217 N214 g_b208
          have M217 : h0.size ≤ h217.size := Nat.le_trans M214 (Nat.le_of_eq W217.size.symm)
          have O217 := Old.wr O214 W217 g_b208
          obtain ⟨cl218, Ar218, qa218, Sa218, Na218, Ha218, Ga218⟩ := id (V217)
          have hin218 : ¬ ((3 : Int32) < 0 ∨ cl218.slots.size ≤ ((3 : Int32)).toNatClampNeg) := inb_of Sa218 ⟨by decide, by decide⟩
          have hbz219 : 0 ≤ z8.toInt ∧ z8.toInt ≤ 1 := by have q0 := bz8; omega
          obtain ⟨T220, h220, X220, e220, W220, st220⟩ := stZ X217 hx hZ e217 Ar218 (j := (3 : Int32)) hin218 (g := (mkF m 105 #[.val (.int p1), .val (.int p2), .val (.int (4 : Int32)), .val (.int z2), .val (.int z4), .val (.int z6), .val (.int z8), .val (.ref b208), .unset] [(.int z8), (.int (3 : Int32)), (.ref b208)])) rfl rfl (hb hby at_105)
          rw [own_nz hbz219] at W220
          have V220 : Arv Z h220 b208 k208 .boolean (4 : Int32) [(.int z2), (.int z4), (.int z6), (.int z8)] (.int (0 : Int32)) := Arv.set Ar218 qa218 Sa218 Na218 Ha218 Ga218 (own_fz hbz219) W220 3 rfl (Nat.le_of_ble_eq_true rfl)
          have N220 := Fr.snoc X220 N217 g_b208
          have M220 : h0.size ≤ h220.size := Nat.le_trans M217 (Nat.le_of_eq W220.size.symm)
          have O220 := Old.wr O217 W220 g_b208
          obtain ⟨_, _, ⟨T221, L221, c221, n221⟩, -, X221, hSn221, hgr221, ⟨Lc221, hQ221, l221, y221, z221⟩, st221⟩ := callSS X220 hx (y := yn1) hown (mvT hZ (own_w hw 2 rfl)) (mvT hZ (own_w hw 3 rfl)) (mvT hZ (own_w hw 4 rfl)) (mvT hZ (own_w hw 5 rfl)) (by decide) (backOfS (W := 0) (rm28 l Z a0 hw w1 w2 G [] b208 z2 z4 z6 z8 k208 h220 n0 O220 g_b208 (by have q0 := bz2; omega) (by have q0 := bz4; omega) (by have q0 := bz6; omega) (by have q0 := bz8; omega) V220) hZ (own_w hw 5 rfl) (own_w hw 4 rfl) (by decide) (by decide)) (g := (mkF m 108 #[.val (.int p1), .val (.int p2), .val (.int (4 : Int32)), .val (.int z2), .val (.int z4), .val (.int z6), .val (.int z8), .val (.ref b208), .unset] [(.ref b208)])) rfl (by rw [hml]; rfl) (argsL := [(.ref b208)]) (rest := []) (lenOf pd1 rfl) rfl (by show 2 * 0 + _ ≤ _; exact Nat.le_of_eq rfl) (hb hby at_108) (fun _ _ => ⟨rfl, e220, (by decide : 1 + 3 ≤ _), (by decide : 4 + 60 ≤ _)⟩)
          dsimp only [Pt.U, Pt.locs, Pt.cells, Pt.slots] at X221 l221 y221 z221 st221 hQ221
          subst l221 y221 z221
          have hS221 : s.Since T221.vm T221.heap.size := hSn221
          have hZ := State.Warmed39.trans (t := s) hZ hS221.1
          have hown : (s.setVm T221.vm).vm.findClass "com/example/castless/castless/PrimitiveArraysBox333PinLaw" = some m.cls := by rw [show (s.setVm T221.vm).vm = T221.vm from rfl, hS221.1.alike.findClass]; exact hown
          have X221 : Stand p l e room_1 (s.setVm T221.vm) m #[(.int p1), (.int p2)] below meth c T221 _ 4 64 := X221
          obtain ⟨b222, k223, v224, v225, v226, v227, rfl, Nq228, K229, sz_b222, OV230, f231, f232, f233, f234, f235, f236, f237, f238, f239, f240⟩ := hQ221
          have N221 := Fr.app N220 Nq228
          have g_b222 : n0 ≤ b222 := Nat.le_trans (own_oz O220) sz_b222
          have M221 : h0.size ≤ T221.heap.size := Nat.le_trans M220 K229.1
          have O221 := Old.keep O220 K229 all0
          obtain ⟨cl241, Ar241, qa241, Sa241, Na241, Ha241, Ga241⟩ := id (f231)
          have f242 := (V220.keep K229 nin0)
          obtain ⟨_, _, ⟨T243, L243, c243, n243⟩, -, X243, ⟨Lc243, hQ243, l243, y243, z243⟩, st243⟩ := Jvm.LawKit.callS X221 hx (y := yn2) hown (mvT hZ (own_w hw 20 rfl)) (mvT hZ (own_w hw 21 rfl)) (mvT hZ (own_w hw 22 rfl)) (mvT hZ (own_w hw 23 rfl)) (by decide) (backOf (W := 0) (rm29 l Z a0 hw [] b222 b208 k223 z2 z2 z4 z6 z8 z2 z4 z6 z8 v224 v225 v226 v227 k208 T221.heap n0 O221 g_b222 g_b208 OV230 (by have q0 := bz2; omega) (by have q0 := bz2; omega) (by have q0 := bz4; omega) (by have q0 := bz6; omega) (by have q0 := bz8; omega) (by have q0 := bz2; omega) (by have q0 := bz4; omega) (by have q0 := bz6; omega) (by have q0 := bz8; omega) f231 f242 f233 f234) hZ (own_w hw 23 rfl) (own_w hw 22 rfl) (by decide) (by decide)) (g := (mkF m 133 #[.val (.int p1), .val (.int p2), .val (.int (4 : Int32)), .val (.int z2), .val (.int z4), .val (.int z6), .val (.int z8), .val (.ref b208), .val (.ref b222)] [(.int z2), (.int (0 : Int32)), (.ref b208), (.ref b222)])) rfl (by rw [hml]; rfl) (argsL := [(.ref b222), (.ref b208), (.int (0 : Int32)), (.int z2)]) (rest := []) (lenOf pd2 rfl) rfl (by show 2 * 0 + _ ≤ _; exact Nat.le_of_eq rfl) (hb hby at_133) (fun _ _ => ⟨rfl, rfl, (by decide : 4 + 0 ≤ _), (by decide : 64 + 0 ≤ _)⟩)
          dsimp only [Pt.U, Pt.locs, Pt.cells, Pt.slots] at X243 l243 y243 z243 st243 hQ243
          subst l243 y243 z243
          have pre244 : ∀ t, Steps p.tables e below (T221.setTop (mkF m 133 #[.val (.int p1), .val (.int p2), .val (.int (4 : Int32)), .val (.int z2), .val (.int z4), .val (.int z6), .val (.int z8), .val (.ref b208), .val (.ref b222)] [(.int z2), (.int (0 : Int32)), (.ref b208), (.ref b222)])) t → Steps p.tables e below (s₁.setTop (entryFrame m #[(.int p1), (.int p2)] maxLocals)) t := fun t k => by
            refine pre207 _ ?_
            show Steps p.tables e below (s₁.setTop (mkF m 60 #[.val (.int p1), .val (.int p2), .val (.int (4 : Int32)), .val (.int z2), .val (.int z4), .val (.int z6), .val (.int z8), .unset, .unset] [(.int (4 : Int32))])) _
            refine st208 _ ?_
            refine XS.astore X208.here hx rfl (hb hby at_62) rfl rfl (l' := #[.val (.int p1), .val (.int p2), .val (.int (4 : Int32)), .val (.int z2), .val (.int z4), .val (.int z6), .val (.int z8), .val (.ref b208), .unset]) rfl ?_
            refine XS.iloadN X208.here hx rfl (hb hby at_64) rfl ?_
            refine XS.ifNo X208.here hx rfl (hb hby at_65) rfl ((if0 _ _).trans (tlt (by decide : (0 : Int32) < (4 : Int32))).2.2.2) ?_
            refine XS.aload X208.here hx rfl (hb hby at_68) rfl rfl ?_
            refine XS.iconst X208.here hx rfl (hb hby at_70) ?_
            refine XS.iloadN X208.here hx rfl (hb hby at_71) rfl ?_
            refine st211 _ ?_
            refine XS.iloadN X211.here hx rfl (hb hby at_73) rfl ?_
            refine XS.iconst X211.here hx rfl (hb hby at_74) ?_
            refine XS.icmpNo X211.here hx rfl (hb hby at_75) rfl (tlt (by decide : (1 : Int32) < (4 : Int32))).2.2.2 ?_
            refine XS.aload X211.here hx rfl (hb hby at_78) rfl rfl ?_
            refine XS.iconst X211.here hx rfl (hb hby at_80) ?_
            refine XS.iload X211.here hx rfl (hb hby at_81) rfl ?_
            refine st214 _ ?_
            refine XS.iloadN X214.here hx rfl (hb hby at_84) rfl ?_
            refine XS.iconst X214.here hx rfl (hb hby at_85) ?_
            show Steps p.tables e below (T214.setTop (mkF m 86 #[.val (.int p1), .val (.int p2), .val (.int (4 : Int32)), .val (.int z2), .val (.int z4), .val (.int z6), .val (.int z8), .val (.ref b208), .unset] [(.int (2 : Int32)), (.int (4 : Int32))])) _
            refine XS.icmpNo X214.here hx rfl (hb hby at_86) rfl (tlt (by decide : (2 : Int32) < (4 : Int32))).2.2.2 ?_
            refine XS.aload X214.here hx rfl (hb hby at_89) rfl rfl ?_
            refine XS.iconst X214.here hx rfl (hb hby at_91) ?_
            refine XS.iload X214.here hx rfl (hb hby at_92) rfl ?_
            refine st217 _ ?_
            refine XS.iloadN X217.here hx rfl (hb hby at_95) rfl ?_
            refine XS.iconst X217.here hx rfl (hb hby at_96) ?_
            refine XS.icmpNo X217.here hx rfl (hb hby at_97) rfl (tlt (by decide : (3 : Int32) < (4 : Int32))).2.2.2 ?_
            refine XS.aload X217.here hx rfl (hb hby at_100) rfl rfl ?_
            refine XS.iconst X217.here hx rfl (hb hby at_102) ?_
            refine XS.iload X217.here hx rfl (hb hby at_103) rfl ?_
            refine st220 _ ?_
            refine XS.aload X220.here hx rfl (hb hby at_106) rfl rfl ?_
            refine st221.trans ?_
            refine XS.astore X221.here hx rfl (hb hby at_111) rfl rfl (l' := #[.val (.int p1), .val (.int p2), .val (.int (4 : Int32)), .val (.int z2), .val (.int z4), .val (.int z6), .val (.int z8), .val (.ref b208), .val (.ref b222)]) rfl ?_
            refine XS.aload X221.here hx rfl (hb hby at_113) rfl rfl ?_
            refine XS.ifnullNo X221.here hx rfl (hb hby at_115) rfl ?_
            refine XS.aload X221.here hx rfl (hb hby at_118) rfl rfl ?_
            refine X221.arraylength hx Ar241.1 (State.isArrayOf_alike hZ.alike Ar241.2.1) (g := (mkF m 120 #[.val (.int p1), .val (.int p2), .val (.int (4 : Int32)), .val (.int z2), .val (.int z4), .val (.int z6), .val (.int z8), .val (.ref b208), .val (.ref b222)] [(.ref b222)])) rfl rfl (hb hby at_120) _ ?_
            rw [len_of Sa241 Na241]
            refine XS.iloadN X221.here hx rfl (hb hby at_121) rfl ?_
            refine XS.icmpYes X221.here hx rfl (pc0 := 122) (pc' := 127) rfl (hb hby at_122) rfl (teq (by decide : (4 : Int32) = (4 : Int32))).1 (by decide) (by decide) ?_
            refine XS.aload X221.here hx rfl (hb hby at_127) rfl rfl ?_
            refine XS.aload X221.here hx rfl (hb hby at_129) rfl rfl ?_
            refine XS.iconst X221.here hx rfl (hb hby at_131) ?_
            refine XS.iloadN X221.here hx rfl (hb hby at_132) rfl ?_
            exact k
          have X243 : Stand p l e room_1 (s.setVm T221.vm) m #[(.int p1), (.int p2)] below meth c T243 _ 4 64 := X243
          rcases hQ243 with ⟨hc245, hc246, rfl, Nq247, e248⟩ | ⟨hc249, hc250, rfl, Nq251, e252⟩ | ⟨hc253, rfl, Nq254, e255⟩
          ·
            have N243 := Fr.app N221 Nq247
            obtain ⟨_, _, ⟨T256, L256, c256, n256⟩, -, X256, ⟨Lc256, hQ256, l256, y256, z256⟩, st256⟩ := Jvm.LawKit.callS X243 hx (y := yn2) hown (mvT hZ (own_w hw 20 rfl)) (mvT hZ (own_w hw 21 rfl)) (mvT hZ (own_w hw 22 rfl)) (mvT hZ (own_w hw 23 rfl)) (by decide) (backOf (W := 0) (rm30 l Z a0 hw [] b222 b208 k223 z4 z2 z4 z6 z8 z2 z4 z6 z8 v224 v225 v226 v227 k208 T221.heap n0 O221 g_b222 g_b208 OV230 (by have q0 := bz4; omega) (by have q0 := bz2; omega) (by have q0 := bz4; omega) (by have q0 := bz6; omega) (by have q0 := bz8; omega) (by have q0 := bz2; omega) (by have q0 := bz4; omega) (by have q0 := bz6; omega) (by have q0 := bz8; omega) f231 f242 f235 f236) hZ (own_w hw 23 rfl) (own_w hw 22 rfl) (by decide) (by decide)) (g := (mkF m 146 #[.val (.int p1), .val (.int p2), .val (.int (4 : Int32)), .val (.int z2), .val (.int z4), .val (.int z6), .val (.int z8), .val (.ref b208), .val (.ref b222)] [(.int z4), (.int (1 : Int32)), (.ref b208), (.ref b222)])) rfl (by rw [hml]; rfl) (argsL := [(.ref b222), (.ref b208), (.int (1 : Int32)), (.int z4)]) (rest := []) (lenOf pd2 rfl) rfl (by show 2 * 0 + _ ≤ _; exact Nat.le_of_eq rfl) (hb hby at_146) (fun _ _ => ⟨rfl, e248, (by decide : 4 + 0 ≤ _), (by decide : 64 + 0 ≤ _)⟩)
            dsimp only [Pt.U, Pt.locs, Pt.cells, Pt.slots] at X256 l256 y256 z256 st256 hQ256
            subst l256 y256 z256
            have pre257 : ∀ t, Steps p.tables e below (T243.setTop (mkF m 146 #[.val (.int p1), .val (.int p2), .val (.int (4 : Int32)), .val (.int z2), .val (.int z4), .val (.int z6), .val (.int z8), .val (.ref b208), .val (.ref b222)] [(.int z4), (.int (1 : Int32)), (.ref b208), (.ref b222)])) t → Steps p.tables e below (s₁.setTop (entryFrame m #[(.int p1), (.int p2)] maxLocals)) t := fun t k => by
              refine pre244 _ ?_
              show Steps p.tables e below (T221.setTop (mkF m 133 #[.val (.int p1), .val (.int p2), .val (.int (4 : Int32)), .val (.int z2), .val (.int z4), .val (.int z6), .val (.int z8), .val (.ref b208), .val (.ref b222)] [(.int z2), (.int (0 : Int32)), (.ref b208), (.ref b222)])) _
              refine st243 _ ?_
              refine XS.ifNo X243.here hx rfl (hb hby at_136) rfl ((if0 _ _).trans (feq (by decide : ¬ ((1 : Int32) = (0 : Int32)))).1) ?_
              refine XS.aload X243.here hx rfl (hb hby at_139) rfl rfl ?_
              refine XS.aload X243.here hx rfl (hb hby at_141) rfl rfl ?_
              refine XS.iconst X243.here hx rfl (hb hby at_143) ?_
              refine XS.iload X243.here hx rfl (hb hby at_144) rfl ?_
              exact k
            have X256 : Stand p l e room_1 (s.setVm T221.vm) m #[(.int p1), (.int p2)] below meth c T256 _ 4 64 := X256
            rcases hQ256 with ⟨hc258, hc259, rfl, Nq260, e261⟩ | ⟨hc262, hc263, rfl, Nq264, e265⟩ | ⟨hc266, rfl, Nq267, e268⟩
            ·
              have N256 := Fr.app N243 Nq260
              obtain ⟨_, _, ⟨T269, L269, c269, n269⟩, -, X269, ⟨Lc269, hQ269, l269, y269, z269⟩, st269⟩ := Jvm.LawKit.callS X256 hx (y := yn2) hown (mvT hZ (own_w hw 20 rfl)) (mvT hZ (own_w hw 21 rfl)) (mvT hZ (own_w hw 22 rfl)) (mvT hZ (own_w hw 23 rfl)) (by decide) (backOf (W := 0) (rm31 l Z a0 hw [] b222 b208 k223 z6 z2 z4 z6 z8 z2 z4 z6 z8 v224 v225 v226 v227 k208 T221.heap n0 O221 g_b222 g_b208 OV230 (by have q0 := bz6; omega) (by have q0 := bz2; omega) (by have q0 := bz4; omega) (by have q0 := bz6; omega) (by have q0 := bz8; omega) (by have q0 := bz2; omega) (by have q0 := bz4; omega) (by have q0 := bz6; omega) (by have q0 := bz8; omega) f231 f242 f237 f238) hZ (own_w hw 23 rfl) (own_w hw 22 rfl) (by decide) (by decide)) (g := (mkF m 159 #[.val (.int p1), .val (.int p2), .val (.int (4 : Int32)), .val (.int z2), .val (.int z4), .val (.int z6), .val (.int z8), .val (.ref b208), .val (.ref b222)] [(.int z6), (.int (2 : Int32)), (.ref b208), (.ref b222)])) rfl (by rw [hml]; rfl) (argsL := [(.ref b222), (.ref b208), (.int (2 : Int32)), (.int z6)]) (rest := []) (lenOf pd2 rfl) rfl (by show 2 * 0 + _ ≤ _; exact Nat.le_of_eq rfl) (hb hby at_159) (fun _ _ => ⟨rfl, e261, (by decide : 4 + 0 ≤ _), (by decide : 64 + 0 ≤ _)⟩)
              dsimp only [Pt.U, Pt.locs, Pt.cells, Pt.slots] at X269 l269 y269 z269 st269 hQ269
              subst l269 y269 z269
              have pre270 : ∀ t, Steps p.tables e below (T256.setTop (mkF m 159 #[.val (.int p1), .val (.int p2), .val (.int (4 : Int32)), .val (.int z2), .val (.int z4), .val (.int z6), .val (.int z8), .val (.ref b208), .val (.ref b222)] [(.int z6), (.int (2 : Int32)), (.ref b208), (.ref b222)])) t → Steps p.tables e below (s₁.setTop (entryFrame m #[(.int p1), (.int p2)] maxLocals)) t := fun t k => by
                refine pre257 _ ?_
                show Steps p.tables e below (T243.setTop (mkF m 146 #[.val (.int p1), .val (.int p2), .val (.int (4 : Int32)), .val (.int z2), .val (.int z4), .val (.int z6), .val (.int z8), .val (.ref b208), .val (.ref b222)] [(.int z4), (.int (1 : Int32)), (.ref b208), (.ref b222)])) _
                refine st256 _ ?_
                refine XS.ifNo X256.here hx rfl (hb hby at_149) rfl ((if0 _ _).trans (feq (by decide : ¬ ((1 : Int32) = (0 : Int32)))).1) ?_
                refine XS.aload X256.here hx rfl (hb hby at_152) rfl rfl ?_
                refine XS.aload X256.here hx rfl (hb hby at_154) rfl rfl ?_
                refine XS.iconst X256.here hx rfl (hb hby at_156) ?_
                refine XS.iload X256.here hx rfl (hb hby at_157) rfl ?_
                exact k
              have X269 : Stand p l e room_1 (s.setVm T221.vm) m #[(.int p1), (.int p2)] below meth c T269 _ 4 64 := X269
              rcases hQ269 with ⟨hc271, hc272, rfl, Nq273, e274⟩ | ⟨hc275, hc276, rfl, Nq277, e278⟩ | ⟨hc279, rfl, Nq280, e281⟩
              ·
                have N269 := Fr.app N256 Nq273
                obtain ⟨_, _, ⟨T282, L282, c282, n282⟩, -, X282, ⟨Lc282, hQ282, l282, y282, z282⟩, st282⟩ := Jvm.LawKit.callS X269 hx (y := yn2) hown (mvT hZ (own_w hw 20 rfl)) (mvT hZ (own_w hw 21 rfl)) (mvT hZ (own_w hw 22 rfl)) (mvT hZ (own_w hw 23 rfl)) (by decide) (backOf (W := 0) (rm32 l Z a0 hw [] b222 b208 k223 z8 z2 z4 z6 z8 z2 z4 z6 z8 v224 v225 v226 v227 k208 T221.heap n0 O221 g_b222 g_b208 OV230 (by have q0 := bz8; omega) (by have q0 := bz2; omega) (by have q0 := bz4; omega) (by have q0 := bz6; omega) (by have q0 := bz8; omega) (by have q0 := bz2; omega) (by have q0 := bz4; omega) (by have q0 := bz6; omega) (by have q0 := bz8; omega) f231 f242 f239 f240) hZ (own_w hw 23 rfl) (own_w hw 22 rfl) (by decide) (by decide)) (g := (mkF m 172 #[.val (.int p1), .val (.int p2), .val (.int (4 : Int32)), .val (.int z2), .val (.int z4), .val (.int z6), .val (.int z8), .val (.ref b208), .val (.ref b222)] [(.int z8), (.int (3 : Int32)), (.ref b208), (.ref b222)])) rfl (by rw [hml]; rfl) (argsL := [(.ref b222), (.ref b208), (.int (3 : Int32)), (.int z8)]) (rest := []) (lenOf pd2 rfl) rfl (by show 2 * 0 + _ ≤ _; exact Nat.le_of_eq rfl) (hb hby at_172) (fun _ _ => ⟨rfl, e274, (by decide : 4 + 0 ≤ _), (by decide : 64 + 0 ≤ _)⟩)
                dsimp only [Pt.U, Pt.locs, Pt.cells, Pt.slots] at X282 l282 y282 z282 st282 hQ282
                subst l282 y282 z282
                have pre283 : ∀ t, Steps p.tables e below (T269.setTop (mkF m 172 #[.val (.int p1), .val (.int p2), .val (.int (4 : Int32)), .val (.int z2), .val (.int z4), .val (.int z6), .val (.int z8), .val (.ref b208), .val (.ref b222)] [(.int z8), (.int (3 : Int32)), (.ref b208), (.ref b222)])) t → Steps p.tables e below (s₁.setTop (entryFrame m #[(.int p1), (.int p2)] maxLocals)) t := fun t k => by
                  refine pre270 _ ?_
                  show Steps p.tables e below (T256.setTop (mkF m 159 #[.val (.int p1), .val (.int p2), .val (.int (4 : Int32)), .val (.int z2), .val (.int z4), .val (.int z6), .val (.int z8), .val (.ref b208), .val (.ref b222)] [(.int z6), (.int (2 : Int32)), (.ref b208), (.ref b222)])) _
                  refine st269 _ ?_
                  refine XS.ifNo X269.here hx rfl (hb hby at_162) rfl ((if0 _ _).trans (feq (by decide : ¬ ((1 : Int32) = (0 : Int32)))).1) ?_
                  refine XS.aload X269.here hx rfl (hb hby at_165) rfl rfl ?_
                  show Steps p.tables e below (T269.setTop (mkF m 167 #[.val (.int p1), .val (.int p2), .val (.int (4 : Int32)), .val (.int z2), .val (.int z4), .val (.int z6), .val (.int z8), .val (.ref b208), .val (.ref b222)] [(.ref b222)])) _
                  refine XS.aload X269.here hx rfl (hb hby at_167) rfl rfl ?_
                  refine XS.iconst X269.here hx rfl (hb hby at_169) ?_
                  refine XS.iload X269.here hx rfl (hb hby at_170) rfl ?_
                  exact k
                have X282 : Stand p l e room_1 (s.setVm T221.vm) m #[(.int p1), (.int p2)] below meth c T282 _ 4 64 := X282
                rcases hQ282 with ⟨hc284, hc285, rfl, Nq286, e287⟩ | ⟨hc288, hc289, rfl, Nq290, e291⟩ | ⟨hc292, rfl, Nq293, e294⟩
                ·
                  have N282 := Fr.app N269 Nq286
                  obtain ⟨fs, hr, hrun, hended, hRE⟩ := X282.leaveW hS221 (by rw [e287]; exact (Nat.le_refl _)) (v := some (.int (1 : Int32))) (fun h => by rw [hret] at h; cases h)
                  refine ⟨_, _, pre283 _ ?_, hrun, hended, _, _, rfl, ?_, hRE.1, hRE.2.1, hRE.2.2.1, hRE.2.2.2.mono (by decide) (by decide)⟩
                  ·
                    show Steps p.tables e below (T269.setTop (mkF m 172 #[.val (.int p1), .val (.int p2), .val (.int (4 : Int32)), .val (.int z2), .val (.int z4), .val (.int z6), .val (.int z8), .val (.ref b208), .val (.ref b222)] [(.int z8), (.int (3 : Int32)), (.ref b208), (.ref b222)])) _
                    refine st282 _ ?_
                    refine XS.ifNo X282.here hx rfl (hb hby at_175) rfl ((if0 _ _).trans (feq (by decide : ¬ ((1 : Int32) = (0 : Int32)))).1) ?_
                    refine XS.iconst X282.here hx rfl (hb hby at_178) ?_
                    refine XS.goto X282.here hx rfl (pc0 := 179) (pc' := 183) rfl (hb hby at_179) (by decide) (by decide) ?_
                    show Steps p.tables e below (T282.setTop (mkF m 183 #[.val (.int p1), .val (.int p2), .val (.int (4 : Int32)), .val (.int z2), .val (.int z4), .val (.int z6), .val (.int z8), .val (.ref b208), .val (.ref b222)] [(.int (1 : Int32))])) _
                    exact retN X282 hx (t := .boolean) hret (by simp) (hb hby at_183) hr
                  ·
                    show Q0 n0 _ T282.heap _
                    rw [e287]
                    exact ⟨rfl, N282⟩
                ·
                  exact absurd (rfl : z8 = z8) hc289
                ·
                  exact absurd (rfl : z8 = z8) hc292
              ·
                exact absurd (rfl : z6 = z6) hc276
              ·
                exact absurd (rfl : z6 = z6) hc279
            ·
              exact absurd (rfl : z4 = z4) hc263
            ·
              exact absurd (rfl : z4 = z4) hc266
          ·
            exact absurd (rfl : z2 = z2) hc250
          ·
            exact absurd (rfl : z2 = z2) hc253
set_option maxRecDepth 65536 in
set_option maxHeartbeats 40000000 in
theorem comes_1 {Post : Tables → Env → Array Value → State → Outcome → State → Prop} (hpost : ∀ tb e args s v u, (limb_1_1.after args s (.returned v) u = true ∧ limb_1_2.after args s (.returned v) u = true ∧ True) → ReturnedEndW s (.returned v) u (Jvm.fieldLocs frame_1_writes args s ++ Jvm.arrayLocs frame_1_arrays args s ++ Jvm.staticLocs frame_1_statics s) 16 1152 → Post tb e args s (.returned v) u) :
    ArmFor flags0 classFile x code maxLocals ret World_1 tables_1 room_1 Calls_1 rest_1 Pre_1 Post := by
  intro l hfl _ _ p e ha hc hk s m args below hf hA hF happ hP
  obtain ⟨hcalls, hrest, hpre⟩ := hP
  obtain ⟨-, -, -, hnamed, -, -, -, hat⟩ := (Spec.applies_iff hf).mp happ
  obtain ⟨hg, hn⟩ := and_e (Cond.before_iff.mp (show (Jvm.Cond.and given_1 narrow_1).before args s = true from hpre))
  obtain ⟨hcount, hk0⟩ := and_e hg
  obtain ⟨hi0, hk1⟩ := and_e hk0
  have hi1 := hk1
  obtain ⟨w_a0, w_a1, rfl⟩ : ∃ w_a0 w_a1 : Value, args = #[w_a0, w_a1] := by
    have hs : args.size = 2 := by simpa [Cond.value, given_1] using hcount
    obtain ⟨L⟩ := args
    match L, hs with
    | [w_a0, w_a1], _ => exact ⟨w_a0, w_a1, rfl⟩
  have hw := fun d (hd : d ∈ tables_1) => atoms_spec (ws := Jvm.Cond.code x code maxLocals ret :: tables_1) hat d (List.mem_cons_of_mem _ hd)
  have hfit : Fit s := fun {y c} hc i hi => by
    obtain ⟨ha, rfl⟩ := Array.getElem?_eq_some_iff.mp hc
    have q := List.all_eq_true.mp ((Array.all_eq_true_iff_forall_mem.mp hF) _ (Array.getElem_mem ha)) i (List.mem_range.mpr hi)
    simpa [Array.getElem?_eq_getElem hi] using q
  obtain ⟨hsets, hown0⟩ := atoms_of _ (rest_1_c_eq ▸ (show rest_1_c.before _ s = true from hrest))
  obtain ⟨i0, ei0⟩ := is_v hi0
  obtain rfl : w_a0 = (.int i0) := Option.some.inj ei0
  obtain ⟨i1, ei1⟩ := is_v hi1
  obtain rfl : w_a1 = (.int i1) := Option.some.inj ei1
  obtain ⟨w1, ev_w1⟩ := exa_v (Cond.before_iff.mp (hsets _ (List.mem_of_getElem? (i := 2) rfl)))
  have S_w1 : Sta s s.heap "java/lang/Boolean" "TRUE" "Ljava/lang/Boolean;" (.ref w1) := Sta.start ev_w1 (Or.inl (hsets _ (List.mem_of_getElem? (i := 1) rfl)))
  have E_w1 : Exa s s.heap w1 "java/lang/Boolean" := Exa.start ev_w1 (Cond.before_iff.mp (hsets _ (List.mem_of_getElem? (i := 2) rfl)))
  obtain ⟨w2, ev_w2⟩ := exa_v (Cond.before_iff.mp (hsets _ (List.mem_of_getElem? (i := 6) rfl)))
  have S_w2 : Sta s s.heap "java/lang/Boolean" "FALSE" "Ljava/lang/Boolean;" (.ref w2) := Sta.start ev_w2 (Or.inl (hsets _ (List.mem_of_getElem? (i := 5) rfl)))
  have E_w2 : Exa s s.heap w2 "java/lang/Boolean" := Exa.start ev_w2 (Cond.before_iff.mp (hsets _ (List.mem_of_getElem? (i := 6) rfl)))
  have F_w1_value : Fld s s.heap w1 "java/lang/Boolean" "value" "Z" (.int (1 : Int32)) := Fld.start ((fld_at ev_w1).symm.trans (eqv_i rfl (Cond.before_iff.mp (hsets _ (List.mem_of_getElem? (i := 3) rfl)))))
  have F_w2_value : Fld s s.heap w2 "java/lang/Boolean" "value" "Z" (.int (0 : Int32)) := Fld.start ((fld_at ev_w2).symm.trans (eqv_i rfl (Cond.before_iff.mp (hsets _ (List.mem_of_getElem? (i := 7) rfl)))))
  have G : GW s w1 w2 := ⟨S_w1, E_w1, S_w2, E_w2, F_w1_value, F_w2_value⟩
  obtain ⟨n, o, h1, h2, h3, _, L, rfl, ⟨rfl, N⟩, hq⟩ := rm0 l s _ hw w1 w2 G tables_1 i0 i1 s.heap s.heap.size (Old.start s) p e ha hc hk s m _ below hf ((Spec.applies_iff_loose hf).mp happ).1 ⟨rfl, State.Warmed39.refl s, rfl⟩ trivial
  refine ⟨n, _, h1, h2, h3, hpost _ _ _ _ _ _ ⟨Cond.after_iff.mpr rfl, Cond.after_iff.mpr (eq_i res_at (Term.int_eval (1)) rfl), trivial⟩ ⟨hq.1, hq.2.1, hq.2.2.1, (hq.2.2.2.sift fun y hy => Or.inr (N y hy)).mono (by decide) (by decide)⟩⟩
theorem main_1_1 : Claimed_1_1 := comes_1 fun _ _ _ _ _ _ h hF => ⟨h.1, hF⟩
theorem main_1_2 : Claimed_1_2 := comes_1 fun _ _ _ _ _ _ h hF => ⟨h.2.1, hF⟩
end Jvm.Pilot.@@N@@
namespace Jvm.Pilot.@@N@@
open Jvm Jvm.ClassFile Sem Op Lib Jvm.Free Jvm.Stand Jvm.Pilot.@@N@@.Jvm.D
/-! MADE BY PROGRAM (witnessworld.py) out of the Statement's table words and the real class files: 19 classes; the members and pool entries that the words name. The judged class is class 1, her method 1. -/
namespace start1
open Jvm.ClassFile
def u (s : String) : CpInfo := .utf8 (stringToUtf16 s)
/-- a pool by its gaps: so many unusable entries, then the entry; so many at the end -/
def gap : Nat → List CpInfo → List CpInfo
  | 0, r => r
  | n + 1, r => .unusable :: gap n r
def poolList (es : List (Nat × CpInfo)) (last : Nat) : List CpInfo := es.foldr (fun e r => gap e.1 (e.2 :: r)) (gap last [])
def pool (es : List (Nat × CpInfo)) (last : Nat) : Array CpInfo := ⟨poolList es last⟩
def fileOf (pool : Array CpInfo) (this : Nat) (attrs : Array Attribute := #[]) (ms : Array MethodInfo := #[]) (fl : Nat := 33) (sup : Nat := 0) (ifs : Array Nat := #[]) (fds : Array FieldInfo := #[]) : ClassFile where
  minorVersion := 0
  majorVersion := 65
  constantPool := pool
  accessFlags := fl
  thisClass := this
  superClass := sup
  interfaces := ifs
  fields := fds
  methods := ms
  attributes := attrs
def plain (name : String) (sup : Option ClassId) : Class where
  name := name
  kind := .ordinary
  loader := none
  accessFlags := 33
  super := sup
  interfaces := #[]
  cf := none
  fields := #[]
  methods := #[]
  instanceTypes := #[]
  staticTypes := #[]
  resolved := #[]
  callSites := []
  init := .initialized
  statics := none
  mirror := none

def pool0 : Array CpInfo := pool [(5, u "<init>"), (0, u "()V"), (1, .class_ 10), (1, u "java/lang/Object")] 113

def k0m0 : Method := { name := "<init>", desc := "()V", sig := { parameters := [], returnType := none }, accessFlags := 1, code := none }
/-- java/lang/Object -/
def k0 : Class := { plain "java/lang/Object" none with
  accessFlags := 33
  interfaces := #[]
  cf := some (fileOf pool0 8 #[] #[{ accessFlags := 1, nameIndex := 5, descriptorIndex := 6, attributes := #[] }] 33 0 #[] #[])
  fields := #[]
  methods := #[k0m0]
  instanceTypes := #[]
  staticTypes := #[]
  resolved := Array.replicate 124 none
  statics := none }

def pool1 : Array CpInfo := pool [(2, .class_ 4), (1, u "java/lang/Object"), (0, u "<init>"), (0, u "()V"), (0, .integer 2147483647), (0, .methodref 9 10), (0, .class_ 11), (0, .nameAndType 12 13), (0, u "com/example/castless/castless/PrimitiveArrays"), (0, u "box"), (0, u "([Z)[Ljava/lang/Boolean;"), (0, .methodref 15 16), (0, .class_ 17), (0, .nameAndType 18 19), (0, u "com/example/castless/castless/PrimitiveArraysBox333PinLaw"), (0, u "at"), (0, u "([Ljava/lang/Boolean;[ZIZ)Z"), (0, .methodref 21 22), (0, .class_ 23), (0, .nameAndType 24 25), (0, u "java/lang/Boolean"), (0, u "booleanValue"), (0, u "()Z"), (2, u "law"), (0, u "(II)Z")] 7

def k1m0 : Method := { name := "<init>", desc := "()V", sig := { parameters := [], returnType := none }, accessFlags := 1, code := none }
def k1c1 : Code := { maxStack := 4, maxLocals := 9, code := code, exceptionTable := #[], attributes := #[] }
def k1m1 : Method := { name := "law", desc := "(II)Z", sig := { parameters := [.int, .int], returnType := some .boolean }, accessFlags := 9, code := some k1c1 }
def k1c2 : Code := { maxStack := 2, maxLocals := 5, code := method_3_code, exceptionTable := #[], attributes := #[] }
def k1m2 : Method := { name := "at", desc := "([Ljava/lang/Boolean;[ZIZ)Z", sig := { parameters := [(.array (.object "java/lang/Boolean")), (.array .boolean), .int, .boolean], returnType := some .boolean }, accessFlags := 10, code := some k1c2 }
/-- com/example/castless/castless/PrimitiveArraysBox333PinLaw -/
def k1 : Class := { plain "com/example/castless/castless/PrimitiveArraysBox333PinLaw" (some 0) with
  accessFlags := 49
  interfaces := #[]
  cf := some (fileOf pool1 15 #[] #[{ accessFlags := 1, nameIndex := 5, descriptorIndex := 6, attributes := #[] }, { accessFlags := 9, nameIndex := 28, descriptorIndex := 29, attributes := #[] }, { accessFlags := 10, nameIndex := 18, descriptorIndex := 19, attributes := #[] }] 49 2 #[] #[])
  fields := #[]
  methods := #[k1m0, k1m1, k1m2]
  instanceTypes := #[]
  staticTypes := #[]
  resolved := Array.replicate 37 none
  statics := none }

def pool2 : Array CpInfo := pool [(2, .class_ 4), (1, u "java/lang/Object"), (0, u "<init>"), (0, u "()V"), (0, .class_ 8), (0, u "com/example/castless/castless/PrimitiveArrays"), (0, .string 10), (0, u "array is null"), (0, .methodref 12 13), (0, .class_ 14), (0, .nameAndType 15 16), (0, u "java/util/Objects"), (0, u "requireNonNull"), (0, u "(Ljava/lang/Object;Ljava/lang/String;)Ljava/lang/Object;"), (0, .class_ 18), (0, u "java/lang/Boolean"), (0, .methodref 17 20), (0, .nameAndType 21 22), (0, u "valueOf"), (0, u "(Z)Ljava/lang/Boolean;"), (77, u "NULL_ARRAY"), (0, u "Ljava/lang/String;"), (3, u "box"), (0, u "([Z)[Ljava/lang/Boolean;")] 61

def k2m0 : Method := { name := "<init>", desc := "()V", sig := { parameters := [], returnType := none }, accessFlags := 2, code := none }
def k2c1 : Code := { maxStack := 4, maxLocals := 3, code := prog_11_method_2_code, exceptionTable := #[], attributes := #[] }
def k2m1 : Method := { name := "box", desc := "([Z)[Ljava/lang/Boolean;", sig := { parameters := [(.array .boolean)], returnType := some (.array (.object "java/lang/Boolean")) }, accessFlags := 9, code := some k2c1 }
/-- com/example/castless/castless/PrimitiveArrays -/
def k2 : Class := { plain "com/example/castless/castless/PrimitiveArrays" (some 0) with
  accessFlags := 49
  interfaces := #[]
  cf := some (fileOf pool2 7 #[] #[{ accessFlags := 2, nameIndex := 5, descriptorIndex := 6, attributes := #[] }, { accessFlags := 9, nameIndex := 105, descriptorIndex := 106, attributes := #[] }] 49 2 #[] #[{ accessFlags := 26, nameIndex := 100, descriptorIndex := 101, attributes := #[] }])
  fields := #[{ name := "NULL_ARRAY", type := (.object "java/lang/String"), accessFlags := 26, slot := 0, constantValue := 0 }]
  methods := #[k2m0, k2m1]
  instanceTypes := #[]
  staticTypes := #[(.object "java/lang/String")]
  resolved := Array.replicate 168 none
  statics := none }

def pool3 : Array CpInfo := pool [(1, .class_ 2), (0, u "java/io/Serializable"), (0, .class_ 4), (0, u "java/lang/Object")] 2

/-- java/io/Serializable -/
def k3 : Class := { plain "java/io/Serializable" (some 0) with
  accessFlags := 1537
  interfaces := #[]
  cf := some (fileOf pool3 1 #[] #[] 1537 3 #[] #[])
  fields := #[]
  methods := #[]
  instanceTypes := #[]
  staticTypes := #[]
  resolved := Array.replicate 7 none
  statics := none }

def pool4 : Array CpInfo := pool [(1, .class_ 2), (0, u "java/lang/Comparable"), (0, .class_ 4), (0, u "java/lang/Object")] 7

/-- java/lang/Comparable -/
def k4 : Class := { plain "java/lang/Comparable" (some 0) with
  accessFlags := 1537
  interfaces := #[]
  cf := some (fileOf pool4 1 #[] #[] 1537 3 #[] #[])
  fields := #[]
  methods := #[]
  instanceTypes := #[]
  staticTypes := #[]
  resolved := Array.replicate 12 none
  statics := none }

def pool5 : Array CpInfo := pool [(2, .class_ 4), (1, u "java/lang/CharSequence"), (42, .class_ 48), (0, u "java/lang/CharSequence$1CodePointIterator"), (10, .class_ 60), (0, u "java/lang/CharSequence$1CharIterator"), (5, .class_ 67), (0, u "java/lang/Object")] 63

/-- java/lang/CharSequence -/
def k5 : Class := { plain "java/lang/CharSequence" (some 0) with
  accessFlags := 1537
  interfaces := #[]
  cf := some (fileOf pool5 2 #[.nestMembers #[47, 59]] #[] 1537 66 #[] #[])
  fields := #[]
  methods := #[]
  instanceTypes := #[]
  staticTypes := #[]
  resolved := Array.replicate 131 none
  statics := none }

def pool6 : Array CpInfo := pool [(1, .class_ 2), (0, u "java/lang/constant/Constable"), (0, .class_ 4), (0, u "java/lang/Object")] 6

/-- java/lang/constant/Constable -/
def k6 : Class := { plain "java/lang/constant/Constable" (some 0) with
  accessFlags := 1537
  interfaces := #[]
  cf := some (fileOf pool6 1 #[] #[] 1537 3 #[] #[])
  fields := #[]
  methods := #[]
  instanceTypes := #[]
  staticTypes := #[]
  resolved := Array.replicate 11 none
  statics := none }

def pool7 : Array CpInfo := pool [(1, .class_ 2), (0, u "java/lang/constant/ConstantDesc"), (0, .class_ 4), (0, u "java/lang/Object")] 32

/-- java/lang/constant/ConstantDesc -/
def k7 : Class := { plain "java/lang/constant/ConstantDesc" (some 0) with
  accessFlags := 1537
  interfaces := #[]
  cf := some (fileOf pool7 1 #[] #[] 1537 3 #[] #[])
  fields := #[]
  methods := #[]
  instanceTypes := #[]
  staticTypes := #[]
  resolved := Array.replicate 37 none
  statics := none }

def pool8 : Array CpInfo := pool [(2, .class_ 4), (1, u "java/lang/Object"), (0, u "<init>"), (0, u "()V"), (3, .class_ 12), (1, u "java/lang/String"), (0, u "value"), (0, u "[B"), (2, u "coder"), (0, u "B"), (2, u "hash"), (0, u "I"), (2, u "hashIsZero"), (0, u "Z"), (13, u "COMPACT_STRINGS"), (534, .class_ 576), (0, u "java/lang/CharSequence"), (22, u "CASE_INSENSITIVE_ORDER"), (0, u "Ljava/util/Comparator;"), (500, u "serialPersistentFields"), (0, u "[Ljava/io/ObjectStreamField;"), (0, .class_ 1104), (0, u "java/lang/String$CaseInsensitiveComparator"), (1, .class_ 1107), (0, u "java/io/Serializable"), (0, .class_ 1109), (0, u "java/lang/Comparable"), (0, .class_ 1111), (0, u "java/lang/constant/Constable"), (0, .class_ 1113), (0, u "java/lang/constant/ConstantDesc"), (2, u "serialVersionUID"), (0, u "J"), (3, u "REPL"), (0, u "C"), (2, u "LATIN1"), (1, u "UTF16")] 323

def k8m0 : Method := { name := "<init>", desc := "()V", sig := { parameters := [], returnType := none }, accessFlags := 1, code := none }
/-- java/lang/String -/
def k8 : Class := { plain "java/lang/String" (some 0) with
  accessFlags := 49
  interfaces := #[3, 4, 5, 6, 7]
  cf := some (fileOf pool8 10 #[.nestMembers #[1103]] #[{ accessFlags := 1, nameIndex := 5, descriptorIndex := 6, attributes := #[] }] 49 2 #[1106, 1108, 575, 1110, 1112] #[{ accessFlags := 18, nameIndex := 13, descriptorIndex := 14, attributes := #[] }, { accessFlags := 18, nameIndex := 17, descriptorIndex := 18, attributes := #[] }, { accessFlags := 2, nameIndex := 21, descriptorIndex := 22, attributes := #[] }, { accessFlags := 2, nameIndex := 25, descriptorIndex := 26, attributes := #[] }, { accessFlags := 26, nameIndex := 1116, descriptorIndex := 1117, attributes := #[] }, { accessFlags := 24, nameIndex := 40, descriptorIndex := 26, attributes := #[] }, { accessFlags := 26, nameIndex := 1101, descriptorIndex := 1102, attributes := #[] }, { accessFlags := 26, nameIndex := 1121, descriptorIndex := 1122, attributes := #[] }, { accessFlags := 25, nameIndex := 599, descriptorIndex := 600, attributes := #[] }, { accessFlags := 24, nameIndex := 1125, descriptorIndex := 18, attributes := #[] }, { accessFlags := 24, nameIndex := 1127, descriptorIndex := 18, attributes := #[] }])
  fields := #[{ name := "value", type := (.array .byte), accessFlags := 18, slot := 0, constantValue := 0 }, { name := "coder", type := .byte, accessFlags := 18, slot := 1, constantValue := 0 }, { name := "hash", type := .int, accessFlags := 2, slot := 2, constantValue := 0 }, { name := "hashIsZero", type := .boolean, accessFlags := 2, slot := 3, constantValue := 0 }, { name := "serialVersionUID", type := .long, accessFlags := 26, slot := 0, constantValue := 0 }, { name := "COMPACT_STRINGS", type := .boolean, accessFlags := 24, slot := 1, constantValue := 0 }, { name := "serialPersistentFields", type := (.array (.object "java/io/ObjectStreamField")), accessFlags := 26, slot := 2, constantValue := 0 }, { name := "REPL", type := .char, accessFlags := 26, slot := 3, constantValue := 0 }, { name := "CASE_INSENSITIVE_ORDER", type := (.object "java/util/Comparator"), accessFlags := 25, slot := 4, constantValue := 0 }, { name := "LATIN1", type := .byte, accessFlags := 24, slot := 5, constantValue := 0 }, { name := "UTF16", type := .byte, accessFlags := 24, slot := 6, constantValue := 0 }]
  methods := #[k8m0]
  instanceTypes := #[(.array .byte), .byte, .int, .boolean]
  staticTypes := #[.long, .boolean, (.array (.object "java/io/ObjectStreamField")), .char, (.object "java/util/Comparator"), .byte, .byte]
  resolved := Array.replicate 1451 none
  statics := none }

def pool9 : Array CpInfo := pool [(2, .class_ 4), (1, u "java/lang/Object"), (0, u "<init>"), (0, u "()V"), (35, .class_ 44), (1, u "java/util/Objects"), (0, u "requireNonNull"), (48, u "(Ljava/lang/Object;Ljava/lang/String;)Ljava/lang/Object;")] 89

def k9m0 : Method := { name := "<init>", desc := "()V", sig := { parameters := [], returnType := none }, accessFlags := 2, code := none }
def k9c1 : Code := { maxStack := 3, maxLocals := 2, code := jdk_31_method_11_code, exceptionTable := #[], attributes := #[] }
def k9m1 : Method := { name := "requireNonNull", desc := "(Ljava/lang/Object;Ljava/lang/String;)Ljava/lang/Object;", sig := { parameters := [(.object "java/lang/Object"), (.object "java/lang/String")], returnType := some (.object "java/lang/Object") }, accessFlags := 9, code := some k9c1 }
/-- java/util/Objects -/
def k9 : Class := { plain "java/util/Objects" (some 0) with
  accessFlags := 49
  interfaces := #[]
  cf := some (fileOf pool9 42 #[] #[{ accessFlags := 2, nameIndex := 5, descriptorIndex := 6, attributes := #[] }, { accessFlags := 9, nameIndex := 45, descriptorIndex := 94, attributes := #[] }] 49 2 #[] #[])
  fields := #[]
  methods := #[k9m0, k9m1]
  instanceTypes := #[]
  staticTypes := #[]
  resolved := Array.replicate 184 none
  statics := none }

def pool10 : Array CpInfo := pool [(2, .class_ 4), (1, u "java/lang/Object"), (2, .fieldref 8 9), (0, .class_ 10), (0, .nameAndType 11 12), (0, u "java/lang/Boolean"), (0, u "value"), (0, u "Z"), (14, .fieldref 8 28), (0, .nameAndType 29 30), (0, u "TRUE"), (0, u "Ljava/lang/Boolean;"), (0, .fieldref 8 32), (0, .nameAndType 33 30), (0, u "FALSE"), (2, u "valueOf"), (7, u "booleanValue"), (0, u "()Z"), (41, u "TYPE"), (0, u "Ljava/lang/Class;"), (0, .class_ 90), (0, u "java/io/Serializable"), (0, .class_ 92), (0, u "java/lang/Comparable"), (0, .class_ 94), (0, u "java/lang/constant/Constable"), (2, u "serialVersionUID"), (0, u "J"), (18, u "(Z)Ljava/lang/Boolean;")] 34

def k10c0 : Code := { maxStack := 1, maxLocals := 1, code := jdk_2055_method_4_code, exceptionTable := #[], attributes := #[] }
def k10m0 : Method := { name := "booleanValue", desc := "()Z", sig := { parameters := [], returnType := some .boolean }, accessFlags := 1, code := some k10c0 }
def k10c1 : Code := { maxStack := 1, maxLocals := 1, code := jdk_2055_method_5_code, exceptionTable := #[], attributes := #[] }
def k10m1 : Method := { name := "valueOf", desc := "(Z)Ljava/lang/Boolean;", sig := { parameters := [.boolean], returnType := some (.object "java/lang/Boolean") }, accessFlags := 9, code := some k10c1 }
/-- java/lang/Boolean -/
def k10 : Class := { plain "java/lang/Boolean" (some 0) with
  accessFlags := 49
  interfaces := #[3, 4, 6]
  cf := some (fileOf pool10 8 #[] #[{ accessFlags := 1, nameIndex := 44, descriptorIndex := 45, attributes := #[] }, { accessFlags := 9, nameIndex := 36, descriptorIndex := 117, attributes := #[] }] 49 2 #[89, 91, 93] #[{ accessFlags := 25, nameIndex := 29, descriptorIndex := 30, attributes := #[] }, { accessFlags := 25, nameIndex := 33, descriptorIndex := 30, attributes := #[] }, { accessFlags := 25, nameIndex := 87, descriptorIndex := 88, attributes := #[] }, { accessFlags := 18, nameIndex := 11, descriptorIndex := 12, attributes := #[] }, { accessFlags := 26, nameIndex := 97, descriptorIndex := 98, attributes := #[] }])
  fields := #[{ name := "TRUE", type := (.object "java/lang/Boolean"), accessFlags := 25, slot := 0, constantValue := 0 }, { name := "FALSE", type := (.object "java/lang/Boolean"), accessFlags := 25, slot := 1, constantValue := 0 }, { name := "TYPE", type := (.object "java/lang/Class"), accessFlags := 25, slot := 2, constantValue := 0 }, { name := "value", type := .boolean, accessFlags := 18, slot := 0, constantValue := 0 }, { name := "serialVersionUID", type := .long, accessFlags := 26, slot := 3, constantValue := 0 }]
  methods := #[k10m0, k10m1]
  instanceTypes := #[.boolean]
  staticTypes := #[(.object "java/lang/Boolean"), (.object "java/lang/Boolean"), (.object "java/lang/Class"), .long]
  resolved := Array.replicate 152 none
  statics := some 0 }

def pool11 : Array CpInfo := pool [(1, u "java/lang/Cloneable"), (0, .class_ 1), (0, u "java/lang/Object"), (0, .class_ 3)] 3

/-- java/lang/Cloneable -/
def k11 : Class := { plain "java/lang/Cloneable" (some 0) with
  accessFlags := 1537
  interfaces := #[]
  cf := some (fileOf pool11 2 #[] #[] 1537 4 #[] #[])
  fields := #[]
  methods := #[]
  instanceTypes := #[]
  staticTypes := #[]
  resolved := Array.replicate 8 none
  statics := none }

/-- the primitive boolean -/
def k12 : Class := { plain "boolean" none with kind := .primitive 'Z', accessFlags := 0x411 }
/-- [Z -/
def k13 : Class := { plain "[Z" (some 0) with kind := .array 12 .boolean, interfaces := #[11, 3], accessFlags := 1041 }

/-- the primitive byte -/
def k14 : Class := { plain "byte" none with kind := .primitive 'B', accessFlags := 0x411 }
/-- [B -/
def k15 : Class := { plain "[B" (some 0) with kind := .array 14 .byte, interfaces := #[11, 3], accessFlags := 1041 }

/-- the primitive int -/
def k16 : Class := { plain "int" none with kind := .primitive 'I', accessFlags := 0x411 }
/-- [I -/
def k17 : Class := { plain "[I" (some 0) with kind := .array 16 .int, interfaces := #[11, 3], accessFlags := 1041 }

/-- [Ljava/lang/Boolean; -/
def k18 : Class := { plain "[Ljava/lang/Boolean;" (some 0) with kind := .array 10 (.object "java/lang/Boolean"), interfaces := #[11, 3], accessFlags := 1041 }

def heap : Heap := #[{ cls := 10, slots := #[.ref 1, .ref 2, .null, .long 0], vm := .statics 10 },
  { cls := 10, slots := #[.int 1], vm := .none },
  { cls := 10, slots := #[.int 0], vm := .none }]
def classes : Array Class := #[k0, k1, k2, k3, k4, k5, k6, k7, k8, k9, k10, k11, k12, k13, k14, k15, k16, k17, k18]
def interned : List (Array UInt16 × Addr) := []
def slotsUsed : Nat := 6
def theMethod : MethodId := ⟨1, 1⟩
def args0 : Array Value := #[.int 5, .int 5]
def aboutOver (below : List Frame) : State where
  vm := { classes := classes, interned := interned.toArray }
  heap := heap
  slotsUsed := slotsUsed
  threads := #[{ frames := .invoking theMethod args0 :: below }]
def below0 : List Frame := [.native { method := ⟨0, 0⟩, args := #[] }]
def about1 : State := aboutOver below0
def p0 : Program := .bare "" "" ""
def e0 : Env := launch0.env 0 0 0
theorem w_frames : about1.frames = Frame.invoking theMethod args0 :: below0 := rfl
set_option maxRecDepth 65536 in
theorem w_args : argsFit about1.vm theMethod args0 = true := by decide +kernel
set_option maxRecDepth 65536 in
theorem w_heap : heapFits about1 = true := by decide +kernel
set_option maxRecDepth 65536 in
theorem w_runnable : about1.curStatus? = some .runnable := by decide +kernel
set_option maxRecDepth 65536 in
theorem w_alone : about1.alone = true := by decide +kernel
set_option maxRecDepth 65536 in
theorem w_named : about1.methodNamed? x = some theMethod := by decide +kernel
set_option maxRecDepth 65536 in
theorem w_hears : about1.hears theMethod below0 = true := by decide +kernel
set_option maxRecDepth 65536 in
theorem w_ripe : about1.ripe theMethod args0 below0 = true := by decide +kernel
theorem w_running : about1.status = .running := rfl
set_option maxRecDepth 65536 in
theorem w_room : about1.hasRoom e0.platform room_1 = true :=
  launch0.hasRoom_least _ room_1 (by decide +kernel) (by decide +kernel) (by decide +kernel) (by decide +kernel) (by decide +kernel) (by decide +kernel)
theorem allAtoms_all (ts : List Jvm.Cond) (a : Array Jvm.Value) (st : Jvm.State) : (allAtoms ts).before a st = ts.all (fun c => c.before a st) := by
  induction ts with
  | nil => rfl
  | cons c t ih =>
    show (Jvm.Cond.and c (allAtoms t)).before a st = _
    rw [Jvm.Cond.before_and, ih, List.all_cons]
def words1 : List Jvm.Cond := Jvm.Cond.code x code maxLocals ret :: tables_1
/-- a 'code' word, met by the world's own term for the bytes: nothing is compared byte by byte -/
theorem code_word {y : MethodName} {bytes : ByteArray} {mx : Nat} {rt : Option FieldType} {a : Array Value} {s : State} {m : MethodId} {meth : Method} {c : Code} (h1 : s.methodNamed? y = some m) (h2 : s.vm.method? m = some meth) (h3 : meth.code = some c) (h4 : c.code = bytes)
    (h5 : (c.maxLocals == mx && c.exceptionTable.isEmpty && decide (c.maxStack ≤ mostOperands) && decide (meth.sig.returnType = rt) && !meth.locks && decide (parseMethodDescriptor y.desc = some meth.sig)) = true) : (Jvm.Cond.code y bytes mx rt).before a s = true := by
  simp only [Bool.and_eq_true, beq_iff_eq, Bool.not_eq_true', decide_eq_true_eq] at h5
  obtain ⟨⟨⟨⟨⟨g1, g2⟩, g3⟩, g4⟩, g5⟩, g6⟩ := h5
  simp [Cond.before, Cond.holds, Cond.value, h1, h2, h3, h4, g1, g2, g3, g4, g5, g6]
def isCode : Jvm.Cond → Bool
  | .code _ _ _ _ => true
  | _ => false
theorem all_split {L : List Jvm.Cond} {P : Jvm.Cond → Bool} (h1 : L.all (fun c => isCode c || P c) = true) (h2 : ∀ c ∈ L.filter isCode, P c = true) : L.all P = true := by
  refine List.all_eq_true.mpr fun c hc => ?_
  have h := List.all_eq_true.mp h1 c hc
  rcases Bool.eq_false_or_eq_true (isCode c) with hi | hi
  · exact h2 c (List.mem_filter.mpr ⟨hc, hi⟩)
  · simpa [hi] using h
set_option maxRecDepth 65536 in
theorem w_c0 : (Jvm.Cond.code x code maxLocals ret).before args0 about1 = true := code_word (m := ⟨1, 1⟩) (meth := k1m1) (c := k1c1) (by decide +kernel) rfl rfl rfl (by decide +kernel)
set_option maxRecDepth 65536 in
theorem w_c1 : (Jvm.Cond.code ({ cls := "com/example/castless/castless/PrimitiveArrays", name := "box", desc := "([Z)[Ljava/lang/Boolean;" } : Jvm.MethodName) prog_11_method_2_code (3 : Nat) (Option.some (Jvm.ClassFile.FieldType.array (Jvm.ClassFile.FieldType.object "java/lang/Boolean")))).before args0 about1 = true := code_word (m := ⟨2, 1⟩) (meth := k2m1) (c := k2c1) (by decide +kernel) rfl rfl rfl (by decide +kernel)
set_option maxRecDepth 65536 in
theorem w_c2 : (Jvm.Cond.code ({ cls := "java/util/Objects", name := "requireNonNull", desc := "(Ljava/lang/Object;Ljava/lang/String;)Ljava/lang/Object;" } : Jvm.MethodName) jdk_31_method_11_code (2 : Nat) (Option.some (Jvm.ClassFile.FieldType.object "java/lang/Object"))).before args0 about1 = true := code_word (m := ⟨9, 1⟩) (meth := k9m1) (c := k9c1) (by decide +kernel) rfl rfl rfl (by decide +kernel)
set_option maxRecDepth 65536 in
theorem w_c3 : (Jvm.Cond.code ({ cls := "com/example/castless/castless/PrimitiveArraysBox333PinLaw", name := "at", desc := "([Ljava/lang/Boolean;[ZIZ)Z" } : Jvm.MethodName) method_3_code (5 : Nat) (Option.some Jvm.ClassFile.FieldType.boolean)).before args0 about1 = true := code_word (m := ⟨1, 2⟩) (meth := k1m2) (c := k1c2) (by decide +kernel) rfl rfl rfl (by decide +kernel)
set_option maxRecDepth 65536 in
theorem w_c4 : (Jvm.Cond.code ({ cls := "java/lang/Boolean", name := "valueOf", desc := "(Z)Ljava/lang/Boolean;" } : Jvm.MethodName) jdk_2055_method_5_code (1 : Nat) (Option.some (Jvm.ClassFile.FieldType.object "java/lang/Boolean"))).before args0 about1 = true := code_word (m := ⟨10, 1⟩) (meth := k10m1) (c := k10c1) (by decide +kernel) rfl rfl rfl (by decide +kernel)
set_option maxRecDepth 65536 in
theorem w_c5 : (Jvm.Cond.code ({ cls := "java/lang/Boolean", name := "booleanValue", desc := "()Z" } : Jvm.MethodName) jdk_2055_method_4_code (1 : Nat) (Option.some Jvm.ClassFile.FieldType.boolean)).before args0 about1 = true := code_word (m := ⟨10, 0⟩) (meth := k10m0) (c := k10c0) (by decide +kernel) rfl rfl rfl (by decide +kernel)
def codes1 : List Jvm.Cond := [Jvm.Cond.code x code maxLocals ret, Jvm.Cond.code ({ cls := "com/example/castless/castless/PrimitiveArrays", name := "box", desc := "([Z)[Ljava/lang/Boolean;" } : Jvm.MethodName) prog_11_method_2_code (3 : Nat) (Option.some (Jvm.ClassFile.FieldType.array (Jvm.ClassFile.FieldType.object "java/lang/Boolean"))), Jvm.Cond.code ({ cls := "java/util/Objects", name := "requireNonNull", desc := "(Ljava/lang/Object;Ljava/lang/String;)Ljava/lang/Object;" } : Jvm.MethodName) jdk_31_method_11_code (2 : Nat) (Option.some (Jvm.ClassFile.FieldType.object "java/lang/Object")), Jvm.Cond.code ({ cls := "com/example/castless/castless/PrimitiveArraysBox333PinLaw", name := "at", desc := "([Ljava/lang/Boolean;[ZIZ)Z" } : Jvm.MethodName) method_3_code (5 : Nat) (Option.some Jvm.ClassFile.FieldType.boolean), Jvm.Cond.code ({ cls := "java/lang/Boolean", name := "valueOf", desc := "(Z)Ljava/lang/Boolean;" } : Jvm.MethodName) jdk_2055_method_5_code (1 : Nat) (Option.some (Jvm.ClassFile.FieldType.object "java/lang/Boolean")), Jvm.Cond.code ({ cls := "java/lang/Boolean", name := "booleanValue", desc := "()Z" } : Jvm.MethodName) jdk_2055_method_4_code (1 : Nat) (Option.some Jvm.ClassFile.FieldType.boolean)]
set_option maxRecDepth 65536 in
theorem codes_eq : words1.filter isCode = codes1 := rfl
theorem w_codes : ∀ c ∈ words1.filter isCode, c.before args0 about1 = true := by
  rw [codes_eq]
  intro c hc
  simp only [codes1, List.mem_cons, List.not_mem_nil, or_false] at hc
  rcases hc with rfl | rfl | rfl | rfl | rfl | rfl
  · exact w_c0
  · exact w_c1
  · exact w_c2
  · exact w_c3
  · exact w_c4
  · exact w_c5
set_option maxRecDepth 65536 in
theorem w_t1 : (words1.take 24).all (fun c => isCode c || c.before args0 about1) = true := by decide +kernel
set_option maxRecDepth 65536 in
theorem w_t2 : (words1.drop 24).all (fun c => isCode c || c.before args0 about1) = true := by decide +kernel
theorem w_tables : (allAtoms (Jvm.Cond.code x code maxLocals ret :: tables_1)).before args0 about1 = true := by
  rw [allAtoms_all]
  show words1.all (fun c => c.before args0 about1) = true
  refine all_split ?_ w_codes
  rw [← List.take_append_drop 24 words1, List.all_append, w_t1, w_t2]
  rfl
set_option maxRecDepth 65536 in
theorem w_rest : rest_1_c.before args0 about1 = true := by decide +kernel
set_option maxRecDepth 65536 in
theorem w_case : (Jvm.Cond.and given_1 narrow_1).before args0 about1 = true := by decide +kernel
theorem w_applies : (headSpec (Jvm.Cond.code x code maxLocals ret :: tables_1) room_1).applies x e0.platform about1 = true :=
  (Spec.applies_iff w_frames).mpr ⟨w_running, w_runnable, w_alone, w_named, w_hears, w_ripe, w_room, w_tables⟩
theorem atStart : AtStart classFile x code maxLocals ret World_1 tables_1 room_1 Calls_1 rest_1 Pre_1 launch0 p0 e0 about1 theMethod args0 below0 :=
  ⟨lists_1, trivial, launch0.admits_env _ _ _, launch0.least_env, fairChoices_fair.cas, fairChoices_fair.clock, w_frames, w_args, w_heap, w_applies, trivial, w_rest, w_case⟩
end start1
theorem witness_1 : WitnessClaimed_1 := ⟨start1.p0, start1.e0, start1.about1, start1.theMethod, start1.args0, start1.below0, start1.atStart⟩
end Jvm.Pilot.@@N@@
