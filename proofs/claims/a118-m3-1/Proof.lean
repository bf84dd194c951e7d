import JvmDerived
import JvmDerived.Pilot.@@N@@Statement
import JvmDerived.Pilot.@@N@@Code
set_option linter.unusedVariables false
set_option linter.unusedSimpArgs false
namespace Jvm.RoadKit
open Sem ClassFile Op Lib Jvm.Stand Jvm.Free Jvm.LawKit
section New
variable {p : Program} {l : Launch} {e : Env} {R : Room} {s : State} {m : MethodId} {args : Array Value} {below : List Frame} {meth : Method} {c : Code} {T : State} {locs : List Loc} {cells slots : Nat}
theorem retI (X : Stand p l e R s m args below meth c T locs cells slots) (hx : p.tables.exec = Jvm.exec) {pc : Nat} {Ls : Array Slot} {z : Int32} {rest : List Value} (hret : meth.sig.returnType = some .int) (hd : decode c.code pc = .ok (.ireturn, 1)) {fs : List Frame}
    (hl : ∀ (f : JFrame) (acts : List Action), f.method = m → f.locked = none → f.entered = [] → (doReturn e (T.setTop f) acts (some (.int z))).1 = T.setFrames fs) : Steps p.tables e below (T.setTop (mkF m pc Ls (.int z :: rest))) (T.setFrames fs) := by
  have hm' : T.vm.method? m = some meth := X.method'
  have hn : narrow .int (.int z) = .int z := rfl
  show Steps p.tables e below (T.setTop { method := m, pc := pc, locals := Ls, stack := _ :: rest, locked := none }) _
  jvm_step X.here [X.here.top, hx, hd, hm', hret, hn]
  first | (intro acts; rw [hl _ acts rfl rfl rfl]) | rw [hl _ _ rfl rfl rfl]
  exact Steps.refl _
end New
end Jvm.RoadKit
namespace Jvm.Pilot.@@N@@
open Jvm Jvm.ClassFile Sem Op Lib Jvm.Free Jvm.Stand Jvm.LawKit Jvm.RoadKit Bundle Jvm.Pilot.@@N@@.Jvm.D
theorem own_w {a0 : Array Value} {Z : State} (hw : ∀ d ∈ tables_1, d.before a0 Z = true) {d : Jvm.Cond} (i : Nat) (h : tables_1[i]? = some d) : d.before a0 Z = true := hw d (List.mem_of_getElem? h)
theorem own_oz {Z : State} {n0 : Nat} {h : Heap} (O : Old Z n0 h) : n0 ≤ h.size := by
  rw [← O.1]; exact O.2.1
theorem own_lsw {tb : Tables} [Ours tb] {e : Env} {below : List Frame} {T target : State} {m : MethodId} {c : Code} {g : JFrame} (h : At T m c below) (hx : tb.exec = Jvm.exec) (hg : g.method = m) {dflt : Int} {prs : Array (Int × Int)} {len : Nat} {o : Int} {pc0 pc' : Nat} (hpc : g.pc = pc0) (hd : decode c.code g.pc = .ok (.lookupswitch dflt prs, len)) {i : Int32} {rest : List Value} (hs : g.stack = .int i :: rest)
    (hsort : (prs.toList.zip (prs.toList.drop 1)).all (fun (a, next) => a.1 < next.1) = true) (hoff : lookupswitch.offset prs.toList dflt i.toInt = o) (ho : 0 ≤ (pc0 : Int) + o) (hp : ((pc0 : Int) + o).toNat = pc')
    (hr : Steps tb e below (T.setTop { g with pc := pc', stack := rest }) target) : Steps tb e below (T.setTop g) target := by
  subst hg hpc hp
  jvm_step h [h.top, hx, hd, hs, hoff, ho, lookupswitch.wp_chain]
  exact ⟨by simpa using hsort, hr⟩
section Nums
variable {x k : Int32} {n : Int}
theorem own_lt1 (hk : k.toInt = n) (h : x < k) : x.toInt < n := by rw [← hk]; exact Int32.lt_iff_toInt_lt.mp h
theorem own_lt2 (hk : k.toInt = n) (h : k < x) : n < x.toInt := by rw [← hk]; exact Int32.lt_iff_toInt_lt.mp h
theorem own_nlt1 (hk : k.toInt = n) (h : ¬ x < k) : n ≤ x.toInt := by rw [Int32.lt_iff_toInt_lt, hk] at h; omega
theorem own_nlt2 (hk : k.toInt = n) (h : ¬ k < x) : x.toInt ≤ n := by rw [Int32.lt_iff_toInt_lt, hk] at h; omega
theorem own_eq (hk : k.toInt = n) (h : x = k) : x.toInt = n := by rw [← hk, h]
theorem own_neq (hk : k.toInt = n) (h : ¬ x = k) : x.toInt ≠ n := fun q => h (Int32.toInt_inj.mp (by rw [hk, q]))
theorem own_glt1 (hk : k.toInt = n) (h : x.toInt < n) : x < k := Int32.lt_iff_toInt_lt.mpr (by rw [hk]; exact h)
theorem own_glt2 (hk : k.toInt = n) (h : n < x.toInt) : k < x := Int32.lt_iff_toInt_lt.mpr (by rw [hk]; exact h)
theorem own_gnlt1 (hk : k.toInt = n) (h : n ≤ x.toInt) : ¬ x < k := fun q => by have := own_lt1 hk q; omega
theorem own_gnlt2 (hk : k.toInt = n) (h : x.toInt ≤ n) : ¬ k < x := fun q => by have := own_lt2 hk q; omega
theorem own_geq (hk : k.toInt = n) (h : x.toInt = n) : x = k := Int32.toInt_inj.mp (by rw [hk, h])
theorem own_gneq (hk : k.toInt = n) (h : x.toInt ≠ n) : ¬ x = k := fun q => h (own_eq hk q)
theorem own_and (hk : k.toInt = n) (h0 : 0 ≤ n) : 0 ≤ (x &&& k).toInt ∧ (x &&& k).toInt ≤ n := by have := c_and x k (by rw [hk]; exact h0); rw [hk] at this; exact this
theorem own_and2 (hk : k.toInt = n) (h0 : 0 ≤ n) : 0 ≤ (k &&& x).toInt ∧ (k &&& x).toInt ≤ n := by have := c_and' k x (by rw [hk]; exact h0); rw [hk] at this; exact this
theorem own_rem (hk : k.toInt = n) (h0 : 0 < n) (hx : 0 ≤ x.toInt) : 0 ≤ (x % k).toInt ∧ (x % k).toInt < n ∧ (x % k).toInt ≤ x.toInt := by
  have := (c_iremV x k).1 hx (by rw [hk]; exact h0); rw [hk] at this; exact ⟨this.1, this.2.1, this.2.2.1⟩
theorem own_add {lo hi : Int} (hk : k.toInt = n) (hx : lo ≤ x.toInt ∧ x.toInt ≤ hi) (h1 : -2147483648 ≤ lo + n) (h2 : hi + n < 2147483648) : lo + n ≤ (x + k).toInt ∧ (x + k).toInt ≤ hi + n := by
  have := c_iadd x k; have := rng32 (x + k); rw [hk] at *; omega
theorem own_add2 {lo hi : Int} (hk : k.toInt = n) (hx : lo ≤ x.toInt ∧ x.toInt ≤ hi) (h1 : -2147483648 ≤ lo + n) (h2 : hi + n < 2147483648) : lo + n ≤ (k + x).toInt ∧ (k + x).toInt ≤ hi + n := by
  have := c_iadd k x; have := rng32 (k + x); rw [hk] at *; omega
end Nums
theorem own_len {Z : State} {args : Array Value} {t : Term} {a : Addr} {c : Cell} {ty : FieldType} {n : Int32} (A : Arr Z Z.heap a c ty) (ev : t.eval args Z none [] Z = some (.ref a)) (h : (Term.length t).eval args Z none [] Z = some (.int n)) : c.slots.size < 2 ^ 31 ∧ c.slots.size.toInt32 = n := by
  have q := A.fin (Vm.Alike.refl _)
  by_cases z : c.slots.size < 2 ^ 31
  · rw [len_f ev q z] at h; exact ⟨z, Value.int.inj (Option.some.inj h)⟩
  · simp [Term.eval, ev, q, z] at h
theorem own_selp {s : State} {args : Array Value} {y z : MethodName} {C : String} (w : (Cond.selects C z z).before args s = true) (hc : z.cls = y.cls) (hp : s.PrivateAt y) (hi : (Cond.instanceMethod y).before args s = true) (hy : y.cls ≠ "java/lang/invoke/MethodHandle" ∧ y.cls ≠ "java/lang/invoke/VarHandle") : (Cond.selects y.cls y y).before args s = true := by
  obtain ⟨c2, r2, m2, -, -, q3, -, kP, hkP, hkPi⟩ := Cond.selects_spec w
  exact selects_self_of_private (by rw [← hc]; exact findClass_of_methodNamed q3) hkP hkPi hp hi hy
theorem own_max64 (x : Int64) : ¬ (9223372036854775807 : Int64) < x := fun h => by have := rng64 x; rw [Int64.lt_iff_toInt_lt, show (9223372036854775807 : Int64).toInt = 9223372036854775807 by decide] at h; omega
theorem own_min64 (x : Int64) : ¬ x < (-9223372036854775808 : Int64) := fun h => by have := rng64 x; rw [Int64.lt_iff_toInt_lt, show (-9223372036854775808 : Int64).toInt = -9223372036854775808 by decide] at h; omega
theorem own_root {Z : State} {a0 : Array Value} {O K : String} {n : Nat} (w : (Cond.noSuperclass O).before a0 Z = true) (wk : (Cond.instantiable K n).before a0 Z = true) (hn : O ≠ K) : NS Z O K := by
  obtain ⟨c, k, h1, h2, h3, -, -⟩ := Cond.noSuperclass_spec w
  obtain ⟨t, kt, g1, -⟩ := Cond.instantiable_spec wk
  have ne := ids_ne h1 g1 hn
  refine ⟨c, t, h1, g1, fun fuel => ?_⟩
  cases fuel with
  | zero => rfl
  | succ f => simp [Vm.isSubclassAux, ne, h2, h3]
theorem own_no {Z : State} {a0 : Array Value} {C S K : String} {n : Nat} (w : (Cond.superclass C S).before a0 Z = true) (wk : (Cond.instantiable K n).before a0 Z = true) (q : NS Z C K) (hn : C ≠ K) : ∃ c t, Z.vm.findClass C = some c ∧ Z.vm.findClass K = some t ∧ Z.vm.assignable c t = false := by
  obtain ⟨c, t, h0, g0, n3⟩ := q
  obtain ⟨p, k, kp, h1, h2, h3, h4, h5, -, h7⟩ := Cond.superclass_spec h0 w
  obtain ⟨t', k', g1, g2, g3, g4, -⟩ := Cond.instantiable_spec wk
  cases g0.symm.trans g1
  have ne := ids_ne h0 g0 hn
  have g5 : k'.isInterface = false := by simp only [Bool.or_eq_false_iff] at g4; exact g4.1
  refine ⟨c, t, h0, g0, ?_⟩
  show Z.vm.assignableAux (255 + 1) c t = false
  simp [Vm.assignableAux, ne, h2, g2, h5, g3, g5, Vm.isSubclass, n3]
theorem own_sub {x k : Int32} {n lo hi : Int} (hk : k.toInt = n) (hx : lo ≤ x.toInt ∧ x.toInt ≤ hi) (h1 : -2147483648 ≤ lo - n) (h2 : hi - n < 2147483648) : lo - n ≤ (x - k).toInt ∧ (x - k).toInt ≤ hi - n := by
  have := c_isub x k; have := rng32 (x - k); rw [hk] at *; omega
theorem own_dbl {x : Int32} {lo hi : Int} (hx : lo ≤ x.toInt ∧ x.toInt ≤ hi) (h1 : -1073741824 ≤ lo) (h2 : hi < 1073741824) : 2 * lo ≤ ((2 : Int32) * x).toInt ∧ ((2 : Int32) * x).toInt ≤ 2 * hi := by
  have := c_imul 2 x; have := rng32 (2 * x); rw [show (2 : Int32).toInt = 2 by decide] at *; omega
theorem own_nz {x : Int32} (h : 0 ≤ x.toInt ∧ x.toInt ≤ 1) : nar .boolean x = x := by
  have q : x = 0 ∨ x = 1 := by
    rcases (by omega : x.toInt = 0 ∨ x.toInt = 1) with q | q
    · exact Or.inl (own_geq (by decide) q)
    · exact Or.inr (own_geq (by decide) q)
  rcases q with rfl | rfl <;> decide
theorem own_fz {x : Int32} (h : 0 ≤ x.toInt ∧ x.toInt ≤ 1) : fits .boolean (.int x) = true := by
  have q : x = 0 ∨ x = 1 := by
    rcases (by omega : x.toInt = 0 ∨ x.toInt = 1) with q | q
    · exact Or.inl (own_geq (by decide) q)
    · exact Or.inr (own_geq (by decide) q)
  rcases q with rfl | rfl <;> decide
theorem own_nb8 (x : Int32) : nar .byte (x.toInt8.toInt32) = x.toInt8.toInt32 := by
  show (x.toInt8.toInt32).toInt8.toInt32 = x.toInt8.toInt32
  simp
theorem own_eqR {Z : State} {args : Array Value} {a b : Term} {idx : List Nat} {w : Addr} (hb : b.eval args Z none idx Z = some (.ref w)) (h : (Cond.eq a b).value args Z none Z idx = some true) : a.eval args Z none idx Z = some (.ref w) := by
  simp only [Cond.value, hb] at h
  cases ht : a.eval args Z none idx Z with
  | none => simp [ht] at h
  | some x => cases x <;> simp [ht] at h ⊢; exact h
theorem own_sa {a0 : Array Value} {Z : State} (hw : ∀ d ∈ tables_1, d.before a0 Z = true) : ∀ a ∈ Bundle.stringAtoms, a.before a0 Z = true := fun a ha => by
  simp only [Bundle.stringAtoms, List.mem_cons, List.not_mem_nil, or_false] at ha
  rcases ha with rfl | rfl | rfl | rfl | rfl | rfl | rfl
  · exact own_w hw 7 rfl
  · exact own_w hw 8 rfl
  · exact own_w hw 9 rfl
  · exact own_w hw 10 rfl
  · exact own_w hw 11 rfl
  · exact own_w hw 12 rfl
  · exact own_w hw 13 rfl
abbrev yn0 : MethodName := ⟨"java/util/Objects", "requireNonNull", "(Ljava/lang/Object;Ljava/lang/String;)Ljava/lang/Object;"⟩
abbrev yn1 : MethodName := ⟨"com/example/castless/castless/PrimitiveArrays", "box", "([Z)[Ljava/lang/Boolean;"⟩
abbrev yn2 : MethodName := ⟨"com/example/castless/castless/PrimitiveArraysBox334PinLaw", "at", "([Ljava/lang/Boolean;[ZIII)Z"⟩
abbrev yn3 : MethodName := ⟨"com/example/castless/castless/PrimitiveArraysBox334PinLaw", "bit", "(II)Z"⟩
abbrev yn4 : MethodName := ⟨"java/lang/Boolean", "valueOf", "(Z)Ljava/lang/Boolean;"⟩
abbrev yn5 : MethodName := ⟨"java/lang/Boolean", "booleanValue", "()Z"⟩
def GW (Z : State) (w1 : Addr) (w2 : Addr) : Prop :=
  (Sta Z Z.heap "java/lang/Boolean" "TRUE" "Ljava/lang/Boolean;" (.ref w1))
  ∧ (Exa Z Z.heap w1 "java/lang/Boolean")
  ∧ (Sta Z Z.heap "java/lang/Boolean" "FALSE" "Ljava/lang/Boolean;" (.ref w2))
  ∧ (Exa Z Z.heap w2 "java/lang/Boolean")
  ∧ (Fld Z Z.heap w1 "java/lang/Boolean" "value" "Z" (.int (1 : Int32)))
  ∧ (Fld Z Z.heap w2 "java/lang/Boolean" "value" "Z" (.int (0 : Int32)))
def Q0 (n0 : Nat) (v : Option Value) (h : Heap) (L : List Loc) : Prop := v = some (.int (1 : Int32)) ∧ Fr n0 L
theorem d0_0 : decode prog_11_method_2_code 0 = .ok (.aload_n 0, 1) := by decide +kernel
theorem d0_1 : decode prog_11_method_2_code 1 = .ok (.ldc 9, 2) := by decide +kernel
theorem d0_3 : decode prog_11_method_2_code 3 = .ok (.invokestatic 11, 3) := by decide +kernel
theorem d1_0 : decode jdk_31_method_11_code 0 = .ok (.aload_n 0, 1) := by decide +kernel
theorem d1_1 : decode jdk_31_method_11_code 1 = .ok (.ifnonnull 12, 3) := by decide +kernel
theorem d1_13 : decode jdk_31_method_11_code 13 = .ok (.aload_n 0, 1) := by decide +kernel
theorem d1_14 : decode jdk_31_method_11_code 14 = .ok (.areturn, 1) := by decide +kernel
theorem pn0 : plainName "java/util/Objects" = true := by first | (simp [plainName, overriddenIn]; done) | decide +kernel
theorem ef1 (m : MethodId) (x0 : Addr) (x1 : Addr) : entryFrame m #[(.ref x0), (.ref x1)] 2 = mkF m 0 #[.val (.ref x0), .val (.ref x1)] [] := by first | (simp [entryFrame, mkF, argsToLocals, Value.category]; done) | rfl
def Q1 (Z : State) (o1 : Addr) (u2 : Addr) (h0 : Heap) (n0 : Nat) (v : Option Value) (h : Heap) (L : List Loc) : Prop :=
  (v = some (.ref o1) ∧ Fr n0 L ∧ h = h0)
set_option maxRecDepth 65536 in
set_option maxHeartbeats 40000000 in
theorem rm1 (l : Launch) (Z : State) (a0 : Array Value) (hw : ∀ d ∈ tables_1, d.before a0 Z = true) (ws : List Jvm.Cond) (o1 : Addr) (u2 : Addr) (h0 : Heap) (n0 : Nat) (O0 : Old Z n0 h0) (g_o1 : n0 ≤ o1) :
    MetFree l yn0 (head1 (Jvm.Cond.code yn0 jdk_31_method_11_code 2 (some (.object "java/lang/Object")) :: ws) ({ frames := 0, cells := 0, slots := 0, locals := 0 } : Room)) (fun a U => a = #[(.ref o1), (.ref u2)] ∧ Z.Warmed39 U.vm ∧ U.heap = h0) (fun _ _ _ _ _ => True) (fun _ U o U' => ∃ v L, o = .returned v ∧ Q1 Z o1 u2 h0 n0 v U'.heap L ∧ FrameEnd U o U' L ({ frames := 0, cells := 0, slots := 0, locals := 0 } : Room).cells ({ frames := 0, cells := 0, slots := 0, locals := 0 } : Room).slots) := by
  refine MetFree.of_bodySF (plainFor_of_name pn0) hisR ?_
  intro p e s m args below meth c s₁ Bd hml0 hP hK
  obtain ⟨rfl, hZ, hh⟩ := hP
  have hx := Bd.exec
  have hby := Bd.bytes
  have hml : c.maxLocals = 2 := hml0
  have hown : s.vm.findClass "java/util/Objects" = some m.cls := findClass_of_methodNamed Bd.named
  have hnm := (name_of_methodNamed Bd.named Bd.method).1
  have hret := Bd.returns
  have hlk : meth.locks = false := BodyLoose.notSynchronized Bd
  have X0 : Stand p l e ({ frames := 0, cells := 0, slots := 0, locals := 0 } : Room) s m #[(.ref o1), (.ref u2)] below meth c s₁ [] 0 0 := Stand.of_body Bd
  have e0 : s₁.heap = h0 := by rw [← hh, Bd.state]; rfl
  have N0 := Fr.nil n0
  have pre0 : ∀ t, Steps p.tables e below (s₁.setTop (mkF m 0 #[.val (.ref o1), .val (.ref u2)] [])) t → Steps p.tables e below (s₁.setTop (entryFrame m #[(.ref o1), (.ref u2)] 2)) t := fun t k => castTop (ef1 m o1 u2) k
  obtain ⟨fs, hr, hrun, hended, hW, hsame⟩ := X0.leave (v := some (.ref o1)) (fun h => by rw [hret] at h; cases h)
  refine ⟨_, _, pre0 _ ?_, hrun, hended, _, _, rfl, ?_, ⟨_, rfl⟩, hW, hsame.mono (by decide) (by decide)⟩
  ·
    show Steps p.tables e below (s₁.setTop (mkF m 0 #[.val (.ref o1), .val (.ref u2)] [])) _
    refine XS.aloadN X0.here hx rfl (hb hby d1_0) rfl rfl ?_
    refine XS.ifnonnullYes X0.here hx rfl (pc0 := 1) (pc' := 13) rfl (hb hby d1_1) rfl (by decide) (by decide) ?_
    refine XS.aloadN X0.here hx rfl (hb hby d1_13) rfl rfl ?_
    show Steps p.tables e below (s₁.setTop (mkF m 14 #[.val (.ref o1), .val (.ref u2)] [(.ref o1)])) _
    exact retOut X0 hx hret rfl (Or.inr (Or.inr (Or.inr (Or.inr ⟨rfl, rfl, rfl⟩)))) (hb hby d1_14) hr
  ·
    show Q1 Z o1 u2 h0 n0 _ s₁.heap _
    rw [e0]
    exact ⟨rfl, N0, rfl⟩
theorem pd0 : parseMethodDescriptor "(Ljava/lang/Object;Ljava/lang/String;)Ljava/lang/Object;" = some ⟨[(.object "java/lang/Object"), (.object "java/lang/String")], some (.object "java/lang/Object")⟩ := by decide +kernel
theorem d0_6 : decode prog_11_method_2_code 6 = .ok (.pop, 1) := by decide +kernel
theorem d0_7 : decode prog_11_method_2_code 7 = .ok (.aload_n 0, 1) := by decide +kernel
theorem d0_8 : decode prog_11_method_2_code 8 = .ok (.arraylength, 1) := by decide +kernel
theorem d0_9 : decode prog_11_method_2_code 9 = .ok (.anewarray 17, 3) := by decide +kernel
theorem d0_12 : decode prog_11_method_2_code 12 = .ok (.astore_n 1, 1) := by decide +kernel
theorem d0_13 : decode prog_11_method_2_code 13 = .ok (.iconst 0, 1) := by decide +kernel
theorem d0_14 : decode prog_11_method_2_code 14 = .ok (.istore_n 2, 1) := by decide +kernel
theorem d0_15 : decode prog_11_method_2_code 15 = .ok (.iload_n 2, 1) := by decide +kernel
theorem d0_16 : decode prog_11_method_2_code 16 = .ok (.aload_n 0, 1) := by decide +kernel
theorem d0_17 : decode prog_11_method_2_code 17 = .ok (.arraylength, 1) := by decide +kernel
theorem d0_18 : decode prog_11_method_2_code 18 = .ok (.if_icmp .ge 18, 3) := by decide +kernel
theorem d0_36 : decode prog_11_method_2_code 36 = .ok (.aload_n 1, 1) := by decide +kernel
theorem d0_37 : decode prog_11_method_2_code 37 = .ok (.areturn, 1) := by decide +kernel
theorem pn1 : plainName "com/example/castless/castless/PrimitiveArrays" = true := by first | (simp [plainName, overriddenIn]; done) | decide +kernel
theorem ef2 (m : MethodId) (x0 : Addr) : entryFrame m #[(.ref x0)] 3 = mkF m 0 #[.val (.ref x0), .unset, .unset] [] := by first | (simp [entryFrame, mkF, argsToLocals, Value.category]; done) | rfl
def Q2 (Z : State) (o1 : Addr) (kc2 : ClassId) (h0 : Heap) (n0 : Nat) (v : Option Value) (h : Heap) (L : List Loc) : Prop :=
  (∃ b7 : Addr, ∃ k7 : ClassId, v = some (.ref b7) ∧ Fr n0 L ∧ Keep h0 h [] ∧ h0.size ≤ b7 ∧ Ovr Z k7 "java/lang/Boolean" ∧ (Arv Z h b7 k7 (.object "java/lang/Boolean") (0 : Int32) [] .null) ∧ (Exa Z h b7 "[Ljava/lang/Boolean;"))
set_option maxRecDepth 65536 in
set_option maxHeartbeats 40000000 in
theorem rm2 (l : Launch) (Z : State) (a0 : Array Value) (hw : ∀ d ∈ tables_1, d.before a0 Z = true) (ws : List Jvm.Cond) (o1 : Addr) (kc2 : ClassId) (h0 : Heap) (n0 : Nat) (O0 : Old Z n0 h0) (g_o1 : n0 ≤ o1) (P0 : Arv Z h0 o1 kc2 .boolean (0 : Int32) [] (.int (0 : Int32))) :
    MetFree l yn1 (head1 (Jvm.Cond.code yn1 prog_11_method_2_code 3 (some (.array (.object "java/lang/Boolean"))) :: ws) ({ frames := 1, cells := 3, slots := 56, locals := 13 } : Room)) (fun a U => a = #[(.ref o1)] ∧ Z.Warmed39 U.vm ∧ U.heap = h0) (fun _ _ _ _ _ => True) (fun _ U o U' => ∃ v L, o = .returned v ∧ Q2 Z o1 kc2 h0 n0 v U'.heap L ∧ ReturnedEndW U o U' L ({ frames := 1, cells := 3, slots := 56, locals := 13 } : Room).cells ({ frames := 1, cells := 3, slots := 56, locals := 13 } : Room).slots) := by
  refine MetFree.of_bodySF (plainFor_of_name pn1) hisR ?_
  intro p e s m args below meth c s₁ Bd hml0 hP hK
  obtain ⟨rfl, hZ, hh⟩ := hP
  have hx := Bd.exec
  have hby := Bd.bytes
  have hml : c.maxLocals = 3 := hml0
  have hown : s.vm.findClass "com/example/castless/castless/PrimitiveArrays" = some m.cls := findClass_of_methodNamed Bd.named
  have hnm := (name_of_methodNamed Bd.named Bd.method).1
  have hret := Bd.returns
  have hlk : meth.locks = false := BodyLoose.notSynchronized Bd
  have X0 : Stand p l e ({ frames := 1, cells := 3, slots := 56, locals := 13 } : Room) s m #[(.ref o1)] below meth c s₁ [] 0 0 := Stand.of_body Bd
  have e0 : s₁.heap = h0 := by rw [← hh, Bd.state]; rfl
  have N0 := Fr.nil n0
  have pre0 : ∀ t, Steps p.tables e below (s₁.setTop (mkF m 0 #[.val (.ref o1), .unset, .unset] [])) t → Steps p.tables e below (s₁.setTop (entryFrame m #[(.ref o1)] 3)) t := fun t k => castTop (ef2 m o1) k
  obtain ⟨sx1, T1, h1, ks1, X1, e1, E1, hS1, hk1, hZ, hown, st1⟩ := ldcS (s := s) (vm0 := s.vm) X0 hx hZ hown (own_w hw 6 rfl) (own_sa hw) e0 ((State.WarmedH.refl s).since h0.size) (Nat.le_refl _) (g := (mkF m 1 #[.val (.ref o1), .unset, .unset] [(.ref o1)])) rfl (hb hby d0_1) (n := 52) (by decide) (by decide) (by decide) (by decide)
  have M1 : h0.size ≤ h1.size := Nat.le_trans (Nat.le_refl _) E1.1
  have O1 := Old.ext O0 E1
  obtain ⟨_, _, ⟨T2, L2, c2, n2⟩, -, X2, ⟨Lc2, hQ2, l2, y2, z2⟩, st2⟩ := Jvm.LawKit.callS X1 hx (y := yn0) hown (mvT hZ (own_w hw 14 rfl)) (mvT hZ (own_w hw 15 rfl)) (mvT hZ (own_w hw 16 rfl)) (mvT hZ (own_w hw 17 rfl)) (by decide) (backOf (W := 0) (rm1 l Z a0 hw [] o1 sx1 h1 n0 O1 g_o1) hZ (own_w hw 17 rfl) (own_w hw 16 rfl) (by decide) (by decide)) (g := (mkF m 3 #[.val (.ref o1), .unset, .unset] [(.ref sx1), (.ref o1)])) rfl (by rw [hml]; rfl) (argsL := [(.ref o1), (.ref sx1)]) (rest := []) (lenOf pd0 rfl) rfl (by show 2 * 0 + _ ≤ _; exact Nat.le_of_eq rfl) (hb hby d0_3) (fun _ _ => ⟨rfl, e1, (by decide : 2 + 0 ≤ _), (by decide : 56 + 0 ≤ _)⟩)
  dsimp only [Pt.U, Pt.locs, Pt.cells, Pt.slots] at X2 l2 y2 z2 st2 hQ2
  subst l2 y2 z2
  have X2 : Stand p l e ({ frames := 1, cells := 3, slots := 56, locals := 13 } : Room) (s.setVm T1.vm) m #[(.ref o1)] below meth c T2 _ 2 56 := X2
  obtain ⟨rfl, Nq3, e4⟩ := hQ2
  have N2 := Fr.app N0 Nq3
  have f5 := (P0.ext E1)
  obtain ⟨cl6, Ar6, qa6, Sa6, Na6, Ha6, Ga6⟩ := id (f5)
  obtain ⟨T7, h7, k7, X7, e7, E7, A7, EX7, OV7, st7⟩ := newRE X2 hx hZ hown (own_w hw 18 rfl) (own_w hw 19 rfl) e4 (g := (mkF m 9 #[.val (.ref o1), .unset, .unset] [(.int (0 : Int32))])) rfl (hb hby d0_9) rfl (by decide) (cap := 0) (by decide) (by decide) (by decide) (by decide) (ad := "[Ljava/lang/Boolean;") (by decide)
  obtain ⟨b7, g7⟩ : ∃ z, z = h1.size := ⟨_, rfl⟩
  rw [← g7] at A7 EX7 st7
  have hkk7 := Nat.le_trans hk1 E7.1
  have M7 : h0.size ≤ h7.size := Nat.le_trans M1 E7.1
  have O7 := Old.ext O1 E7
  have sz_b7 : h1.size ≤ b7 := Nat.le_of_eq g7.symm
  have g_b7 : n0 ≤ b7 := Nat.le_trans (own_oz O0) (Nat.le_trans M1 sz_b7)
  have V7_0 := Arv.new A7 (by decide)
  have V7 : Arv Z h7 b7 k7 (.object "java/lang/Boolean") (0 : Int32) [] .null := V7_0
  have f8 := (f5.ext E7)
  obtain ⟨cl9, Ar9, qa9, Sa9, Na9, Ha9, Ga9⟩ := id (f8)
  obtain ⟨fs, hr, hrun, hended, hRE⟩ := X7.leaveW hS1 (by rw [e7]; exact hkk7) (v := some (.ref b7)) (fun h => by rw [hret] at h; cases h)
  have KL : Keep h0 h7 [] := (((Keep.refl h0 []).ext E1).ext E7)
  refine ⟨_, _, pre0 _ ?_, hrun, hended, _, _, rfl, ?_, hRE.1, hRE.2.1, hRE.2.2.1, hRE.2.2.2.mono (by decide) (by decide)⟩
  ·
    show Steps p.tables e below (s₁.setTop (mkF m 0 #[.val (.ref o1), .unset, .unset] [])) _
    refine XS.aloadN X0.here hx rfl (hb hby d0_0) rfl rfl ?_
    refine st1 _ ?_
    refine st2 _ ?_
    refine XS.pop X2.here hx rfl (hb hby d0_6) rfl rfl ?_
    refine XS.aloadN X2.here hx rfl (hb hby d0_7) rfl rfl ?_
    refine X2.arraylength hx (by rw [e4]; exact Ar6.1) (State.isArrayOf_alike hZ.alike Ar6.2.1) (g := (mkF m 8 #[.val (.ref o1), .unset, .unset] [(.ref o1)])) rfl rfl (hb hby d0_8) _ ?_
    rw [len_of Sa6 Na6]
    refine st7 _ ?_
    refine XS.astoreN X7.here hx rfl (hb hby d0_12) rfl rfl (l' := #[.val (.ref o1), .val (.ref b7), .unset]) rfl ?_
    refine XS.iconst X7.here hx rfl (hb hby d0_13) ?_
    refine XS.istoreN X7.here hx rfl (hb hby d0_14) rfl (l' := #[.val (.ref o1), .val (.ref b7), .val (.int (0 : Int32))]) rfl ?_
    refine XS.iloadN X7.here hx rfl (hb hby d0_15) rfl ?_
    refine XS.aloadN X7.here hx rfl (hb hby d0_16) rfl rfl ?_
    refine X7.arraylength hx (by rw [e7]; exact Ar9.1) (State.isArrayOf_alike hZ.alike Ar9.2.1) (g := (mkF m 17 #[.val (.ref o1), .val (.ref b7), .val (.int (0 : Int32))] [(.ref o1), (.int (0 : Int32))])) rfl rfl (hb hby d0_17) _ ?_
    rw [len_of Sa9 Na9]
    refine XS.icmpYes X7.here hx rfl (pc0 := 18) (pc' := 36) rfl (hb hby d0_18) rfl (flt (by decide : ¬ ((0 : Int32) < (0 : Int32)))).2.1 (by decide) (by decide) ?_
    refine XS.aloadN X7.here hx rfl (hb hby d0_36) rfl rfl ?_
    show Steps p.tables e below (T7.setTop (mkF m 37 #[.val (.ref o1), .val (.ref b7), .val (.int (0 : Int32))] [(.ref b7)])) _
    exact retOut X7 hx hret rfl (Or.inr (Or.inr (Or.inr (Or.inr ⟨rfl, rfl, rfl⟩)))) (hb hby d0_37) hr
  ·
    show Q2 Z o1 kc2 h0 n0 _ T7.heap _
    rw [e7]
    exact ⟨b7, k7, rfl, N2, KL, (Nat.le_trans M1 sz_b7), OV7, V7, EX7⟩
theorem pd1 : parseMethodDescriptor "([Z)[Ljava/lang/Boolean;" = some ⟨[(.array .boolean)], some (.array (.object "java/lang/Boolean"))⟩ := by decide +kernel
theorem d2_0 : decode method_4_code 0 = .ok (.iload 4, 2) := by decide +kernel
theorem d2_2 : decode method_4_code 2 = .ok (.iload_n 2, 1) := by decide +kernel
theorem d2_3 : decode method_4_code 3 = .ok (.if_icmp .lt 5, 3) := by decide +kernel
theorem d2_6 : decode method_4_code 6 = .ok (.iconst 1, 1) := by decide +kernel
theorem d2_7 : decode method_4_code 7 = .ok (.ireturn, 1) := by decide +kernel
theorem pn2 : plainName "com/example/castless/castless/PrimitiveArraysBox334PinLaw" = true := by first | (simp [plainName, overriddenIn]; done) | decide +kernel
theorem ef3 (m : MethodId) (x0 : Addr) (x1 : Addr) (x2 : Int32) (x3 : Int32) (x4 : Int32) : entryFrame m #[(.ref x0), (.ref x1), (.int x2), (.int x3), (.int x4)] 8 = mkF m 0 #[.val (.ref x0), .val (.ref x1), .val (.int x2), .val (.int x3), .val (.int x4), .unset, .unset, .unset] [] := by first | (simp [entryFrame, mkF, argsToLocals, Value.category]; done) | rfl
def Q3 (Z : State) (o1 : Addr) (o2 : Addr) (kc4 : ClassId) (p3 : Int32) (h0 : Heap) (n0 : Nat) (v : Option Value) (h : Heap) (L : List Loc) : Prop :=
  (v = some (.int (1 : Int32)) ∧ Fr n0 L ∧ h = h0)
set_option maxRecDepth 65536 in
set_option maxHeartbeats 40000000 in
theorem rm3 (l : Launch) (Z : State) (a0 : Array Value) (hw : ∀ d ∈ tables_1, d.before a0 Z = true) (ws : List Jvm.Cond) (o1 : Addr) (o2 : Addr) (kc4 : ClassId) (p3 : Int32) (h0 : Heap) (n0 : Nat) (O0 : Old Z n0 h0) (g_o1 : n0 ≤ o1) (g_o2 : n0 ≤ o2) (Ov_kc4 : Ovr Z kc4 "java/lang/Boolean") :
    MetFree l yn2 (head1 (Jvm.Cond.code yn2 method_4_code 8 (some .boolean) :: ws) ({ frames := 0, cells := 0, slots := 0, locals := 0 } : Room)) (fun a U => a = #[(.ref o1), (.ref o2), (.int (0 : Int32)), (.int p3), (.int (0 : Int32))] ∧ Z.Warmed39 U.vm ∧ U.heap = h0) (fun _ _ _ _ _ => True) (fun _ U o U' => ∃ v L, o = .returned v ∧ Q3 Z o1 o2 kc4 p3 h0 n0 v U'.heap L ∧ FrameEnd U o U' L ({ frames := 0, cells := 0, slots := 0, locals := 0 } : Room).cells ({ frames := 0, cells := 0, slots := 0, locals := 0 } : Room).slots) := by
  refine MetFree.of_bodySF (plainFor_of_name pn2) hisR ?_
  intro p e s m args below meth c s₁ Bd hml0 hP hK
  obtain ⟨rfl, hZ, hh⟩ := hP
  have hx := Bd.exec
  have hby := Bd.bytes
  have hml : c.maxLocals = 8 := hml0
  have hown : s.vm.findClass "com/example/castless/castless/PrimitiveArraysBox334PinLaw" = some m.cls := findClass_of_methodNamed Bd.named
  have hnm := (name_of_methodNamed Bd.named Bd.method).1
  have hret := Bd.returns
  have hlk : meth.locks = false := BodyLoose.notSynchronized Bd
  have X0 : Stand p l e ({ frames := 0, cells := 0, slots := 0, locals := 0 } : Room) s m #[(.ref o1), (.ref o2), (.int (0 : Int32)), (.int p3), (.int (0 : Int32))] below meth c s₁ [] 0 0 := Stand.of_body Bd
  have e0 : s₁.heap = h0 := by rw [← hh, Bd.state]; rfl
  have N0 := Fr.nil n0
  have pre0 : ∀ t, Steps p.tables e below (s₁.setTop (mkF m 0 #[.val (.ref o1), .val (.ref o2), .val (.int (0 : Int32)), .val (.int p3), .val (.int (0 : Int32)), .unset, .unset, .unset] [])) t → Steps p.tables e below (s₁.setTop (entryFrame m #[(.ref o1), (.ref o2), (.int (0 : Int32)), (.int p3), (.int (0 : Int32))] 8)) t := fun t k => castTop (ef3 m o1 o2 (0 : Int32) p3 (0 : Int32)) k
  obtain ⟨fs, hr, hrun, hended, hW, hsame⟩ := X0.leave (v := some (.int (1 : Int32))) (fun h => by rw [hret] at h; cases h)
  refine ⟨_, _, pre0 _ ?_, hrun, hended, _, _, rfl, ?_, ⟨_, rfl⟩, hW, hsame.mono (by decide) (by decide)⟩
  ·
    show Steps p.tables e below (s₁.setTop (mkF m 0 #[.val (.ref o1), .val (.ref o2), .val (.int (0 : Int32)), .val (.int p3), .val (.int (0 : Int32)), .unset, .unset, .unset] [])) _
    refine XS.iload X0.here hx rfl (hb hby d2_0) rfl ?_
    refine XS.iloadN X0.here hx rfl (hb hby d2_2) rfl ?_
    refine XS.icmpNo X0.here hx rfl (hb hby d2_3) rfl (flt (by decide : ¬ ((0 : Int32) < (0 : Int32)))).1 ?_
    refine XS.iconst X0.here hx rfl (hb hby d2_6) ?_
    show Steps p.tables e below (s₁.setTop (mkF m 7 #[.val (.ref o1), .val (.ref o2), .val (.int (0 : Int32)), .val (.int p3), .val (.int (0 : Int32)), .unset, .unset, .unset] [(.int (1 : Int32))])) _
    exact retN X0 hx (t := .boolean) hret (by simp) (hb hby d2_7) hr
  ·
    show Q3 Z o1 o2 kc4 p3 h0 n0 _ s₁.heap _
    rw [e0]
    exact ⟨rfl, N0, rfl⟩
theorem pd2 : parseMethodDescriptor "([Ljava/lang/Boolean;[ZIII)Z" = some ⟨[(.array (.object "java/lang/Boolean")), (.array .boolean), .int, .int, .int], some .boolean⟩ := by decide +kernel
theorem ef4 (m : MethodId) (x0 : Addr) (x1 : Addr) (x2 : Int32) (x3 : Int32) (x4 : Int32) : entryFrame m #[(.ref x0), (.ref x1), (.int x2), (.int x3), (.int x4)] 8 = mkF m 0 #[.val (.ref x0), .val (.ref x1), .val (.int x2), .val (.int x3), .val (.int x4), .unset, .unset, .unset] [] := by first | (simp [entryFrame, mkF, argsToLocals, Value.category]; done) | rfl
def Q4 (Z : State) (o1 : Addr) (o2 : Addr) (kc4 : ClassId) (p3 : Int32) (h0 : Heap) (n0 : Nat) (v : Option Value) (h : Heap) (L : List Loc) : Prop :=
  (v = some (.int (1 : Int32)) ∧ Fr n0 L ∧ h = h0)
set_option maxRecDepth 65536 in
set_option maxHeartbeats 40000000 in
theorem rm4 (l : Launch) (Z : State) (a0 : Array Value) (hw : ∀ d ∈ tables_1, d.before a0 Z = true) (ws : List Jvm.Cond) (o1 : Addr) (o2 : Addr) (kc4 : ClassId) (p3 : Int32) (h0 : Heap) (n0 : Nat) (O0 : Old Z n0 h0) (g_o1 : n0 ≤ o1) (g_o2 : n0 ≤ o2) (Ov_kc4 : Ovr Z kc4 "java/lang/Boolean") :
    MetFree l yn2 (head1 (Jvm.Cond.code yn2 method_4_code 8 (some .boolean) :: ws) ({ frames := 0, cells := 0, slots := 0, locals := 0 } : Room)) (fun a U => a = #[(.ref o1), (.ref o2), (.int (0 : Int32)), (.int p3), (.int (1 : Int32))] ∧ Z.Warmed39 U.vm ∧ U.heap = h0) (fun _ _ _ _ _ => True) (fun _ U o U' => ∃ v L, o = .returned v ∧ Q4 Z o1 o2 kc4 p3 h0 n0 v U'.heap L ∧ FrameEnd U o U' L ({ frames := 0, cells := 0, slots := 0, locals := 0 } : Room).cells ({ frames := 0, cells := 0, slots := 0, locals := 0 } : Room).slots) := by
  refine MetFree.of_bodySF (plainFor_of_name pn2) hisR ?_
  intro p e s m args below meth c s₁ Bd hml0 hP hK
  obtain ⟨rfl, hZ, hh⟩ := hP
  have hx := Bd.exec
  have hby := Bd.bytes
  have hml : c.maxLocals = 8 := hml0
  have hown : s.vm.findClass "com/example/castless/castless/PrimitiveArraysBox334PinLaw" = some m.cls := findClass_of_methodNamed Bd.named
  have hnm := (name_of_methodNamed Bd.named Bd.method).1
  have hret := Bd.returns
  have hlk : meth.locks = false := BodyLoose.notSynchronized Bd
  have X0 : Stand p l e ({ frames := 0, cells := 0, slots := 0, locals := 0 } : Room) s m #[(.ref o1), (.ref o2), (.int (0 : Int32)), (.int p3), (.int (1 : Int32))] below meth c s₁ [] 0 0 := Stand.of_body Bd
  have e0 : s₁.heap = h0 := by rw [← hh, Bd.state]; rfl
  have N0 := Fr.nil n0
  have pre0 : ∀ t, Steps p.tables e below (s₁.setTop (mkF m 0 #[.val (.ref o1), .val (.ref o2), .val (.int (0 : Int32)), .val (.int p3), .val (.int (1 : Int32)), .unset, .unset, .unset] [])) t → Steps p.tables e below (s₁.setTop (entryFrame m #[(.ref o1), (.ref o2), (.int (0 : Int32)), (.int p3), (.int (1 : Int32))] 8)) t := fun t k => castTop (ef4 m o1 o2 (0 : Int32) p3 (1 : Int32)) k
  obtain ⟨fs, hr, hrun, hended, hW, hsame⟩ := X0.leave (v := some (.int (1 : Int32))) (fun h => by rw [hret] at h; cases h)
  refine ⟨_, _, pre0 _ ?_, hrun, hended, _, _, rfl, ?_, ⟨_, rfl⟩, hW, hsame.mono (by decide) (by decide)⟩
  ·
    show Steps p.tables e below (s₁.setTop (mkF m 0 #[.val (.ref o1), .val (.ref o2), .val (.int (0 : Int32)), .val (.int p3), .val (.int (1 : Int32)), .unset, .unset, .unset] [])) _
    refine XS.iload X0.here hx rfl (hb hby d2_0) rfl ?_
    refine XS.iloadN X0.here hx rfl (hb hby d2_2) rfl ?_
    refine XS.icmpNo X0.here hx rfl (hb hby d2_3) rfl (flt (by decide : ¬ ((1 : Int32) < (0 : Int32)))).1 ?_
    refine XS.iconst X0.here hx rfl (hb hby d2_6) ?_
    show Steps p.tables e below (s₁.setTop (mkF m 7 #[.val (.ref o1), .val (.ref o2), .val (.int (0 : Int32)), .val (.int p3), .val (.int (1 : Int32)), .unset, .unset, .unset] [(.int (1 : Int32))])) _
    exact retN X0 hx (t := .boolean) hret (by simp) (hb hby d2_7) hr
  ·
    show Q4 Z o1 o2 kc4 p3 h0 n0 _ s₁.heap _
    rw [e0]
    exact ⟨rfl, N0, rfl⟩
theorem ef5 (m : MethodId) (x0 : Addr) (x1 : Addr) (x2 : Int32) (x3 : Int32) (x4 : Int32) : entryFrame m #[(.ref x0), (.ref x1), (.int x2), (.int x3), (.int x4)] 8 = mkF m 0 #[.val (.ref x0), .val (.ref x1), .val (.int x2), .val (.int x3), .val (.int x4), .unset, .unset, .unset] [] := by first | (simp [entryFrame, mkF, argsToLocals, Value.category]; done) | rfl
def Q5 (Z : State) (o1 : Addr) (o2 : Addr) (kc4 : ClassId) (p3 : Int32) (h0 : Heap) (n0 : Nat) (v : Option Value) (h : Heap) (L : List Loc) : Prop :=
  (v = some (.int (1 : Int32)) ∧ Fr n0 L ∧ h = h0)
set_option maxRecDepth 65536 in
set_option maxHeartbeats 40000000 in
theorem rm5 (l : Launch) (Z : State) (a0 : Array Value) (hw : ∀ d ∈ tables_1, d.before a0 Z = true) (ws : List Jvm.Cond) (o1 : Addr) (o2 : Addr) (kc4 : ClassId) (p3 : Int32) (h0 : Heap) (n0 : Nat) (O0 : Old Z n0 h0) (g_o1 : n0 ≤ o1) (g_o2 : n0 ≤ o2) (Ov_kc4 : Ovr Z kc4 "java/lang/Boolean") :
    MetFree l yn2 (head1 (Jvm.Cond.code yn2 method_4_code 8 (some .boolean) :: ws) ({ frames := 0, cells := 0, slots := 0, locals := 0 } : Room)) (fun a U => a = #[(.ref o1), (.ref o2), (.int (0 : Int32)), (.int p3), (.int (2 : Int32))] ∧ Z.Warmed39 U.vm ∧ U.heap = h0) (fun _ _ _ _ _ => True) (fun _ U o U' => ∃ v L, o = .returned v ∧ Q5 Z o1 o2 kc4 p3 h0 n0 v U'.heap L ∧ FrameEnd U o U' L ({ frames := 0, cells := 0, slots := 0, locals := 0 } : Room).cells ({ frames := 0, cells := 0, slots := 0, locals := 0 } : Room).slots) := by
  refine MetFree.of_bodySF (plainFor_of_name pn2) hisR ?_
  intro p e s m args below meth c s₁ Bd hml0 hP hK
  obtain ⟨rfl, hZ, hh⟩ := hP
  have hx := Bd.exec
  have hby := Bd.bytes
  have hml : c.maxLocals = 8 := hml0
  have hown : s.vm.findClass "com/example/castless/castless/PrimitiveArraysBox334PinLaw" = some m.cls := findClass_of_methodNamed Bd.named
  have hnm := (name_of_methodNamed Bd.named Bd.method).1
  have hret := Bd.returns
  have hlk : meth.locks = false := BodyLoose.notSynchronized Bd
  have X0 : Stand p l e ({ frames := 0, cells := 0, slots := 0, locals := 0 } : Room) s m #[(.ref o1), (.ref o2), (.int (0 : Int32)), (.int p3), (.int (2 : Int32))] below meth c s₁ [] 0 0 := Stand.of_body Bd
  have e0 : s₁.heap = h0 := by rw [← hh, Bd.state]; rfl
  have N0 := Fr.nil n0
  have pre0 : ∀ t, Steps p.tables e below (s₁.setTop (mkF m 0 #[.val (.ref o1), .val (.ref o2), .val (.int (0 : Int32)), .val (.int p3), .val (.int (2 : Int32)), .unset, .unset, .unset] [])) t → Steps p.tables e below (s₁.setTop (entryFrame m #[(.ref o1), (.ref o2), (.int (0 : Int32)), (.int p3), (.int (2 : Int32))] 8)) t := fun t k => castTop (ef5 m o1 o2 (0 : Int32) p3 (2 : Int32)) k
  obtain ⟨fs, hr, hrun, hended, hW, hsame⟩ := X0.leave (v := some (.int (1 : Int32))) (fun h => by rw [hret] at h; cases h)
  refine ⟨_, _, pre0 _ ?_, hrun, hended, _, _, rfl, ?_, ⟨_, rfl⟩, hW, hsame.mono (by decide) (by decide)⟩
  ·
    show Steps p.tables e below (s₁.setTop (mkF m 0 #[.val (.ref o1), .val (.ref o2), .val (.int (0 : Int32)), .val (.int p3), .val (.int (2 : Int32)), .unset, .unset, .unset] [])) _
    refine XS.iload X0.here hx rfl (hb hby d2_0) rfl ?_
    refine XS.iloadN X0.here hx rfl (hb hby d2_2) rfl ?_
    refine XS.icmpNo X0.here hx rfl (hb hby d2_3) rfl (flt (by decide : ¬ ((2 : Int32) < (0 : Int32)))).1 ?_
    refine XS.iconst X0.here hx rfl (hb hby d2_6) ?_
    show Steps p.tables e below (s₁.setTop (mkF m 7 #[.val (.ref o1), .val (.ref o2), .val (.int (0 : Int32)), .val (.int p3), .val (.int (2 : Int32)), .unset, .unset, .unset] [(.int (1 : Int32))])) _
    exact retN X0 hx (t := .boolean) hret (by simp) (hb hby d2_7) hr
  ·
    show Q5 Z o1 o2 kc4 p3 h0 n0 _ s₁.heap _
    rw [e0]
    exact ⟨rfl, N0, rfl⟩
theorem ef6 (m : MethodId) (x0 : Addr) (x1 : Addr) (x2 : Int32) (x3 : Int32) (x4 : Int32) : entryFrame m #[(.ref x0), (.ref x1), (.int x2), (.int x3), (.int x4)] 8 = mkF m 0 #[.val (.ref x0), .val (.ref x1), .val (.int x2), .val (.int x3), .val (.int x4), .unset, .unset, .unset] [] := by first | (simp [entryFrame, mkF, argsToLocals, Value.category]; done) | rfl
def Q6 (Z : State) (o1 : Addr) (o2 : Addr) (kc4 : ClassId) (p3 : Int32) (h0 : Heap) (n0 : Nat) (v : Option Value) (h : Heap) (L : List Loc) : Prop :=
  (v = some (.int (1 : Int32)) ∧ Fr n0 L ∧ h = h0)
set_option maxRecDepth 65536 in
set_option maxHeartbeats 40000000 in
theorem rm6 (l : Launch) (Z : State) (a0 : Array Value) (hw : ∀ d ∈ tables_1, d.before a0 Z = true) (ws : List Jvm.Cond) (o1 : Addr) (o2 : Addr) (kc4 : ClassId) (p3 : Int32) (h0 : Heap) (n0 : Nat) (O0 : Old Z n0 h0) (g_o1 : n0 ≤ o1) (g_o2 : n0 ≤ o2) (Ov_kc4 : Ovr Z kc4 "java/lang/Boolean") :
    MetFree l yn2 (head1 (Jvm.Cond.code yn2 method_4_code 8 (some .boolean) :: ws) ({ frames := 0, cells := 0, slots := 0, locals := 0 } : Room)) (fun a U => a = #[(.ref o1), (.ref o2), (.int (0 : Int32)), (.int p3), (.int (3 : Int32))] ∧ Z.Warmed39 U.vm ∧ U.heap = h0) (fun _ _ _ _ _ => True) (fun _ U o U' => ∃ v L, o = .returned v ∧ Q6 Z o1 o2 kc4 p3 h0 n0 v U'.heap L ∧ FrameEnd U o U' L ({ frames := 0, cells := 0, slots := 0, locals := 0 } : Room).cells ({ frames := 0, cells := 0, slots := 0, locals := 0 } : Room).slots) := by
  refine MetFree.of_bodySF (plainFor_of_name pn2) hisR ?_
  intro p e s m args below meth c s₁ Bd hml0 hP hK
  obtain ⟨rfl, hZ, hh⟩ := hP
  have hx := Bd.exec
  have hby := Bd.bytes
  have hml : c.maxLocals = 8 := hml0
  have hown : s.vm.findClass "com/example/castless/castless/PrimitiveArraysBox334PinLaw" = some m.cls := findClass_of_methodNamed Bd.named
  have hnm := (name_of_methodNamed Bd.named Bd.method).1
  have hret := Bd.returns
  have hlk : meth.locks = false := BodyLoose.notSynchronized Bd
  have X0 : Stand p l e ({ frames := 0, cells := 0, slots := 0, locals := 0 } : Room) s m #[(.ref o1), (.ref o2), (.int (0 : Int32)), (.int p3), (.int (3 : Int32))] below meth c s₁ [] 0 0 := Stand.of_body Bd
  have e0 : s₁.heap = h0 := by rw [← hh, Bd.state]; rfl
  have N0 := Fr.nil n0
  have pre0 : ∀ t, Steps p.tables e below (s₁.setTop (mkF m 0 #[.val (.ref o1), .val (.ref o2), .val (.int (0 : Int32)), .val (.int p3), .val (.int (3 : Int32)), .unset, .unset, .unset] [])) t → Steps p.tables e below (s₁.setTop (entryFrame m #[(.ref o1), (.ref o2), (.int (0 : Int32)), (.int p3), (.int (3 : Int32))] 8)) t := fun t k => castTop (ef6 m o1 o2 (0 : Int32) p3 (3 : Int32)) k
  obtain ⟨fs, hr, hrun, hended, hW, hsame⟩ := X0.leave (v := some (.int (1 : Int32))) (fun h => by rw [hret] at h; cases h)
  refine ⟨_, _, pre0 _ ?_, hrun, hended, _, _, rfl, ?_, ⟨_, rfl⟩, hW, hsame.mono (by decide) (by decide)⟩
  ·
    show Steps p.tables e below (s₁.setTop (mkF m 0 #[.val (.ref o1), .val (.ref o2), .val (.int (0 : Int32)), .val (.int p3), .val (.int (3 : Int32)), .unset, .unset, .unset] [])) _
    refine XS.iload X0.here hx rfl (hb hby d2_0) rfl ?_
    refine XS.iloadN X0.here hx rfl (hb hby d2_2) rfl ?_
    refine XS.icmpNo X0.here hx rfl (hb hby d2_3) rfl (flt (by decide : ¬ ((3 : Int32) < (0 : Int32)))).1 ?_
    refine XS.iconst X0.here hx rfl (hb hby d2_6) ?_
    show Steps p.tables e below (s₁.setTop (mkF m 7 #[.val (.ref o1), .val (.ref o2), .val (.int (0 : Int32)), .val (.int p3), .val (.int (3 : Int32)), .unset, .unset, .unset] [(.int (1 : Int32))])) _
    exact retN X0 hx (t := .boolean) hret (by simp) (hb hby d2_7) hr
  ·
    show Q6 Z o1 o2 kc4 p3 h0 n0 _ s₁.heap _
    rw [e0]
    exact ⟨rfl, N0, rfl⟩
theorem d3_0 : decode method_3_code 0 = .ok (.iload_n 0, 1) := by decide +kernel
theorem d3_1 : decode method_3_code 1 = .ok (.iload_n 1, 1) := by decide +kernel
theorem d3_2 : decode method_3_code 2 = .ok (.iushr, 1) := by decide +kernel
theorem d3_3 : decode method_3_code 3 = .ok (.iconst 1, 1) := by decide +kernel
theorem d3_4 : decode method_3_code 4 = .ok (.iand, 1) := by decide +kernel
theorem d3_5 : decode method_3_code 5 = .ok (.ifCond .eq 7, 3) := by decide +kernel
theorem d3_12 : decode method_3_code 12 = .ok (.iconst 0, 1) := by decide +kernel
theorem d3_13 : decode method_3_code 13 = .ok (.ireturn, 1) := by decide +kernel
theorem d3_8 : decode method_3_code 8 = .ok (.iconst 1, 1) := by decide +kernel
theorem d3_9 : decode method_3_code 9 = .ok (.goto 4, 3) := by decide +kernel
theorem ef7 (m : MethodId) (x0 : Int32) (x1 : Int32) : entryFrame m #[(.int x0), (.int x1)] 2 = mkF m 0 #[.val (.int x0), .val (.int x1)] [] := by first | (simp [entryFrame, mkF, argsToLocals, Value.category]; done) | rfl
def Q7 (Z : State) (p1 : Int32) (h0 : Heap) (n0 : Nat) (v : Option Value) (h : Heap) (L : List Loc) : Prop :=
  (v = some (.int (if (((p1.toUInt32 >>> ((0 : Int32) &&& 31).toUInt32).toInt32) &&& (1 : Int32)) = (0 : Int32) then (0 : Int32) else (1 : Int32))) ∧ Fr n0 L ∧ h = h0)
set_option maxRecDepth 65536 in
set_option maxHeartbeats 40000000 in
theorem rm7 (l : Launch) (Z : State) (a0 : Array Value) (hw : ∀ d ∈ tables_1, d.before a0 Z = true) (ws : List Jvm.Cond) (p1 : Int32) (h0 : Heap) (n0 : Nat) (O0 : Old Z n0 h0) :
    MetFree l yn3 (head1 (Jvm.Cond.code yn3 method_3_code 2 (some .boolean) :: ws) ({ frames := 0, cells := 0, slots := 0, locals := 0 } : Room)) (fun a U => a = #[(.int p1), (.int (0 : Int32))] ∧ Z.Warmed39 U.vm ∧ U.heap = h0) (fun _ _ _ _ _ => True) (fun _ U o U' => ∃ v L, o = .returned v ∧ Q7 Z p1 h0 n0 v U'.heap L ∧ FrameEnd U o U' L ({ frames := 0, cells := 0, slots := 0, locals := 0 } : Room).cells ({ frames := 0, cells := 0, slots := 0, locals := 0 } : Room).slots) := by
  refine MetFree.of_bodySF (plainFor_of_name pn2) hisR ?_
  intro p e s m args below meth c s₁ Bd hml0 hP hK
  obtain ⟨rfl, hZ, hh⟩ := hP
  have hx := Bd.exec
  have hby := Bd.bytes
  have hml : c.maxLocals = 2 := hml0
  have hown : s.vm.findClass "com/example/castless/castless/PrimitiveArraysBox334PinLaw" = some m.cls := findClass_of_methodNamed Bd.named
  have hnm := (name_of_methodNamed Bd.named Bd.method).1
  have hret := Bd.returns
  have hlk : meth.locks = false := BodyLoose.notSynchronized Bd
  have X0 : Stand p l e ({ frames := 0, cells := 0, slots := 0, locals := 0 } : Room) s m #[(.int p1), (.int (0 : Int32))] below meth c s₁ [] 0 0 := Stand.of_body Bd
  have e0 : s₁.heap = h0 := by rw [← hh, Bd.state]; rfl
  have N0 := Fr.nil n0
  have pre0 : ∀ t, Steps p.tables e below (s₁.setTop (mkF m 0 #[.val (.int p1), .val (.int (0 : Int32))] [])) t → Steps p.tables e below (s₁.setTop (entryFrame m #[(.int p1), (.int (0 : Int32))] 2)) t := fun t k => castTop (ef7 m p1 (0 : Int32)) k
  have pre1 : ∀ t, Steps p.tables e below (s₁.setTop (mkF m 5 #[.val (.int p1), .val (.int (0 : Int32))] [(.int (((p1.toUInt32 >>> ((0 : Int32) &&& 31).toUInt32).toInt32) &&& (1 : Int32)))])) t → Steps p.tables e below (s₁.setTop (entryFrame m #[(.int p1), (.int (0 : Int32))] 2)) t := fun t k => by
    refine pre0 _ ?_
    show Steps p.tables e below (s₁.setTop (mkF m 0 #[.val (.int p1), .val (.int (0 : Int32))] [])) _
    refine XS.iloadN X0.here hx rfl (hb hby d3_0) rfl ?_
    refine XS.iloadN X0.here hx rfl (hb hby d3_1) rfl ?_
    refine XS.iushr X0.here hx rfl (hb hby d3_2) rfl ?_
    refine XS.iconst X0.here hx rfl (hb hby d3_3) ?_
    refine XS.iand X0.here hx rfl (hb hby d3_4) rfl ?_
    exact k
  by_cases hc2 : (((p1.toUInt32 >>> ((0 : Int32) &&& 31).toUInt32).toInt32) &&& (1 : Int32)) = (0 : Int32)
  ·
    have pre3 : ∀ t, Steps p.tables e below (s₁.setTop (mkF m 5 #[.val (.int p1), .val (.int (0 : Int32))] [(.int (0 : Int32))])) t → Steps p.tables e below (s₁.setTop (entryFrame m #[(.int p1), (.int (0 : Int32))] 2)) t := fun t k => pre1 t (by rw [hc2]; exact k)
    obtain ⟨fs, hr, hrun, hended, hW, hsame⟩ := X0.leave (v := some (.int (0 : Int32))) (fun h => by rw [hret] at h; cases h)
    refine ⟨_, _, pre3 _ ?_, hrun, hended, _, _, rfl, ?_, ⟨_, rfl⟩, hW, hsame.mono (by decide) (by decide)⟩
    ·
      show Steps p.tables e below (s₁.setTop (mkF m 5 #[.val (.int p1), .val (.int (0 : Int32))] [(.int (0 : Int32))])) _
      refine XS.ifYes X0.here hx rfl (pc0 := 5) (pc' := 12) rfl (hb hby d3_5) rfl ((if0 _ _).trans (teq (by decide : (0 : Int32) = (0 : Int32))).1) (by decide) (by decide) ?_
      refine XS.iconst X0.here hx rfl (hb hby d3_12) ?_
      show Steps p.tables e below (s₁.setTop (mkF m 13 #[.val (.int p1), .val (.int (0 : Int32))] [(.int (0 : Int32))])) _
      exact retN X0 hx (t := .boolean) hret (by simp) (hb hby d3_13) hr
    ·
      show Q7 Z p1 h0 n0 _ s₁.heap _
      rw [e0]
      exact ⟨(by rw [if_pos hc2]), N0, rfl⟩
  ·
    have hq4 : (((p1.toUInt32 >>> ((0 : Int32) &&& 31).toUInt32).toInt32) &&& (1 : Int32)) = (1 : Int32) := (own_geq (n := 1) (k := (1 : Int32)) (by decide) (by have q0 := own_and (x := ((p1.toUInt32 >>> ((0 : Int32) &&& 31).toUInt32).toInt32)) (k := (1 : Int32)) (n := 1) (by decide) (by decide); have q1 := own_neq (n := 0) (k := (0 : Int32)) (by decide) hc2; omega))
    have pre5 : ∀ t, Steps p.tables e below (s₁.setTop (mkF m 5 #[.val (.int p1), .val (.int (0 : Int32))] [(.int (1 : Int32))])) t → Steps p.tables e below (s₁.setTop (entryFrame m #[(.int p1), (.int (0 : Int32))] 2)) t := fun t k => pre1 t (by rw [hq4]; exact k)
    obtain ⟨fs, hr, hrun, hended, hW, hsame⟩ := X0.leave (v := some (.int (1 : Int32))) (fun h => by rw [hret] at h; cases h)
    refine ⟨_, _, pre5 _ ?_, hrun, hended, _, _, rfl, ?_, ⟨_, rfl⟩, hW, hsame.mono (by decide) (by decide)⟩
    ·
      show Steps p.tables e below (s₁.setTop (mkF m 5 #[.val (.int p1), .val (.int (0 : Int32))] [(.int (1 : Int32))])) _
      refine XS.ifNo X0.here hx rfl (hb hby d3_5) rfl ((if0 _ _).trans (feq (by decide : ¬ ((1 : Int32) = (0 : Int32)))).1) ?_
      refine XS.iconst X0.here hx rfl (hb hby d3_8) ?_
      refine XS.goto X0.here hx rfl (pc0 := 9) (pc' := 13) rfl (hb hby d3_9) (by decide) (by decide) ?_
      show Steps p.tables e below (s₁.setTop (mkF m 13 #[.val (.int p1), .val (.int (0 : Int32))] [(.int (1 : Int32))])) _
      exact retN X0 hx (t := .boolean) hret (by simp) (hb hby d3_13) hr
    ·
      show Q7 Z p1 h0 n0 _ s₁.heap _
      rw [e0]
      exact ⟨(by rw [if_neg hc2]), N0, rfl⟩
theorem pd3 : parseMethodDescriptor "(II)Z" = some ⟨[.int, .int], some .boolean⟩ := by decide +kernel
theorem ef8 (m : MethodId) (x0 : Addr) (x1 : Addr) : entryFrame m #[(.ref x0), (.ref x1)] 2 = mkF m 0 #[.val (.ref x0), .val (.ref x1)] [] := by first | (simp [entryFrame, mkF, argsToLocals, Value.category]; done) | rfl
def Q8 (Z : State) (o1 : Addr) (u2 : Addr) (h0 : Heap) (n0 : Nat) (v : Option Value) (h : Heap) (L : List Loc) : Prop :=
  (v = some (.ref o1) ∧ Fr n0 L ∧ h = h0)
set_option maxRecDepth 65536 in
set_option maxHeartbeats 40000000 in
theorem rm8 (l : Launch) (Z : State) (a0 : Array Value) (hw : ∀ d ∈ tables_1, d.before a0 Z = true) (ws : List Jvm.Cond) (o1 : Addr) (u2 : Addr) (h0 : Heap) (n0 : Nat) (O0 : Old Z n0 h0) (g_o1 : n0 ≤ o1) :
    MetFree l yn0 (head1 (Jvm.Cond.code yn0 jdk_31_method_11_code 2 (some (.object "java/lang/Object")) :: ws) ({ frames := 0, cells := 0, slots := 0, locals := 0 } : Room)) (fun a U => a = #[(.ref o1), (.ref u2)] ∧ Z.Warmed39 U.vm ∧ U.heap = h0) (fun _ _ _ _ _ => True) (fun _ U o U' => ∃ v L, o = .returned v ∧ Q8 Z o1 u2 h0 n0 v U'.heap L ∧ FrameEnd U o U' L ({ frames := 0, cells := 0, slots := 0, locals := 0 } : Room).cells ({ frames := 0, cells := 0, slots := 0, locals := 0 } : Room).slots) := by
  refine MetFree.of_bodySF (plainFor_of_name pn0) hisR ?_
  intro p e s m args below meth c s₁ Bd hml0 hP hK
  obtain ⟨rfl, hZ, hh⟩ := hP
  have hx := Bd.exec
  have hby := Bd.bytes
  have hml : c.maxLocals = 2 := hml0
  have hown : s.vm.findClass "java/util/Objects" = some m.cls := findClass_of_methodNamed Bd.named
  have hnm := (name_of_methodNamed Bd.named Bd.method).1
  have hret := Bd.returns
  have hlk : meth.locks = false := BodyLoose.notSynchronized Bd
  have X0 : Stand p l e ({ frames := 0, cells := 0, slots := 0, locals := 0 } : Room) s m #[(.ref o1), (.ref u2)] below meth c s₁ [] 0 0 := Stand.of_body Bd
  have e0 : s₁.heap = h0 := by rw [← hh, Bd.state]; rfl
  have N0 := Fr.nil n0
  have pre0 : ∀ t, Steps p.tables e below (s₁.setTop (mkF m 0 #[.val (.ref o1), .val (.ref u2)] [])) t → Steps p.tables e below (s₁.setTop (entryFrame m #[(.ref o1), (.ref u2)] 2)) t := fun t k => castTop (ef8 m o1 u2) k
  obtain ⟨fs, hr, hrun, hended, hW, hsame⟩ := X0.leave (v := some (.ref o1)) (fun h => by rw [hret] at h; cases h)
  refine ⟨_, _, pre0 _ ?_, hrun, hended, _, _, rfl, ?_, ⟨_, rfl⟩, hW, hsame.mono (by decide) (by decide)⟩
  ·
    show Steps p.tables e below (s₁.setTop (mkF m 0 #[.val (.ref o1), .val (.ref u2)] [])) _
    refine XS.aloadN X0.here hx rfl (hb hby d1_0) rfl rfl ?_
    refine XS.ifnonnullYes X0.here hx rfl (pc0 := 1) (pc' := 13) rfl (hb hby d1_1) rfl (by decide) (by decide) ?_
    refine XS.aloadN X0.here hx rfl (hb hby d1_13) rfl rfl ?_
    show Steps p.tables e below (s₁.setTop (mkF m 14 #[.val (.ref o1), .val (.ref u2)] [(.ref o1)])) _
    exact retOut X0 hx hret rfl (Or.inr (Or.inr (Or.inr (Or.inr ⟨rfl, rfl, rfl⟩)))) (hb hby d1_14) hr
  ·
    show Q8 Z o1 u2 h0 n0 _ s₁.heap _
    rw [e0]
    exact ⟨rfl, N0, rfl⟩
theorem d0_21 : decode prog_11_method_2_code 21 = .ok (.aload_n 1, 1) := by decide +kernel
theorem d0_22 : decode prog_11_method_2_code 22 = .ok (.iload_n 2, 1) := by decide +kernel
theorem d0_23 : decode prog_11_method_2_code 23 = .ok (.aload_n 0, 1) := by decide +kernel
theorem d0_24 : decode prog_11_method_2_code 24 = .ok (.iload_n 2, 1) := by decide +kernel
theorem d0_25 : decode prog_11_method_2_code 25 = .ok (.baload, 1) := by decide +kernel
theorem d0_26 : decode prog_11_method_2_code 26 = .ok (.invokestatic 19, 3) := by decide +kernel
theorem d4_0 : decode jdk_2055_method_5_code 0 = .ok (.iload_n 0, 1) := by decide +kernel
theorem d4_1 : decode jdk_2055_method_5_code 1 = .ok (.ifCond .eq 9, 3) := by decide +kernel
theorem d4_10 : decode jdk_2055_method_5_code 10 = .ok (.getstatic 31, 3) := by decide +kernel
theorem d4_13 : decode jdk_2055_method_5_code 13 = .ok (.areturn, 1) := by decide +kernel
theorem d4_4 : decode jdk_2055_method_5_code 4 = .ok (.getstatic 27, 3) := by decide +kernel
theorem d4_7 : decode jdk_2055_method_5_code 7 = .ok (.goto 6, 3) := by decide +kernel
theorem pn3 : plainName "java/lang/Boolean" = true := by first | (simp [plainName, overriddenIn]; done) | decide +kernel
theorem ef9 (m : MethodId) (x0 : Int32) : entryFrame m #[(.int x0)] 1 = mkF m 0 #[.val (.int x0)] [] := by first | (simp [entryFrame, mkF, argsToLocals, Value.category]; done) | rfl
def Q9 (Z : State) (w1 : Addr) (w2 : Addr) (p1 : Int32) (h0 : Heap) (n0 : Nat) (v : Option Value) (h : Heap) (L : List Loc) : Prop :=
  (∃ v1 : Addr, v = some (.ref v1) ∧ Fr n0 L ∧ h = h0 ∧ (Exa Z Z.heap v1 "java/lang/Boolean") ∧ (Fld Z Z.heap v1 "java/lang/Boolean" "value" "Z" (.int p1)))
set_option maxRecDepth 65536 in
set_option maxHeartbeats 40000000 in
theorem rm9 (l : Launch) (Z : State) (a0 : Array Value) (hw : ∀ d ∈ tables_1, d.before a0 Z = true) (w1 : Addr) (w2 : Addr) (G : GW Z w1 w2) (ws : List Jvm.Cond) (p1 : Int32) (h0 : Heap) (n0 : Nat) (O0 : Old Z n0 h0) (bd_p1 : 0 ≤ p1.toInt ∧ p1.toInt ≤ 1) :
    MetFree l yn4 (head1 (Jvm.Cond.code yn4 jdk_2055_method_5_code 1 (some (.object "java/lang/Boolean")) :: ws) ({ frames := 0, cells := 0, slots := 0, locals := 0 } : Room)) (fun a U => a = #[(.int p1)] ∧ Z.Warmed39 U.vm ∧ U.heap = h0) (fun _ _ _ _ _ => True) (fun _ U o U' => ∃ v L, o = .returned v ∧ Q9 Z w1 w2 p1 h0 n0 v U'.heap L ∧ FrameEnd U o U' L ({ frames := 0, cells := 0, slots := 0, locals := 0 } : Room).cells ({ frames := 0, cells := 0, slots := 0, locals := 0 } : Room).slots) := by
  obtain ⟨S_w1, E_w1, S_w2, E_w2, F_w1_value, F_w2_value⟩ := id G
  refine MetFree.of_bodySF (plainFor_of_name pn3) hisR ?_
  intro p e s m args below meth c s₁ Bd hml0 hP hK
  obtain ⟨rfl, hZ, hh⟩ := hP
  have hx := Bd.exec
  have hby := Bd.bytes
  have hml : c.maxLocals = 1 := hml0
  have hown : s.vm.findClass "java/lang/Boolean" = some m.cls := findClass_of_methodNamed Bd.named
  have hnm := (name_of_methodNamed Bd.named Bd.method).1
  have hret := Bd.returns
  have hlk : meth.locks = false := BodyLoose.notSynchronized Bd
  have X0 : Stand p l e ({ frames := 0, cells := 0, slots := 0, locals := 0 } : Room) s m #[(.int p1)] below meth c s₁ [] 0 0 := Stand.of_body Bd
  have e0 : s₁.heap = h0 := by rw [← hh, Bd.state]; rfl
  have N0 := Fr.nil n0
  have pre0 : ∀ t, Steps p.tables e below (s₁.setTop (mkF m 0 #[.val (.int p1)] [])) t → Steps p.tables e below (s₁.setTop (entryFrame m #[(.int p1)] 1)) t := fun t k => castTop (ef9 m p1) k
  have pre1 : ∀ t, Steps p.tables e below (s₁.setTop (mkF m 1 #[.val (.int p1)] [(.int p1)])) t → Steps p.tables e below (s₁.setTop (entryFrame m #[(.int p1)] 1)) t := fun t k => by
    refine pre0 _ ?_
    show Steps p.tables e below (s₁.setTop (mkF m 0 #[.val (.int p1)] [])) _
    refine XS.iloadN X0.here hx rfl (hb hby d4_0) rfl ?_
    exact k
  by_cases hc2 : p1 = (0 : Int32)
  ·
    have pre3 : ∀ t, Steps p.tables e below (s₁.setTop (mkF m 1 #[.val (.int (0 : Int32))] [(.int (0 : Int32))])) t → Steps p.tables e below (s₁.setTop (entryFrame m #[(.int p1)] 1)) t := fun t k => pre1 t (by rw [hc2]; exact k)
    obtain ⟨T4, X4, e4, st4⟩ := getS2 X0 hx hZ hown (host := "") (Or.inl (own_w hw 33 rfl)) Via.refl e0 (S_w2.ext O0.2) (g := (mkF m 10 #[.val (.int (0 : Int32))] [])) rfl (hb hby d4_10)
    obtain ⟨fs, hr, hrun, hended, hW, hsame⟩ := X4.leave (v := some (.ref w2)) (fun h => by rw [hret] at h; cases h)
    refine ⟨_, _, pre3 _ ?_, hrun, hended, _, _, rfl, ?_, ⟨_, rfl⟩, hW, hsame.mono (by decide) (by decide)⟩
    ·
      show Steps p.tables e below (s₁.setTop (mkF m 1 #[.val (.int (0 : Int32))] [(.int (0 : Int32))])) _
      refine XS.ifYes X0.here hx rfl (pc0 := 1) (pc' := 10) rfl (hb hby d4_1) rfl ((if0 _ _).trans (teq (by decide : (0 : Int32) = (0 : Int32))).1) (by decide) (by decide) ?_
      refine st4 _ ?_
      show Steps p.tables e below (T4.setTop (mkF m 13 #[.val (.int (0 : Int32))] [(.ref w2)])) _
      exact retOut X4 hx hret rfl (Or.inr (Or.inr (Or.inr (Or.inr ⟨rfl, rfl, rfl⟩)))) (hb hby d4_13) hr
    ·
      show Q9 Z w1 w2 p1 h0 n0 _ T4.heap _
      rw [e4]
      exact ⟨w2, rfl, N0, rfl, E_w2, (by rw [hc2]; exact F_w2_value)⟩
  ·
    have hq5 : p1 = (1 : Int32) := (own_geq (n := 1) (k := (1 : Int32)) (by decide) (by have q0 := bd_p1; have q1 := own_neq (n := 0) (k := (0 : Int32)) (by decide) hc2; omega))
    have pre6 : ∀ t, Steps p.tables e below (s₁.setTop (mkF m 1 #[.val (.int (1 : Int32))] [(.int (1 : Int32))])) t → Steps p.tables e below (s₁.setTop (entryFrame m #[(.int p1)] 1)) t := fun t k => pre1 t (by rw [hq5]; exact k)
    obtain ⟨T7, X7, e7, st7⟩ := getS2 X0 hx hZ hown (host := "") (Or.inl (own_w hw 31 rfl)) Via.refl e0 (S_w1.ext O0.2) (g := (mkF m 4 #[.val (.int (1 : Int32))] [])) rfl (hb hby d4_4)
    obtain ⟨fs, hr, hrun, hended, hW, hsame⟩ := X7.leave (v := some (.ref w1)) (fun h => by rw [hret] at h; cases h)
    refine ⟨_, _, pre6 _ ?_, hrun, hended, _, _, rfl, ?_, ⟨_, rfl⟩, hW, hsame.mono (by decide) (by decide)⟩
    ·
      show Steps p.tables e below (s₁.setTop (mkF m 1 #[.val (.int (1 : Int32))] [(.int (1 : Int32))])) _
      refine XS.ifNo X0.here hx rfl (hb hby d4_1) rfl ((if0 _ _).trans (feq (by decide : ¬ ((1 : Int32) = (0 : Int32)))).1) ?_
      refine st7 _ ?_
      refine XS.goto X7.here hx rfl (pc0 := 7) (pc' := 13) rfl (hb hby d4_7) (by decide) (by decide) ?_
      show Steps p.tables e below (T7.setTop (mkF m 13 #[.val (.int (1 : Int32))] [(.ref w1)])) _
      exact retOut X7 hx hret rfl (Or.inr (Or.inr (Or.inr (Or.inr ⟨rfl, rfl, rfl⟩)))) (hb hby d4_13) hr
    ·
      show Q9 Z w1 w2 p1 h0 n0 _ T7.heap _
      rw [e7]
      exact ⟨w1, rfl, N0, rfl, E_w1, (by rw [hq5]; exact F_w1_value)⟩
theorem pd4 : parseMethodDescriptor "(Z)Ljava/lang/Boolean;" = some ⟨[.boolean], some (.object "java/lang/Boolean")⟩ := by decide +kernel
theorem d0_29 : decode prog_11_method_2_code 29 = .ok (.aastore, 1) := by decide +kernel
theorem d0_30 : decode prog_11_method_2_code 30 = .ok (.iinc 2 1, 3) := by decide +kernel
theorem d0_33 : decode prog_11_method_2_code 33 = .ok (.goto (-18), 3) := by decide +kernel
theorem ef10 (m : MethodId) (x0 : Addr) : entryFrame m #[(.ref x0)] 3 = mkF m 0 #[.val (.ref x0), .unset, .unset] [] := by first | (simp [entryFrame, mkF, argsToLocals, Value.category]; done) | rfl
def Q10 (Z : State) (w1 : Addr) (w2 : Addr) (o1 : Addr) (p3 : Int32) (kc2 : ClassId) (h0 : Heap) (n0 : Nat) (v : Option Value) (h : Heap) (L : List Loc) : Prop :=
  (∃ b7 : Addr, ∃ k7 : ClassId, ∃ v12 : Addr, v = some (.ref b7) ∧ Fr n0 L ∧ Keep h0 h [] ∧ h0.size ≤ b7 ∧ Ovr Z k7 "java/lang/Boolean" ∧ (Arv Z h b7 k7 (.object "java/lang/Boolean") (1 : Int32) [(.ref v12)] .null) ∧ (Exa Z h b7 "[Ljava/lang/Boolean;") ∧ (Exa Z Z.heap v12 "java/lang/Boolean") ∧ (Fld Z Z.heap v12 "java/lang/Boolean" "value" "Z" (.int p3)))
set_option maxRecDepth 65536 in
set_option maxHeartbeats 40000000 in
theorem rm10 (l : Launch) (Z : State) (a0 : Array Value) (hw : ∀ d ∈ tables_1, d.before a0 Z = true) (w1 : Addr) (w2 : Addr) (G : GW Z w1 w2) (ws : List Jvm.Cond) (o1 : Addr) (p3 : Int32) (kc2 : ClassId) (h0 : Heap) (n0 : Nat) (O0 : Old Z n0 h0) (g_o1 : n0 ≤ o1) (bd_p3 : 0 ≤ p3.toInt ∧ p3.toInt ≤ 1) (P0 : Arv Z h0 o1 kc2 .boolean (1 : Int32) [(.int p3)] (.int (0 : Int32))) :
    MetFree l yn1 (head1 (Jvm.Cond.code yn1 prog_11_method_2_code 3 (some (.array (.object "java/lang/Boolean"))) :: ws) ({ frames := 1, cells := 3, slots := 57, locals := 14 } : Room)) (fun a U => a = #[(.ref o1)] ∧ Z.Warmed39 U.vm ∧ U.heap = h0) (fun _ _ _ _ _ => True) (fun _ U o U' => ∃ v L, o = .returned v ∧ Q10 Z w1 w2 o1 p3 kc2 h0 n0 v U'.heap L ∧ ReturnedEndW U o U' L ({ frames := 1, cells := 3, slots := 57, locals := 14 } : Room).cells ({ frames := 1, cells := 3, slots := 57, locals := 14 } : Room).slots) := by
  obtain ⟨S_w1, E_w1, S_w2, E_w2, F_w1_value, F_w2_value⟩ := id G
  refine MetFree.of_bodySF (plainFor_of_name pn1) hisR ?_
  intro p e s m args below meth c s₁ Bd hml0 hP hK
  obtain ⟨rfl, hZ, hh⟩ := hP
  have hx := Bd.exec
  have hby := Bd.bytes
  have hml : c.maxLocals = 3 := hml0
  have hown : s.vm.findClass "com/example/castless/castless/PrimitiveArrays" = some m.cls := findClass_of_methodNamed Bd.named
  have hnm := (name_of_methodNamed Bd.named Bd.method).1
  have hret := Bd.returns
  have hlk : meth.locks = false := BodyLoose.notSynchronized Bd
  have X0 : Stand p l e ({ frames := 1, cells := 3, slots := 57, locals := 14 } : Room) s m #[(.ref o1)] below meth c s₁ [] 0 0 := Stand.of_body Bd
  have e0 : s₁.heap = h0 := by rw [← hh, Bd.state]; rfl
  have N0 := Fr.nil n0
  have pre0 : ∀ t, Steps p.tables e below (s₁.setTop (mkF m 0 #[.val (.ref o1), .unset, .unset] [])) t → Steps p.tables e below (s₁.setTop (entryFrame m #[(.ref o1)] 3)) t := fun t k => castTop (ef10 m o1) k
  obtain ⟨sx1, T1, h1, ks1, X1, e1, E1, hS1, hk1, hZ, hown, st1⟩ := ldcS (s := s) (vm0 := s.vm) X0 hx hZ hown (own_w hw 6 rfl) (own_sa hw) e0 ((State.WarmedH.refl s).since h0.size) (Nat.le_refl _) (g := (mkF m 1 #[.val (.ref o1), .unset, .unset] [(.ref o1)])) rfl (hb hby d0_1) (n := 52) (by decide) (by decide) (by decide) (by decide)
  have M1 : h0.size ≤ h1.size := Nat.le_trans (Nat.le_refl _) E1.1
  have O1 := Old.ext O0 E1
  obtain ⟨_, _, ⟨T2, L2, c2, n2⟩, -, X2, ⟨Lc2, hQ2, l2, y2, z2⟩, st2⟩ := Jvm.LawKit.callS X1 hx (y := yn0) hown (mvT hZ (own_w hw 14 rfl)) (mvT hZ (own_w hw 15 rfl)) (mvT hZ (own_w hw 16 rfl)) (mvT hZ (own_w hw 17 rfl)) (by decide) (backOf (W := 0) (rm8 l Z a0 hw [] o1 sx1 h1 n0 O1 g_o1) hZ (own_w hw 17 rfl) (own_w hw 16 rfl) (by decide) (by decide)) (g := (mkF m 3 #[.val (.ref o1), .unset, .unset] [(.ref sx1), (.ref o1)])) rfl (by rw [hml]; rfl) (argsL := [(.ref o1), (.ref sx1)]) (rest := []) (lenOf pd0 rfl) rfl (by show 2 * 0 + _ ≤ _; exact Nat.le_of_eq rfl) (hb hby d0_3) (fun _ _ => ⟨rfl, e1, (by decide : 2 + 0 ≤ _), (by decide : 56 + 0 ≤ _)⟩)
  dsimp only [Pt.U, Pt.locs, Pt.cells, Pt.slots] at X2 l2 y2 z2 st2 hQ2
  subst l2 y2 z2
  have X2 : Stand p l e ({ frames := 1, cells := 3, slots := 57, locals := 14 } : Room) (s.setVm T1.vm) m #[(.ref o1)] below meth c T2 _ 2 56 := X2
  obtain ⟨rfl, Nq3, e4⟩ := hQ2
  have N2 := Fr.app N0 Nq3
  have f5 := (P0.ext E1)
  obtain ⟨cl6, Ar6, qa6, Sa6, Na6, Ha6, Ga6⟩ := id (f5)
  obtain ⟨T7, h7, k7, X7, e7, E7, A7, EX7, OV7, st7⟩ := newRE X2 hx hZ hown (own_w hw 18 rfl) (own_w hw 19 rfl) e4 (g := (mkF m 9 #[.val (.ref o1), .unset, .unset] [(.int (1 : Int32))])) rfl (hb hby d0_9) rfl (by decide) (cap := 1) (by decide) (by decide) (by decide) (by decide) (ad := "[Ljava/lang/Boolean;") (by decide)
  obtain ⟨b7, g7⟩ : ∃ z, z = h1.size := ⟨_, rfl⟩
  rw [← g7] at A7 EX7 st7
  have hkk7 := Nat.le_trans hk1 E7.1
  have M7 : h0.size ≤ h7.size := Nat.le_trans M1 E7.1
  have O7 := Old.ext O1 E7
  have sz_b7 : h1.size ≤ b7 := Nat.le_of_eq g7.symm
  have g_b7 : n0 ≤ b7 := Nat.le_trans (own_oz O0) (Nat.le_trans M1 sz_b7)
  have V7_0 := Arv.new A7 (by decide)
  have V7 : Arv Z h7 b7 k7 (.object "java/lang/Boolean") (1 : Int32) [.null] .null := V7_0.pad (pad_rep [] .null 1)
  have f8 := (f5.ext E7)
  obtain ⟨cl9, Ar9, qa9, Sa9, Na9, Ha9, Ga9⟩ := id (f8)
  obtain ⟨cl10, Ar10, qa10, Sa10, Na10, Ha10, Ga10⟩ := id (f8)
  have hin10 : ¬ ((0 : Int32) < 0 ∨ cl10.slots.size ≤ ((0 : Int32)).toNatClampNeg) := inb_of Sa10 ⟨by decide, by decide⟩
  have hat10 : cl10.slots[((0 : Int32)).toNatClampNeg]? = some (.int p3) := Has.at Ha10 hin10 rfl
  obtain ⟨_, _, ⟨T11, L11, c11, n11⟩, -, X11, ⟨Lc11, hQ11, l11, y11, z11⟩, st11⟩ := Jvm.LawKit.callS X7 hx (y := yn4) hown (mvT hZ (own_w hw 27 rfl)) (mvT hZ (own_w hw 28 rfl)) (mvT hZ (own_w hw 29 rfl)) (mvT hZ (own_w hw 30 rfl)) (by decide) (backOf (W := 2) (rm9 l Z a0 hw w1 w2 G [] p3 h7 n0 O7 (by have q0 := bd_p3; omega)) hZ (own_w hw 30 rfl) (own_w hw 29 rfl) (by decide) (by decide)) (g := (mkF m 26 #[.val (.ref o1), .val (.ref b7), .val (.int (0 : Int32))] [(.int p3), (.int (0 : Int32)), (.ref b7)])) rfl (by rw [hml]; rfl) (argsL := [(.int p3)]) (rest := [(.int (0 : Int32)), (.ref b7)]) (lenOf pd4 rfl) rfl (by show 2 * 0 + _ ≤ _; exact Nat.le_of_eq rfl) (hb hby d0_26) (fun _ _ => ⟨rfl, e7, (by decide : 3 + 0 ≤ _), (by decide : 57 + 0 ≤ _)⟩)
  dsimp only [Pt.U, Pt.locs, Pt.cells, Pt.slots] at X11 l11 y11 z11 st11 hQ11
  subst l11 y11 z11
  have X11 : Stand p l e ({ frames := 1, cells := 3, slots := 57, locals := 14 } : Room) (s.setVm T1.vm) m #[(.ref o1)] below meth c T11 _ 3 57 := X11
  obtain ⟨v12, rfl, Nq13, e14, f15, f16⟩ := hQ11
  have N11 := Fr.app N2 Nq13
  obtain ⟨cl17, Ar17, qa17, Sa17, Na17, Ha17, Ga17⟩ := id (V7)
  have hin17 : ¬ ((0 : Int32) < 0 ∨ cl17.slots.size ≤ ((0 : Int32)).toNatClampNeg) := inb_of Sa17 ⟨by decide, by decide⟩
  obtain ⟨T18, h18, X18, e18, W18, st18⟩ := stR X11 hx hZ e14 Ar17 (j := (0 : Int32)) hin17 rfl (Sto.ofV Ar17 qa17 OV7 (Ins.self (f15.ext O7.2))) (g := (mkF m 29 #[.val (.ref o1), .val (.ref b7), .val (.int (0 : Int32))] [(.ref v12), (.int (0 : Int32)), (.ref b7)])) rfl rfl (hb hby d0_29)
  have V18 : Arv Z h18 b7 k7 (.object "java/lang/Boolean") (1 : Int32) [(.ref v12)] .null := Arv.set Ar17 qa17 Sa17 Na17 Ha17 Ga17 rfl W18 0 rfl (Nat.le_of_ble_eq_true rfl)
  have N18 := Fr.snoc X18 N11 g_b7
  have hkk18 := Nat.le_trans hkk7 (Nat.le_of_eq W18.size.symm)
  have M18 : h0.size ≤ h18.size := Nat.le_trans M7 (Nat.le_of_eq W18.size.symm)
  have O18 := Old.wr O7 W18 g_b7
  have lt19 : o1 < h1.size := (Nat.lt_of_lt_of_le P0.lt E1.1)
  have ne20 : o1 ≠ b7 := Nat.ne_of_lt (Nat.lt_of_lt_of_le lt19 sz_b7)
  have f21 := (f8.other W18 ne20)
  obtain ⟨cl22, Ar22, qa22, Sa22, Na22, Ha22, Ga22⟩ := id (f21)
  obtain ⟨fs, hr, hrun, hended, hRE⟩ := X18.leaveW hS1 (by rw [e18]; exact hkk18) (v := some (.ref b7)) (fun h => by rw [hret] at h; cases h)
  have KL : Keep h0 h18 [] := ((((Keep.refl h0 []).ext E1).ext E7).wr W18 (Or.inr (Nat.le_trans M1 sz_b7)))
  have f23 := (EX7.wr W18)
  refine ⟨_, _, pre0 _ ?_, hrun, hended, _, _, rfl, ?_, hRE.1, hRE.2.1, hRE.2.2.1, hRE.2.2.2.mono (by decide) (by decide)⟩
  ·
    show Steps p.tables e below (s₁.setTop (mkF m 0 #[.val (.ref o1), .unset, .unset] [])) _
    refine XS.aloadN X0.here hx rfl (hb hby d0_0) rfl rfl ?_
    refine st1 _ ?_
    refine st2 _ ?_
    refine XS.pop X2.here hx rfl (hb hby d0_6) rfl rfl ?_
    refine XS.aloadN X2.here hx rfl (hb hby d0_7) rfl rfl ?_
    refine X2.arraylength hx (by rw [e4]; exact Ar6.1) (State.isArrayOf_alike hZ.alike Ar6.2.1) (g := (mkF m 8 #[.val (.ref o1), .unset, .unset] [(.ref o1)])) rfl rfl (hb hby d0_8) _ ?_
    rw [len_of Sa6 Na6]
    refine st7 _ ?_
    refine XS.astoreN X7.here hx rfl (hb hby d0_12) rfl rfl (l' := #[.val (.ref o1), .val (.ref b7), .unset]) rfl ?_
    refine XS.iconst X7.here hx rfl (hb hby d0_13) ?_
    refine XS.istoreN X7.here hx rfl (hb hby d0_14) rfl (l' := #[.val (.ref o1), .val (.ref b7), .val (.int (0 : Int32))]) rfl ?_
    refine XS.iloadN X7.here hx rfl (hb hby d0_15) rfl ?_
    refine XS.aloadN X7.here hx rfl (hb hby d0_16) rfl rfl ?_
    refine X7.arraylength hx (by rw [e7]; exact Ar9.1) (State.isArrayOf_alike hZ.alike Ar9.2.1) (g := (mkF m 17 #[.val (.ref o1), .val (.ref b7), .val (.int (0 : Int32))] [(.ref o1), (.int (0 : Int32))])) rfl rfl (hb hby d0_17) _ ?_
    rw [len_of Sa9 Na9]
    refine XS.icmpNo X7.here hx rfl (hb hby d0_18) rfl (tlt (by decide : (0 : Int32) < (1 : Int32))).2.1 ?_
    refine XS.aloadN X7.here hx rfl (hb hby d0_21) rfl rfl ?_
    refine XS.iloadN X7.here hx rfl (hb hby d0_22) rfl ?_
    refine XS.aloadN X7.here hx rfl (hb hby d0_23) rfl rfl ?_
    refine XS.iloadN X7.here hx rfl (hb hby d0_24) rfl ?_
    refine X7.baloadBooleans hx (j := (0 : Int32)) (v := (.int p3)) (by rw [e7]; exact Ar10.1) (State.isArrayOf_alike hZ.alike Ar10.2.1) Ar10.2.2 hin10 hat10 (g := (mkF m 25 #[.val (.ref o1), .val (.ref b7), .val (.int (0 : Int32))] [(.int (0 : Int32)), (.ref o1), (.int (0 : Int32)), (.ref b7)])) rfl rfl (hb hby d0_25) _ ?_
    refine st11 _ ?_
    refine st18 _ ?_
    refine XS.iinc X18.here hx rfl (hb hby d0_30) rfl (l' := #[.val (.ref o1), .val (.ref b7), .val (.int (1 : Int32))]) rfl ?_
    refine XS.goto X18.here hx rfl (pc0 := 33) (pc' := 15) rfl (hb hby d0_33) (by decide) (by decide) ?_
    refine XS.iloadN X18.here hx rfl (hb hby d0_15) rfl ?_
    refine XS.aloadN X18.here hx rfl (hb hby d0_16) rfl rfl ?_
    refine X18.arraylength hx (by rw [e18]; exact Ar22.1) (State.isArrayOf_alike hZ.alike Ar22.2.1) (g := (mkF m 17 #[.val (.ref o1), .val (.ref b7), .val (.int (1 : Int32))] [(.ref o1), (.int (1 : Int32))])) rfl rfl (hb hby d0_17) _ ?_
    rw [len_of Sa22 Na22]
    refine XS.icmpYes X18.here hx rfl (pc0 := 18) (pc' := 36) rfl (hb hby d0_18) rfl (flt (by decide : ¬ ((1 : Int32) < (1 : Int32)))).2.1 (by decide) (by decide) ?_
    refine XS.aloadN X18.here hx rfl (hb hby d0_36) rfl rfl ?_
    show Steps p.tables e below (T18.setTop (mkF m 37 #[.val (.ref o1), .val (.ref b7), .val (.int (1 : Int32))] [(.ref b7)])) _
    exact retOut X18 hx hret rfl (Or.inr (Or.inr (Or.inr (Or.inr ⟨rfl, rfl, rfl⟩)))) (hb hby d0_37) hr
  ·
    show Q10 Z w1 w2 o1 p3 kc2 h0 n0 _ T18.heap _
    rw [e18]
    exact ⟨b7, k7, v12, rfl, N18, KL, (Nat.le_trans M1 sz_b7), OV7, V18, f23, f15, f16⟩
theorem d2_8 : decode method_4_code 8 = .ok (.iload_n 3, 1) := by decide +kernel
theorem d2_9 : decode method_4_code 9 = .ok (.iload 4, 2) := by decide +kernel
theorem d2_11 : decode method_4_code 11 = .ok (.invokestatic 8, 3) := by decide +kernel
theorem d2_14 : decode method_4_code 14 = .ok (.istore 5, 2) := by decide +kernel
theorem d2_16 : decode method_4_code 16 = .ok (.aload_n 1, 1) := by decide +kernel
theorem d2_17 : decode method_4_code 17 = .ok (.iload 4, 2) := by decide +kernel
theorem d2_19 : decode method_4_code 19 = .ok (.baload, 1) := by decide +kernel
theorem d2_20 : decode method_4_code 20 = .ok (.iload 5, 2) := by decide +kernel
theorem d2_22 : decode method_4_code 22 = .ok (.if_icmp .eq 5, 3) := by decide +kernel
theorem d2_27 : decode method_4_code 27 = .ok (.aload_n 0, 1) := by decide +kernel
theorem d2_28 : decode method_4_code 28 = .ok (.iload 4, 2) := by decide +kernel
theorem d2_30 : decode method_4_code 30 = .ok (.aaload, 1) := by decide +kernel
theorem d2_31 : decode method_4_code 31 = .ok (.astore 6, 2) := by decide +kernel
theorem d2_33 : decode method_4_code 33 = .ok (.aload 6, 2) := by decide +kernel
theorem d2_35 : decode method_4_code 35 = .ok (.ifnonnull 5, 3) := by decide +kernel
theorem d2_40 : decode method_4_code 40 = .ok (.aload 6, 2) := by decide +kernel
theorem d2_42 : decode method_4_code 42 = .ok (.invokevirtual 24, 3) := by decide +kernel
theorem d5_0 : decode jdk_2055_method_4_code 0 = .ok (.aload_n 0, 1) := by decide +kernel
theorem d5_1 : decode jdk_2055_method_4_code 1 = .ok (.getfield 7, 3) := by decide +kernel
theorem d5_4 : decode jdk_2055_method_4_code 4 = .ok (.ireturn, 1) := by decide +kernel
theorem ef11 (m : MethodId) (x0 : Addr) : entryFrame m #[(.ref x0)] 1 = mkF m 0 #[.val (.ref x0)] [] := by first | (simp [entryFrame, mkF, argsToLocals, Value.category]; done) | rfl
def Q11 (Z : State) (p2 : Int32) (v1 : Addr) (h0 : Heap) (n0 : Nat) (v : Option Value) (h : Heap) (L : List Loc) : Prop :=
  (v = some (.int p2) ∧ Fr n0 L ∧ h = h0)
set_option maxRecDepth 65536 in
set_option maxHeartbeats 40000000 in
theorem rm11 (l : Launch) (Z : State) (a0 : Array Value) (hw : ∀ d ∈ tables_1, d.before a0 Z = true) (ws : List Jvm.Cond) (p2 : Int32) (v1 : Addr) (h0 : Heap) (n0 : Nat) (O0 : Old Z n0 h0) (bd_p2 : 0 ≤ p2.toInt ∧ p2.toInt ≤ 1) (P1 : Fld Z Z.heap v1 "java/lang/Boolean" "value" "Z" (.int p2)) :
    MetFree l yn5 (head1 (Jvm.Cond.code yn5 jdk_2055_method_4_code 1 (some .boolean) :: ws) ({ frames := 0, cells := 0, slots := 0, locals := 0 } : Room)) (fun a U => a = #[(.ref v1)] ∧ Z.Warmed39 U.vm ∧ U.heap = h0) (fun _ _ _ _ _ => True) (fun _ U o U' => ∃ v L, o = .returned v ∧ Q11 Z p2 v1 h0 n0 v U'.heap L ∧ FrameEnd U o U' L ({ frames := 0, cells := 0, slots := 0, locals := 0 } : Room).cells ({ frames := 0, cells := 0, slots := 0, locals := 0 } : Room).slots) := by
  refine MetFree.of_bodySF (plainFor_of_name pn3) hisR ?_
  intro p e s m args below meth c s₁ Bd hml0 hP hK
  obtain ⟨rfl, hZ, hh⟩ := hP
  have hx := Bd.exec
  have hby := Bd.bytes
  have hml : c.maxLocals = 1 := hml0
  have hown : s.vm.findClass "java/lang/Boolean" = some m.cls := findClass_of_methodNamed Bd.named
  have hnm := (name_of_methodNamed Bd.named Bd.method).1
  have hret := Bd.returns
  have hlk : meth.locks = false := BodyLoose.notSynchronized Bd
  have X0 : Stand p l e ({ frames := 0, cells := 0, slots := 0, locals := 0 } : Room) s m #[(.ref v1)] below meth c s₁ [] 0 0 := Stand.of_body Bd
  have e0 : s₁.heap = h0 := by rw [← hh, Bd.state]; rfl
  have N0 := Fr.nil n0
  have pre0 : ∀ t, Steps p.tables e below (s₁.setTop (mkF m 0 #[.val (.ref v1)] [])) t → Steps p.tables e below (s₁.setTop (entryFrame m #[(.ref v1)] 1)) t := fun t k => castTop (ef11 m v1) k
  obtain ⟨T1, X1, e1, st1⟩ := getF X0 hx hZ hown (host := "") (Or.inl (own_w hw 39 rfl)) Via.refl e0 (P1.ext O0.2) (g := (mkF m 1 #[.val (.ref v1)] [(.ref v1)])) rfl rfl (hb hby d5_1)
  obtain ⟨fs, hr, hrun, hended, hW, hsame⟩ := X1.leave (v := some (.int p2)) (fun h => by rw [hret] at h; cases h)
  have hnr := own_nz (x := p2) (by have q0 := bd_p2; omega)
  refine ⟨_, _, pre0 _ ?_, hrun, hended, _, _, rfl, ?_, ⟨_, rfl⟩, hW, hsame.mono (by decide) (by decide)⟩
  ·
    show Steps p.tables e below (s₁.setTop (mkF m 0 #[.val (.ref v1)] [])) _
    refine XS.aloadN X0.here hx rfl (hb hby d5_0) rfl rfl ?_
    refine st1 _ ?_
    show Steps p.tables e below (T1.setTop (mkF m 4 #[.val (.ref v1)] [(.int p2)])) _
    exact retN X1 hx (t := .boolean) hret (by simp) (hb hby d5_4) (by rw [hnr]; exact hr)
  ·
    show Q11 Z p2 v1 h0 n0 _ T1.heap _
    rw [e1]
    exact ⟨rfl, N0, rfl⟩
theorem pd5 : parseMethodDescriptor "()Z" = some ⟨[], some .boolean⟩ := by decide +kernel
theorem d2_45 : decode method_4_code 45 = .ok (.istore 7, 2) := by decide +kernel
theorem d2_47 : decode method_4_code 47 = .ok (.iload 7, 2) := by decide +kernel
theorem d2_49 : decode method_4_code 49 = .ok (.iload 5, 2) := by decide +kernel
theorem d2_51 : decode method_4_code 51 = .ok (.if_icmp .ne 7, 3) := by decide +kernel
theorem d2_54 : decode method_4_code 54 = .ok (.iconst 1, 1) := by decide +kernel
theorem d2_55 : decode method_4_code 55 = .ok (.goto 4, 3) := by decide +kernel
theorem d2_59 : decode method_4_code 59 = .ok (.ireturn, 1) := by decide +kernel
theorem d2_58 : decode method_4_code 58 = .ok (.iconst 0, 1) := by decide +kernel
theorem d2_25 : decode method_4_code 25 = .ok (.iconst 0, 1) := by decide +kernel
theorem d2_26 : decode method_4_code 26 = .ok (.ireturn, 1) := by decide +kernel
theorem ef12 (m : MethodId) (x0 : Addr) (x1 : Addr) (x2 : Int32) (x3 : Int32) (x4 : Int32) : entryFrame m #[(.ref x0), (.ref x1), (.int x2), (.int x3), (.int x4)] 8 = mkF m 0 #[.val (.ref x0), .val (.ref x1), .val (.int x2), .val (.int x3), .val (.int x4), .unset, .unset, .unset] [] := by first | (simp [entryFrame, mkF, argsToLocals, Value.category]; done) | rfl
def Q12 (Z : State) (o1 : Addr) (o2 : Addr) (kc4 : ClassId) (p7 : Int32) (p8 : Int32) (v5 : Addr) (kc6 : ClassId) (p3 : Int32) (h0 : Heap) (n0 : Nat) (v : Option Value) (h : Heap) (L : List Loc) : Prop :=
  ((p7 = (if (((p3.toUInt32 >>> ((0 : Int32) &&& 31).toUInt32).toInt32) &&& (1 : Int32)) = (0 : Int32) then (0 : Int32) else (1 : Int32))) ∧ (p8 = (if (((p3.toUInt32 >>> ((0 : Int32) &&& 31).toUInt32).toInt32) &&& (1 : Int32)) = (0 : Int32) then (0 : Int32) else (1 : Int32))) ∧ v = some (.int (1 : Int32)) ∧ Fr n0 L ∧ h = h0)
  ∨ ((p7 = (if (((p3.toUInt32 >>> ((0 : Int32) &&& 31).toUInt32).toInt32) &&& (1 : Int32)) = (0 : Int32) then (0 : Int32) else (1 : Int32))) ∧ (¬ (p8 = (if (((p3.toUInt32 >>> ((0 : Int32) &&& 31).toUInt32).toInt32) &&& (1 : Int32)) = (0 : Int32) then (0 : Int32) else (1 : Int32)))) ∧ v = some (.int (0 : Int32)) ∧ Fr n0 L ∧ h = h0)
  ∨ ((¬ (p7 = (if (((p3.toUInt32 >>> ((0 : Int32) &&& 31).toUInt32).toInt32) &&& (1 : Int32)) = (0 : Int32) then (0 : Int32) else (1 : Int32)))) ∧ v = some (.int (0 : Int32)) ∧ Fr n0 L ∧ h = h0)
set_option maxRecDepth 65536 in
set_option maxHeartbeats 40000000 in
theorem rm12 (l : Launch) (Z : State) (a0 : Array Value) (hw : ∀ d ∈ tables_1, d.before a0 Z = true) (ws : List Jvm.Cond) (o1 : Addr) (o2 : Addr) (kc4 : ClassId) (p7 : Int32) (p8 : Int32) (v5 : Addr) (kc6 : ClassId) (p3 : Int32) (h0 : Heap) (n0 : Nat) (O0 : Old Z n0 h0) (g_o1 : n0 ≤ o1) (g_o2 : n0 ≤ o2) (Ov_kc4 : Ovr Z kc4 "java/lang/Boolean") (bd_p7 : 0 ≤ p7.toInt ∧ p7.toInt ≤ 1) (bd_p8 : 0 ≤ p8.toInt ∧ p8.toInt ≤ 1) (P0 : Arv Z h0 o1 kc4 (.object "java/lang/Boolean") (1 : Int32) [(.ref v5)] .null) (P2 : Arv Z h0 o2 kc6 .boolean (1 : Int32) [(.int p7)] (.int (0 : Int32))) (P4 : Exa Z Z.heap v5 "java/lang/Boolean") (P5 : Fld Z Z.heap v5 "java/lang/Boolean" "value" "Z" (.int p8)) :
    MetFree l yn2 (head1 (Jvm.Cond.code yn2 method_4_code 8 (some .boolean) :: ws) ({ frames := 1, cells := 0, slots := 0, locals := 13 } : Room)) (fun a U => a = #[(.ref o1), (.ref o2), (.int (1 : Int32)), (.int p3), (.int (0 : Int32))] ∧ Z.Warmed39 U.vm ∧ U.heap = h0) (fun _ _ _ _ _ => True) (fun _ U o U' => ∃ v L, o = .returned v ∧ Q12 Z o1 o2 kc4 p7 p8 v5 kc6 p3 h0 n0 v U'.heap L ∧ FrameEnd U o U' L ({ frames := 1, cells := 0, slots := 0, locals := 13 } : Room).cells ({ frames := 1, cells := 0, slots := 0, locals := 13 } : Room).slots) := by
  refine MetFree.of_bodySF (plainFor_of_name pn2) hisR ?_
  intro p e s m args below meth c s₁ Bd hml0 hP hK
  obtain ⟨rfl, hZ, hh⟩ := hP
  have hx := Bd.exec
  have hby := Bd.bytes
  have hml : c.maxLocals = 8 := hml0
  have hown : s.vm.findClass "com/example/castless/castless/PrimitiveArraysBox334PinLaw" = some m.cls := findClass_of_methodNamed Bd.named
  have hnm := (name_of_methodNamed Bd.named Bd.method).1
  have hret := Bd.returns
  have hlk : meth.locks = false := BodyLoose.notSynchronized Bd
  have X0 : Stand p l e ({ frames := 1, cells := 0, slots := 0, locals := 13 } : Room) s m #[(.ref o1), (.ref o2), (.int (1 : Int32)), (.int p3), (.int (0 : Int32))] below meth c s₁ [] 0 0 := Stand.of_body Bd
  have e0 : s₁.heap = h0 := by rw [← hh, Bd.state]; rfl
  have N0 := Fr.nil n0
  have pre0 : ∀ t, Steps p.tables e below (s₁.setTop (mkF m 0 #[.val (.ref o1), .val (.ref o2), .val (.int (1 : Int32)), .val (.int p3), .val (.int (0 : Int32)), .unset, .unset, .unset] [])) t → Steps p.tables e below (s₁.setTop (entryFrame m #[(.ref o1), (.ref o2), (.int (1 : Int32)), (.int p3), (.int (0 : Int32))] 8)) t := fun t k => castTop (ef12 m o1 o2 (1 : Int32) p3 (0 : Int32)) k
  obtain ⟨_, _, ⟨T1, L1, c1, n1⟩, -, X1, ⟨Lc1, hQ1, l1, y1, z1⟩, st1⟩ := Jvm.LawKit.callS X0 hx (y := yn3) hown (mvT hZ (own_w hw 24 rfl)) (mvT hZ (own_w hw 25 rfl)) (mvT hZ (own_w hw 22 rfl)) (mvT hZ (own_w hw 26 rfl)) (by decide) (backOf (W := 0) (rm7 l Z a0 hw [] p3 h0 n0 O0 ) hZ (own_w hw 26 rfl) (own_w hw 22 rfl) (by decide) (by decide)) (g := (mkF m 11 #[.val (.ref o1), .val (.ref o2), .val (.int (1 : Int32)), .val (.int p3), .val (.int (0 : Int32)), .unset, .unset, .unset] [(.int (0 : Int32)), (.int p3)])) rfl (by rw [hml]; rfl) (argsL := [(.int p3), (.int (0 : Int32))]) (rest := []) (lenOf pd3 rfl) rfl (by show 2 * 0 + _ ≤ _; exact Nat.le_of_eq rfl) (hb hby d2_11) (fun _ _ => ⟨rfl, e0, (by decide : 0 + 0 ≤ _), (by decide : 0 + 0 ≤ _)⟩)
  dsimp only [Pt.U, Pt.locs, Pt.cells, Pt.slots] at X1 l1 y1 z1 st1 hQ1
  subst l1 y1 z1
  have X1 : Stand p l e ({ frames := 1, cells := 0, slots := 0, locals := 13 } : Room) s m #[(.ref o1), (.ref o2), (.int (1 : Int32)), (.int p3), (.int (0 : Int32))] below meth c T1 _ 0 0 := X1
  obtain ⟨rfl, Nq2, e3⟩ := hQ1
  have N1 := Fr.app N0 Nq2
  obtain ⟨cl4, Ar4, qa4, Sa4, Na4, Ha4, Ga4⟩ := id (P2)
  have hin4 : ¬ ((0 : Int32) < 0 ∨ cl4.slots.size ≤ ((0 : Int32)).toNatClampNeg) := inb_of Sa4 ⟨by decide, by decide⟩
  have hat4 : cl4.slots[((0 : Int32)).toNatClampNeg]? = some (.int p7) := Has.at Ha4 hin4 rfl
  have pre5 : ∀ t, Steps p.tables e below (T1.setTop (mkF m 22 #[.val (.ref o1), .val (.ref o2), .val (.int (1 : Int32)), .val (.int p3), .val (.int (0 : Int32)), .val (.int (if (((p3.toUInt32 >>> ((0 : Int32) &&& 31).toUInt32).toInt32) &&& (1 : Int32)) = (0 : Int32) then (0 : Int32) else (1 : Int32))), .unset, .unset] [(.int (if (((p3.toUInt32 >>> ((0 : Int32) &&& 31).toUInt32).toInt32) &&& (1 : Int32)) = (0 : Int32) then (0 : Int32) else (1 : Int32))), (.int p7)])) t → Steps p.tables e below (s₁.setTop (entryFrame m #[(.ref o1), (.ref o2), (.int (1 : Int32)), (.int p3), (.int (0 : Int32))] 8)) t := fun t k => by
    refine pre0 _ ?_
    show Steps p.tables e below (s₁.setTop (mkF m 0 #[.val (.ref o1), .val (.ref o2), .val (.int (1 : Int32)), .val (.int p3), .val (.int (0 : Int32)), .unset, .unset, .unset] [])) _
    refine XS.iload X0.here hx rfl (hb hby d2_0) rfl ?_
    refine XS.iloadN X0.here hx rfl (hb hby d2_2) rfl ?_
    refine XS.icmpYes X0.here hx rfl (pc0 := 3) (pc' := 8) rfl (hb hby d2_3) rfl (tlt (by decide : (0 : Int32) < (1 : Int32))).1 (by decide) (by decide) ?_
    refine XS.iloadN X0.here hx rfl (hb hby d2_8) rfl ?_
    refine XS.iload X0.here hx rfl (hb hby d2_9) rfl ?_
    refine st1 _ ?_
    refine XS.istore X1.here hx rfl (hb hby d2_14) rfl (l' := #[.val (.ref o1), .val (.ref o2), .val (.int (1 : Int32)), .val (.int p3), .val (.int (0 : Int32)), .val (.int (if (((p3.toUInt32 >>> ((0 : Int32) &&& 31).toUInt32).toInt32) &&& (1 : Int32)) = (0 : Int32) then (0 : Int32) else (1 : Int32))), .unset, .unset]) rfl ?_
    refine XS.aloadN X1.here hx rfl (hb hby d2_16) rfl rfl ?_
    refine XS.iload X1.here hx rfl (hb hby d2_17) rfl ?_
    refine X1.baloadBooleans hx (j := (0 : Int32)) (v := (.int p7)) (by rw [e3]; exact Ar4.1) (State.isArrayOf_alike hZ.alike Ar4.2.1) Ar4.2.2 hin4 hat4 (g := (mkF m 19 #[.val (.ref o1), .val (.ref o2), .val (.int (1 : Int32)), .val (.int p3), .val (.int (0 : Int32)), .val (.int (if (((p3.toUInt32 >>> ((0 : Int32) &&& 31).toUInt32).toInt32) &&& (1 : Int32)) = (0 : Int32) then (0 : Int32) else (1 : Int32))), .unset, .unset] [(.int (0 : Int32)), (.ref o2)])) rfl rfl (hb hby d2_19) _ ?_
    refine XS.iload X1.here hx rfl (hb hby d2_20) rfl ?_
    exact k
  by_cases hc6 : p7 = (if (((p3.toUInt32 >>> ((0 : Int32) &&& 31).toUInt32).toInt32) &&& (1 : Int32)) = (0 : Int32) then (0 : Int32) else (1 : Int32))
  ·
    obtain ⟨cl7, Ar7, qa7, Sa7, Na7, Ha7, Ga7⟩ := id (P0)
    have hin7 : ¬ ((0 : Int32) < 0 ∨ cl7.slots.size ≤ ((0 : Int32)).toNatClampNeg) := inb_of Sa7 ⟨by decide, by decide⟩
    have hat7 : cl7.slots[((0 : Int32)).toNatClampNeg]? = some (.ref v5) := Has.at Ha7 hin7 rfl
    obtain ⟨cq8, kq8, q8a, q8b, q8c⟩ := isOf hZ e3 (P4.ext O0.2)
    obtain ⟨_, _, ⟨T9, L9, c9, n9⟩, -, X9, ⟨Lc9, hQ9, l9, y9, z9⟩, st9⟩ := X1.virtualBack hx (y := yn5) (z := yn5) hown (mvT hZ (own_w hw 34 rfl)) (mvT hZ (own_w hw 35 rfl)) (notFace_of_selects (args := #[]) (mvT hZ (own_w hw 37 rfl))) (mvT hZ (own_w hw 37 rfl)) (mvT hZ (own_w hw 36 rfl)) (by decide) (backOf (W := 0) (rm11 l Z a0 hw [] p8 v5 h0 n0 O0 (by have q0 := bd_p8; omega) P5) hZ (own_w hw 38 rfl) (own_w hw 29 rfl) (by decide) (by decide)) q8a q8c (g := (mkF m 42 #[.val (.ref o1), .val (.ref o2), .val (.int (1 : Int32)), .val (.int p3), .val (.int (0 : Int32)), .val (.int (if (((p3.toUInt32 >>> ((0 : Int32) &&& 31).toUInt32).toInt32) &&& (1 : Int32)) = (0 : Int32) then (0 : Int32) else (1 : Int32))), .val (.ref v5), .unset] [(.ref v5)])) rfl (by rw [hml]; rfl) (Steps.refl _) (argsL := []) (rest := []) (lenOf pd5 rfl) rfl (by show 2 * 0 + _ ≤ _; exact Nat.le_of_eq rfl) (hb hby d2_42) (fun _ _ => ⟨rfl, e3, (by decide : 0 + 0 ≤ _), (by decide : 0 + 0 ≤ _)⟩)
    dsimp only [Pt.U, Pt.locs, Pt.cells, Pt.slots] at X9 l9 y9 z9 st9 hQ9
    subst l9 y9 z9
    have X9 : Stand p l e ({ frames := 1, cells := 0, slots := 0, locals := 13 } : Room) s m #[(.ref o1), (.ref o2), (.int (1 : Int32)), (.int p3), (.int (0 : Int32))] below meth c T9 _ 0 0 := X9
    obtain ⟨rfl, Nq10, e11⟩ := hQ9
    have N9 := Fr.app N1 Nq10
    have pre12 : ∀ t, Steps p.tables e below (T9.setTop (mkF m 51 #[.val (.ref o1), .val (.ref o2), .val (.int (1 : Int32)), .val (.int p3), .val (.int (0 : Int32)), .val (.int (if (((p3.toUInt32 >>> ((0 : Int32) &&& 31).toUInt32).toInt32) &&& (1 : Int32)) = (0 : Int32) then (0 : Int32) else (1 : Int32))), .val (.ref v5), .val (.int p8)] [(.int (if (((p3.toUInt32 >>> ((0 : Int32) &&& 31).toUInt32).toInt32) &&& (1 : Int32)) = (0 : Int32) then (0 : Int32) else (1 : Int32))), (.int p8)])) t → Steps p.tables e below (s₁.setTop (entryFrame m #[(.ref o1), (.ref o2), (.int (1 : Int32)), (.int p3), (.int (0 : Int32))] 8)) t := fun t k => by
      refine pre5 _ ?_
      show Steps p.tables e below (T1.setTop (mkF m 22 #[.val (.ref o1), .val (.ref o2), .val (.int (1 : Int32)), .val (.int p3), .val (.int (0 : Int32)), .val (.int (if (((p3.toUInt32 >>> ((0 : Int32) &&& 31).toUInt32).toInt32) &&& (1 : Int32)) = (0 : Int32) then (0 : Int32) else (1 : Int32))), .unset, .unset] [(.int (if (((p3.toUInt32 >>> ((0 : Int32) &&& 31).toUInt32).toInt32) &&& (1 : Int32)) = (0 : Int32) then (0 : Int32) else (1 : Int32))), (.int p7)])) _
      refine XS.icmpYes X1.here hx rfl (pc0 := 22) (pc' := 27) rfl (hb hby d2_22) rfl (teq hc6).1 (by decide) (by decide) ?_
      refine XS.aloadN X1.here hx rfl (hb hby d2_27) rfl rfl ?_
      refine XS.iload X1.here hx rfl (hb hby d2_28) rfl ?_
      refine X1.aaload hx (j := (0 : Int32)) (v := (.ref v5)) (by rw [e3]; exact Ar7.1) (State.isArrayOf_alike hZ.alike Ar7.2.1) rfl Ar7.2.2 hin7 hat7 (g := (mkF m 30 #[.val (.ref o1), .val (.ref o2), .val (.int (1 : Int32)), .val (.int p3), .val (.int (0 : Int32)), .val (.int (if (((p3.toUInt32 >>> ((0 : Int32) &&& 31).toUInt32).toInt32) &&& (1 : Int32)) = (0 : Int32) then (0 : Int32) else (1 : Int32))), .unset, .unset] [(.int (0 : Int32)), (.ref o1)])) rfl rfl (hb hby d2_30) _ ?_
      refine XS.astore X1.here hx rfl (hb hby d2_31) rfl rfl (l' := #[.val (.ref o1), .val (.ref o2), .val (.int (1 : Int32)), .val (.int p3), .val (.int (0 : Int32)), .val (.int (if (((p3.toUInt32 >>> ((0 : Int32) &&& 31).toUInt32).toInt32) &&& (1 : Int32)) = (0 : Int32) then (0 : Int32) else (1 : Int32))), .val (.ref v5), .unset]) rfl ?_
      refine XS.aload X1.here hx rfl (hb hby d2_33) rfl rfl ?_
      refine XS.ifnonnullYes X1.here hx rfl (pc0 := 35) (pc' := 40) rfl (hb hby d2_35) rfl (by decide) (by decide) ?_
      refine XS.aload X1.here hx rfl (hb hby d2_40) rfl rfl ?_
      refine st9.trans ?_
      refine XS.istore X9.here hx rfl (hb hby d2_45) rfl (l' := #[.val (.ref o1), .val (.ref o2), .val (.int (1 : Int32)), .val (.int p3), .val (.int (0 : Int32)), .val (.int (if (((p3.toUInt32 >>> ((0 : Int32) &&& 31).toUInt32).toInt32) &&& (1 : Int32)) = (0 : Int32) then (0 : Int32) else (1 : Int32))), .val (.ref v5), .val (.int p8)]) rfl ?_
      refine XS.iload X9.here hx rfl (hb hby d2_47) rfl ?_
      refine XS.iload X9.here hx rfl (hb hby d2_49) rfl ?_
      exact k
    by_cases hc13 : p8 = (if (((p3.toUInt32 >>> ((0 : Int32) &&& 31).toUInt32).toInt32) &&& (1 : Int32)) = (0 : Int32) then (0 : Int32) else (1 : Int32))
    ·
      obtain ⟨fs, hr, hrun, hended, hW, hsame⟩ := X9.leave (v := some (.int (1 : Int32))) (fun h => by rw [hret] at h; cases h)
      refine ⟨_, _, pre12 _ ?_, hrun, hended, _, _, rfl, ?_, ⟨_, rfl⟩, hW, hsame.mono (by decide) (by decide)⟩
      ·
        show Steps p.tables e below (T9.setTop (mkF m 51 #[.val (.ref o1), .val (.ref o2), .val (.int (1 : Int32)), .val (.int p3), .val (.int (0 : Int32)), .val (.int (if (((p3.toUInt32 >>> ((0 : Int32) &&& 31).toUInt32).toInt32) &&& (1 : Int32)) = (0 : Int32) then (0 : Int32) else (1 : Int32))), .val (.ref v5), .val (.int p8)] [(.int (if (((p3.toUInt32 >>> ((0 : Int32) &&& 31).toUInt32).toInt32) &&& (1 : Int32)) = (0 : Int32) then (0 : Int32) else (1 : Int32))), (.int p8)])) _
        refine XS.icmpNo X9.here hx rfl (hb hby d2_51) rfl (teq hc13).2 ?_
        refine XS.iconst X9.here hx rfl (hb hby d2_54) ?_
        refine XS.goto X9.here hx rfl (pc0 := 55) (pc' := 59) rfl (hb hby d2_55) (by decide) (by decide) ?_
        show Steps p.tables e below (T9.setTop (mkF m 59 #[.val (.ref o1), .val (.ref o2), .val (.int (1 : Int32)), .val (.int p3), .val (.int (0 : Int32)), .val (.int (if (((p3.toUInt32 >>> ((0 : Int32) &&& 31).toUInt32).toInt32) &&& (1 : Int32)) = (0 : Int32) then (0 : Int32) else (1 : Int32))), .val (.ref v5), .val (.int p8)] [(.int (1 : Int32))])) _
        exact retN X9 hx (t := .boolean) hret (by simp) (hb hby d2_59) hr
      ·
        show Q12 Z o1 o2 kc4 p7 p8 v5 kc6 p3 h0 n0 _ T9.heap _
        rw [e11]
        exact (Or.inl ⟨hc6, hc13, rfl, N9, rfl⟩)
    ·
      obtain ⟨fs, hr, hrun, hended, hW, hsame⟩ := X9.leave (v := some (.int (0 : Int32))) (fun h => by rw [hret] at h; cases h)
      refine ⟨_, _, pre12 _ ?_, hrun, hended, _, _, rfl, ?_, ⟨_, rfl⟩, hW, hsame.mono (by decide) (by decide)⟩
      ·
        show Steps p.tables e below (T9.setTop (mkF m 51 #[.val (.ref o1), .val (.ref o2), .val (.int (1 : Int32)), .val (.int p3), .val (.int (0 : Int32)), .val (.int (if (((p3.toUInt32 >>> ((0 : Int32) &&& 31).toUInt32).toInt32) &&& (1 : Int32)) = (0 : Int32) then (0 : Int32) else (1 : Int32))), .val (.ref v5), .val (.int p8)] [(.int (if (((p3.toUInt32 >>> ((0 : Int32) &&& 31).toUInt32).toInt32) &&& (1 : Int32)) = (0 : Int32) then (0 : Int32) else (1 : Int32))), (.int p8)])) _
        refine XS.icmpYes X9.here hx rfl (pc0 := 51) (pc' := 58) rfl (hb hby d2_51) rfl (feq hc13).2 (by decide) (by decide) ?_
        refine XS.iconst X9.here hx rfl (hb hby d2_58) ?_
        show Steps p.tables e below (T9.setTop (mkF m 59 #[.val (.ref o1), .val (.ref o2), .val (.int (1 : Int32)), .val (.int p3), .val (.int (0 : Int32)), .val (.int (if (((p3.toUInt32 >>> ((0 : Int32) &&& 31).toUInt32).toInt32) &&& (1 : Int32)) = (0 : Int32) then (0 : Int32) else (1 : Int32))), .val (.ref v5), .val (.int p8)] [(.int (0 : Int32))])) _
        exact retN X9 hx (t := .boolean) hret (by simp) (hb hby d2_59) hr
      ·
        show Q12 Z o1 o2 kc4 p7 p8 v5 kc6 p3 h0 n0 _ T9.heap _
        rw [e11]
        exact (Or.inr (Or.inl ⟨hc6, hc13, rfl, N9, rfl⟩))
  ·
    obtain ⟨fs, hr, hrun, hended, hW, hsame⟩ := X1.leave (v := some (.int (0 : Int32))) (fun h => by rw [hret] at h; cases h)
    refine ⟨_, _, pre5 _ ?_, hrun, hended, _, _, rfl, ?_, ⟨_, rfl⟩, hW, hsame.mono (by decide) (by decide)⟩
    ·
      show Steps p.tables e below (T1.setTop (mkF m 22 #[.val (.ref o1), .val (.ref o2), .val (.int (1 : Int32)), .val (.int p3), .val (.int (0 : Int32)), .val (.int (if (((p3.toUInt32 >>> ((0 : Int32) &&& 31).toUInt32).toInt32) &&& (1 : Int32)) = (0 : Int32) then (0 : Int32) else (1 : Int32))), .unset, .unset] [(.int (if (((p3.toUInt32 >>> ((0 : Int32) &&& 31).toUInt32).toInt32) &&& (1 : Int32)) = (0 : Int32) then (0 : Int32) else (1 : Int32))), (.int p7)])) _
      refine XS.icmpNo X1.here hx rfl (hb hby d2_22) rfl (feq hc6).1 ?_
      refine XS.iconst X1.here hx rfl (hb hby d2_25) ?_
      show Steps p.tables e below (T1.setTop (mkF m 26 #[.val (.ref o1), .val (.ref o2), .val (.int (1 : Int32)), .val (.int p3), .val (.int (0 : Int32)), .val (.int (if (((p3.toUInt32 >>> ((0 : Int32) &&& 31).toUInt32).toInt32) &&& (1 : Int32)) = (0 : Int32) then (0 : Int32) else (1 : Int32))), .unset, .unset] [(.int (0 : Int32))])) _
      exact retN X1 hx (t := .boolean) hret (by simp) (hb hby d2_26) hr
    ·
      show Q12 Z o1 o2 kc4 p7 p8 v5 kc6 p3 h0 n0 _ T1.heap _
      rw [e3]
      exact (Or.inr (Or.inr ⟨hc6, rfl, N1, rfl⟩))
theorem ef13 (m : MethodId) (x0 : Addr) (x1 : Addr) (x2 : Int32) (x3 : Int32) (x4 : Int32) : entryFrame m #[(.ref x0), (.ref x1), (.int x2), (.int x3), (.int x4)] 8 = mkF m 0 #[.val (.ref x0), .val (.ref x1), .val (.int x2), .val (.int x3), .val (.int x4), .unset, .unset, .unset] [] := by first | (simp [entryFrame, mkF, argsToLocals, Value.category]; done) | rfl
def Q13 (Z : State) (o1 : Addr) (o2 : Addr) (kc4 : ClassId) (p7 : Int32) (p8 : Int32) (p3 : Int32) (h0 : Heap) (n0 : Nat) (v : Option Value) (h : Heap) (L : List Loc) : Prop :=
  (v = some (.int (1 : Int32)) ∧ Fr n0 L ∧ h = h0)
set_option maxRecDepth 65536 in
set_option maxHeartbeats 40000000 in
theorem rm13 (l : Launch) (Z : State) (a0 : Array Value) (hw : ∀ d ∈ tables_1, d.before a0 Z = true) (ws : List Jvm.Cond) (o1 : Addr) (o2 : Addr) (kc4 : ClassId) (p7 : Int32) (p8 : Int32) (p3 : Int32) (h0 : Heap) (n0 : Nat) (O0 : Old Z n0 h0) (g_o1 : n0 ≤ o1) (g_o2 : n0 ≤ o2) (Ov_kc4 : Ovr Z kc4 "java/lang/Boolean") (bd_p7 : 0 ≤ p7.toInt ∧ p7.toInt ≤ 1) (bd_p8 : 0 ≤ p8.toInt ∧ p8.toInt ≤ 1) :
    MetFree l yn2 (head1 (Jvm.Cond.code yn2 method_4_code 8 (some .boolean) :: ws) ({ frames := 0, cells := 0, slots := 0, locals := 0 } : Room)) (fun a U => a = #[(.ref o1), (.ref o2), (.int (1 : Int32)), (.int p3), (.int (1 : Int32))] ∧ Z.Warmed39 U.vm ∧ U.heap = h0) (fun _ _ _ _ _ => True) (fun _ U o U' => ∃ v L, o = .returned v ∧ Q13 Z o1 o2 kc4 p7 p8 p3 h0 n0 v U'.heap L ∧ FrameEnd U o U' L ({ frames := 0, cells := 0, slots := 0, locals := 0 } : Room).cells ({ frames := 0, cells := 0, slots := 0, locals := 0 } : Room).slots) := by
  refine MetFree.of_bodySF (plainFor_of_name pn2) hisR ?_
  intro p e s m args below meth c s₁ Bd hml0 hP hK
  obtain ⟨rfl, hZ, hh⟩ := hP
  have hx := Bd.exec
  have hby := Bd.bytes
  have hml : c.maxLocals = 8 := hml0
  have hown : s.vm.findClass "com/example/castless/castless/PrimitiveArraysBox334PinLaw" = some m.cls := findClass_of_methodNamed Bd.named
  have hnm := (name_of_methodNamed Bd.named Bd.method).1
  have hret := Bd.returns
  have hlk : meth.locks = false := BodyLoose.notSynchronized Bd
  have X0 : Stand p l e ({ frames := 0, cells := 0, slots := 0, locals := 0 } : Room) s m #[(.ref o1), (.ref o2), (.int (1 : Int32)), (.int p3), (.int (1 : Int32))] below meth c s₁ [] 0 0 := Stand.of_body Bd
  have e0 : s₁.heap = h0 := by rw [← hh, Bd.state]; rfl
  have N0 := Fr.nil n0
  have pre0 : ∀ t, Steps p.tables e below (s₁.setTop (mkF m 0 #[.val (.ref o1), .val (.ref o2), .val (.int (1 : Int32)), .val (.int p3), .val (.int (1 : Int32)), .unset, .unset, .unset] [])) t → Steps p.tables e below (s₁.setTop (entryFrame m #[(.ref o1), (.ref o2), (.int (1 : Int32)), (.int p3), (.int (1 : Int32))] 8)) t := fun t k => castTop (ef13 m o1 o2 (1 : Int32) p3 (1 : Int32)) k
  obtain ⟨fs, hr, hrun, hended, hW, hsame⟩ := X0.leave (v := some (.int (1 : Int32))) (fun h => by rw [hret] at h; cases h)
  refine ⟨_, _, pre0 _ ?_, hrun, hended, _, _, rfl, ?_, ⟨_, rfl⟩, hW, hsame.mono (by decide) (by decide)⟩
  ·
    show Steps p.tables e below (s₁.setTop (mkF m 0 #[.val (.ref o1), .val (.ref o2), .val (.int (1 : Int32)), .val (.int p3), .val (.int (1 : Int32)), .unset, .unset, .unset] [])) _
    refine XS.iload X0.here hx rfl (hb hby d2_0) rfl ?_
    refine XS.iloadN X0.here hx rfl (hb hby d2_2) rfl ?_
    refine XS.icmpNo X0.here hx rfl (hb hby d2_3) rfl (flt (by decide : ¬ ((1 : Int32) < (1 : Int32)))).1 ?_
    refine XS.iconst X0.here hx rfl (hb hby d2_6) ?_
    show Steps p.tables e below (s₁.setTop (mkF m 7 #[.val (.ref o1), .val (.ref o2), .val (.int (1 : Int32)), .val (.int p3), .val (.int (1 : Int32)), .unset, .unset, .unset] [(.int (1 : Int32))])) _
    exact retN X0 hx (t := .boolean) hret (by simp) (hb hby d2_7) hr
  ·
    show Q13 Z o1 o2 kc4 p7 p8 p3 h0 n0 _ s₁.heap _
    rw [e0]
    exact ⟨rfl, N0, rfl⟩
theorem ef14 (m : MethodId) (x0 : Addr) (x1 : Addr) (x2 : Int32) (x3 : Int32) (x4 : Int32) : entryFrame m #[(.ref x0), (.ref x1), (.int x2), (.int x3), (.int x4)] 8 = mkF m 0 #[.val (.ref x0), .val (.ref x1), .val (.int x2), .val (.int x3), .val (.int x4), .unset, .unset, .unset] [] := by first | (simp [entryFrame, mkF, argsToLocals, Value.category]; done) | rfl
def Q14 (Z : State) (o1 : Addr) (o2 : Addr) (kc4 : ClassId) (p7 : Int32) (p8 : Int32) (p3 : Int32) (h0 : Heap) (n0 : Nat) (v : Option Value) (h : Heap) (L : List Loc) : Prop :=
  (v = some (.int (1 : Int32)) ∧ Fr n0 L ∧ h = h0)
set_option maxRecDepth 65536 in
set_option maxHeartbeats 40000000 in
theorem rm14 (l : Launch) (Z : State) (a0 : Array Value) (hw : ∀ d ∈ tables_1, d.before a0 Z = true) (ws : List Jvm.Cond) (o1 : Addr) (o2 : Addr) (kc4 : ClassId) (p7 : Int32) (p8 : Int32) (p3 : Int32) (h0 : Heap) (n0 : Nat) (O0 : Old Z n0 h0) (g_o1 : n0 ≤ o1) (g_o2 : n0 ≤ o2) (Ov_kc4 : Ovr Z kc4 "java/lang/Boolean") (bd_p7 : 0 ≤ p7.toInt ∧ p7.toInt ≤ 1) (bd_p8 : 0 ≤ p8.toInt ∧ p8.toInt ≤ 1) :
    MetFree l yn2 (head1 (Jvm.Cond.code yn2 method_4_code 8 (some .boolean) :: ws) ({ frames := 0, cells := 0, slots := 0, locals := 0 } : Room)) (fun a U => a = #[(.ref o1), (.ref o2), (.int (1 : Int32)), (.int p3), (.int (2 : Int32))] ∧ Z.Warmed39 U.vm ∧ U.heap = h0) (fun _ _ _ _ _ => True) (fun _ U o U' => ∃ v L, o = .returned v ∧ Q14 Z o1 o2 kc4 p7 p8 p3 h0 n0 v U'.heap L ∧ FrameEnd U o U' L ({ frames := 0, cells := 0, slots := 0, locals := 0 } : Room).cells ({ frames := 0, cells := 0, slots := 0, locals := 0 } : Room).slots) := by
  refine MetFree.of_bodySF (plainFor_of_name pn2) hisR ?_
  intro p e s m args below meth c s₁ Bd hml0 hP hK
  obtain ⟨rfl, hZ, hh⟩ := hP
  have hx := Bd.exec
  have hby := Bd.bytes
  have hml : c.maxLocals = 8 := hml0
  have hown : s.vm.findClass "com/example/castless/castless/PrimitiveArraysBox334PinLaw" = some m.cls := findClass_of_methodNamed Bd.named
  have hnm := (name_of_methodNamed Bd.named Bd.method).1
  have hret := Bd.returns
  have hlk : meth.locks = false := BodyLoose.notSynchronized Bd
  have X0 : Stand p l e ({ frames := 0, cells := 0, slots := 0, locals := 0 } : Room) s m #[(.ref o1), (.ref o2), (.int (1 : Int32)), (.int p3), (.int (2 : Int32))] below meth c s₁ [] 0 0 := Stand.of_body Bd
  have e0 : s₁.heap = h0 := by rw [← hh, Bd.state]; rfl
  have N0 := Fr.nil n0
  have pre0 : ∀ t, Steps p.tables e below (s₁.setTop (mkF m 0 #[.val (.ref o1), .val (.ref o2), .val (.int (1 : Int32)), .val (.int p3), .val (.int (2 : Int32)), .unset, .unset, .unset] [])) t → Steps p.tables e below (s₁.setTop (entryFrame m #[(.ref o1), (.ref o2), (.int (1 : Int32)), (.int p3), (.int (2 : Int32))] 8)) t := fun t k => castTop (ef14 m o1 o2 (1 : Int32) p3 (2 : Int32)) k
  obtain ⟨fs, hr, hrun, hended, hW, hsame⟩ := X0.leave (v := some (.int (1 : Int32))) (fun h => by rw [hret] at h; cases h)
  refine ⟨_, _, pre0 _ ?_, hrun, hended, _, _, rfl, ?_, ⟨_, rfl⟩, hW, hsame.mono (by decide) (by decide)⟩
  ·
    show Steps p.tables e below (s₁.setTop (mkF m 0 #[.val (.ref o1), .val (.ref o2), .val (.int (1 : Int32)), .val (.int p3), .val (.int (2 : Int32)), .unset, .unset, .unset] [])) _
    refine XS.iload X0.here hx rfl (hb hby d2_0) rfl ?_
    refine XS.iloadN X0.here hx rfl (hb hby d2_2) rfl ?_
    refine XS.icmpNo X0.here hx rfl (hb hby d2_3) rfl (flt (by decide : ¬ ((2 : Int32) < (1 : Int32)))).1 ?_
    refine XS.iconst X0.here hx rfl (hb hby d2_6) ?_
    show Steps p.tables e below (s₁.setTop (mkF m 7 #[.val (.ref o1), .val (.ref o2), .val (.int (1 : Int32)), .val (.int p3), .val (.int (2 : Int32)), .unset, .unset, .unset] [(.int (1 : Int32))])) _
    exact retN X0 hx (t := .boolean) hret (by simp) (hb hby d2_7) hr
  ·
    show Q14 Z o1 o2 kc4 p7 p8 p3 h0 n0 _ s₁.heap _
    rw [e0]
    exact ⟨rfl, N0, rfl⟩
theorem ef15 (m : MethodId) (x0 : Addr) (x1 : Addr) (x2 : Int32) (x3 : Int32) (x4 : Int32) : entryFrame m #[(.ref x0), (.ref x1), (.int x2), (.int x3), (.int x4)] 8 = mkF m 0 #[.val (.ref x0), .val (.ref x1), .val (.int x2), .val (.int x3), .val (.int x4), .unset, .unset, .unset] [] := by first | (simp [entryFrame, mkF, argsToLocals, Value.category]; done) | rfl
def Q15 (Z : State) (o1 : Addr) (o2 : Addr) (kc4 : ClassId) (p7 : Int32) (p8 : Int32) (p3 : Int32) (h0 : Heap) (n0 : Nat) (v : Option Value) (h : Heap) (L : List Loc) : Prop :=
  (v = some (.int (1 : Int32)) ∧ Fr n0 L ∧ h = h0)
set_option maxRecDepth 65536 in
set_option maxHeartbeats 40000000 in
theorem rm15 (l : Launch) (Z : State) (a0 : Array Value) (hw : ∀ d ∈ tables_1, d.before a0 Z = true) (ws : List Jvm.Cond) (o1 : Addr) (o2 : Addr) (kc4 : ClassId) (p7 : Int32) (p8 : Int32) (p3 : Int32) (h0 : Heap) (n0 : Nat) (O0 : Old Z n0 h0) (g_o1 : n0 ≤ o1) (g_o2 : n0 ≤ o2) (Ov_kc4 : Ovr Z kc4 "java/lang/Boolean") (bd_p7 : 0 ≤ p7.toInt ∧ p7.toInt ≤ 1) (bd_p8 : 0 ≤ p8.toInt ∧ p8.toInt ≤ 1) :
    MetFree l yn2 (head1 (Jvm.Cond.code yn2 method_4_code 8 (some .boolean) :: ws) ({ frames := 0, cells := 0, slots := 0, locals := 0 } : Room)) (fun a U => a = #[(.ref o1), (.ref o2), (.int (1 : Int32)), (.int p3), (.int (3 : Int32))] ∧ Z.Warmed39 U.vm ∧ U.heap = h0) (fun _ _ _ _ _ => True) (fun _ U o U' => ∃ v L, o = .returned v ∧ Q15 Z o1 o2 kc4 p7 p8 p3 h0 n0 v U'.heap L ∧ FrameEnd U o U' L ({ frames := 0, cells := 0, slots := 0, locals := 0 } : Room).cells ({ frames := 0, cells := 0, slots := 0, locals := 0 } : Room).slots) := by
  refine MetFree.of_bodySF (plainFor_of_name pn2) hisR ?_
  intro p e s m args below meth c s₁ Bd hml0 hP hK
  obtain ⟨rfl, hZ, hh⟩ := hP
  have hx := Bd.exec
  have hby := Bd.bytes
  have hml : c.maxLocals = 8 := hml0
  have hown : s.vm.findClass "com/example/castless/castless/PrimitiveArraysBox334PinLaw" = some m.cls := findClass_of_methodNamed Bd.named
  have hnm := (name_of_methodNamed Bd.named Bd.method).1
  have hret := Bd.returns
  have hlk : meth.locks = false := BodyLoose.notSynchronized Bd
  have X0 : Stand p l e ({ frames := 0, cells := 0, slots := 0, locals := 0 } : Room) s m #[(.ref o1), (.ref o2), (.int (1 : Int32)), (.int p3), (.int (3 : Int32))] below meth c s₁ [] 0 0 := Stand.of_body Bd
  have e0 : s₁.heap = h0 := by rw [← hh, Bd.state]; rfl
  have N0 := Fr.nil n0
  have pre0 : ∀ t, Steps p.tables e below (s₁.setTop (mkF m 0 #[.val (.ref o1), .val (.ref o2), .val (.int (1 : Int32)), .val (.int p3), .val (.int (3 : Int32)), .unset, .unset, .unset] [])) t → Steps p.tables e below (s₁.setTop (entryFrame m #[(.ref o1), (.ref o2), (.int (1 : Int32)), (.int p3), (.int (3 : Int32))] 8)) t := fun t k => castTop (ef15 m o1 o2 (1 : Int32) p3 (3 : Int32)) k
  obtain ⟨fs, hr, hrun, hended, hW, hsame⟩ := X0.leave (v := some (.int (1 : Int32))) (fun h => by rw [hret] at h; cases h)
  refine ⟨_, _, pre0 _ ?_, hrun, hended, _, _, rfl, ?_, ⟨_, rfl⟩, hW, hsame.mono (by decide) (by decide)⟩
  ·
    show Steps p.tables e below (s₁.setTop (mkF m 0 #[.val (.ref o1), .val (.ref o2), .val (.int (1 : Int32)), .val (.int p3), .val (.int (3 : Int32)), .unset, .unset, .unset] [])) _
    refine XS.iload X0.here hx rfl (hb hby d2_0) rfl ?_
    refine XS.iloadN X0.here hx rfl (hb hby d2_2) rfl ?_
    refine XS.icmpNo X0.here hx rfl (hb hby d2_3) rfl (flt (by decide : ¬ ((3 : Int32) < (1 : Int32)))).1 ?_
    refine XS.iconst X0.here hx rfl (hb hby d2_6) ?_
    show Steps p.tables e below (s₁.setTop (mkF m 7 #[.val (.ref o1), .val (.ref o2), .val (.int (1 : Int32)), .val (.int p3), .val (.int (3 : Int32)), .unset, .unset, .unset] [(.int (1 : Int32))])) _
    exact retN X0 hx (t := .boolean) hret (by simp) (hb hby d2_7) hr
  ·
    show Q15 Z o1 o2 kc4 p7 p8 p3 h0 n0 _ s₁.heap _
    rw [e0]
    exact ⟨rfl, N0, rfl⟩
theorem ef16 (m : MethodId) (x0 : Int32) (x1 : Int32) : entryFrame m #[(.int x0), (.int x1)] 2 = mkF m 0 #[.val (.int x0), .val (.int x1)] [] := by first | (simp [entryFrame, mkF, argsToLocals, Value.category]; done) | rfl
def Q16 (Z : State) (p1 : Int32) (h0 : Heap) (n0 : Nat) (v : Option Value) (h : Heap) (L : List Loc) : Prop :=
  (v = some (.int (if (((p1.toUInt32 >>> ((1 : Int32) &&& 31).toUInt32).toInt32) &&& (1 : Int32)) = (0 : Int32) then (0 : Int32) else (1 : Int32))) ∧ Fr n0 L ∧ h = h0)
set_option maxRecDepth 65536 in
set_option maxHeartbeats 40000000 in
theorem rm16 (l : Launch) (Z : State) (a0 : Array Value) (hw : ∀ d ∈ tables_1, d.before a0 Z = true) (ws : List Jvm.Cond) (p1 : Int32) (h0 : Heap) (n0 : Nat) (O0 : Old Z n0 h0) :
    MetFree l yn3 (head1 (Jvm.Cond.code yn3 method_3_code 2 (some .boolean) :: ws) ({ frames := 0, cells := 0, slots := 0, locals := 0 } : Room)) (fun a U => a = #[(.int p1), (.int (1 : Int32))] ∧ Z.Warmed39 U.vm ∧ U.heap = h0) (fun _ _ _ _ _ => True) (fun _ U o U' => ∃ v L, o = .returned v ∧ Q16 Z p1 h0 n0 v U'.heap L ∧ FrameEnd U o U' L ({ frames := 0, cells := 0, slots := 0, locals := 0 } : Room).cells ({ frames := 0, cells := 0, slots := 0, locals := 0 } : Room).slots) := by
  refine MetFree.of_bodySF (plainFor_of_name pn2) hisR ?_
  intro p e s m args below meth c s₁ Bd hml0 hP hK
  obtain ⟨rfl, hZ, hh⟩ := hP
  have hx := Bd.exec
  have hby := Bd.bytes
  have hml : c.maxLocals = 2 := hml0
  have hown : s.vm.findClass "com/example/castless/castless/PrimitiveArraysBox334PinLaw" = some m.cls := findClass_of_methodNamed Bd.named
  have hnm := (name_of_methodNamed Bd.named Bd.method).1
  have hret := Bd.returns
  have hlk : meth.locks = false := BodyLoose.notSynchronized Bd
  have X0 : Stand p l e ({ frames := 0, cells := 0, slots := 0, locals := 0 } : Room) s m #[(.int p1), (.int (1 : Int32))] below meth c s₁ [] 0 0 := Stand.of_body Bd
  have e0 : s₁.heap = h0 := by rw [← hh, Bd.state]; rfl
  have N0 := Fr.nil n0
  have pre0 : ∀ t, Steps p.tables e below (s₁.setTop (mkF m 0 #[.val (.int p1), .val (.int (1 : Int32))] [])) t → Steps p.tables e below (s₁.setTop (entryFrame m #[(.int p1), (.int (1 : Int32))] 2)) t := fun t k => castTop (ef16 m p1 (1 : Int32)) k
  have pre1 : ∀ t, Steps p.tables e below (s₁.setTop (mkF m 5 #[.val (.int p1), .val (.int (1 : Int32))] [(.int (((p1.toUInt32 >>> ((1 : Int32) &&& 31).toUInt32).toInt32) &&& (1 : Int32)))])) t → Steps p.tables e below (s₁.setTop (entryFrame m #[(.int p1), (.int (1 : Int32))] 2)) t := fun t k => by
    refine pre0 _ ?_
    show Steps p.tables e below (s₁.setTop (mkF m 0 #[.val (.int p1), .val (.int (1 : Int32))] [])) _
    refine XS.iloadN X0.here hx rfl (hb hby d3_0) rfl ?_
    refine XS.iloadN X0.here hx rfl (hb hby d3_1) rfl ?_
    refine XS.iushr X0.here hx rfl (hb hby d3_2) rfl ?_
    refine XS.iconst X0.here hx rfl (hb hby d3_3) ?_
    refine XS.iand X0.here hx rfl (hb hby d3_4) rfl ?_
    exact k
  by_cases hc2 : (((p1.toUInt32 >>> ((1 : Int32) &&& 31).toUInt32).toInt32) &&& (1 : Int32)) = (0 : Int32)
  ·
    have pre3 : ∀ t, Steps p.tables e below (s₁.setTop (mkF m 5 #[.val (.int p1), .val (.int (1 : Int32))] [(.int (0 : Int32))])) t → Steps p.tables e below (s₁.setTop (entryFrame m #[(.int p1), (.int (1 : Int32))] 2)) t := fun t k => pre1 t (by rw [hc2]; exact k)
    obtain ⟨fs, hr, hrun, hended, hW, hsame⟩ := X0.leave (v := some (.int (0 : Int32))) (fun h => by rw [hret] at h; cases h)
    refine ⟨_, _, pre3 _ ?_, hrun, hended, _, _, rfl, ?_, ⟨_, rfl⟩, hW, hsame.mono (by decide) (by decide)⟩
    ·
      show Steps p.tables e below (s₁.setTop (mkF m 5 #[.val (.int p1), .val (.int (1 : Int32))] [(.int (0 : Int32))])) _
      refine XS.ifYes X0.here hx rfl (pc0 := 5) (pc' := 12) rfl (hb hby d3_5) rfl ((if0 _ _).trans (teq (by decide : (0 : Int32) = (0 : Int32))).1) (by decide) (by decide) ?_
      refine XS.iconst X0.here hx rfl (hb hby d3_12) ?_
      show Steps p.tables e below (s₁.setTop (mkF m 13 #[.val (.int p1), .val (.int (1 : Int32))] [(.int (0 : Int32))])) _
      exact retN X0 hx (t := .boolean) hret (by simp) (hb hby d3_13) hr
    ·
      show Q16 Z p1 h0 n0 _ s₁.heap _
      rw [e0]
      exact ⟨(by rw [if_pos hc2]), N0, rfl⟩
  ·
    have hq4 : (((p1.toUInt32 >>> ((1 : Int32) &&& 31).toUInt32).toInt32) &&& (1 : Int32)) = (1 : Int32) := (own_geq (n := 1) (k := (1 : Int32)) (by decide) (by have q0 := own_and (x := ((p1.toUInt32 >>> ((1 : Int32) &&& 31).toUInt32).toInt32)) (k := (1 : Int32)) (n := 1) (by decide) (by decide); have q1 := own_neq (n := 0) (k := (0 : Int32)) (by decide) hc2; omega))
    have pre5 : ∀ t, Steps p.tables e below (s₁.setTop (mkF m 5 #[.val (.int p1), .val (.int (1 : Int32))] [(.int (1 : Int32))])) t → Steps p.tables e below (s₁.setTop (entryFrame m #[(.int p1), (.int (1 : Int32))] 2)) t := fun t k => pre1 t (by rw [hq4]; exact k)
    obtain ⟨fs, hr, hrun, hended, hW, hsame⟩ := X0.leave (v := some (.int (1 : Int32))) (fun h => by rw [hret] at h; cases h)
    refine ⟨_, _, pre5 _ ?_, hrun, hended, _, _, rfl, ?_, ⟨_, rfl⟩, hW, hsame.mono (by decide) (by decide)⟩
    ·
      show Steps p.tables e below (s₁.setTop (mkF m 5 #[.val (.int p1), .val (.int (1 : Int32))] [(.int (1 : Int32))])) _
      refine XS.ifNo X0.here hx rfl (hb hby d3_5) rfl ((if0 _ _).trans (feq (by decide : ¬ ((1 : Int32) = (0 : Int32)))).1) ?_
      refine XS.iconst X0.here hx rfl (hb hby d3_8) ?_
      refine XS.goto X0.here hx rfl (pc0 := 9) (pc' := 13) rfl (hb hby d3_9) (by decide) (by decide) ?_
      show Steps p.tables e below (s₁.setTop (mkF m 13 #[.val (.int p1), .val (.int (1 : Int32))] [(.int (1 : Int32))])) _
      exact retN X0 hx (t := .boolean) hret (by simp) (hb hby d3_13) hr
    ·
      show Q16 Z p1 h0 n0 _ s₁.heap _
      rw [e0]
      exact ⟨(by rw [if_neg hc2]), N0, rfl⟩
theorem ef17 (m : MethodId) (x0 : Addr) (x1 : Addr) : entryFrame m #[(.ref x0), (.ref x1)] 2 = mkF m 0 #[.val (.ref x0), .val (.ref x1)] [] := by first | (simp [entryFrame, mkF, argsToLocals, Value.category]; done) | rfl
def Q17 (Z : State) (o1 : Addr) (u2 : Addr) (h0 : Heap) (n0 : Nat) (v : Option Value) (h : Heap) (L : List Loc) : Prop :=
  (v = some (.ref o1) ∧ Fr n0 L ∧ h = h0)
set_option maxRecDepth 65536 in
set_option maxHeartbeats 40000000 in
theorem rm17 (l : Launch) (Z : State) (a0 : Array Value) (hw : ∀ d ∈ tables_1, d.before a0 Z = true) (ws : List Jvm.Cond) (o1 : Addr) (u2 : Addr) (h0 : Heap) (n0 : Nat) (O0 : Old Z n0 h0) (g_o1 : n0 ≤ o1) :
    MetFree l yn0 (head1 (Jvm.Cond.code yn0 jdk_31_method_11_code 2 (some (.object "java/lang/Object")) :: ws) ({ frames := 0, cells := 0, slots := 0, locals := 0 } : Room)) (fun a U => a = #[(.ref o1), (.ref u2)] ∧ Z.Warmed39 U.vm ∧ U.heap = h0) (fun _ _ _ _ _ => True) (fun _ U o U' => ∃ v L, o = .returned v ∧ Q17 Z o1 u2 h0 n0 v U'.heap L ∧ FrameEnd U o U' L ({ frames := 0, cells := 0, slots := 0, locals := 0 } : Room).cells ({ frames := 0, cells := 0, slots := 0, locals := 0 } : Room).slots) := by
  refine MetFree.of_bodySF (plainFor_of_name pn0) hisR ?_
  intro p e s m args below meth c s₁ Bd hml0 hP hK
  obtain ⟨rfl, hZ, hh⟩ := hP
  have hx := Bd.exec
  have hby := Bd.bytes
  have hml : c.maxLocals = 2 := hml0
  have hown : s.vm.findClass "java/util/Objects" = some m.cls := findClass_of_methodNamed Bd.named
  have hnm := (name_of_methodNamed Bd.named Bd.method).1
  have hret := Bd.returns
  have hlk : meth.locks = false := BodyLoose.notSynchronized Bd
  have X0 : Stand p l e ({ frames := 0, cells := 0, slots := 0, locals := 0 } : Room) s m #[(.ref o1), (.ref u2)] below meth c s₁ [] 0 0 := Stand.of_body Bd
  have e0 : s₁.heap = h0 := by rw [← hh, Bd.state]; rfl
  have N0 := Fr.nil n0
  have pre0 : ∀ t, Steps p.tables e below (s₁.setTop (mkF m 0 #[.val (.ref o1), .val (.ref u2)] [])) t → Steps p.tables e below (s₁.setTop (entryFrame m #[(.ref o1), (.ref u2)] 2)) t := fun t k => castTop (ef17 m o1 u2) k
  obtain ⟨fs, hr, hrun, hended, hW, hsame⟩ := X0.leave (v := some (.ref o1)) (fun h => by rw [hret] at h; cases h)
  refine ⟨_, _, pre0 _ ?_, hrun, hended, _, _, rfl, ?_, ⟨_, rfl⟩, hW, hsame.mono (by decide) (by decide)⟩
  ·
    show Steps p.tables e below (s₁.setTop (mkF m 0 #[.val (.ref o1), .val (.ref u2)] [])) _
    refine XS.aloadN X0.here hx rfl (hb hby d1_0) rfl rfl ?_
    refine XS.ifnonnullYes X0.here hx rfl (pc0 := 1) (pc' := 13) rfl (hb hby d1_1) rfl (by decide) (by decide) ?_
    refine XS.aloadN X0.here hx rfl (hb hby d1_13) rfl rfl ?_
    show Steps p.tables e below (s₁.setTop (mkF m 14 #[.val (.ref o1), .val (.ref u2)] [(.ref o1)])) _
    exact retOut X0 hx hret rfl (Or.inr (Or.inr (Or.inr (Or.inr ⟨rfl, rfl, rfl⟩)))) (hb hby d1_14) hr
  ·
    show Q17 Z o1 u2 h0 n0 _ s₁.heap _
    rw [e0]
    exact ⟨rfl, N0, rfl⟩
theorem ef18 (m : MethodId) (x0 : Addr) : entryFrame m #[(.ref x0)] 3 = mkF m 0 #[.val (.ref x0), .unset, .unset] [] := by first | (simp [entryFrame, mkF, argsToLocals, Value.category]; done) | rfl
def Q18 (Z : State) (w1 : Addr) (w2 : Addr) (o1 : Addr) (p3 : Int32) (p4 : Int32) (kc2 : ClassId) (h0 : Heap) (n0 : Nat) (v : Option Value) (h : Heap) (L : List Loc) : Prop :=
  (∃ b7 : Addr, ∃ k7 : ClassId, ∃ v12 : Addr, ∃ v25 : Addr, v = some (.ref b7) ∧ Fr n0 L ∧ Keep h0 h [] ∧ h0.size ≤ b7 ∧ Ovr Z k7 "java/lang/Boolean" ∧ (Arv Z h b7 k7 (.object "java/lang/Boolean") (2 : Int32) [(.ref v12), (.ref v25)] .null) ∧ (Exa Z h b7 "[Ljava/lang/Boolean;") ∧ (Exa Z Z.heap v12 "java/lang/Boolean") ∧ (Fld Z Z.heap v12 "java/lang/Boolean" "value" "Z" (.int p3)) ∧ (Exa Z Z.heap v25 "java/lang/Boolean") ∧ (Fld Z Z.heap v25 "java/lang/Boolean" "value" "Z" (.int p4)))
set_option maxRecDepth 65536 in
set_option maxHeartbeats 40000000 in
theorem rm18 (l : Launch) (Z : State) (a0 : Array Value) (hw : ∀ d ∈ tables_1, d.before a0 Z = true) (w1 : Addr) (w2 : Addr) (G : GW Z w1 w2) (ws : List Jvm.Cond) (o1 : Addr) (p3 : Int32) (p4 : Int32) (kc2 : ClassId) (h0 : Heap) (n0 : Nat) (O0 : Old Z n0 h0) (g_o1 : n0 ≤ o1) (bd_p3 : 0 ≤ p3.toInt ∧ p3.toInt ≤ 1) (bd_p4 : 0 ≤ p4.toInt ∧ p4.toInt ≤ 1) (P0 : Arv Z h0 o1 kc2 .boolean (2 : Int32) [(.int p3), (.int p4)] (.int (0 : Int32))) :
    MetFree l yn1 (head1 (Jvm.Cond.code yn1 prog_11_method_2_code 3 (some (.array (.object "java/lang/Boolean"))) :: ws) ({ frames := 1, cells := 3, slots := 58, locals := 14 } : Room)) (fun a U => a = #[(.ref o1)] ∧ Z.Warmed39 U.vm ∧ U.heap = h0) (fun _ _ _ _ _ => True) (fun _ U o U' => ∃ v L, o = .returned v ∧ Q18 Z w1 w2 o1 p3 p4 kc2 h0 n0 v U'.heap L ∧ ReturnedEndW U o U' L ({ frames := 1, cells := 3, slots := 58, locals := 14 } : Room).cells ({ frames := 1, cells := 3, slots := 58, locals := 14 } : Room).slots) := by
  obtain ⟨S_w1, E_w1, S_w2, E_w2, F_w1_value, F_w2_value⟩ := id G
  refine MetFree.of_bodySF (plainFor_of_name pn1) hisR ?_
  intro p e s m args below meth c s₁ Bd hml0 hP hK
  obtain ⟨rfl, hZ, hh⟩ := hP
  have hx := Bd.exec
  have hby := Bd.bytes
  have hml : c.maxLocals = 3 := hml0
  have hown : s.vm.findClass "com/example/castless/castless/PrimitiveArrays" = some m.cls := findClass_of_methodNamed Bd.named
  have hnm := (name_of_methodNamed Bd.named Bd.method).1
  have hret := Bd.returns
  have hlk : meth.locks = false := BodyLoose.notSynchronized Bd
  have X0 : Stand p l e ({ frames := 1, cells := 3, slots := 58, locals := 14 } : Room) s m #[(.ref o1)] below meth c s₁ [] 0 0 := Stand.of_body Bd
  have e0 : s₁.heap = h0 := by rw [← hh, Bd.state]; rfl
  have N0 := Fr.nil n0
  have pre0 : ∀ t, Steps p.tables e below (s₁.setTop (mkF m 0 #[.val (.ref o1), .unset, .unset] [])) t → Steps p.tables e below (s₁.setTop (entryFrame m #[(.ref o1)] 3)) t := fun t k => castTop (ef18 m o1) k
  obtain ⟨sx1, T1, h1, ks1, X1, e1, E1, hS1, hk1, hZ, hown, st1⟩ := ldcS (s := s) (vm0 := s.vm) X0 hx hZ hown (own_w hw 6 rfl) (own_sa hw) e0 ((State.WarmedH.refl s).since h0.size) (Nat.le_refl _) (g := (mkF m 1 #[.val (.ref o1), .unset, .unset] [(.ref o1)])) rfl (hb hby d0_1) (n := 52) (by decide) (by decide) (by decide) (by decide)
  have M1 : h0.size ≤ h1.size := Nat.le_trans (Nat.le_refl _) E1.1
  have O1 := Old.ext O0 E1
  obtain ⟨_, _, ⟨T2, L2, c2, n2⟩, -, X2, ⟨Lc2, hQ2, l2, y2, z2⟩, st2⟩ := Jvm.LawKit.callS X1 hx (y := yn0) hown (mvT hZ (own_w hw 14 rfl)) (mvT hZ (own_w hw 15 rfl)) (mvT hZ (own_w hw 16 rfl)) (mvT hZ (own_w hw 17 rfl)) (by decide) (backOf (W := 0) (rm17 l Z a0 hw [] o1 sx1 h1 n0 O1 g_o1) hZ (own_w hw 17 rfl) (own_w hw 16 rfl) (by decide) (by decide)) (g := (mkF m 3 #[.val (.ref o1), .unset, .unset] [(.ref sx1), (.ref o1)])) rfl (by rw [hml]; rfl) (argsL := [(.ref o1), (.ref sx1)]) (rest := []) (lenOf pd0 rfl) rfl (by show 2 * 0 + _ ≤ _; exact Nat.le_of_eq rfl) (hb hby d0_3) (fun _ _ => ⟨rfl, e1, (by decide : 2 + 0 ≤ _), (by decide : 56 + 0 ≤ _)⟩)
  dsimp only [Pt.U, Pt.locs, Pt.cells, Pt.slots] at X2 l2 y2 z2 st2 hQ2
  subst l2 y2 z2
  have X2 : Stand p l e ({ frames := 1, cells := 3, slots := 58, locals := 14 } : Room) (s.setVm T1.vm) m #[(.ref o1)] below meth c T2 _ 2 56 := X2
  obtain ⟨rfl, Nq3, e4⟩ := hQ2
  have N2 := Fr.app N0 Nq3
  have f5 := (P0.ext E1)
  obtain ⟨cl6, Ar6, qa6, Sa6, Na6, Ha6, Ga6⟩ := id (f5)
  obtain ⟨T7, h7, k7, X7, e7, E7, A7, EX7, OV7, st7⟩ := newRE X2 hx hZ hown (own_w hw 18 rfl) (own_w hw 19 rfl) e4 (g := (mkF m 9 #[.val (.ref o1), .unset, .unset] [(.int (2 : Int32))])) rfl (hb hby d0_9) rfl (by decide) (cap := 2) (by decide) (by decide) (by decide) (by decide) (ad := "[Ljava/lang/Boolean;") (by decide)
  obtain ⟨b7, g7⟩ : ∃ z, z = h1.size := ⟨_, rfl⟩
  rw [← g7] at A7 EX7 st7
  have hkk7 := Nat.le_trans hk1 E7.1
  have M7 : h0.size ≤ h7.size := Nat.le_trans M1 E7.1
  have O7 := Old.ext O1 E7
  have sz_b7 : h1.size ≤ b7 := Nat.le_of_eq g7.symm
  have g_b7 : n0 ≤ b7 := Nat.le_trans (own_oz O0) (Nat.le_trans M1 sz_b7)
  have V7_0 := Arv.new A7 (by decide)
  have V7 : Arv Z h7 b7 k7 (.object "java/lang/Boolean") (2 : Int32) [.null, .null] .null := V7_0.pad (pad_rep [] .null 2)
  have f8 := (f5.ext E7)
  obtain ⟨cl9, Ar9, qa9, Sa9, Na9, Ha9, Ga9⟩ := id (f8)
  obtain ⟨cl10, Ar10, qa10, Sa10, Na10, Ha10, Ga10⟩ := id (f8)
  have hin10 : ¬ ((0 : Int32) < 0 ∨ cl10.slots.size ≤ ((0 : Int32)).toNatClampNeg) := inb_of Sa10 ⟨by decide, by decide⟩
  have hat10 : cl10.slots[((0 : Int32)).toNatClampNeg]? = some (.int p3) := Has.at Ha10 hin10 rfl
  obtain ⟨_, _, ⟨T11, L11, c11, n11⟩, -, X11, ⟨Lc11, hQ11, l11, y11, z11⟩, st11⟩ := Jvm.LawKit.callS X7 hx (y := yn4) hown (mvT hZ (own_w hw 27 rfl)) (mvT hZ (own_w hw 28 rfl)) (mvT hZ (own_w hw 29 rfl)) (mvT hZ (own_w hw 30 rfl)) (by decide) (backOf (W := 2) (rm9 l Z a0 hw w1 w2 G [] p3 h7 n0 O7 (by have q0 := bd_p3; omega)) hZ (own_w hw 30 rfl) (own_w hw 29 rfl) (by decide) (by decide)) (g := (mkF m 26 #[.val (.ref o1), .val (.ref b7), .val (.int (0 : Int32))] [(.int p3), (.int (0 : Int32)), (.ref b7)])) rfl (by rw [hml]; rfl) (argsL := [(.int p3)]) (rest := [(.int (0 : Int32)), (.ref b7)]) (lenOf pd4 rfl) rfl (by show 2 * 0 + _ ≤ _; exact Nat.le_of_eq rfl) (hb hby d0_26) (fun _ _ => ⟨rfl, e7, (by decide : 3 + 0 ≤ _), (by decide : 58 + 0 ≤ _)⟩)
  dsimp only [Pt.U, Pt.locs, Pt.cells, Pt.slots] at X11 l11 y11 z11 st11 hQ11
  subst l11 y11 z11
  have X11 : Stand p l e ({ frames := 1, cells := 3, slots := 58, locals := 14 } : Room) (s.setVm T1.vm) m #[(.ref o1)] below meth c T11 _ 3 58 := X11
  obtain ⟨v12, rfl, Nq13, e14, f15, f16⟩ := hQ11
  have N11 := Fr.app N2 Nq13
  obtain ⟨cl17, Ar17, qa17, Sa17, Na17, Ha17, Ga17⟩ := id (V7)
  have hin17 : ¬ ((0 : Int32) < 0 ∨ cl17.slots.size ≤ ((0 : Int32)).toNatClampNeg) := inb_of Sa17 ⟨by decide, by decide⟩
  obtain ⟨T18, h18, X18, e18, W18, st18⟩ := stR X11 hx hZ e14 Ar17 (j := (0 : Int32)) hin17 rfl (Sto.ofV Ar17 qa17 OV7 (Ins.self (f15.ext O7.2))) (g := (mkF m 29 #[.val (.ref o1), .val (.ref b7), .val (.int (0 : Int32))] [(.ref v12), (.int (0 : Int32)), (.ref b7)])) rfl rfl (hb hby d0_29)
  have V18 : Arv Z h18 b7 k7 (.object "java/lang/Boolean") (2 : Int32) [(.ref v12), .null] .null := Arv.set Ar17 qa17 Sa17 Na17 Ha17 Ga17 rfl W18 0 rfl (Nat.le_of_ble_eq_true rfl)
  have N18 := Fr.snoc X18 N11 g_b7
  have hkk18 := Nat.le_trans hkk7 (Nat.le_of_eq W18.size.symm)
  have M18 : h0.size ≤ h18.size := Nat.le_trans M7 (Nat.le_of_eq W18.size.symm)
  have O18 := Old.wr O7 W18 g_b7
  have lt19 : o1 < h1.size := (Nat.lt_of_lt_of_le P0.lt E1.1)
  have ne20 : o1 ≠ b7 := Nat.ne_of_lt (Nat.lt_of_lt_of_le lt19 sz_b7)
  have f21 := (f8.other W18 ne20)
  obtain ⟨cl22, Ar22, qa22, Sa22, Na22, Ha22, Ga22⟩ := id (f21)
  obtain ⟨cl23, Ar23, qa23, Sa23, Na23, Ha23, Ga23⟩ := id (f21)
  have hin23 : ¬ ((1 : Int32) < 0 ∨ cl23.slots.size ≤ ((1 : Int32)).toNatClampNeg) := inb_of Sa23 ⟨by decide, by decide⟩
  have hat23 : cl23.slots[((1 : Int32)).toNatClampNeg]? = some (.int p4) := Has.at Ha23 hin23 rfl
  obtain ⟨_, _, ⟨T24, L24, c24, n24⟩, -, X24, ⟨Lc24, hQ24, l24, y24, z24⟩, st24⟩ := Jvm.LawKit.callS X18 hx (y := yn4) hown (mvT hZ (own_w hw 27 rfl)) (mvT hZ (own_w hw 28 rfl)) (mvT hZ (own_w hw 29 rfl)) (mvT hZ (own_w hw 30 rfl)) (by decide) (backOf (W := 2) (rm9 l Z a0 hw w1 w2 G [] p4 h18 n0 O18 (by have q0 := bd_p4; omega)) hZ (own_w hw 30 rfl) (own_w hw 29 rfl) (by decide) (by decide)) (g := (mkF m 26 #[.val (.ref o1), .val (.ref b7), .val (.int (1 : Int32))] [(.int p4), (.int (1 : Int32)), (.ref b7)])) rfl (by rw [hml]; rfl) (argsL := [(.int p4)]) (rest := [(.int (1 : Int32)), (.ref b7)]) (lenOf pd4 rfl) rfl (by show 2 * 0 + _ ≤ _; exact Nat.le_of_eq rfl) (hb hby d0_26) (fun _ _ => ⟨rfl, e18, (by decide : 3 + 0 ≤ _), (by decide : 58 + 0 ≤ _)⟩)
  dsimp only [Pt.U, Pt.locs, Pt.cells, Pt.slots] at X24 l24 y24 z24 st24 hQ24
  subst l24 y24 z24
  have X24 : Stand p l e ({ frames := 1, cells := 3, slots := 58, locals := 14 } : Room) (s.setVm T1.vm) m #[(.ref o1)] below meth c T24 _ 3 58 := X24
  obtain ⟨v25, rfl, Nq26, e27, f28, f29⟩ := hQ24
  have N24 := Fr.app N18 Nq26
  obtain ⟨cl30, Ar30, qa30, Sa30, Na30, Ha30, Ga30⟩ := id (V18)
  have hin30 : ¬ ((1 : Int32) < 0 ∨ cl30.slots.size ≤ ((1 : Int32)).toNatClampNeg) := inb_of Sa30 ⟨by decide, by decide⟩
  obtain ⟨T31, h31, X31, e31, W31, st31⟩ := stR X24 hx hZ e27 Ar30 (j := (1 : Int32)) hin30 rfl (Sto.ofV Ar30 qa30 OV7 (Ins.self (f28.ext O18.2))) (g := (mkF m 29 #[.val (.ref o1), .val (.ref b7), .val (.int (1 : Int32))] [(.ref v25), (.int (1 : Int32)), (.ref b7)])) rfl rfl (hb hby d0_29)
  have V31 : Arv Z h31 b7 k7 (.object "java/lang/Boolean") (2 : Int32) [(.ref v12), (.ref v25)] .null := Arv.set Ar30 qa30 Sa30 Na30 Ha30 Ga30 rfl W31 1 rfl (Nat.le_of_ble_eq_true rfl)
  have N31 := Fr.snoc X31 N24 g_b7
  have hkk31 := Nat.le_trans hkk18 (Nat.le_of_eq W31.size.symm)
  have M31 : h0.size ≤ h31.size := Nat.le_trans M18 (Nat.le_of_eq W31.size.symm)
  have O31 := Old.wr O18 W31 g_b7
  have f32 := (f21.other W31 ne20)
  obtain ⟨cl33, Ar33, qa33, Sa33, Na33, Ha33, Ga33⟩ := id (f32)
  obtain ⟨fs, hr, hrun, hended, hRE⟩ := X31.leaveW hS1 (by rw [e31]; exact hkk31) (v := some (.ref b7)) (fun h => by rw [hret] at h; cases h)
  have KL : Keep h0 h31 [] := (((((Keep.refl h0 []).ext E1).ext E7).wr W18 (Or.inr (Nat.le_trans M1 sz_b7))).wr W31 (Or.inr (Nat.le_trans M1 sz_b7)))
  have f34 := ((EX7.wr W18).wr W31)
  refine ⟨_, _, pre0 _ ?_, hrun, hended, _, _, rfl, ?_, hRE.1, hRE.2.1, hRE.2.2.1, hRE.2.2.2.mono (by decide) (by decide)⟩
  ·
    show Steps p.tables e below (s₁.setTop (mkF m 0 #[.val (.ref o1), .unset, .unset] [])) _
    refine XS.aloadN X0.here hx rfl (hb hby d0_0) rfl rfl ?_
    refine st1 _ ?_
    refine st2 _ ?_
    refine XS.pop X2.here hx rfl (hb hby d0_6) rfl rfl ?_
    refine XS.aloadN X2.here hx rfl (hb hby d0_7) rfl rfl ?_
    refine X2.arraylength hx (by rw [e4]; exact Ar6.1) (State.isArrayOf_alike hZ.alike Ar6.2.1) (g := (mkF m 8 #[.val (.ref o1), .unset, .unset] [(.ref o1)])) rfl rfl (hb hby d0_8) _ ?_
    rw [len_of Sa6 Na6]
    refine st7 _ ?_
    refine XS.astoreN X7.here hx rfl (hb hby d0_12) rfl rfl (l' := #[.val (.ref o1), .val (.ref b7), .unset]) rfl ?_
    refine XS.iconst X7.here hx rfl (hb hby d0_13) ?_
    refine XS.istoreN X7.here hx rfl (hb hby d0_14) rfl (l' := #[.val (.ref o1), .val (.ref b7), .val (.int (0 : Int32))]) rfl ?_
    refine XS.iloadN X7.here hx rfl (hb hby d0_15) rfl ?_
    refine XS.aloadN X7.here hx rfl (hb hby d0_16) rfl rfl ?_
    refine X7.arraylength hx (by rw [e7]; exact Ar9.1) (State.isArrayOf_alike hZ.alike Ar9.2.1) (g := (mkF m 17 #[.val (.ref o1), .val (.ref b7), .val (.int (0 : Int32))] [(.ref o1), (.int (0 : Int32))])) rfl rfl (hb hby d0_17) _ ?_
    rw [len_of Sa9 Na9]
    refine XS.icmpNo X7.here hx rfl (hb hby d0_18) rfl (tlt (by decide : (0 : Int32) < (2 : Int32))).2.1 ?_
    refine XS.aloadN X7.here hx rfl (hb hby d0_21) rfl rfl ?_
    refine XS.iloadN X7.here hx rfl (hb hby d0_22) rfl ?_
    refine XS.aloadN X7.here hx rfl (hb hby d0_23) rfl rfl ?_
    refine XS.iloadN X7.here hx rfl (hb hby d0_24) rfl ?_
    refine X7.baloadBooleans hx (j := (0 : Int32)) (v := (.int p3)) (by rw [e7]; exact Ar10.1) (State.isArrayOf_alike hZ.alike Ar10.2.1) Ar10.2.2 hin10 hat10 (g := (mkF m 25 #[.val (.ref o1), .val (.ref b7), .val (.int (0 : Int32))] [(.int (0 : Int32)), (.ref o1), (.int (0 : Int32)), (.ref b7)])) rfl rfl (hb hby d0_25) _ ?_
    refine st11 _ ?_
    refine st18 _ ?_
    refine XS.iinc X18.here hx rfl (hb hby d0_30) rfl (l' := #[.val (.ref o1), .val (.ref b7), .val (.int (1 : Int32))]) rfl ?_
    refine XS.goto X18.here hx rfl (pc0 := 33) (pc' := 15) rfl (hb hby d0_33) (by decide) (by decide) ?_
    refine XS.iloadN X18.here hx rfl (hb hby d0_15) rfl ?_
    refine XS.aloadN X18.here hx rfl (hb hby d0_16) rfl rfl ?_
    refine X18.arraylength hx (by rw [e18]; exact Ar22.1) (State.isArrayOf_alike hZ.alike Ar22.2.1) (g := (mkF m 17 #[.val (.ref o1), .val (.ref b7), .val (.int (1 : Int32))] [(.ref o1), (.int (1 : Int32))])) rfl rfl (hb hby d0_17) _ ?_
    rw [len_of Sa22 Na22]
    refine XS.icmpNo X18.here hx rfl (hb hby d0_18) rfl (tlt (by decide : (1 : Int32) < (2 : Int32))).2.1 ?_
    refine XS.aloadN X18.here hx rfl (hb hby d0_21) rfl rfl ?_
    refine XS.iloadN X18.here hx rfl (hb hby d0_22) rfl ?_
    refine XS.aloadN X18.here hx rfl (hb hby d0_23) rfl rfl ?_
    refine XS.iloadN X18.here hx rfl (hb hby d0_24) rfl ?_
    refine X18.baloadBooleans hx (j := (1 : Int32)) (v := (.int p4)) (by rw [e18]; exact Ar23.1) (State.isArrayOf_alike hZ.alike Ar23.2.1) Ar23.2.2 hin23 hat23 (g := (mkF m 25 #[.val (.ref o1), .val (.ref b7), .val (.int (1 : Int32))] [(.int (1 : Int32)), (.ref o1), (.int (1 : Int32)), (.ref b7)])) rfl rfl (hb hby d0_25) _ ?_
    refine st24 _ ?_
    refine st31 _ ?_
    refine XS.iinc X31.here hx rfl (hb hby d0_30) rfl (l' := #[.val (.ref o1), .val (.ref b7), .val (.int (2 : Int32))]) rfl ?_
    refine XS.goto X31.here hx rfl (pc0 := 33) (pc' := 15) rfl (hb hby d0_33) (by decide) (by decide) ?_
    refine XS.iloadN X31.here hx rfl (hb hby d0_15) rfl ?_
    refine XS.aloadN X31.here hx rfl (hb hby d0_16) rfl rfl ?_
    refine X31.arraylength hx (by rw [e31]; exact Ar33.1) (State.isArrayOf_alike hZ.alike Ar33.2.1) (g := (mkF m 17 #[.val (.ref o1), .val (.ref b7), .val (.int (2 : Int32))] [(.ref o1), (.int (2 : Int32))])) rfl rfl (hb hby d0_17) _ ?_
    rw [len_of Sa33 Na33]
    refine XS.icmpYes X31.here hx rfl (pc0 := 18) (pc' := 36) rfl (hb hby d0_18) rfl (flt (by decide : ¬ ((2 : Int32) < (2 : Int32)))).2.1 (by decide) (by decide) ?_
    show Steps p.tables e below (T31.setTop (mkF m 36 #[.val (.ref o1), .val (.ref b7), .val (.int (2 : Int32))] [])) _
    refine XS.aloadN X31.here hx rfl (hb hby d0_36) rfl rfl ?_
    show Steps p.tables e below (T31.setTop (mkF m 37 #[.val (.ref o1), .val (.ref b7), .val (.int (2 : Int32))] [(.ref b7)])) _
    exact retOut X31 hx hret rfl (Or.inr (Or.inr (Or.inr (Or.inr ⟨rfl, rfl, rfl⟩)))) (hb hby d0_37) hr
  ·
    show Q18 Z w1 w2 o1 p3 p4 kc2 h0 n0 _ T31.heap _
    rw [e31]
    exact ⟨b7, k7, v12, v25, rfl, N31, KL, (Nat.le_trans M1 sz_b7), OV7, V31, f34, f15, f16, f28, f29⟩
theorem ef19 (m : MethodId) (x0 : Addr) (x1 : Addr) (x2 : Int32) (x3 : Int32) (x4 : Int32) : entryFrame m #[(.ref x0), (.ref x1), (.int x2), (.int x3), (.int x4)] 8 = mkF m 0 #[.val (.ref x0), .val (.ref x1), .val (.int x2), .val (.int x3), .val (.int x4), .unset, .unset, .unset] [] := by first | (simp [entryFrame, mkF, argsToLocals, Value.category]; done) | rfl
def Q19 (Z : State) (o1 : Addr) (o2 : Addr) (kc4 : ClassId) (p8 : Int32) (p9 : Int32) (p10 : Int32) (p11 : Int32) (v5 : Addr) (v6 : Addr) (kc7 : ClassId) (p3 : Int32) (h0 : Heap) (n0 : Nat) (v : Option Value) (h : Heap) (L : List Loc) : Prop :=
  ((p8 = (if (((p3.toUInt32 >>> ((0 : Int32) &&& 31).toUInt32).toInt32) &&& (1 : Int32)) = (0 : Int32) then (0 : Int32) else (1 : Int32))) ∧ (p10 = (if (((p3.toUInt32 >>> ((0 : Int32) &&& 31).toUInt32).toInt32) &&& (1 : Int32)) = (0 : Int32) then (0 : Int32) else (1 : Int32))) ∧ v = some (.int (1 : Int32)) ∧ Fr n0 L ∧ h = h0)
  ∨ ((p8 = (if (((p3.toUInt32 >>> ((0 : Int32) &&& 31).toUInt32).toInt32) &&& (1 : Int32)) = (0 : Int32) then (0 : Int32) else (1 : Int32))) ∧ (¬ (p10 = (if (((p3.toUInt32 >>> ((0 : Int32) &&& 31).toUInt32).toInt32) &&& (1 : Int32)) = (0 : Int32) then (0 : Int32) else (1 : Int32)))) ∧ v = some (.int (0 : Int32)) ∧ Fr n0 L ∧ h = h0)
  ∨ ((¬ (p8 = (if (((p3.toUInt32 >>> ((0 : Int32) &&& 31).toUInt32).toInt32) &&& (1 : Int32)) = (0 : Int32) then (0 : Int32) else (1 : Int32)))) ∧ v = some (.int (0 : Int32)) ∧ Fr n0 L ∧ h = h0)
set_option maxRecDepth 65536 in
set_option maxHeartbeats 40000000 in
theorem rm19 (l : Launch) (Z : State) (a0 : Array Value) (hw : ∀ d ∈ tables_1, d.before a0 Z = true) (ws : List Jvm.Cond) (o1 : Addr) (o2 : Addr) (kc4 : ClassId) (p8 : Int32) (p9 : Int32) (p10 : Int32) (p11 : Int32) (v5 : Addr) (v6 : Addr) (kc7 : ClassId) (p3 : Int32) (h0 : Heap) (n0 : Nat) (O0 : Old Z n0 h0) (g_o1 : n0 ≤ o1) (g_o2 : n0 ≤ o2) (Ov_kc4 : Ovr Z kc4 "java/lang/Boolean") (bd_p8 : 0 ≤ p8.toInt ∧ p8.toInt ≤ 1) (bd_p9 : 0 ≤ p9.toInt ∧ p9.toInt ≤ 1) (bd_p10 : 0 ≤ p10.toInt ∧ p10.toInt ≤ 1) (bd_p11 : 0 ≤ p11.toInt ∧ p11.toInt ≤ 1) (P0 : Arv Z h0 o1 kc4 (.object "java/lang/Boolean") (2 : Int32) [(.ref v5), (.ref v6)] .null) (P2 : Arv Z h0 o2 kc7 .boolean (2 : Int32) [(.int p8), (.int p9)] (.int (0 : Int32))) (P4 : Exa Z Z.heap v5 "java/lang/Boolean") (P5 : Fld Z Z.heap v5 "java/lang/Boolean" "value" "Z" (.int p10)) :
    MetFree l yn2 (head1 (Jvm.Cond.code yn2 method_4_code 8 (some .boolean) :: ws) ({ frames := 1, cells := 0, slots := 0, locals := 13 } : Room)) (fun a U => a = #[(.ref o1), (.ref o2), (.int (2 : Int32)), (.int p3), (.int (0 : Int32))] ∧ Z.Warmed39 U.vm ∧ U.heap = h0) (fun _ _ _ _ _ => True) (fun _ U o U' => ∃ v L, o = .returned v ∧ Q19 Z o1 o2 kc4 p8 p9 p10 p11 v5 v6 kc7 p3 h0 n0 v U'.heap L ∧ FrameEnd U o U' L ({ frames := 1, cells := 0, slots := 0, locals := 13 } : Room).cells ({ frames := 1, cells := 0, slots := 0, locals := 13 } : Room).slots) := by
  refine MetFree.of_bodySF (plainFor_of_name pn2) hisR ?_
  intro p e s m args below meth c s₁ Bd hml0 hP hK
  obtain ⟨rfl, hZ, hh⟩ := hP
  have hx := Bd.exec
  have hby := Bd.bytes
  have hml : c.maxLocals = 8 := hml0
  have hown : s.vm.findClass "com/example/castless/castless/PrimitiveArraysBox334PinLaw" = some m.cls := findClass_of_methodNamed Bd.named
  have hnm := (name_of_methodNamed Bd.named Bd.method).1
  have hret := Bd.returns
  have hlk : meth.locks = false := BodyLoose.notSynchronized Bd
  have X0 : Stand p l e ({ frames := 1, cells := 0, slots := 0, locals := 13 } : Room) s m #[(.ref o1), (.ref o2), (.int (2 : Int32)), (.int p3), (.int (0 : Int32))] below meth c s₁ [] 0 0 := Stand.of_body Bd
  have e0 : s₁.heap = h0 := by rw [← hh, Bd.state]; rfl
  have N0 := Fr.nil n0
  have pre0 : ∀ t, Steps p.tables e below (s₁.setTop (mkF m 0 #[.val (.ref o1), .val (.ref o2), .val (.int (2 : Int32)), .val (.int p3), .val (.int (0 : Int32)), .unset, .unset, .unset] [])) t → Steps p.tables e below (s₁.setTop (entryFrame m #[(.ref o1), (.ref o2), (.int (2 : Int32)), (.int p3), (.int (0 : Int32))] 8)) t := fun t k => castTop (ef19 m o1 o2 (2 : Int32) p3 (0 : Int32)) k
  obtain ⟨_, _, ⟨T1, L1, c1, n1⟩, -, X1, ⟨Lc1, hQ1, l1, y1, z1⟩, st1⟩ := Jvm.LawKit.callS X0 hx (y := yn3) hown (mvT hZ (own_w hw 24 rfl)) (mvT hZ (own_w hw 25 rfl)) (mvT hZ (own_w hw 22 rfl)) (mvT hZ (own_w hw 26 rfl)) (by decide) (backOf (W := 0) (rm7 l Z a0 hw [] p3 h0 n0 O0 ) hZ (own_w hw 26 rfl) (own_w hw 22 rfl) (by decide) (by decide)) (g := (mkF m 11 #[.val (.ref o1), .val (.ref o2), .val (.int (2 : Int32)), .val (.int p3), .val (.int (0 : Int32)), .unset, .unset, .unset] [(.int (0 : Int32)), (.int p3)])) rfl (by rw [hml]; rfl) (argsL := [(.int p3), (.int (0 : Int32))]) (rest := []) (lenOf pd3 rfl) rfl (by show 2 * 0 + _ ≤ _; exact Nat.le_of_eq rfl) (hb hby d2_11) (fun _ _ => ⟨rfl, e0, (by decide : 0 + 0 ≤ _), (by decide : 0 + 0 ≤ _)⟩)
  dsimp only [Pt.U, Pt.locs, Pt.cells, Pt.slots] at X1 l1 y1 z1 st1 hQ1
  subst l1 y1 z1
  have X1 : Stand p l e ({ frames := 1, cells := 0, slots := 0, locals := 13 } : Room) s m #[(.ref o1), (.ref o2), (.int (2 : Int32)), (.int p3), (.int (0 : Int32))] below meth c T1 _ 0 0 := X1
  obtain ⟨rfl, Nq2, e3⟩ := hQ1
  have N1 := Fr.app N0 Nq2
  obtain ⟨cl4, Ar4, qa4, Sa4, Na4, Ha4, Ga4⟩ := id (P2)
  have hin4 : ¬ ((0 : Int32) < 0 ∨ cl4.slots.size ≤ ((0 : Int32)).toNatClampNeg) := inb_of Sa4 ⟨by decide, by decide⟩
  have hat4 : cl4.slots[((0 : Int32)).toNatClampNeg]? = some (.int p8) := Has.at Ha4 hin4 rfl
  have pre5 : ∀ t, Steps p.tables e below (T1.setTop (mkF m 22 #[.val (.ref o1), .val (.ref o2), .val (.int (2 : Int32)), .val (.int p3), .val (.int (0 : Int32)), .val (.int (if (((p3.toUInt32 >>> ((0 : Int32) &&& 31).toUInt32).toInt32) &&& (1 : Int32)) = (0 : Int32) then (0 : Int32) else (1 : Int32))), .unset, .unset] [(.int (if (((p3.toUInt32 >>> ((0 : Int32) &&& 31).toUInt32).toInt32) &&& (1 : Int32)) = (0 : Int32) then (0 : Int32) else (1 : Int32))), (.int p8)])) t → Steps p.tables e below (s₁.setTop (entryFrame m #[(.ref o1), (.ref o2), (.int (2 : Int32)), (.int p3), (.int (0 : Int32))] 8)) t := fun t k => by
    refine pre0 _ ?_
    show Steps p.tables e below (s₁.setTop (mkF m 0 #[.val (.ref o1), .val (.ref o2), .val (.int (2 : Int32)), .val (.int p3), .val (.int (0 : Int32)), .unset, .unset, .unset] [])) _
    refine XS.iload X0.here hx rfl (hb hby d2_0) rfl ?_
    refine XS.iloadN X0.here hx rfl (hb hby d2_2) rfl ?_
    refine XS.icmpYes X0.here hx rfl (pc0 := 3) (pc' := 8) rfl (hb hby d2_3) rfl (tlt (by decide : (0 : Int32) < (2 : Int32))).1 (by decide) (by decide) ?_
    refine XS.iloadN X0.here hx rfl (hb hby d2_8) rfl ?_
    refine XS.iload X0.here hx rfl (hb hby d2_9) rfl ?_
    refine st1 _ ?_
    refine XS.istore X1.here hx rfl (hb hby d2_14) rfl (l' := #[.val (.ref o1), .val (.ref o2), .val (.int (2 : Int32)), .val (.int p3), .val (.int (0 : Int32)), .val (.int (if (((p3.toUInt32 >>> ((0 : Int32) &&& 31).toUInt32).toInt32) &&& (1 : Int32)) = (0 : Int32) then (0 : Int32) else (1 : Int32))), .unset, .unset]) rfl ?_
    refine XS.aloadN X1.here hx rfl (hb hby d2_16) rfl rfl ?_
    refine XS.iload X1.here hx rfl (hb hby d2_17) rfl ?_
    refine X1.baloadBooleans hx (j := (0 : Int32)) (v := (.int p8)) (by rw [e3]; exact Ar4.1) (State.isArrayOf_alike hZ.alike Ar4.2.1) Ar4.2.2 hin4 hat4 (g := (mkF m 19 #[.val (.ref o1), .val (.ref o2), .val (.int (2 : Int32)), .val (.int p3), .val (.int (0 : Int32)), .val (.int (if (((p3.toUInt32 >>> ((0 : Int32) &&& 31).toUInt32).toInt32) &&& (1 : Int32)) = (0 : Int32) then (0 : Int32) else (1 : Int32))), .unset, .unset] [(.int (0 : Int32)), (.ref o2)])) rfl rfl (hb hby d2_19) _ ?_
    refine XS.iload X1.here hx rfl (hb hby d2_20) rfl ?_
    exact k
  by_cases hc6 : p8 = (if (((p3.toUInt32 >>> ((0 : Int32) &&& 31).toUInt32).toInt32) &&& (1 : Int32)) = (0 : Int32) then (0 : Int32) else (1 : Int32))
  ·
    obtain ⟨cl7, Ar7, qa7, Sa7, Na7, Ha7, Ga7⟩ := id (P0)
    have hin7 : ¬ ((0 : Int32) < 0 ∨ cl7.slots.size ≤ ((0 : Int32)).toNatClampNeg) := inb_of Sa7 ⟨by decide, by decide⟩
    have hat7 : cl7.slots[((0 : Int32)).toNatClampNeg]? = some (.ref v5) := Has.at Ha7 hin7 rfl
    obtain ⟨cq8, kq8, q8a, q8b, q8c⟩ := isOf hZ e3 (P4.ext O0.2)
    obtain ⟨_, _, ⟨T9, L9, c9, n9⟩, -, X9, ⟨Lc9, hQ9, l9, y9, z9⟩, st9⟩ := X1.virtualBack hx (y := yn5) (z := yn5) hown (mvT hZ (own_w hw 34 rfl)) (mvT hZ (own_w hw 35 rfl)) (notFace_of_selects (args := #[]) (mvT hZ (own_w hw 37 rfl))) (mvT hZ (own_w hw 37 rfl)) (mvT hZ (own_w hw 36 rfl)) (by decide) (backOf (W := 0) (rm11 l Z a0 hw [] p10 v5 h0 n0 O0 (by have q0 := bd_p10; omega) P5) hZ (own_w hw 38 rfl) (own_w hw 29 rfl) (by decide) (by decide)) q8a q8c (g := (mkF m 42 #[.val (.ref o1), .val (.ref o2), .val (.int (2 : Int32)), .val (.int p3), .val (.int (0 : Int32)), .val (.int (if (((p3.toUInt32 >>> ((0 : Int32) &&& 31).toUInt32).toInt32) &&& (1 : Int32)) = (0 : Int32) then (0 : Int32) else (1 : Int32))), .val (.ref v5), .unset] [(.ref v5)])) rfl (by rw [hml]; rfl) (Steps.refl _) (argsL := []) (rest := []) (lenOf pd5 rfl) rfl (by show 2 * 0 + _ ≤ _; exact Nat.le_of_eq rfl) (hb hby d2_42) (fun _ _ => ⟨rfl, e3, (by decide : 0 + 0 ≤ _), (by decide : 0 + 0 ≤ _)⟩)
    dsimp only [Pt.U, Pt.locs, Pt.cells, Pt.slots] at X9 l9 y9 z9 st9 hQ9
    subst l9 y9 z9
    have X9 : Stand p l e ({ frames := 1, cells := 0, slots := 0, locals := 13 } : Room) s m #[(.ref o1), (.ref o2), (.int (2 : Int32)), (.int p3), (.int (0 : Int32))] below meth c T9 _ 0 0 := X9
    obtain ⟨rfl, Nq10, e11⟩ := hQ9
    have N9 := Fr.app N1 Nq10
    have pre12 : ∀ t, Steps p.tables e below (T9.setTop (mkF m 51 #[.val (.ref o1), .val (.ref o2), .val (.int (2 : Int32)), .val (.int p3), .val (.int (0 : Int32)), .val (.int (if (((p3.toUInt32 >>> ((0 : Int32) &&& 31).toUInt32).toInt32) &&& (1 : Int32)) = (0 : Int32) then (0 : Int32) else (1 : Int32))), .val (.ref v5), .val (.int p10)] [(.int (if (((p3.toUInt32 >>> ((0 : Int32) &&& 31).toUInt32).toInt32) &&& (1 : Int32)) = (0 : Int32) then (0 : Int32) else (1 : Int32))), (.int p10)])) t → Steps p.tables e below (s₁.setTop (entryFrame m #[(.ref o1), (.ref o2), (.int (2 : Int32)), (.int p3), (.int (0 : Int32))] 8)) t := fun t k => by
      refine pre5 _ ?_
      show Steps p.tables e below (T1.setTop (mkF m 22 #[.val (.ref o1), .val (.ref o2), .val (.int (2 : Int32)), .val (.int p3), .val (.int (0 : Int32)), .val (.int (if (((p3.toUInt32 >>> ((0 : Int32) &&& 31).toUInt32).toInt32) &&& (1 : Int32)) = (0 : Int32) then (0 : Int32) else (1 : Int32))), .unset, .unset] [(.int (if (((p3.toUInt32 >>> ((0 : Int32) &&& 31).toUInt32).toInt32) &&& (1 : Int32)) = (0 : Int32) then (0 : Int32) else (1 : Int32))), (.int p8)])) _
      refine XS.icmpYes X1.here hx rfl (pc0 := 22) (pc' := 27) rfl (hb hby d2_22) rfl (teq hc6).1 (by decide) (by decide) ?_
      refine XS.aloadN X1.here hx rfl (hb hby d2_27) rfl rfl ?_
      refine XS.iload X1.here hx rfl (hb hby d2_28) rfl ?_
      refine X1.aaload hx (j := (0 : Int32)) (v := (.ref v5)) (by rw [e3]; exact Ar7.1) (State.isArrayOf_alike hZ.alike Ar7.2.1) rfl Ar7.2.2 hin7 hat7 (g := (mkF m 30 #[.val (.ref o1), .val (.ref o2), .val (.int (2 : Int32)), .val (.int p3), .val (.int (0 : Int32)), .val (.int (if (((p3.toUInt32 >>> ((0 : Int32) &&& 31).toUInt32).toInt32) &&& (1 : Int32)) = (0 : Int32) then (0 : Int32) else (1 : Int32))), .unset, .unset] [(.int (0 : Int32)), (.ref o1)])) rfl rfl (hb hby d2_30) _ ?_
      refine XS.astore X1.here hx rfl (hb hby d2_31) rfl rfl (l' := #[.val (.ref o1), .val (.ref o2), .val (.int (2 : Int32)), .val (.int p3), .val (.int (0 : Int32)), .val (.int (if (((p3.toUInt32 >>> ((0 : Int32) &&& 31).toUInt32).toInt32) &&& (1 : Int32)) = (0 : Int32) then (0 : Int32) else (1 : Int32))), .val (.ref v5), .unset]) rfl ?_
      refine XS.aload X1.here hx rfl (hb hby d2_33) rfl rfl ?_
      refine XS.ifnonnullYes X1.here hx rfl (pc0 := 35) (pc' := 40) rfl (hb hby d2_35) rfl (by decide) (by decide) ?_
      refine XS.aload X1.here hx rfl (hb hby d2_40) rfl rfl ?_
      refine st9.trans ?_
      refine XS.istore X9.here hx rfl (hb hby d2_45) rfl (l' := #[.val (.ref o1), .val (.ref o2), .val (.int (2 : Int32)), .val (.int p3), .val (.int (0 : Int32)), .val (.int (if (((p3.toUInt32 >>> ((0 : Int32) &&& 31).toUInt32).toInt32) &&& (1 : Int32)) = (0 : Int32) then (0 : Int32) else (1 : Int32))), .val (.ref v5), .val (.int p10)]) rfl ?_
      refine XS.iload X9.here hx rfl (hb hby d2_47) rfl ?_
      refine XS.iload X9.here hx rfl (hb hby d2_49) rfl ?_
      exact k
    by_cases hc13 : p10 = (if (((p3.toUInt32 >>> ((0 : Int32) &&& 31).toUInt32).toInt32) &&& (1 : Int32)) = (0 : Int32) then (0 : Int32) else (1 : Int32))
    ·
      obtain ⟨fs, hr, hrun, hended, hW, hsame⟩ := X9.leave (v := some (.int (1 : Int32))) (fun h => by rw [hret] at h; cases h)
      refine ⟨_, _, pre12 _ ?_, hrun, hended, _, _, rfl, ?_, ⟨_, rfl⟩, hW, hsame.mono (by decide) (by decide)⟩
      ·
        show Steps p.tables e below (T9.setTop (mkF m 51 #[.val (.ref o1), .val (.ref o2), .val (.int (2 : Int32)), .val (.int p3), .val (.int (0 : Int32)), .val (.int (if (((p3.toUInt32 >>> ((0 : Int32) &&& 31).toUInt32).toInt32) &&& (1 : Int32)) = (0 : Int32) then (0 : Int32) else (1 : Int32))), .val (.ref v5), .val (.int p10)] [(.int (if (((p3.toUInt32 >>> ((0 : Int32) &&& 31).toUInt32).toInt32) &&& (1 : Int32)) = (0 : Int32) then (0 : Int32) else (1 : Int32))), (.int p10)])) _
        refine XS.icmpNo X9.here hx rfl (hb hby d2_51) rfl (teq hc13).2 ?_
        refine XS.iconst X9.here hx rfl (hb hby d2_54) ?_
        refine XS.goto X9.here hx rfl (pc0 := 55) (pc' := 59) rfl (hb hby d2_55) (by decide) (by decide) ?_
        show Steps p.tables e below (T9.setTop (mkF m 59 #[.val (.ref o1), .val (.ref o2), .val (.int (2 : Int32)), .val (.int p3), .val (.int (0 : Int32)), .val (.int (if (((p3.toUInt32 >>> ((0 : Int32) &&& 31).toUInt32).toInt32) &&& (1 : Int32)) = (0 : Int32) then (0 : Int32) else (1 : Int32))), .val (.ref v5), .val (.int p10)] [(.int (1 : Int32))])) _
        exact retN X9 hx (t := .boolean) hret (by simp) (hb hby d2_59) hr
      ·
        show Q19 Z o1 o2 kc4 p8 p9 p10 p11 v5 v6 kc7 p3 h0 n0 _ T9.heap _
        rw [e11]
        exact (Or.inl ⟨hc6, hc13, rfl, N9, rfl⟩)
    ·
      obtain ⟨fs, hr, hrun, hended, hW, hsame⟩ := X9.leave (v := some (.int (0 : Int32))) (fun h => by rw [hret] at h; cases h)
      refine ⟨_, _, pre12 _ ?_, hrun, hended, _, _, rfl, ?_, ⟨_, rfl⟩, hW, hsame.mono (by decide) (by decide)⟩
      ·
        show Steps p.tables e below (T9.setTop (mkF m 51 #[.val (.ref o1), .val (.ref o2), .val (.int (2 : Int32)), .val (.int p3), .val (.int (0 : Int32)), .val (.int (if (((p3.toUInt32 >>> ((0 : Int32) &&& 31).toUInt32).toInt32) &&& (1 : Int32)) = (0 : Int32) then (0 : Int32) else (1 : Int32))), .val (.ref v5), .val (.int p10)] [(.int (if (((p3.toUInt32 >>> ((0 : Int32) &&& 31).toUInt32).toInt32) &&& (1 : Int32)) = (0 : Int32) then (0 : Int32) else (1 : Int32))), (.int p10)])) _
        refine XS.icmpYes X9.here hx rfl (pc0 := 51) (pc' := 58) rfl (hb hby d2_51) rfl (feq hc13).2 (by decide) (by decide) ?_
        refine XS.iconst X9.here hx rfl (hb hby d2_58) ?_
        show Steps p.tables e below (T9.setTop (mkF m 59 #[.val (.ref o1), .val (.ref o2), .val (.int (2 : Int32)), .val (.int p3), .val (.int (0 : Int32)), .val (.int (if (((p3.toUInt32 >>> ((0 : Int32) &&& 31).toUInt32).toInt32) &&& (1 : Int32)) = (0 : Int32) then (0 : Int32) else (1 : Int32))), .val (.ref v5), .val (.int p10)] [(.int (0 : Int32))])) _
        exact retN X9 hx (t := .boolean) hret (by simp) (hb hby d2_59) hr
      ·
        show Q19 Z o1 o2 kc4 p8 p9 p10 p11 v5 v6 kc7 p3 h0 n0 _ T9.heap _
        rw [e11]
        exact (Or.inr (Or.inl ⟨hc6, hc13, rfl, N9, rfl⟩))
  ·
    obtain ⟨fs, hr, hrun, hended, hW, hsame⟩ := X1.leave (v := some (.int (0 : Int32))) (fun h => by rw [hret] at h; cases h)
    refine ⟨_, _, pre5 _ ?_, hrun, hended, _, _, rfl, ?_, ⟨_, rfl⟩, hW, hsame.mono (by decide) (by decide)⟩
    ·
      show Steps p.tables e below (T1.setTop (mkF m 22 #[.val (.ref o1), .val (.ref o2), .val (.int (2 : Int32)), .val (.int p3), .val (.int (0 : Int32)), .val (.int (if (((p3.toUInt32 >>> ((0 : Int32) &&& 31).toUInt32).toInt32) &&& (1 : Int32)) = (0 : Int32) then (0 : Int32) else (1 : Int32))), .unset, .unset] [(.int (if (((p3.toUInt32 >>> ((0 : Int32) &&& 31).toUInt32).toInt32) &&& (1 : Int32)) = (0 : Int32) then (0 : Int32) else (1 : Int32))), (.int p8)])) _
      refine XS.icmpNo X1.here hx rfl (hb hby d2_22) rfl (feq hc6).1 ?_
      refine XS.iconst X1.here hx rfl (hb hby d2_25) ?_
      show Steps p.tables e below (T1.setTop (mkF m 26 #[.val (.ref o1), .val (.ref o2), .val (.int (2 : Int32)), .val (.int p3), .val (.int (0 : Int32)), .val (.int (if (((p3.toUInt32 >>> ((0 : Int32) &&& 31).toUInt32).toInt32) &&& (1 : Int32)) = (0 : Int32) then (0 : Int32) else (1 : Int32))), .unset, .unset] [(.int (0 : Int32))])) _
      exact retN X1 hx (t := .boolean) hret (by simp) (hb hby d2_26) hr
    ·
      show Q19 Z o1 o2 kc4 p8 p9 p10 p11 v5 v6 kc7 p3 h0 n0 _ T1.heap _
      rw [e3]
      exact (Or.inr (Or.inr ⟨hc6, rfl, N1, rfl⟩))
theorem ef20 (m : MethodId) (x0 : Addr) (x1 : Addr) (x2 : Int32) (x3 : Int32) (x4 : Int32) : entryFrame m #[(.ref x0), (.ref x1), (.int x2), (.int x3), (.int x4)] 8 = mkF m 0 #[.val (.ref x0), .val (.ref x1), .val (.int x2), .val (.int x3), .val (.int x4), .unset, .unset, .unset] [] := by first | (simp [entryFrame, mkF, argsToLocals, Value.category]; done) | rfl
def Q20 (Z : State) (o1 : Addr) (o2 : Addr) (kc4 : ClassId) (p8 : Int32) (p9 : Int32) (p10 : Int32) (p11 : Int32) (v5 : Addr) (v6 : Addr) (kc7 : ClassId) (p3 : Int32) (h0 : Heap) (n0 : Nat) (v : Option Value) (h : Heap) (L : List Loc) : Prop :=
  ((p9 = (if (((p3.toUInt32 >>> ((1 : Int32) &&& 31).toUInt32).toInt32) &&& (1 : Int32)) = (0 : Int32) then (0 : Int32) else (1 : Int32))) ∧ (p11 = (if (((p3.toUInt32 >>> ((1 : Int32) &&& 31).toUInt32).toInt32) &&& (1 : Int32)) = (0 : Int32) then (0 : Int32) else (1 : Int32))) ∧ v = some (.int (1 : Int32)) ∧ Fr n0 L ∧ h = h0)
  ∨ ((p9 = (if (((p3.toUInt32 >>> ((1 : Int32) &&& 31).toUInt32).toInt32) &&& (1 : Int32)) = (0 : Int32) then (0 : Int32) else (1 : Int32))) ∧ (¬ (p11 = (if (((p3.toUInt32 >>> ((1 : Int32) &&& 31).toUInt32).toInt32) &&& (1 : Int32)) = (0 : Int32) then (0 : Int32) else (1 : Int32)))) ∧ v = some (.int (0 : Int32)) ∧ Fr n0 L ∧ h = h0)
  ∨ ((¬ (p9 = (if (((p3.toUInt32 >>> ((1 : Int32) &&& 31).toUInt32).toInt32) &&& (1 : Int32)) = (0 : Int32) then (0 : Int32) else (1 : Int32)))) ∧ v = some (.int (0 : Int32)) ∧ Fr n0 L ∧ h = h0)
set_option maxRecDepth 65536 in
set_option maxHeartbeats 40000000 in
theorem rm20 (l : Launch) (Z : State) (a0 : Array Value) (hw : ∀ d ∈ tables_1, d.before a0 Z = true) (ws : List Jvm.Cond) (o1 : Addr) (o2 : Addr) (kc4 : ClassId) (p8 : Int32) (p9 : Int32) (p10 : Int32) (p11 : Int32) (v5 : Addr) (v6 : Addr) (kc7 : ClassId) (p3 : Int32) (h0 : Heap) (n0 : Nat) (O0 : Old Z n0 h0) (g_o1 : n0 ≤ o1) (g_o2 : n0 ≤ o2) (Ov_kc4 : Ovr Z kc4 "java/lang/Boolean") (bd_p8 : 0 ≤ p8.toInt ∧ p8.toInt ≤ 1) (bd_p9 : 0 ≤ p9.toInt ∧ p9.toInt ≤ 1) (bd_p10 : 0 ≤ p10.toInt ∧ p10.toInt ≤ 1) (bd_p11 : 0 ≤ p11.toInt ∧ p11.toInt ≤ 1) (P0 : Arv Z h0 o1 kc4 (.object "java/lang/Boolean") (2 : Int32) [(.ref v5), (.ref v6)] .null) (P2 : Arv Z h0 o2 kc7 .boolean (2 : Int32) [(.int p8), (.int p9)] (.int (0 : Int32))) (P6 : Exa Z Z.heap v6 "java/lang/Boolean") (P7 : Fld Z Z.heap v6 "java/lang/Boolean" "value" "Z" (.int p11)) :
    MetFree l yn2 (head1 (Jvm.Cond.code yn2 method_4_code 8 (some .boolean) :: ws) ({ frames := 1, cells := 0, slots := 0, locals := 13 } : Room)) (fun a U => a = #[(.ref o1), (.ref o2), (.int (2 : Int32)), (.int p3), (.int (1 : Int32))] ∧ Z.Warmed39 U.vm ∧ U.heap = h0) (fun _ _ _ _ _ => True) (fun _ U o U' => ∃ v L, o = .returned v ∧ Q20 Z o1 o2 kc4 p8 p9 p10 p11 v5 v6 kc7 p3 h0 n0 v U'.heap L ∧ FrameEnd U o U' L ({ frames := 1, cells := 0, slots := 0, locals := 13 } : Room).cells ({ frames := 1, cells := 0, slots := 0, locals := 13 } : Room).slots) := by
  refine MetFree.of_bodySF (plainFor_of_name pn2) hisR ?_
  intro p e s m args below meth c s₁ Bd hml0 hP hK
  obtain ⟨rfl, hZ, hh⟩ := hP
  have hx := Bd.exec
  have hby := Bd.bytes
  have hml : c.maxLocals = 8 := hml0
  have hown : s.vm.findClass "com/example/castless/castless/PrimitiveArraysBox334PinLaw" = some m.cls := findClass_of_methodNamed Bd.named
  have hnm := (name_of_methodNamed Bd.named Bd.method).1
  have hret := Bd.returns
  have hlk : meth.locks = false := BodyLoose.notSynchronized Bd
  have X0 : Stand p l e ({ frames := 1, cells := 0, slots := 0, locals := 13 } : Room) s m #[(.ref o1), (.ref o2), (.int (2 : Int32)), (.int p3), (.int (1 : Int32))] below meth c s₁ [] 0 0 := Stand.of_body Bd
  have e0 : s₁.heap = h0 := by rw [← hh, Bd.state]; rfl
  have N0 := Fr.nil n0
  have pre0 : ∀ t, Steps p.tables e below (s₁.setTop (mkF m 0 #[.val (.ref o1), .val (.ref o2), .val (.int (2 : Int32)), .val (.int p3), .val (.int (1 : Int32)), .unset, .unset, .unset] [])) t → Steps p.tables e below (s₁.setTop (entryFrame m #[(.ref o1), (.ref o2), (.int (2 : Int32)), (.int p3), (.int (1 : Int32))] 8)) t := fun t k => castTop (ef20 m o1 o2 (2 : Int32) p3 (1 : Int32)) k
  obtain ⟨_, _, ⟨T1, L1, c1, n1⟩, -, X1, ⟨Lc1, hQ1, l1, y1, z1⟩, st1⟩ := Jvm.LawKit.callS X0 hx (y := yn3) hown (mvT hZ (own_w hw 24 rfl)) (mvT hZ (own_w hw 25 rfl)) (mvT hZ (own_w hw 22 rfl)) (mvT hZ (own_w hw 26 rfl)) (by decide) (backOf (W := 0) (rm16 l Z a0 hw [] p3 h0 n0 O0 ) hZ (own_w hw 26 rfl) (own_w hw 22 rfl) (by decide) (by decide)) (g := (mkF m 11 #[.val (.ref o1), .val (.ref o2), .val (.int (2 : Int32)), .val (.int p3), .val (.int (1 : Int32)), .unset, .unset, .unset] [(.int (1 : Int32)), (.int p3)])) rfl (by rw [hml]; rfl) (argsL := [(.int p3), (.int (1 : Int32))]) (rest := []) (lenOf pd3 rfl) rfl (by show 2 * 0 + _ ≤ _; exact Nat.le_of_eq rfl) (hb hby d2_11) (fun _ _ => ⟨rfl, e0, (by decide : 0 + 0 ≤ _), (by decide : 0 + 0 ≤ _)⟩)
  dsimp only [Pt.U, Pt.locs, Pt.cells, Pt.slots] at X1 l1 y1 z1 st1 hQ1
  subst l1 y1 z1
  have X1 : Stand p l e ({ frames := 1, cells := 0, slots := 0, locals := 13 } : Room) s m #[(.ref o1), (.ref o2), (.int (2 : Int32)), (.int p3), (.int (1 : Int32))] below meth c T1 _ 0 0 := X1
  obtain ⟨rfl, Nq2, e3⟩ := hQ1
  have N1 := Fr.app N0 Nq2
  obtain ⟨cl4, Ar4, qa4, Sa4, Na4, Ha4, Ga4⟩ := id (P2)
  have hin4 : ¬ ((1 : Int32) < 0 ∨ cl4.slots.size ≤ ((1 : Int32)).toNatClampNeg) := inb_of Sa4 ⟨by decide, by decide⟩
  have hat4 : cl4.slots[((1 : Int32)).toNatClampNeg]? = some (.int p9) := Has.at Ha4 hin4 rfl
  have pre5 : ∀ t, Steps p.tables e below (T1.setTop (mkF m 22 #[.val (.ref o1), .val (.ref o2), .val (.int (2 : Int32)), .val (.int p3), .val (.int (1 : Int32)), .val (.int (if (((p3.toUInt32 >>> ((1 : Int32) &&& 31).toUInt32).toInt32) &&& (1 : Int32)) = (0 : Int32) then (0 : Int32) else (1 : Int32))), .unset, .unset] [(.int (if (((p3.toUInt32 >>> ((1 : Int32) &&& 31).toUInt32).toInt32) &&& (1 : Int32)) = (0 : Int32) then (0 : Int32) else (1 : Int32))), (.int p9)])) t → Steps p.tables e below (s₁.setTop (entryFrame m #[(.ref o1), (.ref o2), (.int (2 : Int32)), (.int p3), (.int (1 : Int32))] 8)) t := fun t k => by
    refine pre0 _ ?_
    show Steps p.tables e below (s₁.setTop (mkF m 0 #[.val (.ref o1), .val (.ref o2), .val (.int (2 : Int32)), .val (.int p3), .val (.int (1 : Int32)), .unset, .unset, .unset] [])) _
    refine XS.iload X0.here hx rfl (hb hby d2_0) rfl ?_
    refine XS.iloadN X0.here hx rfl (hb hby d2_2) rfl ?_
    refine XS.icmpYes X0.here hx rfl (pc0 := 3) (pc' := 8) rfl (hb hby d2_3) rfl (tlt (by decide : (1 : Int32) < (2 : Int32))).1 (by decide) (by decide) ?_
    refine XS.iloadN X0.here hx rfl (hb hby d2_8) rfl ?_
    refine XS.iload X0.here hx rfl (hb hby d2_9) rfl ?_
    refine st1 _ ?_
    refine XS.istore X1.here hx rfl (hb hby d2_14) rfl (l' := #[.val (.ref o1), .val (.ref o2), .val (.int (2 : Int32)), .val (.int p3), .val (.int (1 : Int32)), .val (.int (if (((p3.toUInt32 >>> ((1 : Int32) &&& 31).toUInt32).toInt32) &&& (1 : Int32)) = (0 : Int32) then (0 : Int32) else (1 : Int32))), .unset, .unset]) rfl ?_
    refine XS.aloadN X1.here hx rfl (hb hby d2_16) rfl rfl ?_
    refine XS.iload X1.here hx rfl (hb hby d2_17) rfl ?_
    refine X1.baloadBooleans hx (j := (1 : Int32)) (v := (.int p9)) (by rw [e3]; exact Ar4.1) (State.isArrayOf_alike hZ.alike Ar4.2.1) Ar4.2.2 hin4 hat4 (g := (mkF m 19 #[.val (.ref o1), .val (.ref o2), .val (.int (2 : Int32)), .val (.int p3), .val (.int (1 : Int32)), .val (.int (if (((p3.toUInt32 >>> ((1 : Int32) &&& 31).toUInt32).toInt32) &&& (1 : Int32)) = (0 : Int32) then (0 : Int32) else (1 : Int32))), .unset, .unset] [(.int (1 : Int32)), (.ref o2)])) rfl rfl (hb hby d2_19) _ ?_
    refine XS.iload X1.here hx rfl (hb hby d2_20) rfl ?_
    exact k
  by_cases hc6 : p9 = (if (((p3.toUInt32 >>> ((1 : Int32) &&& 31).toUInt32).toInt32) &&& (1 : Int32)) = (0 : Int32) then (0 : Int32) else (1 : Int32))
  ·
    obtain ⟨cl7, Ar7, qa7, Sa7, Na7, Ha7, Ga7⟩ := id (P0)
    have hin7 : ¬ ((1 : Int32) < 0 ∨ cl7.slots.size ≤ ((1 : Int32)).toNatClampNeg) := inb_of Sa7 ⟨by decide, by decide⟩
    have hat7 : cl7.slots[((1 : Int32)).toNatClampNeg]? = some (.ref v6) := Has.at Ha7 hin7 rfl
    obtain ⟨cq8, kq8, q8a, q8b, q8c⟩ := isOf hZ e3 (P6.ext O0.2)
    obtain ⟨_, _, ⟨T9, L9, c9, n9⟩, -, X9, ⟨Lc9, hQ9, l9, y9, z9⟩, st9⟩ := X1.virtualBack hx (y := yn5) (z := yn5) hown (mvT hZ (own_w hw 34 rfl)) (mvT hZ (own_w hw 35 rfl)) (notFace_of_selects (args := #[]) (mvT hZ (own_w hw 37 rfl))) (mvT hZ (own_w hw 37 rfl)) (mvT hZ (own_w hw 36 rfl)) (by decide) (backOf (W := 0) (rm11 l Z a0 hw [] p11 v6 h0 n0 O0 (by have q0 := bd_p11; omega) P7) hZ (own_w hw 38 rfl) (own_w hw 29 rfl) (by decide) (by decide)) q8a q8c (g := (mkF m 42 #[.val (.ref o1), .val (.ref o2), .val (.int (2 : Int32)), .val (.int p3), .val (.int (1 : Int32)), .val (.int (if (((p3.toUInt32 >>> ((1 : Int32) &&& 31).toUInt32).toInt32) &&& (1 : Int32)) = (0 : Int32) then (0 : Int32) else (1 : Int32))), .val (.ref v6), .unset] [(.ref v6)])) rfl (by rw [hml]; rfl) (Steps.refl _) (argsL := []) (rest := []) (lenOf pd5 rfl) rfl (by show 2 * 0 + _ ≤ _; exact Nat.le_of_eq rfl) (hb hby d2_42) (fun _ _ => ⟨rfl, e3, (by decide : 0 + 0 ≤ _), (by decide : 0 + 0 ≤ _)⟩)
    dsimp only [Pt.U, Pt.locs, Pt.cells, Pt.slots] at X9 l9 y9 z9 st9 hQ9
    subst l9 y9 z9
    have X9 : Stand p l e ({ frames := 1, cells := 0, slots := 0, locals := 13 } : Room) s m #[(.ref o1), (.ref o2), (.int (2 : Int32)), (.int p3), (.int (1 : Int32))] below meth c T9 _ 0 0 := X9
    obtain ⟨rfl, Nq10, e11⟩ := hQ9
    have N9 := Fr.app N1 Nq10
    have pre12 : ∀ t, Steps p.tables e below (T9.setTop (mkF m 51 #[.val (.ref o1), .val (.ref o2), .val (.int (2 : Int32)), .val (.int p3), .val (.int (1 : Int32)), .val (.int (if (((p3.toUInt32 >>> ((1 : Int32) &&& 31).toUInt32).toInt32) &&& (1 : Int32)) = (0 : Int32) then (0 : Int32) else (1 : Int32))), .val (.ref v6), .val (.int p11)] [(.int (if (((p3.toUInt32 >>> ((1 : Int32) &&& 31).toUInt32).toInt32) &&& (1 : Int32)) = (0 : Int32) then (0 : Int32) else (1 : Int32))), (.int p11)])) t → Steps p.tables e below (s₁.setTop (entryFrame m #[(.ref o1), (.ref o2), (.int (2 : Int32)), (.int p3), (.int (1 : Int32))] 8)) t := fun t k => by
      refine pre5 _ ?_
      show Steps p.tables e below (T1.setTop (mkF m 22 #[.val (.ref o1), .val (.ref o2), .val (.int (2 : Int32)), .val (.int p3), .val (.int (1 : Int32)), .val (.int (if (((p3.toUInt32 >>> ((1 : Int32) &&& 31).toUInt32).toInt32) &&& (1 : Int32)) = (0 : Int32) then (0 : Int32) else (1 : Int32))), .unset, .unset] [(.int (if (((p3.toUInt32 >>> ((1 : Int32) &&& 31).toUInt32).toInt32) &&& (1 : Int32)) = (0 : Int32) then (0 : Int32) else (1 : Int32))), (.int p9)])) _
      refine XS.icmpYes X1.here hx rfl (pc0 := 22) (pc' := 27) rfl (hb hby d2_22) rfl (teq hc6).1 (by decide) (by decide) ?_
      refine XS.aloadN X1.here hx rfl (hb hby d2_27) rfl rfl ?_
      refine XS.iload X1.here hx rfl (hb hby d2_28) rfl ?_
      refine X1.aaload hx (j := (1 : Int32)) (v := (.ref v6)) (by rw [e3]; exact Ar7.1) (State.isArrayOf_alike hZ.alike Ar7.2.1) rfl Ar7.2.2 hin7 hat7 (g := (mkF m 30 #[.val (.ref o1), .val (.ref o2), .val (.int (2 : Int32)), .val (.int p3), .val (.int (1 : Int32)), .val (.int (if (((p3.toUInt32 >>> ((1 : Int32) &&& 31).toUInt32).toInt32) &&& (1 : Int32)) = (0 : Int32) then (0 : Int32) else (1 : Int32))), .unset, .unset] [(.int (1 : Int32)), (.ref o1)])) rfl rfl (hb hby d2_30) _ ?_
      refine XS.astore X1.here hx rfl (hb hby d2_31) rfl rfl (l' := #[.val (.ref o1), .val (.ref o2), .val (.int (2 : Int32)), .val (.int p3), .val (.int (1 : Int32)), .val (.int (if (((p3.toUInt32 >>> ((1 : Int32) &&& 31).toUInt32).toInt32) &&& (1 : Int32)) = (0 : Int32) then (0 : Int32) else (1 : Int32))), .val (.ref v6), .unset]) rfl ?_
      refine XS.aload X1.here hx rfl (hb hby d2_33) rfl rfl ?_
      refine XS.ifnonnullYes X1.here hx rfl (pc0 := 35) (pc' := 40) rfl (hb hby d2_35) rfl (by decide) (by decide) ?_
      refine XS.aload X1.here hx rfl (hb hby d2_40) rfl rfl ?_
      refine st9.trans ?_
      refine XS.istore X9.here hx rfl (hb hby d2_45) rfl (l' := #[.val (.ref o1), .val (.ref o2), .val (.int (2 : Int32)), .val (.int p3), .val (.int (1 : Int32)), .val (.int (if (((p3.toUInt32 >>> ((1 : Int32) &&& 31).toUInt32).toInt32) &&& (1 : Int32)) = (0 : Int32) then (0 : Int32) else (1 : Int32))), .val (.ref v6), .val (.int p11)]) rfl ?_
      refine XS.iload X9.here hx rfl (hb hby d2_47) rfl ?_
      refine XS.iload X9.here hx rfl (hb hby d2_49) rfl ?_
      exact k
    by_cases hc13 : p11 = (if (((p3.toUInt32 >>> ((1 : Int32) &&& 31).toUInt32).toInt32) &&& (1 : Int32)) = (0 : Int32) then (0 : Int32) else (1 : Int32))
    ·
      obtain ⟨fs, hr, hrun, hended, hW, hsame⟩ := X9.leave (v := some (.int (1 : Int32))) (fun h => by rw [hret] at h; cases h)
      refine ⟨_, _, pre12 _ ?_, hrun, hended, _, _, rfl, ?_, ⟨_, rfl⟩, hW, hsame.mono (by decide) (by decide)⟩
      ·
        show Steps p.tables e below (T9.setTop (mkF m 51 #[.val (.ref o1), .val (.ref o2), .val (.int (2 : Int32)), .val (.int p3), .val (.int (1 : Int32)), .val (.int (if (((p3.toUInt32 >>> ((1 : Int32) &&& 31).toUInt32).toInt32) &&& (1 : Int32)) = (0 : Int32) then (0 : Int32) else (1 : Int32))), .val (.ref v6), .val (.int p11)] [(.int (if (((p3.toUInt32 >>> ((1 : Int32) &&& 31).toUInt32).toInt32) &&& (1 : Int32)) = (0 : Int32) then (0 : Int32) else (1 : Int32))), (.int p11)])) _
        refine XS.icmpNo X9.here hx rfl (hb hby d2_51) rfl (teq hc13).2 ?_
        refine XS.iconst X9.here hx rfl (hb hby d2_54) ?_
        refine XS.goto X9.here hx rfl (pc0 := 55) (pc' := 59) rfl (hb hby d2_55) (by decide) (by decide) ?_
        show Steps p.tables e below (T9.setTop (mkF m 59 #[.val (.ref o1), .val (.ref o2), .val (.int (2 : Int32)), .val (.int p3), .val (.int (1 : Int32)), .val (.int (if (((p3.toUInt32 >>> ((1 : Int32) &&& 31).toUInt32).toInt32) &&& (1 : Int32)) = (0 : Int32) then (0 : Int32) else (1 : Int32))), .val (.ref v6), .val (.int p11)] [(.int (1 : Int32))])) _
        exact retN X9 hx (t := .boolean) hret (by simp) (hb hby d2_59) hr
      ·
        show Q20 Z o1 o2 kc4 p8 p9 p10 p11 v5 v6 kc7 p3 h0 n0 _ T9.heap _
        rw [e11]
        exact (Or.inl ⟨hc6, hc13, rfl, N9, rfl⟩)
    ·
      obtain ⟨fs, hr, hrun, hended, hW, hsame⟩ := X9.leave (v := some (.int (0 : Int32))) (fun h => by rw [hret] at h; cases h)
      refine ⟨_, _, pre12 _ ?_, hrun, hended, _, _, rfl, ?_, ⟨_, rfl⟩, hW, hsame.mono (by decide) (by decide)⟩
      ·
        show Steps p.tables e below (T9.setTop (mkF m 51 #[.val (.ref o1), .val (.ref o2), .val (.int (2 : Int32)), .val (.int p3), .val (.int (1 : Int32)), .val (.int (if (((p3.toUInt32 >>> ((1 : Int32) &&& 31).toUInt32).toInt32) &&& (1 : Int32)) = (0 : Int32) then (0 : Int32) else (1 : Int32))), .val (.ref v6), .val (.int p11)] [(.int (if (((p3.toUInt32 >>> ((1 : Int32) &&& 31).toUInt32).toInt32) &&& (1 : Int32)) = (0 : Int32) then (0 : Int32) else (1 : Int32))), (.int p11)])) _
        refine XS.icmpYes X9.here hx rfl (pc0 := 51) (pc' := 58) rfl (hb hby d2_51) rfl (feq hc13).2 (by decide) (by decide) ?_
        refine XS.iconst X9.here hx rfl (hb hby d2_58) ?_
        show Steps p.tables e below (T9.setTop (mkF m 59 #[.val (.ref o1), .val (.ref o2), .val (.int (2 : Int32)), .val (.int p3), .val (.int (1 : Int32)), .val (.int (if (((p3.toUInt32 >>> ((1 : Int32) &&& 31).toUInt32).toInt32) &&& (1 : Int32)) = (0 : Int32) then (0 : Int32) else (1 : Int32))), .val (.ref v6), .val (.int p11)] [(.int (0 : Int32))])) _
        exact retN X9 hx (t := .boolean) hret (by simp) (hb hby d2_59) hr
      ·
        show Q20 Z o1 o2 kc4 p8 p9 p10 p11 v5 v6 kc7 p3 h0 n0 _ T9.heap _
        rw [e11]
        exact (Or.inr (Or.inl ⟨hc6, hc13, rfl, N9, rfl⟩))
  ·
    obtain ⟨fs, hr, hrun, hended, hW, hsame⟩ := X1.leave (v := some (.int (0 : Int32))) (fun h => by rw [hret] at h; cases h)
    refine ⟨_, _, pre5 _ ?_, hrun, hended, _, _, rfl, ?_, ⟨_, rfl⟩, hW, hsame.mono (by decide) (by decide)⟩
    ·
      show Steps p.tables e below (T1.setTop (mkF m 22 #[.val (.ref o1), .val (.ref o2), .val (.int (2 : Int32)), .val (.int p3), .val (.int (1 : Int32)), .val (.int (if (((p3.toUInt32 >>> ((1 : Int32) &&& 31).toUInt32).toInt32) &&& (1 : Int32)) = (0 : Int32) then (0 : Int32) else (1 : Int32))), .unset, .unset] [(.int (if (((p3.toUInt32 >>> ((1 : Int32) &&& 31).toUInt32).toInt32) &&& (1 : Int32)) = (0 : Int32) then (0 : Int32) else (1 : Int32))), (.int p9)])) _
      refine XS.icmpNo X1.here hx rfl (hb hby d2_22) rfl (feq hc6).1 ?_
      refine XS.iconst X1.here hx rfl (hb hby d2_25) ?_
      show Steps p.tables e below (T1.setTop (mkF m 26 #[.val (.ref o1), .val (.ref o2), .val (.int (2 : Int32)), .val (.int p3), .val (.int (1 : Int32)), .val (.int (if (((p3.toUInt32 >>> ((1 : Int32) &&& 31).toUInt32).toInt32) &&& (1 : Int32)) = (0 : Int32) then (0 : Int32) else (1 : Int32))), .unset, .unset] [(.int (0 : Int32))])) _
      exact retN X1 hx (t := .boolean) hret (by simp) (hb hby d2_26) hr
    ·
      show Q20 Z o1 o2 kc4 p8 p9 p10 p11 v5 v6 kc7 p3 h0 n0 _ T1.heap _
      rw [e3]
      exact (Or.inr (Or.inr ⟨hc6, rfl, N1, rfl⟩))
theorem ef21 (m : MethodId) (x0 : Addr) (x1 : Addr) (x2 : Int32) (x3 : Int32) (x4 : Int32) : entryFrame m #[(.ref x0), (.ref x1), (.int x2), (.int x3), (.int x4)] 8 = mkF m 0 #[.val (.ref x0), .val (.ref x1), .val (.int x2), .val (.int x3), .val (.int x4), .unset, .unset, .unset] [] := by first | (simp [entryFrame, mkF, argsToLocals, Value.category]; done) | rfl
def Q21 (Z : State) (o1 : Addr) (o2 : Addr) (kc4 : ClassId) (p8 : Int32) (p9 : Int32) (p10 : Int32) (p11 : Int32) (p3 : Int32) (h0 : Heap) (n0 : Nat) (v : Option Value) (h : Heap) (L : List Loc) : Prop :=
  (v = some (.int (1 : Int32)) ∧ Fr n0 L ∧ h = h0)
set_option maxRecDepth 65536 in
set_option maxHeartbeats 40000000 in
theorem rm21 (l : Launch) (Z : State) (a0 : Array Value) (hw : ∀ d ∈ tables_1, d.before a0 Z = true) (ws : List Jvm.Cond) (o1 : Addr) (o2 : Addr) (kc4 : ClassId) (p8 : Int32) (p9 : Int32) (p10 : Int32) (p11 : Int32) (p3 : Int32) (h0 : Heap) (n0 : Nat) (O0 : Old Z n0 h0) (g_o1 : n0 ≤ o1) (g_o2 : n0 ≤ o2) (Ov_kc4 : Ovr Z kc4 "java/lang/Boolean") (bd_p8 : 0 ≤ p8.toInt ∧ p8.toInt ≤ 1) (bd_p9 : 0 ≤ p9.toInt ∧ p9.toInt ≤ 1) (bd_p10 : 0 ≤ p10.toInt ∧ p10.toInt ≤ 1) (bd_p11 : 0 ≤ p11.toInt ∧ p11.toInt ≤ 1) :
    MetFree l yn2 (head1 (Jvm.Cond.code yn2 method_4_code 8 (some .boolean) :: ws) ({ frames := 0, cells := 0, slots := 0, locals := 0 } : Room)) (fun a U => a = #[(.ref o1), (.ref o2), (.int (2 : Int32)), (.int p3), (.int (2 : Int32))] ∧ Z.Warmed39 U.vm ∧ U.heap = h0) (fun _ _ _ _ _ => True) (fun _ U o U' => ∃ v L, o = .returned v ∧ Q21 Z o1 o2 kc4 p8 p9 p10 p11 p3 h0 n0 v U'.heap L ∧ FrameEnd U o U' L ({ frames := 0, cells := 0, slots := 0, locals := 0 } : Room).cells ({ frames := 0, cells := 0, slots := 0, locals := 0 } : Room).slots) := by
  refine MetFree.of_bodySF (plainFor_of_name pn2) hisR ?_
  intro p e s m args below meth c s₁ Bd hml0 hP hK
  obtain ⟨rfl, hZ, hh⟩ := hP
  have hx := Bd.exec
  have hby := Bd.bytes
  have hml : c.maxLocals = 8 := hml0
  have hown : s.vm.findClass "com/example/castless/castless/PrimitiveArraysBox334PinLaw" = some m.cls := findClass_of_methodNamed Bd.named
  have hnm := (name_of_methodNamed Bd.named Bd.method).1
  have hret := Bd.returns
  have hlk : meth.locks = false := BodyLoose.notSynchronized Bd
  have X0 : Stand p l e ({ frames := 0, cells := 0, slots := 0, locals := 0 } : Room) s m #[(.ref o1), (.ref o2), (.int (2 : Int32)), (.int p3), (.int (2 : Int32))] below meth c s₁ [] 0 0 := Stand.of_body Bd
  have e0 : s₁.heap = h0 := by rw [← hh, Bd.state]; rfl
  have N0 := Fr.nil n0
  have pre0 : ∀ t, Steps p.tables e below (s₁.setTop (mkF m 0 #[.val (.ref o1), .val (.ref o2), .val (.int (2 : Int32)), .val (.int p3), .val (.int (2 : Int32)), .unset, .unset, .unset] [])) t → Steps p.tables e below (s₁.setTop (entryFrame m #[(.ref o1), (.ref o2), (.int (2 : Int32)), (.int p3), (.int (2 : Int32))] 8)) t := fun t k => castTop (ef21 m o1 o2 (2 : Int32) p3 (2 : Int32)) k
  obtain ⟨fs, hr, hrun, hended, hW, hsame⟩ := X0.leave (v := some (.int (1 : Int32))) (fun h => by rw [hret] at h; cases h)
  refine ⟨_, _, pre0 _ ?_, hrun, hended, _, _, rfl, ?_, ⟨_, rfl⟩, hW, hsame.mono (by decide) (by decide)⟩
  ·
    show Steps p.tables e below (s₁.setTop (mkF m 0 #[.val (.ref o1), .val (.ref o2), .val (.int (2 : Int32)), .val (.int p3), .val (.int (2 : Int32)), .unset, .unset, .unset] [])) _
    refine XS.iload X0.here hx rfl (hb hby d2_0) rfl ?_
    refine XS.iloadN X0.here hx rfl (hb hby d2_2) rfl ?_
    refine XS.icmpNo X0.here hx rfl (hb hby d2_3) rfl (flt (by decide : ¬ ((2 : Int32) < (2 : Int32)))).1 ?_
    refine XS.iconst X0.here hx rfl (hb hby d2_6) ?_
    show Steps p.tables e below (s₁.setTop (mkF m 7 #[.val (.ref o1), .val (.ref o2), .val (.int (2 : Int32)), .val (.int p3), .val (.int (2 : Int32)), .unset, .unset, .unset] [(.int (1 : Int32))])) _
    exact retN X0 hx (t := .boolean) hret (by simp) (hb hby d2_7) hr
  ·
    show Q21 Z o1 o2 kc4 p8 p9 p10 p11 p3 h0 n0 _ s₁.heap _
    rw [e0]
    exact ⟨rfl, N0, rfl⟩
theorem ef22 (m : MethodId) (x0 : Addr) (x1 : Addr) (x2 : Int32) (x3 : Int32) (x4 : Int32) : entryFrame m #[(.ref x0), (.ref x1), (.int x2), (.int x3), (.int x4)] 8 = mkF m 0 #[.val (.ref x0), .val (.ref x1), .val (.int x2), .val (.int x3), .val (.int x4), .unset, .unset, .unset] [] := by first | (simp [entryFrame, mkF, argsToLocals, Value.category]; done) | rfl
def Q22 (Z : State) (o1 : Addr) (o2 : Addr) (kc4 : ClassId) (p8 : Int32) (p9 : Int32) (p10 : Int32) (p11 : Int32) (p3 : Int32) (h0 : Heap) (n0 : Nat) (v : Option Value) (h : Heap) (L : List Loc) : Prop :=
  (v = some (.int (1 : Int32)) ∧ Fr n0 L ∧ h = h0)
set_option maxRecDepth 65536 in
set_option maxHeartbeats 40000000 in
theorem rm22 (l : Launch) (Z : State) (a0 : Array Value) (hw : ∀ d ∈ tables_1, d.before a0 Z = true) (ws : List Jvm.Cond) (o1 : Addr) (o2 : Addr) (kc4 : ClassId) (p8 : Int32) (p9 : Int32) (p10 : Int32) (p11 : Int32) (p3 : Int32) (h0 : Heap) (n0 : Nat) (O0 : Old Z n0 h0) (g_o1 : n0 ≤ o1) (g_o2 : n0 ≤ o2) (Ov_kc4 : Ovr Z kc4 "java/lang/Boolean") (bd_p8 : 0 ≤ p8.toInt ∧ p8.toInt ≤ 1) (bd_p9 : 0 ≤ p9.toInt ∧ p9.toInt ≤ 1) (bd_p10 : 0 ≤ p10.toInt ∧ p10.toInt ≤ 1) (bd_p11 : 0 ≤ p11.toInt ∧ p11.toInt ≤ 1) :
    MetFree l yn2 (head1 (Jvm.Cond.code yn2 method_4_code 8 (some .boolean) :: ws) ({ frames := 0, cells := 0, slots := 0, locals := 0 } : Room)) (fun a U => a = #[(.ref o1), (.ref o2), (.int (2 : Int32)), (.int p3), (.int (3 : Int32))] ∧ Z.Warmed39 U.vm ∧ U.heap = h0) (fun _ _ _ _ _ => True) (fun _ U o U' => ∃ v L, o = .returned v ∧ Q22 Z o1 o2 kc4 p8 p9 p10 p11 p3 h0 n0 v U'.heap L ∧ FrameEnd U o U' L ({ frames := 0, cells := 0, slots := 0, locals := 0 } : Room).cells ({ frames := 0, cells := 0, slots := 0, locals := 0 } : Room).slots) := by
  refine MetFree.of_bodySF (plainFor_of_name pn2) hisR ?_
  intro p e s m args below meth c s₁ Bd hml0 hP hK
  obtain ⟨rfl, hZ, hh⟩ := hP
  have hx := Bd.exec
  have hby := Bd.bytes
  have hml : c.maxLocals = 8 := hml0
  have hown : s.vm.findClass "com/example/castless/castless/PrimitiveArraysBox334PinLaw" = some m.cls := findClass_of_methodNamed Bd.named
  have hnm := (name_of_methodNamed Bd.named Bd.method).1
  have hret := Bd.returns
  have hlk : meth.locks = false := BodyLoose.notSynchronized Bd
  have X0 : Stand p l e ({ frames := 0, cells := 0, slots := 0, locals := 0 } : Room) s m #[(.ref o1), (.ref o2), (.int (2 : Int32)), (.int p3), (.int (3 : Int32))] below meth c s₁ [] 0 0 := Stand.of_body Bd
  have e0 : s₁.heap = h0 := by rw [← hh, Bd.state]; rfl
  have N0 := Fr.nil n0
  have pre0 : ∀ t, Steps p.tables e below (s₁.setTop (mkF m 0 #[.val (.ref o1), .val (.ref o2), .val (.int (2 : Int32)), .val (.int p3), .val (.int (3 : Int32)), .unset, .unset, .unset] [])) t → Steps p.tables e below (s₁.setTop (entryFrame m #[(.ref o1), (.ref o2), (.int (2 : Int32)), (.int p3), (.int (3 : Int32))] 8)) t := fun t k => castTop (ef22 m o1 o2 (2 : Int32) p3 (3 : Int32)) k
  obtain ⟨fs, hr, hrun, hended, hW, hsame⟩ := X0.leave (v := some (.int (1 : Int32))) (fun h => by rw [hret] at h; cases h)
  refine ⟨_, _, pre0 _ ?_, hrun, hended, _, _, rfl, ?_, ⟨_, rfl⟩, hW, hsame.mono (by decide) (by decide)⟩
  ·
    show Steps p.tables e below (s₁.setTop (mkF m 0 #[.val (.ref o1), .val (.ref o2), .val (.int (2 : Int32)), .val (.int p3), .val (.int (3 : Int32)), .unset, .unset, .unset] [])) _
    refine XS.iload X0.here hx rfl (hb hby d2_0) rfl ?_
    refine XS.iloadN X0.here hx rfl (hb hby d2_2) rfl ?_
    refine XS.icmpNo X0.here hx rfl (hb hby d2_3) rfl (flt (by decide : ¬ ((3 : Int32) < (2 : Int32)))).1 ?_
    refine XS.iconst X0.here hx rfl (hb hby d2_6) ?_
    show Steps p.tables e below (s₁.setTop (mkF m 7 #[.val (.ref o1), .val (.ref o2), .val (.int (2 : Int32)), .val (.int p3), .val (.int (3 : Int32)), .unset, .unset, .unset] [(.int (1 : Int32))])) _
    exact retN X0 hx (t := .boolean) hret (by simp) (hb hby d2_7) hr
  ·
    show Q22 Z o1 o2 kc4 p8 p9 p10 p11 p3 h0 n0 _ s₁.heap _
    rw [e0]
    exact ⟨rfl, N0, rfl⟩
theorem ef23 (m : MethodId) (x0 : Int32) (x1 : Int32) : entryFrame m #[(.int x0), (.int x1)] 2 = mkF m 0 #[.val (.int x0), .val (.int x1)] [] := by first | (simp [entryFrame, mkF, argsToLocals, Value.category]; done) | rfl
def Q23 (Z : State) (p1 : Int32) (h0 : Heap) (n0 : Nat) (v : Option Value) (h : Heap) (L : List Loc) : Prop :=
  (v = some (.int (if (((p1.toUInt32 >>> ((2 : Int32) &&& 31).toUInt32).toInt32) &&& (1 : Int32)) = (0 : Int32) then (0 : Int32) else (1 : Int32))) ∧ Fr n0 L ∧ h = h0)
set_option maxRecDepth 65536 in
set_option maxHeartbeats 40000000 in
theorem rm23 (l : Launch) (Z : State) (a0 : Array Value) (hw : ∀ d ∈ tables_1, d.before a0 Z = true) (ws : List Jvm.Cond) (p1 : Int32) (h0 : Heap) (n0 : Nat) (O0 : Old Z n0 h0) :
    MetFree l yn3 (head1 (Jvm.Cond.code yn3 method_3_code 2 (some .boolean) :: ws) ({ frames := 0, cells := 0, slots := 0, locals := 0 } : Room)) (fun a U => a = #[(.int p1), (.int (2 : Int32))] ∧ Z.Warmed39 U.vm ∧ U.heap = h0) (fun _ _ _ _ _ => True) (fun _ U o U' => ∃ v L, o = .returned v ∧ Q23 Z p1 h0 n0 v U'.heap L ∧ FrameEnd U o U' L ({ frames := 0, cells := 0, slots := 0, locals := 0 } : Room).cells ({ frames := 0, cells := 0, slots := 0, locals := 0 } : Room).slots) := by
  refine MetFree.of_bodySF (plainFor_of_name pn2) hisR ?_
  intro p e s m args below meth c s₁ Bd hml0 hP hK
  obtain ⟨rfl, hZ, hh⟩ := hP
  have hx := Bd.exec
  have hby := Bd.bytes
  have hml : c.maxLocals = 2 := hml0
  have hown : s.vm.findClass "com/example/castless/castless/PrimitiveArraysBox334PinLaw" = some m.cls := findClass_of_methodNamed Bd.named
  have hnm := (name_of_methodNamed Bd.named Bd.method).1
  have hret := Bd.returns
  have hlk : meth.locks = false := BodyLoose.notSynchronized Bd
  have X0 : Stand p l e ({ frames := 0, cells := 0, slots := 0, locals := 0 } : Room) s m #[(.int p1), (.int (2 : Int32))] below meth c s₁ [] 0 0 := Stand.of_body Bd
  have e0 : s₁.heap = h0 := by rw [← hh, Bd.state]; rfl
  have N0 := Fr.nil n0
  have pre0 : ∀ t, Steps p.tables e below (s₁.setTop (mkF m 0 #[.val (.int p1), .val (.int (2 : Int32))] [])) t → Steps p.tables e below (s₁.setTop (entryFrame m #[(.int p1), (.int (2 : Int32))] 2)) t := fun t k => castTop (ef23 m p1 (2 : Int32)) k
  have pre1 : ∀ t, Steps p.tables e below (s₁.setTop (mkF m 5 #[.val (.int p1), .val (.int (2 : Int32))] [(.int (((p1.toUInt32 >>> ((2 : Int32) &&& 31).toUInt32).toInt32) &&& (1 : Int32)))])) t → Steps p.tables e below (s₁.setTop (entryFrame m #[(.int p1), (.int (2 : Int32))] 2)) t := fun t k => by
    refine pre0 _ ?_
    show Steps p.tables e below (s₁.setTop (mkF m 0 #[.val (.int p1), .val (.int (2 : Int32))] [])) _
    refine XS.iloadN X0.here hx rfl (hb hby d3_0) rfl ?_
    refine XS.iloadN X0.here hx rfl (hb hby d3_1) rfl ?_
    refine XS.iushr X0.here hx rfl (hb hby d3_2) rfl ?_
    refine XS.iconst X0.here hx rfl (hb hby d3_3) ?_
    refine XS.iand X0.here hx rfl (hb hby d3_4) rfl ?_
    exact k
  by_cases hc2 : (((p1.toUInt32 >>> ((2 : Int32) &&& 31).toUInt32).toInt32) &&& (1 : Int32)) = (0 : Int32)
  ·
    have pre3 : ∀ t, Steps p.tables e below (s₁.setTop (mkF m 5 #[.val (.int p1), .val (.int (2 : Int32))] [(.int (0 : Int32))])) t → Steps p.tables e below (s₁.setTop (entryFrame m #[(.int p1), (.int (2 : Int32))] 2)) t := fun t k => pre1 t (by rw [hc2]; exact k)
    obtain ⟨fs, hr, hrun, hended, hW, hsame⟩ := X0.leave (v := some (.int (0 : Int32))) (fun h => by rw [hret] at h; cases h)
    refine ⟨_, _, pre3 _ ?_, hrun, hended, _, _, rfl, ?_, ⟨_, rfl⟩, hW, hsame.mono (by decide) (by decide)⟩
    ·
      show Steps p.tables e below (s₁.setTop (mkF m 5 #[.val (.int p1), .val (.int (2 : Int32))] [(.int (0 : Int32))])) _
      refine XS.ifYes X0.here hx rfl (pc0 := 5) (pc' := 12) rfl (hb hby d3_5) rfl ((if0 _ _).trans (teq (by decide : (0 : Int32) = (0 : Int32))).1) (by decide) (by decide) ?_
      refine XS.iconst X0.here hx rfl (hb hby d3_12) ?_
      show Steps p.tables e below (s₁.setTop (mkF m 13 #[.val (.int p1), .val (.int (2 : Int32))] [(.int (0 : Int32))])) _
      exact retN X0 hx (t := .boolean) hret (by simp) (hb hby d3_13) hr
    ·
      show Q23 Z p1 h0 n0 _ s₁.heap _
      rw [e0]
      exact ⟨(by rw [if_pos hc2]), N0, rfl⟩
  ·
    have hq4 : (((p1.toUInt32 >>> ((2 : Int32) &&& 31).toUInt32).toInt32) &&& (1 : Int32)) = (1 : Int32) := (own_geq (n := 1) (k := (1 : Int32)) (by decide) (by have q0 := own_and (x := ((p1.toUInt32 >>> ((2 : Int32) &&& 31).toUInt32).toInt32)) (k := (1 : Int32)) (n := 1) (by decide) (by decide); have q1 := own_neq (n := 0) (k := (0 : Int32)) (by decide) hc2; omega))
    have pre5 : ∀ t, Steps p.tables e below (s₁.setTop (mkF m 5 #[.val (.int p1), .val (.int (2 : Int32))] [(.int (1 : Int32))])) t → Steps p.tables e below (s₁.setTop (entryFrame m #[(.int p1), (.int (2 : Int32))] 2)) t := fun t k => pre1 t (by rw [hq4]; exact k)
    obtain ⟨fs, hr, hrun, hended, hW, hsame⟩ := X0.leave (v := some (.int (1 : Int32))) (fun h => by rw [hret] at h; cases h)
    refine ⟨_, _, pre5 _ ?_, hrun, hended, _, _, rfl, ?_, ⟨_, rfl⟩, hW, hsame.mono (by decide) (by decide)⟩
    ·
      show Steps p.tables e below (s₁.setTop (mkF m 5 #[.val (.int p1), .val (.int (2 : Int32))] [(.int (1 : Int32))])) _
      refine XS.ifNo X0.here hx rfl (hb hby d3_5) rfl ((if0 _ _).trans (feq (by decide : ¬ ((1 : Int32) = (0 : Int32)))).1) ?_
      refine XS.iconst X0.here hx rfl (hb hby d3_8) ?_
      refine XS.goto X0.here hx rfl (pc0 := 9) (pc' := 13) rfl (hb hby d3_9) (by decide) (by decide) ?_
      show Steps p.tables e below (s₁.setTop (mkF m 13 #[.val (.int p1), .val (.int (2 : Int32))] [(.int (1 : Int32))])) _
      exact retN X0 hx (t := .boolean) hret (by simp) (hb hby d3_13) hr
    ·
      show Q23 Z p1 h0 n0 _ s₁.heap _
      rw [e0]
      exact ⟨(by rw [if_neg hc2]), N0, rfl⟩
theorem ef24 (m : MethodId) (x0 : Addr) (x1 : Addr) : entryFrame m #[(.ref x0), (.ref x1)] 2 = mkF m 0 #[.val (.ref x0), .val (.ref x1)] [] := by first | (simp [entryFrame, mkF, argsToLocals, Value.category]; done) | rfl
def Q24 (Z : State) (o1 : Addr) (u2 : Addr) (h0 : Heap) (n0 : Nat) (v : Option Value) (h : Heap) (L : List Loc) : Prop :=
  (v = some (.ref o1) ∧ Fr n0 L ∧ h = h0)
set_option maxRecDepth 65536 in
set_option maxHeartbeats 40000000 in
theorem rm24 (l : Launch) (Z : State) (a0 : Array Value) (hw : ∀ d ∈ tables_1, d.before a0 Z = true) (ws : List Jvm.Cond) (o1 : Addr) (u2 : Addr) (h0 : Heap) (n0 : Nat) (O0 : Old Z n0 h0) (g_o1 : n0 ≤ o1) :
    MetFree l yn0 (head1 (Jvm.Cond.code yn0 jdk_31_method_11_code 2 (some (.object "java/lang/Object")) :: ws) ({ frames := 0, cells := 0, slots := 0, locals := 0 } : Room)) (fun a U => a = #[(.ref o1), (.ref u2)] ∧ Z.Warmed39 U.vm ∧ U.heap = h0) (fun _ _ _ _ _ => True) (fun _ U o U' => ∃ v L, o = .returned v ∧ Q24 Z o1 u2 h0 n0 v U'.heap L ∧ FrameEnd U o U' L ({ frames := 0, cells := 0, slots := 0, locals := 0 } : Room).cells ({ frames := 0, cells := 0, slots := 0, locals := 0 } : Room).slots) := by
  refine MetFree.of_bodySF (plainFor_of_name pn0) hisR ?_
  intro p e s m args below meth c s₁ Bd hml0 hP hK
  obtain ⟨rfl, hZ, hh⟩ := hP
  have hx := Bd.exec
  have hby := Bd.bytes
  have hml : c.maxLocals = 2 := hml0
  have hown : s.vm.findClass "java/util/Objects" = some m.cls := findClass_of_methodNamed Bd.named
  have hnm := (name_of_methodNamed Bd.named Bd.method).1
  have hret := Bd.returns
  have hlk : meth.locks = false := BodyLoose.notSynchronized Bd
  have X0 : Stand p l e ({ frames := 0, cells := 0, slots := 0, locals := 0 } : Room) s m #[(.ref o1), (.ref u2)] below meth c s₁ [] 0 0 := Stand.of_body Bd
  have e0 : s₁.heap = h0 := by rw [← hh, Bd.state]; rfl
  have N0 := Fr.nil n0
  have pre0 : ∀ t, Steps p.tables e below (s₁.setTop (mkF m 0 #[.val (.ref o1), .val (.ref u2)] [])) t → Steps p.tables e below (s₁.setTop (entryFrame m #[(.ref o1), (.ref u2)] 2)) t := fun t k => castTop (ef24 m o1 u2) k
  obtain ⟨fs, hr, hrun, hended, hW, hsame⟩ := X0.leave (v := some (.ref o1)) (fun h => by rw [hret] at h; cases h)
  refine ⟨_, _, pre0 _ ?_, hrun, hended, _, _, rfl, ?_, ⟨_, rfl⟩, hW, hsame.mono (by decide) (by decide)⟩
  ·
    show Steps p.tables e below (s₁.setTop (mkF m 0 #[.val (.ref o1), .val (.ref u2)] [])) _
    refine XS.aloadN X0.here hx rfl (hb hby d1_0) rfl rfl ?_
    refine XS.ifnonnullYes X0.here hx rfl (pc0 := 1) (pc' := 13) rfl (hb hby d1_1) rfl (by decide) (by decide) ?_
    refine XS.aloadN X0.here hx rfl (hb hby d1_13) rfl rfl ?_
    show Steps p.tables e below (s₁.setTop (mkF m 14 #[.val (.ref o1), .val (.ref u2)] [(.ref o1)])) _
    exact retOut X0 hx hret rfl (Or.inr (Or.inr (Or.inr (Or.inr ⟨rfl, rfl, rfl⟩)))) (hb hby d1_14) hr
  ·
    show Q24 Z o1 u2 h0 n0 _ s₁.heap _
    rw [e0]
    exact ⟨rfl, N0, rfl⟩
theorem ef25 (m : MethodId) (x0 : Addr) : entryFrame m #[(.ref x0)] 3 = mkF m 0 #[.val (.ref x0), .unset, .unset] [] := by first | (simp [entryFrame, mkF, argsToLocals, Value.category]; done) | rfl
def Q25 (Z : State) (w1 : Addr) (w2 : Addr) (o1 : Addr) (p3 : Int32) (p4 : Int32) (p5 : Int32) (kc2 : ClassId) (h0 : Heap) (n0 : Nat) (v : Option Value) (h : Heap) (L : List Loc) : Prop :=
  (∃ b7 : Addr, ∃ k7 : ClassId, ∃ v12 : Addr, ∃ v25 : Addr, ∃ v36 : Addr, v = some (.ref b7) ∧ Fr n0 L ∧ Keep h0 h [] ∧ h0.size ≤ b7 ∧ Ovr Z k7 "java/lang/Boolean" ∧ (Arv Z h b7 k7 (.object "java/lang/Boolean") (3 : Int32) [(.ref v12), (.ref v25), (.ref v36)] .null) ∧ (Exa Z h b7 "[Ljava/lang/Boolean;") ∧ (Exa Z Z.heap v12 "java/lang/Boolean") ∧ (Fld Z Z.heap v12 "java/lang/Boolean" "value" "Z" (.int p3)) ∧ (Exa Z Z.heap v25 "java/lang/Boolean") ∧ (Fld Z Z.heap v25 "java/lang/Boolean" "value" "Z" (.int p4)) ∧ (Exa Z Z.heap v36 "java/lang/Boolean") ∧ (Fld Z Z.heap v36 "java/lang/Boolean" "value" "Z" (.int p5)))
set_option maxRecDepth 65536 in
set_option maxHeartbeats 40000000 in
theorem rm25 (l : Launch) (Z : State) (a0 : Array Value) (hw : ∀ d ∈ tables_1, d.before a0 Z = true) (w1 : Addr) (w2 : Addr) (G : GW Z w1 w2) (ws : List Jvm.Cond) (o1 : Addr) (p3 : Int32) (p4 : Int32) (p5 : Int32) (kc2 : ClassId) (h0 : Heap) (n0 : Nat) (O0 : Old Z n0 h0) (g_o1 : n0 ≤ o1) (bd_p3 : 0 ≤ p3.toInt ∧ p3.toInt ≤ 1) (bd_p4 : 0 ≤ p4.toInt ∧ p4.toInt ≤ 1) (bd_p5 : 0 ≤ p5.toInt ∧ p5.toInt ≤ 1) (P0 : Arv Z h0 o1 kc2 .boolean (3 : Int32) [(.int p3), (.int p4), (.int p5)] (.int (0 : Int32))) :
    MetFree l yn1 (head1 (Jvm.Cond.code yn1 prog_11_method_2_code 3 (some (.array (.object "java/lang/Boolean"))) :: ws) ({ frames := 1, cells := 3, slots := 59, locals := 14 } : Room)) (fun a U => a = #[(.ref o1)] ∧ Z.Warmed39 U.vm ∧ U.heap = h0) (fun _ _ _ _ _ => True) (fun _ U o U' => ∃ v L, o = .returned v ∧ Q25 Z w1 w2 o1 p3 p4 p5 kc2 h0 n0 v U'.heap L ∧ ReturnedEndW U o U' L ({ frames := 1, cells := 3, slots := 59, locals := 14 } : Room).cells ({ frames := 1, cells := 3, slots := 59, locals := 14 } : Room).slots) := by
  obtain ⟨S_w1, E_w1, S_w2, E_w2, F_w1_value, F_w2_value⟩ := id G
  refine MetFree.of_bodySF (plainFor_of_name pn1) hisR ?_
  intro p e s m args below meth c s₁ Bd hml0 hP hK
  obtain ⟨rfl, hZ, hh⟩ := hP
  have hx := Bd.exec
  have hby := Bd.bytes
  have hml : c.maxLocals = 3 := hml0
  have hown : s.vm.findClass "com/example/castless/castless/PrimitiveArrays" = some m.cls := findClass_of_methodNamed Bd.named
  have hnm := (name_of_methodNamed Bd.named Bd.method).1
  have hret := Bd.returns
  have hlk : meth.locks = false := BodyLoose.notSynchronized Bd
  have X0 : Stand p l e ({ frames := 1, cells := 3, slots := 59, locals := 14 } : Room) s m #[(.ref o1)] below meth c s₁ [] 0 0 := Stand.of_body Bd
  have e0 : s₁.heap = h0 := by rw [← hh, Bd.state]; rfl
  have N0 := Fr.nil n0
  have pre0 : ∀ t, Steps p.tables e below (s₁.setTop (mkF m 0 #[.val (.ref o1), .unset, .unset] [])) t → Steps p.tables e below (s₁.setTop (entryFrame m #[(.ref o1)] 3)) t := fun t k => castTop (ef25 m o1) k
  obtain ⟨sx1, T1, h1, ks1, X1, e1, E1, hS1, hk1, hZ, hown, st1⟩ := ldcS (s := s) (vm0 := s.vm) X0 hx hZ hown (own_w hw 6 rfl) (own_sa hw) e0 ((State.WarmedH.refl s).since h0.size) (Nat.le_refl _) (g := (mkF m 1 #[.val (.ref o1), .unset, .unset] [(.ref o1)])) rfl (hb hby d0_1) (n := 52) (by decide) (by decide) (by decide) (by decide)
  have M1 : h0.size ≤ h1.size := Nat.le_trans (Nat.le_refl _) E1.1
  have O1 := Old.ext O0 E1
  obtain ⟨_, _, ⟨T2, L2, c2, n2⟩, -, X2, ⟨Lc2, hQ2, l2, y2, z2⟩, st2⟩ := Jvm.LawKit.callS X1 hx (y := yn0) hown (mvT hZ (own_w hw 14 rfl)) (mvT hZ (own_w hw 15 rfl)) (mvT hZ (own_w hw 16 rfl)) (mvT hZ (own_w hw 17 rfl)) (by decide) (backOf (W := 0) (rm24 l Z a0 hw [] o1 sx1 h1 n0 O1 g_o1) hZ (own_w hw 17 rfl) (own_w hw 16 rfl) (by decide) (by decide)) (g := (mkF m 3 #[.val (.ref o1), .unset, .unset] [(.ref sx1), (.ref o1)])) rfl (by rw [hml]; rfl) (argsL := [(.ref o1), (.ref sx1)]) (rest := []) (lenOf pd0 rfl) rfl (by show 2 * 0 + _ ≤ _; exact Nat.le_of_eq rfl) (hb hby d0_3) (fun _ _ => ⟨rfl, e1, (by decide : 2 + 0 ≤ _), (by decide : 56 + 0 ≤ _)⟩)
  dsimp only [Pt.U, Pt.locs, Pt.cells, Pt.slots] at X2 l2 y2 z2 st2 hQ2
  subst l2 y2 z2
  have X2 : Stand p l e ({ frames := 1, cells := 3, slots := 59, locals := 14 } : Room) (s.setVm T1.vm) m #[(.ref o1)] below meth c T2 _ 2 56 := X2
  obtain ⟨rfl, Nq3, e4⟩ := hQ2
  have N2 := Fr.app N0 Nq3
  have f5 := (P0.ext E1)
  obtain ⟨cl6, Ar6, qa6, Sa6, Na6, Ha6, Ga6⟩ := id (f5)
  obtain ⟨T7, h7, k7, X7, e7, E7, A7, EX7, OV7, st7⟩ := newRE X2 hx hZ hown (own_w hw 18 rfl) (own_w hw 19 rfl) e4 (g := (mkF m 9 #[.val (.ref o1), .unset, .unset] [(.int (3 : Int32))])) rfl (hb hby d0_9) rfl (by decide) (cap := 3) (by decide) (by decide) (by decide) (by decide) (ad := "[Ljava/lang/Boolean;") (by decide)
  obtain ⟨b7, g7⟩ : ∃ z, z = h1.size := ⟨_, rfl⟩
  rw [← g7] at A7 EX7 st7
  have hkk7 := Nat.le_trans hk1 E7.1
  have M7 : h0.size ≤ h7.size := Nat.le_trans M1 E7.1
  have O7 := Old.ext O1 E7
  have sz_b7 : h1.size ≤ b7 := Nat.le_of_eq g7.symm
  have g_b7 : n0 ≤ b7 := Nat.le_trans (own_oz O0) (Nat.le_trans M1 sz_b7)
  have V7_0 := Arv.new A7 (by decide)
  have V7 : Arv Z h7 b7 k7 (.object "java/lang/Boolean") (3 : Int32) [.null, .null, .null] .null := V7_0.pad (pad_rep [] .null 3)
  have f8 := (f5.ext E7)
  obtain ⟨cl9, Ar9, qa9, Sa9, Na9, Ha9, Ga9⟩ := id (f8)
  obtain ⟨cl10, Ar10, qa10, Sa10, Na10, Ha10, Ga10⟩ := id (f8)
  have hin10 : ¬ ((0 : Int32) < 0 ∨ cl10.slots.size ≤ ((0 : Int32)).toNatClampNeg) := inb_of Sa10 ⟨by decide, by decide⟩
  have hat10 : cl10.slots[((0 : Int32)).toNatClampNeg]? = some (.int p3) := Has.at Ha10 hin10 rfl
  obtain ⟨_, _, ⟨T11, L11, c11, n11⟩, -, X11, ⟨Lc11, hQ11, l11, y11, z11⟩, st11⟩ := Jvm.LawKit.callS X7 hx (y := yn4) hown (mvT hZ (own_w hw 27 rfl)) (mvT hZ (own_w hw 28 rfl)) (mvT hZ (own_w hw 29 rfl)) (mvT hZ (own_w hw 30 rfl)) (by decide) (backOf (W := 2) (rm9 l Z a0 hw w1 w2 G [] p3 h7 n0 O7 (by have q0 := bd_p3; omega)) hZ (own_w hw 30 rfl) (own_w hw 29 rfl) (by decide) (by decide)) (g := (mkF m 26 #[.val (.ref o1), .val (.ref b7), .val (.int (0 : Int32))] [(.int p3), (.int (0 : Int32)), (.ref b7)])) rfl (by rw [hml]; rfl) (argsL := [(.int p3)]) (rest := [(.int (0 : Int32)), (.ref b7)]) (lenOf pd4 rfl) rfl (by show 2 * 0 + _ ≤ _; exact Nat.le_of_eq rfl) (hb hby d0_26) (fun _ _ => ⟨rfl, e7, (by decide : 3 + 0 ≤ _), (by decide : 59 + 0 ≤ _)⟩)
  dsimp only [Pt.U, Pt.locs, Pt.cells, Pt.slots] at X11 l11 y11 z11 st11 hQ11
  subst l11 y11 z11
  have X11 : Stand p l e ({ frames := 1, cells := 3, slots := 59, locals := 14 } : Room) (s.setVm T1.vm) m #[(.ref o1)] below meth c T11 _ 3 59 := X11
  obtain ⟨v12, rfl, Nq13, e14, f15, f16⟩ := hQ11
  have N11 := Fr.app N2 Nq13
  obtain ⟨cl17, Ar17, qa17, Sa17, Na17, Ha17, Ga17⟩ := id (V7)
  have hin17 : ¬ ((0 : Int32) < 0 ∨ cl17.slots.size ≤ ((0 : Int32)).toNatClampNeg) := inb_of Sa17 ⟨by decide, by decide⟩
  obtain ⟨T18, h18, X18, e18, W18, st18⟩ := stR X11 hx hZ e14 Ar17 (j := (0 : Int32)) hin17 rfl (Sto.ofV Ar17 qa17 OV7 (Ins.self (f15.ext O7.2))) (g := (mkF m 29 #[.val (.ref o1), .val (.ref b7), .val (.int (0 : Int32))] [(.ref v12), (.int (0 : Int32)), (.ref b7)])) rfl rfl (hb hby d0_29)
  have V18 : Arv Z h18 b7 k7 (.object "java/lang/Boolean") (3 : Int32) [(.ref v12), .null, .null] .null := Arv.set Ar17 qa17 Sa17 Na17 Ha17 Ga17 rfl W18 0 rfl (Nat.le_of_ble_eq_true rfl)
  have N18 := Fr.snoc X18 N11 g_b7
  have hkk18 := Nat.le_trans hkk7 (Nat.le_of_eq W18.size.symm)
  have M18 : h0.size ≤ h18.size := Nat.le_trans M7 (Nat.le_of_eq W18.size.symm)
  have O18 := Old.wr O7 W18 g_b7
  have lt19 : o1 < h1.size := (Nat.lt_of_lt_of_le P0.lt E1.1)
  have ne20 : o1 ≠ b7 := Nat.ne_of_lt (Nat.lt_of_lt_of_le lt19 sz_b7)
  have f21 := (f8.other W18 ne20)
  obtain ⟨cl22, Ar22, qa22, Sa22, Na22, Ha22, Ga22⟩ := id (f21)
  obtain ⟨cl23, Ar23, qa23, Sa23, Na23, Ha23, Ga23⟩ := id (f21)
  have hin23 : ¬ ((1 : Int32) < 0 ∨ cl23.slots.size ≤ ((1 : Int32)).toNatClampNeg) := inb_of Sa23 ⟨by decide, by decide⟩
  have hat23 : cl23.slots[((1 : Int32)).toNatClampNeg]? = some (.int p4) := Has.at Ha23 hin23 rfl
  obtain ⟨_, _, ⟨T24, L24, c24, n24⟩, -, X24, ⟨Lc24, hQ24, l24, y24, z24⟩, st24⟩ := Jvm.LawKit.callS X18 hx (y := yn4) hown (mvT hZ (own_w hw 27 rfl)) (mvT hZ (own_w hw 28 rfl)) (mvT hZ (own_w hw 29 rfl)) (mvT hZ (own_w hw 30 rfl)) (by decide) (backOf (W := 2) (rm9 l Z a0 hw w1 w2 G [] p4 h18 n0 O18 (by have q0 := bd_p4; omega)) hZ (own_w hw 30 rfl) (own_w hw 29 rfl) (by decide) (by decide)) (g := (mkF m 26 #[.val (.ref o1), .val (.ref b7), .val (.int (1 : Int32))] [(.int p4), (.int (1 : Int32)), (.ref b7)])) rfl (by rw [hml]; rfl) (argsL := [(.int p4)]) (rest := [(.int (1 : Int32)), (.ref b7)]) (lenOf pd4 rfl) rfl (by show 2 * 0 + _ ≤ _; exact Nat.le_of_eq rfl) (hb hby d0_26) (fun _ _ => ⟨rfl, e18, (by decide : 3 + 0 ≤ _), (by decide : 59 + 0 ≤ _)⟩)
  dsimp only [Pt.U, Pt.locs, Pt.cells, Pt.slots] at X24 l24 y24 z24 st24 hQ24
  subst l24 y24 z24
  have X24 : Stand p l e ({ frames := 1, cells := 3, slots := 59, locals := 14 } : Room) (s.setVm T1.vm) m #[(.ref o1)] below meth c T24 _ 3 59 := X24
  obtain ⟨v25, rfl, Nq26, e27, f28, f29⟩ := hQ24
  have N24 := Fr.app N18 Nq26
  obtain ⟨cl30, Ar30, qa30, Sa30, Na30, Ha30, Ga30⟩ := id (V18)
  have hin30 : ¬ ((1 : Int32) < 0 ∨ cl30.slots.size ≤ ((1 : Int32)).toNatClampNeg) := inb_of Sa30 ⟨by decide, by decide⟩
  obtain ⟨T31, h31, X31, e31, W31, st31⟩ := stR X24 hx hZ e27 Ar30 (j := (1 : Int32)) hin30 rfl (Sto.ofV Ar30 qa30 OV7 (Ins.self (f28.ext O18.2))) (g := (mkF m 29 #[.val (.ref o1), .val (.ref b7), .val (.int (1 : Int32))] [(.ref v25), (.int (1 : Int32)), (.ref b7)])) rfl rfl (hb hby d0_29)
  have V31 : Arv Z h31 b7 k7 (.object "java/lang/Boolean") (3 : Int32) [(.ref v12), (.ref v25), .null] .null := Arv.set Ar30 qa30 Sa30 Na30 Ha30 Ga30 rfl W31 1 rfl (Nat.le_of_ble_eq_true rfl)
  have N31 := Fr.snoc X31 N24 g_b7
  have hkk31 := Nat.le_trans hkk18 (Nat.le_of_eq W31.size.symm)
  have M31 : h0.size ≤ h31.size := Nat.le_trans M18 (Nat.le_of_eq W31.size.symm)
  have O31 := Old.wr O18 W31 g_b7
  have f32 := (f21.other W31 ne20)
  obtain ⟨cl33, Ar33, qa33, Sa33, Na33, Ha33, Ga33⟩ := id (f32)
  obtain ⟨cl34, Ar34, qa34, Sa34, Na34, Ha34, Ga34⟩ := id (f32)
  have hin34 : ¬ ((2 : Int32) < 0 ∨ cl34.slots.size ≤ ((2 : Int32)).toNatClampNeg) := inb_of Sa34 ⟨by decide, by decide⟩
  have hat34 : cl34.slots[((2 : Int32)).toNatClampNeg]? = some (.int p5) := Has.at Ha34 hin34 rfl
  obtain ⟨_, _, ⟨T35, L35, c35, n35⟩, -, X35, ⟨Lc35, hQ35, l35, y35, z35⟩, st35⟩ := Jvm.LawKit.callS X31 hx (y := yn4) hown (mvT hZ (own_w hw 27 rfl)) (mvT hZ (own_w hw 28 rfl)) (mvT hZ (own_w hw 29 rfl)) (mvT hZ (own_w hw 30 rfl)) (by decide) (backOf (W := 2) (rm9 l Z a0 hw w1 w2 G [] p5 h31 n0 O31 (by have q0 := bd_p5; omega)) hZ (own_w hw 30 rfl) (own_w hw 29 rfl) (by decide) (by decide)) (g := (mkF m 26 #[.val (.ref o1), .val (.ref b7), .val (.int (2 : Int32))] [(.int p5), (.int (2 : Int32)), (.ref b7)])) rfl (by rw [hml]; rfl) (argsL := [(.int p5)]) (rest := [(.int (2 : Int32)), (.ref b7)]) (lenOf pd4 rfl) rfl (by show 2 * 0 + _ ≤ _; exact Nat.le_of_eq rfl) (hb hby d0_26) (fun _ _ => ⟨rfl, e31, (by decide : 3 + 0 ≤ _), (by decide : 59 + 0 ≤ _)⟩)
  dsimp only [Pt.U, Pt.locs, Pt.cells, Pt.slots] at X35 l35 y35 z35 st35 hQ35
  subst l35 y35 z35
  have X35 : Stand p l e ({ frames := 1, cells := 3, slots := 59, locals := 14 } : Room) (s.setVm T1.vm) m #[(.ref o1)] below meth c T35 _ 3 59 := X35
  obtain ⟨v36, rfl, Nq37, e38, f39, f40⟩ := hQ35
  have N35 := Fr.app N31 Nq37
  obtain ⟨cl41, Ar41, qa41, Sa41, Na41, Ha41, Ga41⟩ := id (V31)
  have hin41 : ¬ ((2 : Int32) < 0 ∨ cl41.slots.size ≤ ((2 : Int32)).toNatClampNeg) := inb_of Sa41 ⟨by decide, by decide⟩
  obtain ⟨T42, h42, X42, e42, W42, st42⟩ := stR X35 hx hZ e38 Ar41 (j := (2 : Int32)) hin41 rfl (Sto.ofV Ar41 qa41 OV7 (Ins.self (f39.ext O31.2))) (g := (mkF m 29 #[.val (.ref o1), .val (.ref b7), .val (.int (2 : Int32))] [(.ref v36), (.int (2 : Int32)), (.ref b7)])) rfl rfl (hb hby d0_29)
  have V42 : Arv Z h42 b7 k7 (.object "java/lang/Boolean") (3 : Int32) [(.ref v12), (.ref v25), (.ref v36)] .null := Arv.set Ar41 qa41 Sa41 Na41 Ha41 Ga41 rfl W42 2 rfl (Nat.le_of_ble_eq_true rfl)
  have N42 := Fr.snoc X42 N35 g_b7
  have hkk42 := Nat.le_trans hkk31 (Nat.le_of_eq W42.size.symm)
  have M42 : h0.size ≤ h42.size := Nat.le_trans M31 (Nat.le_of_eq W42.size.symm)
  have O42 := Old.wr O31 W42 g_b7
  have f43 := (f32.other W42 ne20)
  obtain ⟨cl44, Ar44, qa44, Sa44, Na44, Ha44, Ga44⟩ := id (f43)
  obtain ⟨fs, hr, hrun, hended, hRE⟩ := X42.leaveW hS1 (by rw [e42]; exact hkk42) (v := some (.ref b7)) (fun h => by rw [hret] at h; cases h)
  have KL : Keep h0 h42 [] := ((((((Keep.refl h0 []).ext E1).ext E7).wr W18 (Or.inr (Nat.le_trans M1 sz_b7))).wr W31 (Or.inr (Nat.le_trans M1 sz_b7))).wr W42 (Or.inr (Nat.le_trans M1 sz_b7)))
  have f45 := (((EX7.wr W18).wr W31).wr W42)
  refine ⟨_, _, pre0 _ ?_, hrun, hended, _, _, rfl, ?_, hRE.1, hRE.2.1, hRE.2.2.1, hRE.2.2.2.mono (by decide) (by decide)⟩
  ·
    show Steps p.tables e below (s₁.setTop (mkF m 0 #[.val (.ref o1), .unset, .unset] [])) _
    refine XS.aloadN X0.here hx rfl (hb hby d0_0) rfl rfl ?_
    refine st1 _ ?_
    refine st2 _ ?_
    refine XS.pop X2.here hx rfl (hb hby d0_6) rfl rfl ?_
    refine XS.aloadN X2.here hx rfl (hb hby d0_7) rfl rfl ?_
    refine X2.arraylength hx (by rw [e4]; exact Ar6.1) (State.isArrayOf_alike hZ.alike Ar6.2.1) (g := (mkF m 8 #[.val (.ref o1), .unset, .unset] [(.ref o1)])) rfl rfl (hb hby d0_8) _ ?_
    rw [len_of Sa6 Na6]
    refine st7 _ ?_
    refine XS.astoreN X7.here hx rfl (hb hby d0_12) rfl rfl (l' := #[.val (.ref o1), .val (.ref b7), .unset]) rfl ?_
    refine XS.iconst X7.here hx rfl (hb hby d0_13) ?_
    refine XS.istoreN X7.here hx rfl (hb hby d0_14) rfl (l' := #[.val (.ref o1), .val (.ref b7), .val (.int (0 : Int32))]) rfl ?_
    refine XS.iloadN X7.here hx rfl (hb hby d0_15) rfl ?_
    refine XS.aloadN X7.here hx rfl (hb hby d0_16) rfl rfl ?_
    refine X7.arraylength hx (by rw [e7]; exact Ar9.1) (State.isArrayOf_alike hZ.alike Ar9.2.1) (g := (mkF m 17 #[.val (.ref o1), .val (.ref b7), .val (.int (0 : Int32))] [(.ref o1), (.int (0 : Int32))])) rfl rfl (hb hby d0_17) _ ?_
    rw [len_of Sa9 Na9]
    refine XS.icmpNo X7.here hx rfl (hb hby d0_18) rfl (tlt (by decide : (0 : Int32) < (3 : Int32))).2.1 ?_
    refine XS.aloadN X7.here hx rfl (hb hby d0_21) rfl rfl ?_
    refine XS.iloadN X7.here hx rfl (hb hby d0_22) rfl ?_
    refine XS.aloadN X7.here hx rfl (hb hby d0_23) rfl rfl ?_
    refine XS.iloadN X7.here hx rfl (hb hby d0_24) rfl ?_
    refine X7.baloadBooleans hx (j := (0 : Int32)) (v := (.int p3)) (by rw [e7]; exact Ar10.1) (State.isArrayOf_alike hZ.alike Ar10.2.1) Ar10.2.2 hin10 hat10 (g := (mkF m 25 #[.val (.ref o1), .val (.ref b7), .val (.int (0 : Int32))] [(.int (0 : Int32)), (.ref o1), (.int (0 : Int32)), (.ref b7)])) rfl rfl (hb hby d0_25) _ ?_
    refine st11 _ ?_
    refine st18 _ ?_
    refine XS.iinc X18.here hx rfl (hb hby d0_30) rfl (l' := #[.val (.ref o1), .val (.ref b7), .val (.int (1 : Int32))]) rfl ?_
    refine XS.goto X18.here hx rfl (pc0 := 33) (pc' := 15) rfl (hb hby d0_33) (by decide) (by decide) ?_
    refine XS.iloadN X18.here hx rfl (hb hby d0_15) rfl ?_
    refine XS.aloadN X18.here hx rfl (hb hby d0_16) rfl rfl ?_
    refine X18.arraylength hx (by rw [e18]; exact Ar22.1) (State.isArrayOf_alike hZ.alike Ar22.2.1) (g := (mkF m 17 #[.val (.ref o1), .val (.ref b7), .val (.int (1 : Int32))] [(.ref o1), (.int (1 : Int32))])) rfl rfl (hb hby d0_17) _ ?_
    rw [len_of Sa22 Na22]
    refine XS.icmpNo X18.here hx rfl (hb hby d0_18) rfl (tlt (by decide : (1 : Int32) < (3 : Int32))).2.1 ?_
    refine XS.aloadN X18.here hx rfl (hb hby d0_21) rfl rfl ?_
    refine XS.iloadN X18.here hx rfl (hb hby d0_22) rfl ?_
    refine XS.aloadN X18.here hx rfl (hb hby d0_23) rfl rfl ?_
    refine XS.iloadN X18.here hx rfl (hb hby d0_24) rfl ?_
    refine X18.baloadBooleans hx (j := (1 : Int32)) (v := (.int p4)) (by rw [e18]; exact Ar23.1) (State.isArrayOf_alike hZ.alike Ar23.2.1) Ar23.2.2 hin23 hat23 (g := (mkF m 25 #[.val (.ref o1), .val (.ref b7), .val (.int (1 : Int32))] [(.int (1 : Int32)), (.ref o1), (.int (1 : Int32)), (.ref b7)])) rfl rfl (hb hby d0_25) _ ?_
    refine st24 _ ?_
    refine st31 _ ?_
    refine XS.iinc X31.here hx rfl (hb hby d0_30) rfl (l' := #[.val (.ref o1), .val (.ref b7), .val (.int (2 : Int32))]) rfl ?_
    refine XS.goto X31.here hx rfl (pc0 := 33) (pc' := 15) rfl (hb hby d0_33) (by decide) (by decide) ?_
    refine XS.iloadN X31.here hx rfl (hb hby d0_15) rfl ?_
    refine XS.aloadN X31.here hx rfl (hb hby d0_16) rfl rfl ?_
    refine X31.arraylength hx (by rw [e31]; exact Ar33.1) (State.isArrayOf_alike hZ.alike Ar33.2.1) (g := (mkF m 17 #[.val (.ref o1), .val (.ref b7), .val (.int (2 : Int32))] [(.ref o1), (.int (2 : Int32))])) rfl rfl (hb hby d0_17) _ ?_
    rw [len_of Sa33 Na33]
    refine XS.icmpNo X31.here hx rfl (hb hby d0_18) rfl (tlt (by decide : (2 : Int32) < (3 : Int32))).2.1 ?_
    show Steps p.tables e below (T31.setTop (mkF m 21 #[.val (.ref o1), .val (.ref b7), .val (.int (2 : Int32))] [])) _
    refine XS.aloadN X31.here hx rfl (hb hby d0_21) rfl rfl ?_
    refine XS.iloadN X31.here hx rfl (hb hby d0_22) rfl ?_
    refine XS.aloadN X31.here hx rfl (hb hby d0_23) rfl rfl ?_
    refine XS.iloadN X31.here hx rfl (hb hby d0_24) rfl ?_
    refine X31.baloadBooleans hx (j := (2 : Int32)) (v := (.int p5)) (by rw [e31]; exact Ar34.1) (State.isArrayOf_alike hZ.alike Ar34.2.1) Ar34.2.2 hin34 hat34 (g := (mkF m 25 #[.val (.ref o1), .val (.ref b7), .val (.int (2 : Int32))] [(.int (2 : Int32)), (.ref o1), (.int (2 : Int32)), (.ref b7)])) rfl rfl (hb hby d0_25) _ ?_
    refine st35 _ ?_
    refine st42 _ ?_
    refine XS.iinc X42.here hx rfl (hb hby d0_30) rfl (l' := #[.val (.ref o1), .val (.ref b7), .val (.int (3 : Int32))]) rfl ?_
    refine XS.goto X42.here hx rfl (pc0 := 33) (pc' := 15) rfl (hb hby d0_33) (by decide) (by decide) ?_
    refine XS.iloadN X42.here hx rfl (hb hby d0_15) rfl ?_
    refine XS.aloadN X42.here hx rfl (hb hby d0_16) rfl rfl ?_
    refine X42.arraylength hx (by rw [e42]; exact Ar44.1) (State.isArrayOf_alike hZ.alike Ar44.2.1) (g := (mkF m 17 #[.val (.ref o1), .val (.ref b7), .val (.int (3 : Int32))] [(.ref o1), (.int (3 : Int32))])) rfl rfl (hb hby d0_17) _ ?_
    rw [len_of Sa44 Na44]
    refine XS.icmpYes X42.here hx rfl (pc0 := 18) (pc' := 36) rfl (hb hby d0_18) rfl (flt (by decide : ¬ ((3 : Int32) < (3 : Int32)))).2.1 (by decide) (by decide) ?_
    refine XS.aloadN X42.here hx rfl (hb hby d0_36) rfl rfl ?_
    show Steps p.tables e below (T42.setTop (mkF m 37 #[.val (.ref o1), .val (.ref b7), .val (.int (3 : Int32))] [(.ref b7)])) _
    exact retOut X42 hx hret rfl (Or.inr (Or.inr (Or.inr (Or.inr ⟨rfl, rfl, rfl⟩)))) (hb hby d0_37) hr
  ·
    show Q25 Z w1 w2 o1 p3 p4 p5 kc2 h0 n0 _ T42.heap _
    rw [e42]
    exact ⟨b7, k7, v12, v25, v36, rfl, N42, KL, (Nat.le_trans M1 sz_b7), OV7, V42, f45, f15, f16, f28, f29, f39, f40⟩
theorem ef26 (m : MethodId) (x0 : Addr) (x1 : Addr) (x2 : Int32) (x3 : Int32) (x4 : Int32) : entryFrame m #[(.ref x0), (.ref x1), (.int x2), (.int x3), (.int x4)] 8 = mkF m 0 #[.val (.ref x0), .val (.ref x1), .val (.int x2), .val (.int x3), .val (.int x4), .unset, .unset, .unset] [] := by first | (simp [entryFrame, mkF, argsToLocals, Value.category]; done) | rfl
def Q26 (Z : State) (o1 : Addr) (o2 : Addr) (kc4 : ClassId) (p9 : Int32) (p10 : Int32) (p11 : Int32) (p12 : Int32) (p13 : Int32) (p14 : Int32) (v5 : Addr) (v6 : Addr) (v7 : Addr) (kc8 : ClassId) (p3 : Int32) (h0 : Heap) (n0 : Nat) (v : Option Value) (h : Heap) (L : List Loc) : Prop :=
  ((p9 = (if (((p3.toUInt32 >>> ((0 : Int32) &&& 31).toUInt32).toInt32) &&& (1 : Int32)) = (0 : Int32) then (0 : Int32) else (1 : Int32))) ∧ (p12 = (if (((p3.toUInt32 >>> ((0 : Int32) &&& 31).toUInt32).toInt32) &&& (1 : Int32)) = (0 : Int32) then (0 : Int32) else (1 : Int32))) ∧ v = some (.int (1 : Int32)) ∧ Fr n0 L ∧ h = h0)
  ∨ ((p9 = (if (((p3.toUInt32 >>> ((0 : Int32) &&& 31).toUInt32).toInt32) &&& (1 : Int32)) = (0 : Int32) then (0 : Int32) else (1 : Int32))) ∧ (¬ (p12 = (if (((p3.toUInt32 >>> ((0 : Int32) &&& 31).toUInt32).toInt32) &&& (1 : Int32)) = (0 : Int32) then (0 : Int32) else (1 : Int32)))) ∧ v = some (.int (0 : Int32)) ∧ Fr n0 L ∧ h = h0)
  ∨ ((¬ (p9 = (if (((p3.toUInt32 >>> ((0 : Int32) &&& 31).toUInt32).toInt32) &&& (1 : Int32)) = (0 : Int32) then (0 : Int32) else (1 : Int32)))) ∧ v = some (.int (0 : Int32)) ∧ Fr n0 L ∧ h = h0)
set_option maxRecDepth 65536 in
set_option maxHeartbeats 40000000 in
theorem rm26 (l : Launch) (Z : State) (a0 : Array Value) (hw : ∀ d ∈ tables_1, d.before a0 Z = true) (ws : List Jvm.Cond) (o1 : Addr) (o2 : Addr) (kc4 : ClassId) (p9 : Int32) (p10 : Int32) (p11 : Int32) (p12 : Int32) (p13 : Int32) (p14 : Int32) (v5 : Addr) (v6 : Addr) (v7 : Addr) (kc8 : ClassId) (p3 : Int32) (h0 : Heap) (n0 : Nat) (O0 : Old Z n0 h0) (g_o1 : n0 ≤ o1) (g_o2 : n0 ≤ o2) (Ov_kc4 : Ovr Z kc4 "java/lang/Boolean") (bd_p9 : 0 ≤ p9.toInt ∧ p9.toInt ≤ 1) (bd_p10 : 0 ≤ p10.toInt ∧ p10.toInt ≤ 1) (bd_p11 : 0 ≤ p11.toInt ∧ p11.toInt ≤ 1) (bd_p12 : 0 ≤ p12.toInt ∧ p12.toInt ≤ 1) (bd_p13 : 0 ≤ p13.toInt ∧ p13.toInt ≤ 1) (bd_p14 : 0 ≤ p14.toInt ∧ p14.toInt ≤ 1) (P0 : Arv Z h0 o1 kc4 (.object "java/lang/Boolean") (3 : Int32) [(.ref v5), (.ref v6), (.ref v7)] .null) (P2 : Arv Z h0 o2 kc8 .boolean (3 : Int32) [(.int p9), (.int p10), (.int p11)] (.int (0 : Int32))) (P4 : Exa Z Z.heap v5 "java/lang/Boolean") (P5 : Fld Z Z.heap v5 "java/lang/Boolean" "value" "Z" (.int p12)) :
    MetFree l yn2 (head1 (Jvm.Cond.code yn2 method_4_code 8 (some .boolean) :: ws) ({ frames := 1, cells := 0, slots := 0, locals := 13 } : Room)) (fun a U => a = #[(.ref o1), (.ref o2), (.int (3 : Int32)), (.int p3), (.int (0 : Int32))] ∧ Z.Warmed39 U.vm ∧ U.heap = h0) (fun _ _ _ _ _ => True) (fun _ U o U' => ∃ v L, o = .returned v ∧ Q26 Z o1 o2 kc4 p9 p10 p11 p12 p13 p14 v5 v6 v7 kc8 p3 h0 n0 v U'.heap L ∧ FrameEnd U o U' L ({ frames := 1, cells := 0, slots := 0, locals := 13 } : Room).cells ({ frames := 1, cells := 0, slots := 0, locals := 13 } : Room).slots) := by
  refine MetFree.of_bodySF (plainFor_of_name pn2) hisR ?_
  intro p e s m args below meth c s₁ Bd hml0 hP hK
  obtain ⟨rfl, hZ, hh⟩ := hP
  have hx := Bd.exec
  have hby := Bd.bytes
  have hml : c.maxLocals = 8 := hml0
  have hown : s.vm.findClass "com/example/castless/castless/PrimitiveArraysBox334PinLaw" = some m.cls := findClass_of_methodNamed Bd.named
  have hnm := (name_of_methodNamed Bd.named Bd.method).1
  have hret := Bd.returns
  have hlk : meth.locks = false := BodyLoose.notSynchronized Bd
  have X0 : Stand p l e ({ frames := 1, cells := 0, slots := 0, locals := 13 } : Room) s m #[(.ref o1), (.ref o2), (.int (3 : Int32)), (.int p3), (.int (0 : Int32))] below meth c s₁ [] 0 0 := Stand.of_body Bd
  have e0 : s₁.heap = h0 := by rw [← hh, Bd.state]; rfl
  have N0 := Fr.nil n0
  have pre0 : ∀ t, Steps p.tables e below (s₁.setTop (mkF m 0 #[.val (.ref o1), .val (.ref o2), .val (.int (3 : Int32)), .val (.int p3), .val (.int (0 : Int32)), .unset, .unset, .unset] [])) t → Steps p.tables e below (s₁.setTop (entryFrame m #[(.ref o1), (.ref o2), (.int (3 : Int32)), (.int p3), (.int (0 : Int32))] 8)) t := fun t k => castTop (ef26 m o1 o2 (3 : Int32) p3 (0 : Int32)) k
  obtain ⟨_, _, ⟨T1, L1, c1, n1⟩, -, X1, ⟨Lc1, hQ1, l1, y1, z1⟩, st1⟩ := Jvm.LawKit.callS X0 hx (y := yn3) hown (mvT hZ (own_w hw 24 rfl)) (mvT hZ (own_w hw 25 rfl)) (mvT hZ (own_w hw 22 rfl)) (mvT hZ (own_w hw 26 rfl)) (by decide) (backOf (W := 0) (rm7 l Z a0 hw [] p3 h0 n0 O0 ) hZ (own_w hw 26 rfl) (own_w hw 22 rfl) (by decide) (by decide)) (g := (mkF m 11 #[.val (.ref o1), .val (.ref o2), .val (.int (3 : Int32)), .val (.int p3), .val (.int (0 : Int32)), .unset, .unset, .unset] [(.int (0 : Int32)), (.int p3)])) rfl (by rw [hml]; rfl) (argsL := [(.int p3), (.int (0 : Int32))]) (rest := []) (lenOf pd3 rfl) rfl (by show 2 * 0 + _ ≤ _; exact Nat.le_of_eq rfl) (hb hby d2_11) (fun _ _ => ⟨rfl, e0, (by decide : 0 + 0 ≤ _), (by decide : 0 + 0 ≤ _)⟩)
  dsimp only [Pt.U, Pt.locs, Pt.cells, Pt.slots] at X1 l1 y1 z1 st1 hQ1
  subst l1 y1 z1
  have X1 : Stand p l e ({ frames := 1, cells := 0, slots := 0, locals := 13 } : Room) s m #[(.ref o1), (.ref o2), (.int (3 : Int32)), (.int p3), (.int (0 : Int32))] below meth c T1 _ 0 0 := X1
  obtain ⟨rfl, Nq2, e3⟩ := hQ1
  have N1 := Fr.app N0 Nq2
  obtain ⟨cl4, Ar4, qa4, Sa4, Na4, Ha4, Ga4⟩ := id (P2)
  have hin4 : ¬ ((0 : Int32) < 0 ∨ cl4.slots.size ≤ ((0 : Int32)).toNatClampNeg) := inb_of Sa4 ⟨by decide, by decide⟩
  have hat4 : cl4.slots[((0 : Int32)).toNatClampNeg]? = some (.int p9) := Has.at Ha4 hin4 rfl
  have pre5 : ∀ t, Steps p.tables e below (T1.setTop (mkF m 22 #[.val (.ref o1), .val (.ref o2), .val (.int (3 : Int32)), .val (.int p3), .val (.int (0 : Int32)), .val (.int (if (((p3.toUInt32 >>> ((0 : Int32) &&& 31).toUInt32).toInt32) &&& (1 : Int32)) = (0 : Int32) then (0 : Int32) else (1 : Int32))), .unset, .unset] [(.int (if (((p3.toUInt32 >>> ((0 : Int32) &&& 31).toUInt32).toInt32) &&& (1 : Int32)) = (0 : Int32) then (0 : Int32) else (1 : Int32))), (.int p9)])) t → Steps p.tables e below (s₁.setTop (entryFrame m #[(.ref o1), (.ref o2), (.int (3 : Int32)), (.int p3), (.int (0 : Int32))] 8)) t := fun t k => by
    refine pre0 _ ?_
    show Steps p.tables e below (s₁.setTop (mkF m 0 #[.val (.ref o1), .val (.ref o2), .val (.int (3 : Int32)), .val (.int p3), .val (.int (0 : Int32)), .unset, .unset, .unset] [])) _
    refine XS.iload X0.here hx rfl (hb hby d2_0) rfl ?_
    refine XS.iloadN X0.here hx rfl (hb hby d2_2) rfl ?_
    refine XS.icmpYes X0.here hx rfl (pc0 := 3) (pc' := 8) rfl (hb hby d2_3) rfl (tlt (by decide : (0 : Int32) < (3 : Int32))).1 (by decide) (by decide) ?_
    refine XS.iloadN X0.here hx rfl (hb hby d2_8) rfl ?_
    refine XS.iload X0.here hx rfl (hb hby d2_9) rfl ?_
    refine st1 _ ?_
    refine XS.istore X1.here hx rfl (hb hby d2_14) rfl (l' := #[.val (.ref o1), .val (.ref o2), .val (.int (3 : Int32)), .val (.int p3), .val (.int (0 : Int32)), .val (.int (if (((p3.toUInt32 >>> ((0 : Int32) &&& 31).toUInt32).toInt32) &&& (1 : Int32)) = (0 : Int32) then (0 : Int32) else (1 : Int32))), .unset, .unset]) rfl ?_
    refine XS.aloadN X1.here hx rfl (hb hby d2_16) rfl rfl ?_
    refine XS.iload X1.here hx rfl (hb hby d2_17) rfl ?_
    refine X1.baloadBooleans hx (j := (0 : Int32)) (v := (.int p9)) (by rw [e3]; exact Ar4.1) (State.isArrayOf_alike hZ.alike Ar4.2.1) Ar4.2.2 hin4 hat4 (g := (mkF m 19 #[.val (.ref o1), .val (.ref o2), .val (.int (3 : Int32)), .val (.int p3), .val (.int (0 : Int32)), .val (.int (if (((p3.toUInt32 >>> ((0 : Int32) &&& 31).toUInt32).toInt32) &&& (1 : Int32)) = (0 : Int32) then (0 : Int32) else (1 : Int32))), .unset, .unset] [(.int (0 : Int32)), (.ref o2)])) rfl rfl (hb hby d2_19) _ ?_
    refine XS.iload X1.here hx rfl (hb hby d2_20) rfl ?_
    exact k
  by_cases hc6 : p9 = (if (((p3.toUInt32 >>> ((0 : Int32) &&& 31).toUInt32).toInt32) &&& (1 : Int32)) = (0 : Int32) then (0 : Int32) else (1 : Int32))
  ·
    obtain ⟨cl7, Ar7, qa7, Sa7, Na7, Ha7, Ga7⟩ := id (P0)
    have hin7 : ¬ ((0 : Int32) < 0 ∨ cl7.slots.size ≤ ((0 : Int32)).toNatClampNeg) := inb_of Sa7 ⟨by decide, by decide⟩
    have hat7 : cl7.slots[((0 : Int32)).toNatClampNeg]? = some (.ref v5) := Has.at Ha7 hin7 rfl
    obtain ⟨cq8, kq8, q8a, q8b, q8c⟩ := isOf hZ e3 (P4.ext O0.2)
    obtain ⟨_, _, ⟨T9, L9, c9, n9⟩, -, X9, ⟨Lc9, hQ9, l9, y9, z9⟩, st9⟩ := X1.virtualBack hx (y := yn5) (z := yn5) hown (mvT hZ (own_w hw 34 rfl)) (mvT hZ (own_w hw 35 rfl)) (notFace_of_selects (args := #[]) (mvT hZ (own_w hw 37 rfl))) (mvT hZ (own_w hw 37 rfl)) (mvT hZ (own_w hw 36 rfl)) (by decide) (backOf (W := 0) (rm11 l Z a0 hw [] p12 v5 h0 n0 O0 (by have q0 := bd_p12; omega) P5) hZ (own_w hw 38 rfl) (own_w hw 29 rfl) (by decide) (by decide)) q8a q8c (g := (mkF m 42 #[.val (.ref o1), .val (.ref o2), .val (.int (3 : Int32)), .val (.int p3), .val (.int (0 : Int32)), .val (.int (if (((p3.toUInt32 >>> ((0 : Int32) &&& 31).toUInt32).toInt32) &&& (1 : Int32)) = (0 : Int32) then (0 : Int32) else (1 : Int32))), .val (.ref v5), .unset] [(.ref v5)])) rfl (by rw [hml]; rfl) (Steps.refl _) (argsL := []) (rest := []) (lenOf pd5 rfl) rfl (by show 2 * 0 + _ ≤ _; exact Nat.le_of_eq rfl) (hb hby d2_42) (fun _ _ => ⟨rfl, e3, (by decide : 0 + 0 ≤ _), (by decide : 0 + 0 ≤ _)⟩)
    dsimp only [Pt.U, Pt.locs, Pt.cells, Pt.slots] at X9 l9 y9 z9 st9 hQ9
    subst l9 y9 z9
    have X9 : Stand p l e ({ frames := 1, cells := 0, slots := 0, locals := 13 } : Room) s m #[(.ref o1), (.ref o2), (.int (3 : Int32)), (.int p3), (.int (0 : Int32))] below meth c T9 _ 0 0 := X9
    obtain ⟨rfl, Nq10, e11⟩ := hQ9
    have N9 := Fr.app N1 Nq10
    have pre12 : ∀ t, Steps p.tables e below (T9.setTop (mkF m 51 #[.val (.ref o1), .val (.ref o2), .val (.int (3 : Int32)), .val (.int p3), .val (.int (0 : Int32)), .val (.int (if (((p3.toUInt32 >>> ((0 : Int32) &&& 31).toUInt32).toInt32) &&& (1 : Int32)) = (0 : Int32) then (0 : Int32) else (1 : Int32))), .val (.ref v5), .val (.int p12)] [(.int (if (((p3.toUInt32 >>> ((0 : Int32) &&& 31).toUInt32).toInt32) &&& (1 : Int32)) = (0 : Int32) then (0 : Int32) else (1 : Int32))), (.int p12)])) t → Steps p.tables e below (s₁.setTop (entryFrame m #[(.ref o1), (.ref o2), (.int (3 : Int32)), (.int p3), (.int (0 : Int32))] 8)) t := fun t k => by
      refine pre5 _ ?_
      show Steps p.tables e below (T1.setTop (mkF m 22 #[.val (.ref o1), .val (.ref o2), .val (.int (3 : Int32)), .val (.int p3), .val (.int (0 : Int32)), .val (.int (if (((p3.toUInt32 >>> ((0 : Int32) &&& 31).toUInt32).toInt32) &&& (1 : Int32)) = (0 : Int32) then (0 : Int32) else (1 : Int32))), .unset, .unset] [(.int (if (((p3.toUInt32 >>> ((0 : Int32) &&& 31).toUInt32).toInt32) &&& (1 : Int32)) = (0 : Int32) then (0 : Int32) else (1 : Int32))), (.int p9)])) _
      refine XS.icmpYes X1.here hx rfl (pc0 := 22) (pc' := 27) rfl (hb hby d2_22) rfl (teq hc6).1 (by decide) (by decide) ?_
      refine XS.aloadN X1.here hx rfl (hb hby d2_27) rfl rfl ?_
      refine XS.iload X1.here hx rfl (hb hby d2_28) rfl ?_
      refine X1.aaload hx (j := (0 : Int32)) (v := (.ref v5)) (by rw [e3]; exact Ar7.1) (State.isArrayOf_alike hZ.alike Ar7.2.1) rfl Ar7.2.2 hin7 hat7 (g := (mkF m 30 #[.val (.ref o1), .val (.ref o2), .val (.int (3 : Int32)), .val (.int p3), .val (.int (0 : Int32)), .val (.int (if (((p3.toUInt32 >>> ((0 : Int32) &&& 31).toUInt32).toInt32) &&& (1 : Int32)) = (0 : Int32) then (0 : Int32) else (1 : Int32))), .unset, .unset] [(.int (0 : Int32)), (.ref o1)])) rfl rfl (hb hby d2_30) _ ?_
      refine XS.astore X1.here hx rfl (hb hby d2_31) rfl rfl (l' := #[.val (.ref o1), .val (.ref o2), .val (.int (3 : Int32)), .val (.int p3), .val (.int (0 : Int32)), .val (.int (if (((p3.toUInt32 >>> ((0 : Int32) &&& 31).toUInt32).toInt32) &&& (1 : Int32)) = (0 : Int32) then (0 : Int32) else (1 : Int32))), .val (.ref v5), .unset]) rfl ?_
      refine XS.aload X1.here hx rfl (hb hby d2_33) rfl rfl ?_
      refine XS.ifnonnullYes X1.here hx rfl (pc0 := 35) (pc' := 40) rfl (hb hby d2_35) rfl (by decide) (by decide) ?_
      refine XS.aload X1.here hx rfl (hb hby d2_40) rfl rfl ?_
      refine st9.trans ?_
      refine XS.istore X9.here hx rfl (hb hby d2_45) rfl (l' := #[.val (.ref o1), .val (.ref o2), .val (.int (3 : Int32)), .val (.int p3), .val (.int (0 : Int32)), .val (.int (if (((p3.toUInt32 >>> ((0 : Int32) &&& 31).toUInt32).toInt32) &&& (1 : Int32)) = (0 : Int32) then (0 : Int32) else (1 : Int32))), .val (.ref v5), .val (.int p12)]) rfl ?_
      refine XS.iload X9.here hx rfl (hb hby d2_47) rfl ?_
      refine XS.iload X9.here hx rfl (hb hby d2_49) rfl ?_
      exact k
    by_cases hc13 : p12 = (if (((p3.toUInt32 >>> ((0 : Int32) &&& 31).toUInt32).toInt32) &&& (1 : Int32)) = (0 : Int32) then (0 : Int32) else (1 : Int32))
    ·
      obtain ⟨fs, hr, hrun, hended, hW, hsame⟩ := X9.leave (v := some (.int (1 : Int32))) (fun h => by rw [hret] at h; cases h)
      refine ⟨_, _, pre12 _ ?_, hrun, hended, _, _, rfl, ?_, ⟨_, rfl⟩, hW, hsame.mono (by decide) (by decide)⟩
      ·
        show Steps p.tables e below (T9.setTop (mkF m 51 #[.val (.ref o1), .val (.ref o2), .val (.int (3 : Int32)), .val (.int p3), .val (.int (0 : Int32)), .val (.int (if (((p3.toUInt32 >>> ((0 : Int32) &&& 31).toUInt32).toInt32) &&& (1 : Int32)) = (0 : Int32) then (0 : Int32) else (1 : Int32))), .val (.ref v5), .val (.int p12)] [(.int (if (((p3.toUInt32 >>> ((0 : Int32) &&& 31).toUInt32).toInt32) &&& (1 : Int32)) = (0 : Int32) then (0 : Int32) else (1 : Int32))), (.int p12)])) _
        refine XS.icmpNo X9.here hx rfl (hb hby d2_51) rfl (teq hc13).2 ?_
        refine XS.iconst X9.here hx rfl (hb hby d2_54) ?_
        refine XS.goto X9.here hx rfl (pc0 := 55) (pc' := 59) rfl (hb hby d2_55) (by decide) (by decide) ?_
        show Steps p.tables e below (T9.setTop (mkF m 59 #[.val (.ref o1), .val (.ref o2), .val (.int (3 : Int32)), .val (.int p3), .val (.int (0 : Int32)), .val (.int (if (((p3.toUInt32 >>> ((0 : Int32) &&& 31).toUInt32).toInt32) &&& (1 : Int32)) = (0 : Int32) then (0 : Int32) else (1 : Int32))), .val (.ref v5), .val (.int p12)] [(.int (1 : Int32))])) _
        exact retN X9 hx (t := .boolean) hret (by simp) (hb hby d2_59) hr
      ·
        show Q26 Z o1 o2 kc4 p9 p10 p11 p12 p13 p14 v5 v6 v7 kc8 p3 h0 n0 _ T9.heap _
        rw [e11]
        exact (Or.inl ⟨hc6, hc13, rfl, N9, rfl⟩)
    ·
      obtain ⟨fs, hr, hrun, hended, hW, hsame⟩ := X9.leave (v := some (.int (0 : Int32))) (fun h => by rw [hret] at h; cases h)
      refine ⟨_, _, pre12 _ ?_, hrun, hended, _, _, rfl, ?_, ⟨_, rfl⟩, hW, hsame.mono (by decide) (by decide)⟩
      ·
        show Steps p.tables e below (T9.setTop (mkF m 51 #[.val (.ref o1), .val (.ref o2), .val (.int (3 : Int32)), .val (.int p3), .val (.int (0 : Int32)), .val (.int (if (((p3.toUInt32 >>> ((0 : Int32) &&& 31).toUInt32).toInt32) &&& (1 : Int32)) = (0 : Int32) then (0 : Int32) else (1 : Int32))), .val (.ref v5), .val (.int p12)] [(.int (if (((p3.toUInt32 >>> ((0 : Int32) &&& 31).toUInt32).toInt32) &&& (1 : Int32)) = (0 : Int32) then (0 : Int32) else (1 : Int32))), (.int p12)])) _
        refine XS.icmpYes X9.here hx rfl (pc0 := 51) (pc' := 58) rfl (hb hby d2_51) rfl (feq hc13).2 (by decide) (by decide) ?_
        refine XS.iconst X9.here hx rfl (hb hby d2_58) ?_
        show Steps p.tables e below (T9.setTop (mkF m 59 #[.val (.ref o1), .val (.ref o2), .val (.int (3 : Int32)), .val (.int p3), .val (.int (0 : Int32)), .val (.int (if (((p3.toUInt32 >>> ((0 : Int32) &&& 31).toUInt32).toInt32) &&& (1 : Int32)) = (0 : Int32) then (0 : Int32) else (1 : Int32))), .val (.ref v5), .val (.int p12)] [(.int (0 : Int32))])) _
        exact retN X9 hx (t := .boolean) hret (by simp) (hb hby d2_59) hr
      ·
        show Q26 Z o1 o2 kc4 p9 p10 p11 p12 p13 p14 v5 v6 v7 kc8 p3 h0 n0 _ T9.heap _
        rw [e11]
        exact (Or.inr (Or.inl ⟨hc6, hc13, rfl, N9, rfl⟩))
  ·
    obtain ⟨fs, hr, hrun, hended, hW, hsame⟩ := X1.leave (v := some (.int (0 : Int32))) (fun h => by rw [hret] at h; cases h)
    refine ⟨_, _, pre5 _ ?_, hrun, hended, _, _, rfl, ?_, ⟨_, rfl⟩, hW, hsame.mono (by decide) (by decide)⟩
    ·
      show Steps p.tables e below (T1.setTop (mkF m 22 #[.val (.ref o1), .val (.ref o2), .val (.int (3 : Int32)), .val (.int p3), .val (.int (0 : Int32)), .val (.int (if (((p3.toUInt32 >>> ((0 : Int32) &&& 31).toUInt32).toInt32) &&& (1 : Int32)) = (0 : Int32) then (0 : Int32) else (1 : Int32))), .unset, .unset] [(.int (if (((p3.toUInt32 >>> ((0 : Int32) &&& 31).toUInt32).toInt32) &&& (1 : Int32)) = (0 : Int32) then (0 : Int32) else (1 : Int32))), (.int p9)])) _
      refine XS.icmpNo X1.here hx rfl (hb hby d2_22) rfl (feq hc6).1 ?_
      refine XS.iconst X1.here hx rfl (hb hby d2_25) ?_
      show Steps p.tables e below (T1.setTop (mkF m 26 #[.val (.ref o1), .val (.ref o2), .val (.int (3 : Int32)), .val (.int p3), .val (.int (0 : Int32)), .val (.int (if (((p3.toUInt32 >>> ((0 : Int32) &&& 31).toUInt32).toInt32) &&& (1 : Int32)) = (0 : Int32) then (0 : Int32) else (1 : Int32))), .unset, .unset] [(.int (0 : Int32))])) _
      exact retN X1 hx (t := .boolean) hret (by simp) (hb hby d2_26) hr
    ·
      show Q26 Z o1 o2 kc4 p9 p10 p11 p12 p13 p14 v5 v6 v7 kc8 p3 h0 n0 _ T1.heap _
      rw [e3]
      exact (Or.inr (Or.inr ⟨hc6, rfl, N1, rfl⟩))
theorem ef27 (m : MethodId) (x0 : Addr) (x1 : Addr) (x2 : Int32) (x3 : Int32) (x4 : Int32) : entryFrame m #[(.ref x0), (.ref x1), (.int x2), (.int x3), (.int x4)] 8 = mkF m 0 #[.val (.ref x0), .val (.ref x1), .val (.int x2), .val (.int x3), .val (.int x4), .unset, .unset, .unset] [] := by first | (simp [entryFrame, mkF, argsToLocals, Value.category]; done) | rfl
def Q27 (Z : State) (o1 : Addr) (o2 : Addr) (kc4 : ClassId) (p9 : Int32) (p10 : Int32) (p11 : Int32) (p12 : Int32) (p13 : Int32) (p14 : Int32) (v5 : Addr) (v6 : Addr) (v7 : Addr) (kc8 : ClassId) (p3 : Int32) (h0 : Heap) (n0 : Nat) (v : Option Value) (h : Heap) (L : List Loc) : Prop :=
  ((p10 = (if (((p3.toUInt32 >>> ((1 : Int32) &&& 31).toUInt32).toInt32) &&& (1 : Int32)) = (0 : Int32) then (0 : Int32) else (1 : Int32))) ∧ (p13 = (if (((p3.toUInt32 >>> ((1 : Int32) &&& 31).toUInt32).toInt32) &&& (1 : Int32)) = (0 : Int32) then (0 : Int32) else (1 : Int32))) ∧ v = some (.int (1 : Int32)) ∧ Fr n0 L ∧ h = h0)
  ∨ ((p10 = (if (((p3.toUInt32 >>> ((1 : Int32) &&& 31).toUInt32).toInt32) &&& (1 : Int32)) = (0 : Int32) then (0 : Int32) else (1 : Int32))) ∧ (¬ (p13 = (if (((p3.toUInt32 >>> ((1 : Int32) &&& 31).toUInt32).toInt32) &&& (1 : Int32)) = (0 : Int32) then (0 : Int32) else (1 : Int32)))) ∧ v = some (.int (0 : Int32)) ∧ Fr n0 L ∧ h = h0)
  ∨ ((¬ (p10 = (if (((p3.toUInt32 >>> ((1 : Int32) &&& 31).toUInt32).toInt32) &&& (1 : Int32)) = (0 : Int32) then (0 : Int32) else (1 : Int32)))) ∧ v = some (.int (0 : Int32)) ∧ Fr n0 L ∧ h = h0)
set_option maxRecDepth 65536 in
set_option maxHeartbeats 40000000 in
theorem rm27 (l : Launch) (Z : State) (a0 : Array Value) (hw : ∀ d ∈ tables_1, d.before a0 Z = true) (ws : List Jvm.Cond) (o1 : Addr) (o2 : Addr) (kc4 : ClassId) (p9 : Int32) (p10 : Int32) (p11 : Int32) (p12 : Int32) (p13 : Int32) (p14 : Int32) (v5 : Addr) (v6 : Addr) (v7 : Addr) (kc8 : ClassId) (p3 : Int32) (h0 : Heap) (n0 : Nat) (O0 : Old Z n0 h0) (g_o1 : n0 ≤ o1) (g_o2 : n0 ≤ o2) (Ov_kc4 : Ovr Z kc4 "java/lang/Boolean") (bd_p9 : 0 ≤ p9.toInt ∧ p9.toInt ≤ 1) (bd_p10 : 0 ≤ p10.toInt ∧ p10.toInt ≤ 1) (bd_p11 : 0 ≤ p11.toInt ∧ p11.toInt ≤ 1) (bd_p12 : 0 ≤ p12.toInt ∧ p12.toInt ≤ 1) (bd_p13 : 0 ≤ p13.toInt ∧ p13.toInt ≤ 1) (bd_p14 : 0 ≤ p14.toInt ∧ p14.toInt ≤ 1) (P0 : Arv Z h0 o1 kc4 (.object "java/lang/Boolean") (3 : Int32) [(.ref v5), (.ref v6), (.ref v7)] .null) (P2 : Arv Z h0 o2 kc8 .boolean (3 : Int32) [(.int p9), (.int p10), (.int p11)] (.int (0 : Int32))) (P6 : Exa Z Z.heap v6 "java/lang/Boolean") (P7 : Fld Z Z.heap v6 "java/lang/Boolean" "value" "Z" (.int p13)) :
    MetFree l yn2 (head1 (Jvm.Cond.code yn2 method_4_code 8 (some .boolean) :: ws) ({ frames := 1, cells := 0, slots := 0, locals := 13 } : Room)) (fun a U => a = #[(.ref o1), (.ref o2), (.int (3 : Int32)), (.int p3), (.int (1 : Int32))] ∧ Z.Warmed39 U.vm ∧ U.heap = h0) (fun _ _ _ _ _ => True) (fun _ U o U' => ∃ v L, o = .returned v ∧ Q27 Z o1 o2 kc4 p9 p10 p11 p12 p13 p14 v5 v6 v7 kc8 p3 h0 n0 v U'.heap L ∧ FrameEnd U o U' L ({ frames := 1, cells := 0, slots := 0, locals := 13 } : Room).cells ({ frames := 1, cells := 0, slots := 0, locals := 13 } : Room).slots) := by
  refine MetFree.of_bodySF (plainFor_of_name pn2) hisR ?_
  intro p e s m args below meth c s₁ Bd hml0 hP hK
  obtain ⟨rfl, hZ, hh⟩ := hP
  have hx := Bd.exec
  have hby := Bd.bytes
  have hml : c.maxLocals = 8 := hml0
  have hown : s.vm.findClass "com/example/castless/castless/PrimitiveArraysBox334PinLaw" = some m.cls := findClass_of_methodNamed Bd.named
  have hnm := (name_of_methodNamed Bd.named Bd.method).1
  have hret := Bd.returns
  have hlk : meth.locks = false := BodyLoose.notSynchronized Bd
  have X0 : Stand p l e ({ frames := 1, cells := 0, slots := 0, locals := 13 } : Room) s m #[(.ref o1), (.ref o2), (.int (3 : Int32)), (.int p3), (.int (1 : Int32))] below meth c s₁ [] 0 0 := Stand.of_body Bd
  have e0 : s₁.heap = h0 := by rw [← hh, Bd.state]; rfl
  have N0 := Fr.nil n0
  have pre0 : ∀ t, Steps p.tables e below (s₁.setTop (mkF m 0 #[.val (.ref o1), .val (.ref o2), .val (.int (3 : Int32)), .val (.int p3), .val (.int (1 : Int32)), .unset, .unset, .unset] [])) t → Steps p.tables e below (s₁.setTop (entryFrame m #[(.ref o1), (.ref o2), (.int (3 : Int32)), (.int p3), (.int (1 : Int32))] 8)) t := fun t k => castTop (ef27 m o1 o2 (3 : Int32) p3 (1 : Int32)) k
  obtain ⟨_, _, ⟨T1, L1, c1, n1⟩, -, X1, ⟨Lc1, hQ1, l1, y1, z1⟩, st1⟩ := Jvm.LawKit.callS X0 hx (y := yn3) hown (mvT hZ (own_w hw 24 rfl)) (mvT hZ (own_w hw 25 rfl)) (mvT hZ (own_w hw 22 rfl)) (mvT hZ (own_w hw 26 rfl)) (by decide) (backOf (W := 0) (rm16 l Z a0 hw [] p3 h0 n0 O0 ) hZ (own_w hw 26 rfl) (own_w hw 22 rfl) (by decide) (by decide)) (g := (mkF m 11 #[.val (.ref o1), .val (.ref o2), .val (.int (3 : Int32)), .val (.int p3), .val (.int (1 : Int32)), .unset, .unset, .unset] [(.int (1 : Int32)), (.int p3)])) rfl (by rw [hml]; rfl) (argsL := [(.int p3), (.int (1 : Int32))]) (rest := []) (lenOf pd3 rfl) rfl (by show 2 * 0 + _ ≤ _; exact Nat.le_of_eq rfl) (hb hby d2_11) (fun _ _ => ⟨rfl, e0, (by decide : 0 + 0 ≤ _), (by decide : 0 + 0 ≤ _)⟩)
  dsimp only [Pt.U, Pt.locs, Pt.cells, Pt.slots] at X1 l1 y1 z1 st1 hQ1
  subst l1 y1 z1
  have X1 : Stand p l e ({ frames := 1, cells := 0, slots := 0, locals := 13 } : Room) s m #[(.ref o1), (.ref o2), (.int (3 : Int32)), (.int p3), (.int (1 : Int32))] below meth c T1 _ 0 0 := X1
  obtain ⟨rfl, Nq2, e3⟩ := hQ1
  have N1 := Fr.app N0 Nq2
  obtain ⟨cl4, Ar4, qa4, Sa4, Na4, Ha4, Ga4⟩ := id (P2)
  have hin4 : ¬ ((1 : Int32) < 0 ∨ cl4.slots.size ≤ ((1 : Int32)).toNatClampNeg) := inb_of Sa4 ⟨by decide, by decide⟩
  have hat4 : cl4.slots[((1 : Int32)).toNatClampNeg]? = some (.int p10) := Has.at Ha4 hin4 rfl
  have pre5 : ∀ t, Steps p.tables e below (T1.setTop (mkF m 22 #[.val (.ref o1), .val (.ref o2), .val (.int (3 : Int32)), .val (.int p3), .val (.int (1 : Int32)), .val (.int (if (((p3.toUInt32 >>> ((1 : Int32) &&& 31).toUInt32).toInt32) &&& (1 : Int32)) = (0 : Int32) then (0 : Int32) else (1 : Int32))), .unset, .unset] [(.int (if (((p3.toUInt32 >>> ((1 : Int32) &&& 31).toUInt32).toInt32) &&& (1 : Int32)) = (0 : Int32) then (0 : Int32) else (1 : Int32))), (.int p10)])) t → Steps p.tables e below (s₁.setTop (entryFrame m #[(.ref o1), (.ref o2), (.int (3 : Int32)), (.int p3), (.int (1 : Int32))] 8)) t := fun t k => by
    refine pre0 _ ?_
    show Steps p.tables e below (s₁.setTop (mkF m 0 #[.val (.ref o1), .val (.ref o2), .val (.int (3 : Int32)), .val (.int p3), .val (.int (1 : Int32)), .unset, .unset, .unset] [])) _
    refine XS.iload X0.here hx rfl (hb hby d2_0) rfl ?_
    refine XS.iloadN X0.here hx rfl (hb hby d2_2) rfl ?_
    refine XS.icmpYes X0.here hx rfl (pc0 := 3) (pc' := 8) rfl (hb hby d2_3) rfl (tlt (by decide : (1 : Int32) < (3 : Int32))).1 (by decide) (by decide) ?_
    refine XS.iloadN X0.here hx rfl (hb hby d2_8) rfl ?_
    refine XS.iload X0.here hx rfl (hb hby d2_9) rfl ?_
    refine st1 _ ?_
    refine XS.istore X1.here hx rfl (hb hby d2_14) rfl (l' := #[.val (.ref o1), .val (.ref o2), .val (.int (3 : Int32)), .val (.int p3), .val (.int (1 : Int32)), .val (.int (if (((p3.toUInt32 >>> ((1 : Int32) &&& 31).toUInt32).toInt32) &&& (1 : Int32)) = (0 : Int32) then (0 : Int32) else (1 : Int32))), .unset, .unset]) rfl ?_
    refine XS.aloadN X1.here hx rfl (hb hby d2_16) rfl rfl ?_
    refine XS.iload X1.here hx rfl (hb hby d2_17) rfl ?_
    refine X1.baloadBooleans hx (j := (1 : Int32)) (v := (.int p10)) (by rw [e3]; exact Ar4.1) (State.isArrayOf_alike hZ.alike Ar4.2.1) Ar4.2.2 hin4 hat4 (g := (mkF m 19 #[.val (.ref o1), .val (.ref o2), .val (.int (3 : Int32)), .val (.int p3), .val (.int (1 : Int32)), .val (.int (if (((p3.toUInt32 >>> ((1 : Int32) &&& 31).toUInt32).toInt32) &&& (1 : Int32)) = (0 : Int32) then (0 : Int32) else (1 : Int32))), .unset, .unset] [(.int (1 : Int32)), (.ref o2)])) rfl rfl (hb hby d2_19) _ ?_
    refine XS.iload X1.here hx rfl (hb hby d2_20) rfl ?_
    exact k
  by_cases hc6 : p10 = (if (((p3.toUInt32 >>> ((1 : Int32) &&& 31).toUInt32).toInt32) &&& (1 : Int32)) = (0 : Int32) then (0 : Int32) else (1 : Int32))
  ·
    obtain ⟨cl7, Ar7, qa7, Sa7, Na7, Ha7, Ga7⟩ := id (P0)
    have hin7 : ¬ ((1 : Int32) < 0 ∨ cl7.slots.size ≤ ((1 : Int32)).toNatClampNeg) := inb_of Sa7 ⟨by decide, by decide⟩
    have hat7 : cl7.slots[((1 : Int32)).toNatClampNeg]? = some (.ref v6) := Has.at Ha7 hin7 rfl
    obtain ⟨cq8, kq8, q8a, q8b, q8c⟩ := isOf hZ e3 (P6.ext O0.2)
    obtain ⟨_, _, ⟨T9, L9, c9, n9⟩, -, X9, ⟨Lc9, hQ9, l9, y9, z9⟩, st9⟩ := X1.virtualBack hx (y := yn5) (z := yn5) hown (mvT hZ (own_w hw 34 rfl)) (mvT hZ (own_w hw 35 rfl)) (notFace_of_selects (args := #[]) (mvT hZ (own_w hw 37 rfl))) (mvT hZ (own_w hw 37 rfl)) (mvT hZ (own_w hw 36 rfl)) (by decide) (backOf (W := 0) (rm11 l Z a0 hw [] p13 v6 h0 n0 O0 (by have q0 := bd_p13; omega) P7) hZ (own_w hw 38 rfl) (own_w hw 29 rfl) (by decide) (by decide)) q8a q8c (g := (mkF m 42 #[.val (.ref o1), .val (.ref o2), .val (.int (3 : Int32)), .val (.int p3), .val (.int (1 : Int32)), .val (.int (if (((p3.toUInt32 >>> ((1 : Int32) &&& 31).toUInt32).toInt32) &&& (1 : Int32)) = (0 : Int32) then (0 : Int32) else (1 : Int32))), .val (.ref v6), .unset] [(.ref v6)])) rfl (by rw [hml]; rfl) (Steps.refl _) (argsL := []) (rest := []) (lenOf pd5 rfl) rfl (by show 2 * 0 + _ ≤ _; exact Nat.le_of_eq rfl) (hb hby d2_42) (fun _ _ => ⟨rfl, e3, (by decide : 0 + 0 ≤ _), (by decide : 0 + 0 ≤ _)⟩)
    dsimp only [Pt.U, Pt.locs, Pt.cells, Pt.slots] at X9 l9 y9 z9 st9 hQ9
    subst l9 y9 z9
    have X9 : Stand p l e ({ frames := 1, cells := 0, slots := 0, locals := 13 } : Room) s m #[(.ref o1), (.ref o2), (.int (3 : Int32)), (.int p3), (.int (1 : Int32))] below meth c T9 _ 0 0 := X9
    obtain ⟨rfl, Nq10, e11⟩ := hQ9
    have N9 := Fr.app N1 Nq10
    have pre12 : ∀ t, Steps p.tables e below (T9.setTop (mkF m 51 #[.val (.ref o1), .val (.ref o2), .val (.int (3 : Int32)), .val (.int p3), .val (.int (1 : Int32)), .val (.int (if (((p3.toUInt32 >>> ((1 : Int32) &&& 31).toUInt32).toInt32) &&& (1 : Int32)) = (0 : Int32) then (0 : Int32) else (1 : Int32))), .val (.ref v6), .val (.int p13)] [(.int (if (((p3.toUInt32 >>> ((1 : Int32) &&& 31).toUInt32).toInt32) &&& (1 : Int32)) = (0 : Int32) then (0 : Int32) else (1 : Int32))), (.int p13)])) t → Steps p.tables e below (s₁.setTop (entryFrame m #[(.ref o1), (.ref o2), (.int (3 : Int32)), (.int p3), (.int (1 : Int32))] 8)) t := fun t k => by
      refine pre5 _ ?_
      show Steps p.tables e below (T1.setTop (mkF m 22 #[.val (.ref o1), .val (.ref o2), .val (.int (3 : Int32)), .val (.int p3), .val (.int (1 : Int32)), .val (.int (if (((p3.toUInt32 >>> ((1 : Int32) &&& 31).toUInt32).toInt32) &&& (1 : Int32)) = (0 : Int32) then (0 : Int32) else (1 : Int32))), .unset, .unset] [(.int (if (((p3.toUInt32 >>> ((1 : Int32) &&& 31).toUInt32).toInt32) &&& (1 : Int32)) = (0 : Int32) then (0 : Int32) else (1 : Int32))), (.int p10)])) _
      refine XS.icmpYes X1.here hx rfl (pc0 := 22) (pc' := 27) rfl (hb hby d2_22) rfl (teq hc6).1 (by decide) (by decide) ?_
      refine XS.aloadN X1.here hx rfl (hb hby d2_27) rfl rfl ?_
      refine XS.iload X1.here hx rfl (hb hby d2_28) rfl ?_
      refine X1.aaload hx (j := (1 : Int32)) (v := (.ref v6)) (by rw [e3]; exact Ar7.1) (State.isArrayOf_alike hZ.alike Ar7.2.1) rfl Ar7.2.2 hin7 hat7 (g := (mkF m 30 #[.val (.ref o1), .val (.ref o2), .val (.int (3 : Int32)), .val (.int p3), .val (.int (1 : Int32)), .val (.int (if (((p3.toUInt32 >>> ((1 : Int32) &&& 31).toUInt32).toInt32) &&& (1 : Int32)) = (0 : Int32) then (0 : Int32) else (1 : Int32))), .unset, .unset] [(.int (1 : Int32)), (.ref o1)])) rfl rfl (hb hby d2_30) _ ?_
      refine XS.astore X1.here hx rfl (hb hby d2_31) rfl rfl (l' := #[.val (.ref o1), .val (.ref o2), .val (.int (3 : Int32)), .val (.int p3), .val (.int (1 : Int32)), .val (.int (if (((p3.toUInt32 >>> ((1 : Int32) &&& 31).toUInt32).toInt32) &&& (1 : Int32)) = (0 : Int32) then (0 : Int32) else (1 : Int32))), .val (.ref v6), .unset]) rfl ?_
      refine XS.aload X1.here hx rfl (hb hby d2_33) rfl rfl ?_
      refine XS.ifnonnullYes X1.here hx rfl (pc0 := 35) (pc' := 40) rfl (hb hby d2_35) rfl (by decide) (by decide) ?_
      refine XS.aload X1.here hx rfl (hb hby d2_40) rfl rfl ?_
      refine st9.trans ?_
      refine XS.istore X9.here hx rfl (hb hby d2_45) rfl (l' := #[.val (.ref o1), .val (.ref o2), .val (.int (3 : Int32)), .val (.int p3), .val (.int (1 : Int32)), .val (.int (if (((p3.toUInt32 >>> ((1 : Int32) &&& 31).toUInt32).toInt32) &&& (1 : Int32)) = (0 : Int32) then (0 : Int32) else (1 : Int32))), .val (.ref v6), .val (.int p13)]) rfl ?_
      refine XS.iload X9.here hx rfl (hb hby d2_47) rfl ?_
      refine XS.iload X9.here hx rfl (hb hby d2_49) rfl ?_
      exact k
    by_cases hc13 : p13 = (if (((p3.toUInt32 >>> ((1 : Int32) &&& 31).toUInt32).toInt32) &&& (1 : Int32)) = (0 : Int32) then (0 : Int32) else (1 : Int32))
    ·
      obtain ⟨fs, hr, hrun, hended, hW, hsame⟩ := X9.leave (v := some (.int (1 : Int32))) (fun h => by rw [hret] at h; cases h)
      refine ⟨_, _, pre12 _ ?_, hrun, hended, _, _, rfl, ?_, ⟨_, rfl⟩, hW, hsame.mono (by decide) (by decide)⟩
      ·
        show Steps p.tables e below (T9.setTop (mkF m 51 #[.val (.ref o1), .val (.ref o2), .val (.int (3 : Int32)), .val (.int p3), .val (.int (1 : Int32)), .val (.int (if (((p3.toUInt32 >>> ((1 : Int32) &&& 31).toUInt32).toInt32) &&& (1 : Int32)) = (0 : Int32) then (0 : Int32) else (1 : Int32))), .val (.ref v6), .val (.int p13)] [(.int (if (((p3.toUInt32 >>> ((1 : Int32) &&& 31).toUInt32).toInt32) &&& (1 : Int32)) = (0 : Int32) then (0 : Int32) else (1 : Int32))), (.int p13)])) _
        refine XS.icmpNo X9.here hx rfl (hb hby d2_51) rfl (teq hc13).2 ?_
        refine XS.iconst X9.here hx rfl (hb hby d2_54) ?_
        refine XS.goto X9.here hx rfl (pc0 := 55) (pc' := 59) rfl (hb hby d2_55) (by decide) (by decide) ?_
        show Steps p.tables e below (T9.setTop (mkF m 59 #[.val (.ref o1), .val (.ref o2), .val (.int (3 : Int32)), .val (.int p3), .val (.int (1 : Int32)), .val (.int (if (((p3.toUInt32 >>> ((1 : Int32) &&& 31).toUInt32).toInt32) &&& (1 : Int32)) = (0 : Int32) then (0 : Int32) else (1 : Int32))), .val (.ref v6), .val (.int p13)] [(.int (1 : Int32))])) _
        exact retN X9 hx (t := .boolean) hret (by simp) (hb hby d2_59) hr
      ·
        show Q27 Z o1 o2 kc4 p9 p10 p11 p12 p13 p14 v5 v6 v7 kc8 p3 h0 n0 _ T9.heap _
        rw [e11]
        exact (Or.inl ⟨hc6, hc13, rfl, N9, rfl⟩)
    ·
      obtain ⟨fs, hr, hrun, hended, hW, hsame⟩ := X9.leave (v := some (.int (0 : Int32))) (fun h => by rw [hret] at h; cases h)
      refine ⟨_, _, pre12 _ ?_, hrun, hended, _, _, rfl, ?_, ⟨_, rfl⟩, hW, hsame.mono (by decide) (by decide)⟩
      ·
        show Steps p.tables e below (T9.setTop (mkF m 51 #[.val (.ref o1), .val (.ref o2), .val (.int (3 : Int32)), .val (.int p3), .val (.int (1 : Int32)), .val (.int (if (((p3.toUInt32 >>> ((1 : Int32) &&& 31).toUInt32).toInt32) &&& (1 : Int32)) = (0 : Int32) then (0 : Int32) else (1 : Int32))), .val (.ref v6), .val (.int p13)] [(.int (if (((p3.toUInt32 >>> ((1 : Int32) &&& 31).toUInt32).toInt32) &&& (1 : Int32)) = (0 : Int32) then (0 : Int32) else (1 : Int32))), (.int p13)])) _
        refine XS.icmpYes X9.here hx rfl (pc0 := 51) (pc' := 58) rfl (hb hby d2_51) rfl (feq hc13).2 (by decide) (by decide) ?_
        refine XS.iconst X9.here hx rfl (hb hby d2_58) ?_
        show Steps p.tables e below (T9.setTop (mkF m 59 #[.val (.ref o1), .val (.ref o2), .val (.int (3 : Int32)), .val (.int p3), .val (.int (1 : Int32)), .val (.int (if (((p3.toUInt32 >>> ((1 : Int32) &&& 31).toUInt32).toInt32) &&& (1 : Int32)) = (0 : Int32) then (0 : Int32) else (1 : Int32))), .val (.ref v6), .val (.int p13)] [(.int (0 : Int32))])) _
        exact retN X9 hx (t := .boolean) hret (by simp) (hb hby d2_59) hr
      ·
        show Q27 Z o1 o2 kc4 p9 p10 p11 p12 p13 p14 v5 v6 v7 kc8 p3 h0 n0 _ T9.heap _
        rw [e11]
        exact (Or.inr (Or.inl ⟨hc6, hc13, rfl, N9, rfl⟩))
  ·
    obtain ⟨fs, hr, hrun, hended, hW, hsame⟩ := X1.leave (v := some (.int (0 : Int32))) (fun h => by rw [hret] at h; cases h)
    refine ⟨_, _, pre5 _ ?_, hrun, hended, _, _, rfl, ?_, ⟨_, rfl⟩, hW, hsame.mono (by decide) (by decide)⟩
    ·
      show Steps p.tables e below (T1.setTop (mkF m 22 #[.val (.ref o1), .val (.ref o2), .val (.int (3 : Int32)), .val (.int p3), .val (.int (1 : Int32)), .val (.int (if (((p3.toUInt32 >>> ((1 : Int32) &&& 31).toUInt32).toInt32) &&& (1 : Int32)) = (0 : Int32) then (0 : Int32) else (1 : Int32))), .unset, .unset] [(.int (if (((p3.toUInt32 >>> ((1 : Int32) &&& 31).toUInt32).toInt32) &&& (1 : Int32)) = (0 : Int32) then (0 : Int32) else (1 : Int32))), (.int p10)])) _
      refine XS.icmpNo X1.here hx rfl (hb hby d2_22) rfl (feq hc6).1 ?_
      refine XS.iconst X1.here hx rfl (hb hby d2_25) ?_
      show Steps p.tables e below (T1.setTop (mkF m 26 #[.val (.ref o1), .val (.ref o2), .val (.int (3 : Int32)), .val (.int p3), .val (.int (1 : Int32)), .val (.int (if (((p3.toUInt32 >>> ((1 : Int32) &&& 31).toUInt32).toInt32) &&& (1 : Int32)) = (0 : Int32) then (0 : Int32) else (1 : Int32))), .unset, .unset] [(.int (0 : Int32))])) _
      exact retN X1 hx (t := .boolean) hret (by simp) (hb hby d2_26) hr
    ·
      show Q27 Z o1 o2 kc4 p9 p10 p11 p12 p13 p14 v5 v6 v7 kc8 p3 h0 n0 _ T1.heap _
      rw [e3]
      exact (Or.inr (Or.inr ⟨hc6, rfl, N1, rfl⟩))
theorem ef28 (m : MethodId) (x0 : Addr) (x1 : Addr) (x2 : Int32) (x3 : Int32) (x4 : Int32) : entryFrame m #[(.ref x0), (.ref x1), (.int x2), (.int x3), (.int x4)] 8 = mkF m 0 #[.val (.ref x0), .val (.ref x1), .val (.int x2), .val (.int x3), .val (.int x4), .unset, .unset, .unset] [] := by first | (simp [entryFrame, mkF, argsToLocals, Value.category]; done) | rfl
def Q28 (Z : State) (o1 : Addr) (o2 : Addr) (kc4 : ClassId) (p9 : Int32) (p10 : Int32) (p11 : Int32) (p12 : Int32) (p13 : Int32) (p14 : Int32) (v5 : Addr) (v6 : Addr) (v7 : Addr) (kc8 : ClassId) (p3 : Int32) (h0 : Heap) (n0 : Nat) (v : Option Value) (h : Heap) (L : List Loc) : Prop :=
  ((p11 = (if (((p3.toUInt32 >>> ((2 : Int32) &&& 31).toUInt32).toInt32) &&& (1 : Int32)) = (0 : Int32) then (0 : Int32) else (1 : Int32))) ∧ (p14 = (if (((p3.toUInt32 >>> ((2 : Int32) &&& 31).toUInt32).toInt32) &&& (1 : Int32)) = (0 : Int32) then (0 : Int32) else (1 : Int32))) ∧ v = some (.int (1 : Int32)) ∧ Fr n0 L ∧ h = h0)
  ∨ ((p11 = (if (((p3.toUInt32 >>> ((2 : Int32) &&& 31).toUInt32).toInt32) &&& (1 : Int32)) = (0 : Int32) then (0 : Int32) else (1 : Int32))) ∧ (¬ (p14 = (if (((p3.toUInt32 >>> ((2 : Int32) &&& 31).toUInt32).toInt32) &&& (1 : Int32)) = (0 : Int32) then (0 : Int32) else (1 : Int32)))) ∧ v = some (.int (0 : Int32)) ∧ Fr n0 L ∧ h = h0)
  ∨ ((¬ (p11 = (if (((p3.toUInt32 >>> ((2 : Int32) &&& 31).toUInt32).toInt32) &&& (1 : Int32)) = (0 : Int32) then (0 : Int32) else (1 : Int32)))) ∧ v = some (.int (0 : Int32)) ∧ Fr n0 L ∧ h = h0)
set_option maxRecDepth 65536 in
set_option maxHeartbeats 40000000 in
theorem rm28 (l : Launch) (Z : State) (a0 : Array Value) (hw : ∀ d ∈ tables_1, d.before a0 Z = true) (ws : List Jvm.Cond) (o1 : Addr) (o2 : Addr) (kc4 : ClassId) (p9 : Int32) (p10 : Int32) (p11 : Int32) (p12 : Int32) (p13 : Int32) (p14 : Int32) (v5 : Addr) (v6 : Addr) (v7 : Addr) (kc8 : ClassId) (p3 : Int32) (h0 : Heap) (n0 : Nat) (O0 : Old Z n0 h0) (g_o1 : n0 ≤ o1) (g_o2 : n0 ≤ o2) (Ov_kc4 : Ovr Z kc4 "java/lang/Boolean") (bd_p9 : 0 ≤ p9.toInt ∧ p9.toInt ≤ 1) (bd_p10 : 0 ≤ p10.toInt ∧ p10.toInt ≤ 1) (bd_p11 : 0 ≤ p11.toInt ∧ p11.toInt ≤ 1) (bd_p12 : 0 ≤ p12.toInt ∧ p12.toInt ≤ 1) (bd_p13 : 0 ≤ p13.toInt ∧ p13.toInt ≤ 1) (bd_p14 : 0 ≤ p14.toInt ∧ p14.toInt ≤ 1) (P0 : Arv Z h0 o1 kc4 (.object "java/lang/Boolean") (3 : Int32) [(.ref v5), (.ref v6), (.ref v7)] .null) (P2 : Arv Z h0 o2 kc8 .boolean (3 : Int32) [(.int p9), (.int p10), (.int p11)] (.int (0 : Int32))) (P8 : Exa Z Z.heap v7 "java/lang/Boolean") (P9 : Fld Z Z.heap v7 "java/lang/Boolean" "value" "Z" (.int p14)) :
    MetFree l yn2 (head1 (Jvm.Cond.code yn2 method_4_code 8 (some .boolean) :: ws) ({ frames := 1, cells := 0, slots := 0, locals := 13 } : Room)) (fun a U => a = #[(.ref o1), (.ref o2), (.int (3 : Int32)), (.int p3), (.int (2 : Int32))] ∧ Z.Warmed39 U.vm ∧ U.heap = h0) (fun _ _ _ _ _ => True) (fun _ U o U' => ∃ v L, o = .returned v ∧ Q28 Z o1 o2 kc4 p9 p10 p11 p12 p13 p14 v5 v6 v7 kc8 p3 h0 n0 v U'.heap L ∧ FrameEnd U o U' L ({ frames := 1, cells := 0, slots := 0, locals := 13 } : Room).cells ({ frames := 1, cells := 0, slots := 0, locals := 13 } : Room).slots) := by
  refine MetFree.of_bodySF (plainFor_of_name pn2) hisR ?_
  intro p e s m args below meth c s₁ Bd hml0 hP hK
  obtain ⟨rfl, hZ, hh⟩ := hP
  have hx := Bd.exec
  have hby := Bd.bytes
  have hml : c.maxLocals = 8 := hml0
  have hown : s.vm.findClass "com/example/castless/castless/PrimitiveArraysBox334PinLaw" = some m.cls := findClass_of_methodNamed Bd.named
  have hnm := (name_of_methodNamed Bd.named Bd.method).1
  have hret := Bd.returns
  have hlk : meth.locks = false := BodyLoose.notSynchronized Bd
  have X0 : Stand p l e ({ frames := 1, cells := 0, slots := 0, locals := 13 } : Room) s m #[(.ref o1), (.ref o2), (.int (3 : Int32)), (.int p3), (.int (2 : Int32))] below meth c s₁ [] 0 0 := Stand.of_body Bd
  have e0 : s₁.heap = h0 := by rw [← hh, Bd.state]; rfl
  have N0 := Fr.nil n0
  have pre0 : ∀ t, Steps p.tables e below (s₁.setTop (mkF m 0 #[.val (.ref o1), .val (.ref o2), .val (.int (3 : Int32)), .val (.int p3), .val (.int (2 : Int32)), .unset, .unset, .unset] [])) t → Steps p.tables e below (s₁.setTop (entryFrame m #[(.ref o1), (.ref o2), (.int (3 : Int32)), (.int p3), (.int (2 : Int32))] 8)) t := fun t k => castTop (ef28 m o1 o2 (3 : Int32) p3 (2 : Int32)) k
  obtain ⟨_, _, ⟨T1, L1, c1, n1⟩, -, X1, ⟨Lc1, hQ1, l1, y1, z1⟩, st1⟩ := Jvm.LawKit.callS X0 hx (y := yn3) hown (mvT hZ (own_w hw 24 rfl)) (mvT hZ (own_w hw 25 rfl)) (mvT hZ (own_w hw 22 rfl)) (mvT hZ (own_w hw 26 rfl)) (by decide) (backOf (W := 0) (rm23 l Z a0 hw [] p3 h0 n0 O0 ) hZ (own_w hw 26 rfl) (own_w hw 22 rfl) (by decide) (by decide)) (g := (mkF m 11 #[.val (.ref o1), .val (.ref o2), .val (.int (3 : Int32)), .val (.int p3), .val (.int (2 : Int32)), .unset, .unset, .unset] [(.int (2 : Int32)), (.int p3)])) rfl (by rw [hml]; rfl) (argsL := [(.int p3), (.int (2 : Int32))]) (rest := []) (lenOf pd3 rfl) rfl (by show 2 * 0 + _ ≤ _; exact Nat.le_of_eq rfl) (hb hby d2_11) (fun _ _ => ⟨rfl, e0, (by decide : 0 + 0 ≤ _), (by decide : 0 + 0 ≤ _)⟩)
  dsimp only [Pt.U, Pt.locs, Pt.cells, Pt.slots] at X1 l1 y1 z1 st1 hQ1
  subst l1 y1 z1
  have X1 : Stand p l e ({ frames := 1, cells := 0, slots := 0, locals := 13 } : Room) s m #[(.ref o1), (.ref o2), (.int (3 : Int32)), (.int p3), (.int (2 : Int32))] below meth c T1 _ 0 0 := X1
  obtain ⟨rfl, Nq2, e3⟩ := hQ1
  have N1 := Fr.app N0 Nq2
  obtain ⟨cl4, Ar4, qa4, Sa4, Na4, Ha4, Ga4⟩ := id (P2)
  have hin4 : ¬ ((2 : Int32) < 0 ∨ cl4.slots.size ≤ ((2 : Int32)).toNatClampNeg) := inb_of Sa4 ⟨by decide, by decide⟩
  have hat4 : cl4.slots[((2 : Int32)).toNatClampNeg]? = some (.int p11) := Has.at Ha4 hin4 rfl
  have pre5 : ∀ t, Steps p.tables e below (T1.setTop (mkF m 22 #[.val (.ref o1), .val (.ref o2), .val (.int (3 : Int32)), .val (.int p3), .val (.int (2 : Int32)), .val (.int (if (((p3.toUInt32 >>> ((2 : Int32) &&& 31).toUInt32).toInt32) &&& (1 : Int32)) = (0 : Int32) then (0 : Int32) else (1 : Int32))), .unset, .unset] [(.int (if (((p3.toUInt32 >>> ((2 : Int32) &&& 31).toUInt32).toInt32) &&& (1 : Int32)) = (0 : Int32) then (0 : Int32) else (1 : Int32))), (.int p11)])) t → Steps p.tables e below (s₁.setTop (entryFrame m #[(.ref o1), (.ref o2), (.int (3 : Int32)), (.int p3), (.int (2 : Int32))] 8)) t := fun t k => by
    refine pre0 _ ?_
    show Steps p.tables e below (s₁.setTop (mkF m 0 #[.val (.ref o1), .val (.ref o2), .val (.int (3 : Int32)), .val (.int p3), .val (.int (2 : Int32)), .unset, .unset, .unset] [])) _
    refine XS.iload X0.here hx rfl (hb hby d2_0) rfl ?_
    refine XS.iloadN X0.here hx rfl (hb hby d2_2) rfl ?_
    refine XS.icmpYes X0.here hx rfl (pc0 := 3) (pc' := 8) rfl (hb hby d2_3) rfl (tlt (by decide : (2 : Int32) < (3 : Int32))).1 (by decide) (by decide) ?_
    refine XS.iloadN X0.here hx rfl (hb hby d2_8) rfl ?_
    refine XS.iload X0.here hx rfl (hb hby d2_9) rfl ?_
    refine st1 _ ?_
    refine XS.istore X1.here hx rfl (hb hby d2_14) rfl (l' := #[.val (.ref o1), .val (.ref o2), .val (.int (3 : Int32)), .val (.int p3), .val (.int (2 : Int32)), .val (.int (if (((p3.toUInt32 >>> ((2 : Int32) &&& 31).toUInt32).toInt32) &&& (1 : Int32)) = (0 : Int32) then (0 : Int32) else (1 : Int32))), .unset, .unset]) rfl ?_
    refine XS.aloadN X1.here hx rfl (hb hby d2_16) rfl rfl ?_
    refine XS.iload X1.here hx rfl (hb hby d2_17) rfl ?_
    refine X1.baloadBooleans hx (j := (2 : Int32)) (v := (.int p11)) (by rw [e3]; exact Ar4.1) (State.isArrayOf_alike hZ.alike Ar4.2.1) Ar4.2.2 hin4 hat4 (g := (mkF m 19 #[.val (.ref o1), .val (.ref o2), .val (.int (3 : Int32)), .val (.int p3), .val (.int (2 : Int32)), .val (.int (if (((p3.toUInt32 >>> ((2 : Int32) &&& 31).toUInt32).toInt32) &&& (1 : Int32)) = (0 : Int32) then (0 : Int32) else (1 : Int32))), .unset, .unset] [(.int (2 : Int32)), (.ref o2)])) rfl rfl (hb hby d2_19) _ ?_
    refine XS.iload X1.here hx rfl (hb hby d2_20) rfl ?_
    exact k
  by_cases hc6 : p11 = (if (((p3.toUInt32 >>> ((2 : Int32) &&& 31).toUInt32).toInt32) &&& (1 : Int32)) = (0 : Int32) then (0 : Int32) else (1 : Int32))
  ·
    obtain ⟨cl7, Ar7, qa7, Sa7, Na7, Ha7, Ga7⟩ := id (P0)
    have hin7 : ¬ ((2 : Int32) < 0 ∨ cl7.slots.size ≤ ((2 : Int32)).toNatClampNeg) := inb_of Sa7 ⟨by decide, by decide⟩
    have hat7 : cl7.slots[((2 : Int32)).toNatClampNeg]? = some (.ref v7) := Has.at Ha7 hin7 rfl
    obtain ⟨cq8, kq8, q8a, q8b, q8c⟩ := isOf hZ e3 (P8.ext O0.2)
    obtain ⟨_, _, ⟨T9, L9, c9, n9⟩, -, X9, ⟨Lc9, hQ9, l9, y9, z9⟩, st9⟩ := X1.virtualBack hx (y := yn5) (z := yn5) hown (mvT hZ (own_w hw 34 rfl)) (mvT hZ (own_w hw 35 rfl)) (notFace_of_selects (args := #[]) (mvT hZ (own_w hw 37 rfl))) (mvT hZ (own_w hw 37 rfl)) (mvT hZ (own_w hw 36 rfl)) (by decide) (backOf (W := 0) (rm11 l Z a0 hw [] p14 v7 h0 n0 O0 (by have q0 := bd_p14; omega) P9) hZ (own_w hw 38 rfl) (own_w hw 29 rfl) (by decide) (by decide)) q8a q8c (g := (mkF m 42 #[.val (.ref o1), .val (.ref o2), .val (.int (3 : Int32)), .val (.int p3), .val (.int (2 : Int32)), .val (.int (if (((p3.toUInt32 >>> ((2 : Int32) &&& 31).toUInt32).toInt32) &&& (1 : Int32)) = (0 : Int32) then (0 : Int32) else (1 : Int32))), .val (.ref v7), .unset] [(.ref v7)])) rfl (by rw [hml]; rfl) (Steps.refl _) (argsL := []) (rest := []) (lenOf pd5 rfl) rfl (by show 2 * 0 + _ ≤ _; exact Nat.le_of_eq rfl) (hb hby d2_42) (fun _ _ => ⟨rfl, e3, (by decide : 0 + 0 ≤ _), (by decide : 0 + 0 ≤ _)⟩)
    dsimp only [Pt.U, Pt.locs, Pt.cells, Pt.slots] at X9 l9 y9 z9 st9 hQ9
    subst l9 y9 z9
    have X9 : Stand p l e ({ frames := 1, cells := 0, slots := 0, locals := 13 } : Room) s m #[(.ref o1), (.ref o2), (.int (3 : Int32)), (.int p3), (.int (2 : Int32))] below meth c T9 _ 0 0 := X9
    obtain ⟨rfl, Nq10, e11⟩ := hQ9
    have N9 := Fr.app N1 Nq10
    have pre12 : ∀ t, Steps p.tables e below (T9.setTop (mkF m 51 #[.val (.ref o1), .val (.ref o2), .val (.int (3 : Int32)), .val (.int p3), .val (.int (2 : Int32)), .val (.int (if (((p3.toUInt32 >>> ((2 : Int32) &&& 31).toUInt32).toInt32) &&& (1 : Int32)) = (0 : Int32) then (0 : Int32) else (1 : Int32))), .val (.ref v7), .val (.int p14)] [(.int (if (((p3.toUInt32 >>> ((2 : Int32) &&& 31).toUInt32).toInt32) &&& (1 : Int32)) = (0 : Int32) then (0 : Int32) else (1 : Int32))), (.int p14)])) t → Steps p.tables e below (s₁.setTop (entryFrame m #[(.ref o1), (.ref o2), (.int (3 : Int32)), (.int p3), (.int (2 : Int32))] 8)) t := fun t k => by
      refine pre5 _ ?_
      show Steps p.tables e below (T1.setTop (mkF m 22 #[.val (.ref o1), .val (.ref o2), .val (.int (3 : Int32)), .val (.int p3), .val (.int (2 : Int32)), .val (.int (if (((p3.toUInt32 >>> ((2 : Int32) &&& 31).toUInt32).toInt32) &&& (1 : Int32)) = (0 : Int32) then (0 : Int32) else (1 : Int32))), .unset, .unset] [(.int (if (((p3.toUInt32 >>> ((2 : Int32) &&& 31).toUInt32).toInt32) &&& (1 : Int32)) = (0 : Int32) then (0 : Int32) else (1 : Int32))), (.int p11)])) _
      refine XS.icmpYes X1.here hx rfl (pc0 := 22) (pc' := 27) rfl (hb hby d2_22) rfl (teq hc6).1 (by decide) (by decide) ?_
      refine XS.aloadN X1.here hx rfl (hb hby d2_27) rfl rfl ?_
      refine XS.iload X1.here hx rfl (hb hby d2_28) rfl ?_
      refine X1.aaload hx (j := (2 : Int32)) (v := (.ref v7)) (by rw [e3]; exact Ar7.1) (State.isArrayOf_alike hZ.alike Ar7.2.1) rfl Ar7.2.2 hin7 hat7 (g := (mkF m 30 #[.val (.ref o1), .val (.ref o2), .val (.int (3 : Int32)), .val (.int p3), .val (.int (2 : Int32)), .val (.int (if (((p3.toUInt32 >>> ((2 : Int32) &&& 31).toUInt32).toInt32) &&& (1 : Int32)) = (0 : Int32) then (0 : Int32) else (1 : Int32))), .unset, .unset] [(.int (2 : Int32)), (.ref o1)])) rfl rfl (hb hby d2_30) _ ?_
      refine XS.astore X1.here hx rfl (hb hby d2_31) rfl rfl (l' := #[.val (.ref o1), .val (.ref o2), .val (.int (3 : Int32)), .val (.int p3), .val (.int (2 : Int32)), .val (.int (if (((p3.toUInt32 >>> ((2 : Int32) &&& 31).toUInt32).toInt32) &&& (1 : Int32)) = (0 : Int32) then (0 : Int32) else (1 : Int32))), .val (.ref v7), .unset]) rfl ?_
      refine XS.aload X1.here hx rfl (hb hby d2_33) rfl rfl ?_
      refine XS.ifnonnullYes X1.here hx rfl (pc0 := 35) (pc' := 40) rfl (hb hby d2_35) rfl (by decide) (by decide) ?_
      refine XS.aload X1.here hx rfl (hb hby d2_40) rfl rfl ?_
      refine st9.trans ?_
      refine XS.istore X9.here hx rfl (hb hby d2_45) rfl (l' := #[.val (.ref o1), .val (.ref o2), .val (.int (3 : Int32)), .val (.int p3), .val (.int (2 : Int32)), .val (.int (if (((p3.toUInt32 >>> ((2 : Int32) &&& 31).toUInt32).toInt32) &&& (1 : Int32)) = (0 : Int32) then (0 : Int32) else (1 : Int32))), .val (.ref v7), .val (.int p14)]) rfl ?_
      refine XS.iload X9.here hx rfl (hb hby d2_47) rfl ?_
      refine XS.iload X9.here hx rfl (hb hby d2_49) rfl ?_
      exact k
    by_cases hc13 : p14 = (if (((p3.toUInt32 >>> ((2 : Int32) &&& 31).toUInt32).toInt32) &&& (1 : Int32)) = (0 : Int32) then (0 : Int32) else (1 : Int32))
    ·
      obtain ⟨fs, hr, hrun, hended, hW, hsame⟩ := X9.leave (v := some (.int (1 : Int32))) (fun h => by rw [hret] at h; cases h)
      refine ⟨_, _, pre12 _ ?_, hrun, hended, _, _, rfl, ?_, ⟨_, rfl⟩, hW, hsame.mono (by decide) (by decide)⟩
      ·
        show Steps p.tables e below (T9.setTop (mkF m 51 #[.val (.ref o1), .val (.ref o2), .val (.int (3 : Int32)), .val (.int p3), .val (.int (2 : Int32)), .val (.int (if (((p3.toUInt32 >>> ((2 : Int32) &&& 31).toUInt32).toInt32) &&& (1 : Int32)) = (0 : Int32) then (0 : Int32) else (1 : Int32))), .val (.ref v7), .val (.int p14)] [(.int (if (((p3.toUInt32 >>> ((2 : Int32) &&& 31).toUInt32).toInt32) &&& (1 : Int32)) = (0 : Int32) then (0 : Int32) else (1 : Int32))), (.int p14)])) _
        refine XS.icmpNo X9.here hx rfl (hb hby d2_51) rfl (teq hc13).2 ?_
        refine XS.iconst X9.here hx rfl (hb hby d2_54) ?_
        refine XS.goto X9.here hx rfl (pc0 := 55) (pc' := 59) rfl (hb hby d2_55) (by decide) (by decide) ?_
        show Steps p.tables e below (T9.setTop (mkF m 59 #[.val (.ref o1), .val (.ref o2), .val (.int (3 : Int32)), .val (.int p3), .val (.int (2 : Int32)), .val (.int (if (((p3.toUInt32 >>> ((2 : Int32) &&& 31).toUInt32).toInt32) &&& (1 : Int32)) = (0 : Int32) then (0 : Int32) else (1 : Int32))), .val (.ref v7), .val (.int p14)] [(.int (1 : Int32))])) _
        exact retN X9 hx (t := .boolean) hret (by simp) (hb hby d2_59) hr
      ·
        show Q28 Z o1 o2 kc4 p9 p10 p11 p12 p13 p14 v5 v6 v7 kc8 p3 h0 n0 _ T9.heap _
        rw [e11]
        exact (Or.inl ⟨hc6, hc13, rfl, N9, rfl⟩)
    ·
      obtain ⟨fs, hr, hrun, hended, hW, hsame⟩ := X9.leave (v := some (.int (0 : Int32))) (fun h => by rw [hret] at h; cases h)
      refine ⟨_, _, pre12 _ ?_, hrun, hended, _, _, rfl, ?_, ⟨_, rfl⟩, hW, hsame.mono (by decide) (by decide)⟩
      ·
        show Steps p.tables e below (T9.setTop (mkF m 51 #[.val (.ref o1), .val (.ref o2), .val (.int (3 : Int32)), .val (.int p3), .val (.int (2 : Int32)), .val (.int (if (((p3.toUInt32 >>> ((2 : Int32) &&& 31).toUInt32).toInt32) &&& (1 : Int32)) = (0 : Int32) then (0 : Int32) else (1 : Int32))), .val (.ref v7), .val (.int p14)] [(.int (if (((p3.toUInt32 >>> ((2 : Int32) &&& 31).toUInt32).toInt32) &&& (1 : Int32)) = (0 : Int32) then (0 : Int32) else (1 : Int32))), (.int p14)])) _
        refine XS.icmpYes X9.here hx rfl (pc0 := 51) (pc' := 58) rfl (hb hby d2_51) rfl (feq hc13).2 (by decide) (by decide) ?_
        refine XS.iconst X9.here hx rfl (hb hby d2_58) ?_
        show Steps p.tables e below (T9.setTop (mkF m 59 #[.val (.ref o1), .val (.ref o2), .val (.int (3 : Int32)), .val (.int p3), .val (.int (2 : Int32)), .val (.int (if (((p3.toUInt32 >>> ((2 : Int32) &&& 31).toUInt32).toInt32) &&& (1 : Int32)) = (0 : Int32) then (0 : Int32) else (1 : Int32))), .val (.ref v7), .val (.int p14)] [(.int (0 : Int32))])) _
        exact retN X9 hx (t := .boolean) hret (by simp) (hb hby d2_59) hr
      ·
        show Q28 Z o1 o2 kc4 p9 p10 p11 p12 p13 p14 v5 v6 v7 kc8 p3 h0 n0 _ T9.heap _
        rw [e11]
        exact (Or.inr (Or.inl ⟨hc6, hc13, rfl, N9, rfl⟩))
  ·
    obtain ⟨fs, hr, hrun, hended, hW, hsame⟩ := X1.leave (v := some (.int (0 : Int32))) (fun h => by rw [hret] at h; cases h)
    refine ⟨_, _, pre5 _ ?_, hrun, hended, _, _, rfl, ?_, ⟨_, rfl⟩, hW, hsame.mono (by decide) (by decide)⟩
    ·
      show Steps p.tables e below (T1.setTop (mkF m 22 #[.val (.ref o1), .val (.ref o2), .val (.int (3 : Int32)), .val (.int p3), .val (.int (2 : Int32)), .val (.int (if (((p3.toUInt32 >>> ((2 : Int32) &&& 31).toUInt32).toInt32) &&& (1 : Int32)) = (0 : Int32) then (0 : Int32) else (1 : Int32))), .unset, .unset] [(.int (if (((p3.toUInt32 >>> ((2 : Int32) &&& 31).toUInt32).toInt32) &&& (1 : Int32)) = (0 : Int32) then (0 : Int32) else (1 : Int32))), (.int p11)])) _
      refine XS.icmpNo X1.here hx rfl (hb hby d2_22) rfl (feq hc6).1 ?_
      refine XS.iconst X1.here hx rfl (hb hby d2_25) ?_
      show Steps p.tables e below (T1.setTop (mkF m 26 #[.val (.ref o1), .val (.ref o2), .val (.int (3 : Int32)), .val (.int p3), .val (.int (2 : Int32)), .val (.int (if (((p3.toUInt32 >>> ((2 : Int32) &&& 31).toUInt32).toInt32) &&& (1 : Int32)) = (0 : Int32) then (0 : Int32) else (1 : Int32))), .unset, .unset] [(.int (0 : Int32))])) _
      exact retN X1 hx (t := .boolean) hret (by simp) (hb hby d2_26) hr
    ·
      show Q28 Z o1 o2 kc4 p9 p10 p11 p12 p13 p14 v5 v6 v7 kc8 p3 h0 n0 _ T1.heap _
      rw [e3]
      exact (Or.inr (Or.inr ⟨hc6, rfl, N1, rfl⟩))
theorem ef29 (m : MethodId) (x0 : Addr) (x1 : Addr) (x2 : Int32) (x3 : Int32) (x4 : Int32) : entryFrame m #[(.ref x0), (.ref x1), (.int x2), (.int x3), (.int x4)] 8 = mkF m 0 #[.val (.ref x0), .val (.ref x1), .val (.int x2), .val (.int x3), .val (.int x4), .unset, .unset, .unset] [] := by first | (simp [entryFrame, mkF, argsToLocals, Value.category]; done) | rfl
def Q29 (Z : State) (o1 : Addr) (o2 : Addr) (kc4 : ClassId) (p9 : Int32) (p10 : Int32) (p11 : Int32) (p12 : Int32) (p13 : Int32) (p14 : Int32) (p3 : Int32) (h0 : Heap) (n0 : Nat) (v : Option Value) (h : Heap) (L : List Loc) : Prop :=
  (v = some (.int (1 : Int32)) ∧ Fr n0 L ∧ h = h0)
set_option maxRecDepth 65536 in
set_option maxHeartbeats 40000000 in
theorem rm29 (l : Launch) (Z : State) (a0 : Array Value) (hw : ∀ d ∈ tables_1, d.before a0 Z = true) (ws : List Jvm.Cond) (o1 : Addr) (o2 : Addr) (kc4 : ClassId) (p9 : Int32) (p10 : Int32) (p11 : Int32) (p12 : Int32) (p13 : Int32) (p14 : Int32) (p3 : Int32) (h0 : Heap) (n0 : Nat) (O0 : Old Z n0 h0) (g_o1 : n0 ≤ o1) (g_o2 : n0 ≤ o2) (Ov_kc4 : Ovr Z kc4 "java/lang/Boolean") (bd_p9 : 0 ≤ p9.toInt ∧ p9.toInt ≤ 1) (bd_p10 : 0 ≤ p10.toInt ∧ p10.toInt ≤ 1) (bd_p11 : 0 ≤ p11.toInt ∧ p11.toInt ≤ 1) (bd_p12 : 0 ≤ p12.toInt ∧ p12.toInt ≤ 1) (bd_p13 : 0 ≤ p13.toInt ∧ p13.toInt ≤ 1) (bd_p14 : 0 ≤ p14.toInt ∧ p14.toInt ≤ 1) :
    MetFree l yn2 (head1 (Jvm.Cond.code yn2 method_4_code 8 (some .boolean) :: ws) ({ frames := 0, cells := 0, slots := 0, locals := 0 } : Room)) (fun a U => a = #[(.ref o1), (.ref o2), (.int (3 : Int32)), (.int p3), (.int (3 : Int32))] ∧ Z.Warmed39 U.vm ∧ U.heap = h0) (fun _ _ _ _ _ => True) (fun _ U o U' => ∃ v L, o = .returned v ∧ Q29 Z o1 o2 kc4 p9 p10 p11 p12 p13 p14 p3 h0 n0 v U'.heap L ∧ FrameEnd U o U' L ({ frames := 0, cells := 0, slots := 0, locals := 0 } : Room).cells ({ frames := 0, cells := 0, slots := 0, locals := 0 } : Room).slots) := by
  refine MetFree.of_bodySF (plainFor_of_name pn2) hisR ?_
  intro p e s m args below meth c s₁ Bd hml0 hP hK
  obtain ⟨rfl, hZ, hh⟩ := hP
  have hx := Bd.exec
  have hby := Bd.bytes
  have hml : c.maxLocals = 8 := hml0
  have hown : s.vm.findClass "com/example/castless/castless/PrimitiveArraysBox334PinLaw" = some m.cls := findClass_of_methodNamed Bd.named
  have hnm := (name_of_methodNamed Bd.named Bd.method).1
  have hret := Bd.returns
  have hlk : meth.locks = false := BodyLoose.notSynchronized Bd
  have X0 : Stand p l e ({ frames := 0, cells := 0, slots := 0, locals := 0 } : Room) s m #[(.ref o1), (.ref o2), (.int (3 : Int32)), (.int p3), (.int (3 : Int32))] below meth c s₁ [] 0 0 := Stand.of_body Bd
  have e0 : s₁.heap = h0 := by rw [← hh, Bd.state]; rfl
  have N0 := Fr.nil n0
  have pre0 : ∀ t, Steps p.tables e below (s₁.setTop (mkF m 0 #[.val (.ref o1), .val (.ref o2), .val (.int (3 : Int32)), .val (.int p3), .val (.int (3 : Int32)), .unset, .unset, .unset] [])) t → Steps p.tables e below (s₁.setTop (entryFrame m #[(.ref o1), (.ref o2), (.int (3 : Int32)), (.int p3), (.int (3 : Int32))] 8)) t := fun t k => castTop (ef29 m o1 o2 (3 : Int32) p3 (3 : Int32)) k
  obtain ⟨fs, hr, hrun, hended, hW, hsame⟩ := X0.leave (v := some (.int (1 : Int32))) (fun h => by rw [hret] at h; cases h)
  refine ⟨_, _, pre0 _ ?_, hrun, hended, _, _, rfl, ?_, ⟨_, rfl⟩, hW, hsame.mono (by decide) (by decide)⟩
  ·
    show Steps p.tables e below (s₁.setTop (mkF m 0 #[.val (.ref o1), .val (.ref o2), .val (.int (3 : Int32)), .val (.int p3), .val (.int (3 : Int32)), .unset, .unset, .unset] [])) _
    refine XS.iload X0.here hx rfl (hb hby d2_0) rfl ?_
    refine XS.iloadN X0.here hx rfl (hb hby d2_2) rfl ?_
    refine XS.icmpNo X0.here hx rfl (hb hby d2_3) rfl (flt (by decide : ¬ ((3 : Int32) < (3 : Int32)))).1 ?_
    refine XS.iconst X0.here hx rfl (hb hby d2_6) ?_
    show Steps p.tables e below (s₁.setTop (mkF m 7 #[.val (.ref o1), .val (.ref o2), .val (.int (3 : Int32)), .val (.int p3), .val (.int (3 : Int32)), .unset, .unset, .unset] [(.int (1 : Int32))])) _
    exact retN X0 hx (t := .boolean) hret (by simp) (hb hby d2_7) hr
  ·
    show Q29 Z o1 o2 kc4 p9 p10 p11 p12 p13 p14 p3 h0 n0 _ s₁.heap _
    rw [e0]
    exact ⟨rfl, N0, rfl⟩
theorem ef30 (m : MethodId) (x0 : Int32) (x1 : Int32) : entryFrame m #[(.int x0), (.int x1)] 2 = mkF m 0 #[.val (.int x0), .val (.int x1)] [] := by first | (simp [entryFrame, mkF, argsToLocals, Value.category]; done) | rfl
def Q30 (Z : State) (p1 : Int32) (h0 : Heap) (n0 : Nat) (v : Option Value) (h : Heap) (L : List Loc) : Prop :=
  (v = some (.int (if (((p1.toUInt32 >>> ((3 : Int32) &&& 31).toUInt32).toInt32) &&& (1 : Int32)) = (0 : Int32) then (0 : Int32) else (1 : Int32))) ∧ Fr n0 L ∧ h = h0)
set_option maxRecDepth 65536 in
set_option maxHeartbeats 40000000 in
theorem rm30 (l : Launch) (Z : State) (a0 : Array Value) (hw : ∀ d ∈ tables_1, d.before a0 Z = true) (ws : List Jvm.Cond) (p1 : Int32) (h0 : Heap) (n0 : Nat) (O0 : Old Z n0 h0) :
    MetFree l yn3 (head1 (Jvm.Cond.code yn3 method_3_code 2 (some .boolean) :: ws) ({ frames := 0, cells := 0, slots := 0, locals := 0 } : Room)) (fun a U => a = #[(.int p1), (.int (3 : Int32))] ∧ Z.Warmed39 U.vm ∧ U.heap = h0) (fun _ _ _ _ _ => True) (fun _ U o U' => ∃ v L, o = .returned v ∧ Q30 Z p1 h0 n0 v U'.heap L ∧ FrameEnd U o U' L ({ frames := 0, cells := 0, slots := 0, locals := 0 } : Room).cells ({ frames := 0, cells := 0, slots := 0, locals := 0 } : Room).slots) := by
  refine MetFree.of_bodySF (plainFor_of_name pn2) hisR ?_
  intro p e s m args below meth c s₁ Bd hml0 hP hK
  obtain ⟨rfl, hZ, hh⟩ := hP
  have hx := Bd.exec
  have hby := Bd.bytes
  have hml : c.maxLocals = 2 := hml0
  have hown : s.vm.findClass "com/example/castless/castless/PrimitiveArraysBox334PinLaw" = some m.cls := findClass_of_methodNamed Bd.named
  have hnm := (name_of_methodNamed Bd.named Bd.method).1
  have hret := Bd.returns
  have hlk : meth.locks = false := BodyLoose.notSynchronized Bd
  have X0 : Stand p l e ({ frames := 0, cells := 0, slots := 0, locals := 0 } : Room) s m #[(.int p1), (.int (3 : Int32))] below meth c s₁ [] 0 0 := Stand.of_body Bd
  have e0 : s₁.heap = h0 := by rw [← hh, Bd.state]; rfl
  have N0 := Fr.nil n0
  have pre0 : ∀ t, Steps p.tables e below (s₁.setTop (mkF m 0 #[.val (.int p1), .val (.int (3 : Int32))] [])) t → Steps p.tables e below (s₁.setTop (entryFrame m #[(.int p1), (.int (3 : Int32))] 2)) t := fun t k => castTop (ef30 m p1 (3 : Int32)) k
  have pre1 : ∀ t, Steps p.tables e below (s₁.setTop (mkF m 5 #[.val (.int p1), .val (.int (3 : Int32))] [(.int (((p1.toUInt32 >>> ((3 : Int32) &&& 31).toUInt32).toInt32) &&& (1 : Int32)))])) t → Steps p.tables e below (s₁.setTop (entryFrame m #[(.int p1), (.int (3 : Int32))] 2)) t := fun t k => by
    refine pre0 _ ?_
    show Steps p.tables e below (s₁.setTop (mkF m 0 #[.val (.int p1), .val (.int (3 : Int32))] [])) _
    refine XS.iloadN X0.here hx rfl (hb hby d3_0) rfl ?_
    refine XS.iloadN X0.here hx rfl (hb hby d3_1) rfl ?_
    refine XS.iushr X0.here hx rfl (hb hby d3_2) rfl ?_
    refine XS.iconst X0.here hx rfl (hb hby d3_3) ?_
    refine XS.iand X0.here hx rfl (hb hby d3_4) rfl ?_
    exact k
  by_cases hc2 : (((p1.toUInt32 >>> ((3 : Int32) &&& 31).toUInt32).toInt32) &&& (1 : Int32)) = (0 : Int32)
  ·
    have pre3 : ∀ t, Steps p.tables e below (s₁.setTop (mkF m 5 #[.val (.int p1), .val (.int (3 : Int32))] [(.int (0 : Int32))])) t → Steps p.tables e below (s₁.setTop (entryFrame m #[(.int p1), (.int (3 : Int32))] 2)) t := fun t k => pre1 t (by rw [hc2]; exact k)
    obtain ⟨fs, hr, hrun, hended, hW, hsame⟩ := X0.leave (v := some (.int (0 : Int32))) (fun h => by rw [hret] at h; cases h)
    refine ⟨_, _, pre3 _ ?_, hrun, hended, _, _, rfl, ?_, ⟨_, rfl⟩, hW, hsame.mono (by decide) (by decide)⟩
    ·
      show Steps p.tables e below (s₁.setTop (mkF m 5 #[.val (.int p1), .val (.int (3 : Int32))] [(.int (0 : Int32))])) _
      refine XS.ifYes X0.here hx rfl (pc0 := 5) (pc' := 12) rfl (hb hby d3_5) rfl ((if0 _ _).trans (teq (by decide : (0 : Int32) = (0 : Int32))).1) (by decide) (by decide) ?_
      refine XS.iconst X0.here hx rfl (hb hby d3_12) ?_
      show Steps p.tables e below (s₁.setTop (mkF m 13 #[.val (.int p1), .val (.int (3 : Int32))] [(.int (0 : Int32))])) _
      exact retN X0 hx (t := .boolean) hret (by simp) (hb hby d3_13) hr
    ·
      show Q30 Z p1 h0 n0 _ s₁.heap _
      rw [e0]
      exact ⟨(by rw [if_pos hc2]), N0, rfl⟩
  ·
    have hq4 : (((p1.toUInt32 >>> ((3 : Int32) &&& 31).toUInt32).toInt32) &&& (1 : Int32)) = (1 : Int32) := (own_geq (n := 1) (k := (1 : Int32)) (by decide) (by have q0 := own_and (x := ((p1.toUInt32 >>> ((3 : Int32) &&& 31).toUInt32).toInt32)) (k := (1 : Int32)) (n := 1) (by decide) (by decide); have q1 := own_neq (n := 0) (k := (0 : Int32)) (by decide) hc2; omega))
    have pre5 : ∀ t, Steps p.tables e below (s₁.setTop (mkF m 5 #[.val (.int p1), .val (.int (3 : Int32))] [(.int (1 : Int32))])) t → Steps p.tables e below (s₁.setTop (entryFrame m #[(.int p1), (.int (3 : Int32))] 2)) t := fun t k => pre1 t (by rw [hq4]; exact k)
    obtain ⟨fs, hr, hrun, hended, hW, hsame⟩ := X0.leave (v := some (.int (1 : Int32))) (fun h => by rw [hret] at h; cases h)
    refine ⟨_, _, pre5 _ ?_, hrun, hended, _, _, rfl, ?_, ⟨_, rfl⟩, hW, hsame.mono (by decide) (by decide)⟩
    ·
      show Steps p.tables e below (s₁.setTop (mkF m 5 #[.val (.int p1), .val (.int (3 : Int32))] [(.int (1 : Int32))])) _
      refine XS.ifNo X0.here hx rfl (hb hby d3_5) rfl ((if0 _ _).trans (feq (by decide : ¬ ((1 : Int32) = (0 : Int32)))).1) ?_
      refine XS.iconst X0.here hx rfl (hb hby d3_8) ?_
      refine XS.goto X0.here hx rfl (pc0 := 9) (pc' := 13) rfl (hb hby d3_9) (by decide) (by decide) ?_
      show Steps p.tables e below (s₁.setTop (mkF m 13 #[.val (.int p1), .val (.int (3 : Int32))] [(.int (1 : Int32))])) _
      exact retN X0 hx (t := .boolean) hret (by simp) (hb hby d3_13) hr
    ·
      show Q30 Z p1 h0 n0 _ s₁.heap _
      rw [e0]
      exact ⟨(by rw [if_neg hc2]), N0, rfl⟩
theorem ef31 (m : MethodId) (x0 : Addr) (x1 : Addr) : entryFrame m #[(.ref x0), (.ref x1)] 2 = mkF m 0 #[.val (.ref x0), .val (.ref x1)] [] := by first | (simp [entryFrame, mkF, argsToLocals, Value.category]; done) | rfl
def Q31 (Z : State) (o1 : Addr) (u2 : Addr) (h0 : Heap) (n0 : Nat) (v : Option Value) (h : Heap) (L : List Loc) : Prop :=
  (v = some (.ref o1) ∧ Fr n0 L ∧ h = h0)
set_option maxRecDepth 65536 in
set_option maxHeartbeats 40000000 in
theorem rm31 (l : Launch) (Z : State) (a0 : Array Value) (hw : ∀ d ∈ tables_1, d.before a0 Z = true) (ws : List Jvm.Cond) (o1 : Addr) (u2 : Addr) (h0 : Heap) (n0 : Nat) (O0 : Old Z n0 h0) (g_o1 : n0 ≤ o1) :
    MetFree l yn0 (head1 (Jvm.Cond.code yn0 jdk_31_method_11_code 2 (some (.object "java/lang/Object")) :: ws) ({ frames := 0, cells := 0, slots := 0, locals := 0 } : Room)) (fun a U => a = #[(.ref o1), (.ref u2)] ∧ Z.Warmed39 U.vm ∧ U.heap = h0) (fun _ _ _ _ _ => True) (fun _ U o U' => ∃ v L, o = .returned v ∧ Q31 Z o1 u2 h0 n0 v U'.heap L ∧ FrameEnd U o U' L ({ frames := 0, cells := 0, slots := 0, locals := 0 } : Room).cells ({ frames := 0, cells := 0, slots := 0, locals := 0 } : Room).slots) := by
  refine MetFree.of_bodySF (plainFor_of_name pn0) hisR ?_
  intro p e s m args below meth c s₁ Bd hml0 hP hK
  obtain ⟨rfl, hZ, hh⟩ := hP
  have hx := Bd.exec
  have hby := Bd.bytes
  have hml : c.maxLocals = 2 := hml0
  have hown : s.vm.findClass "java/util/Objects" = some m.cls := findClass_of_methodNamed Bd.named
  have hnm := (name_of_methodNamed Bd.named Bd.method).1
  have hret := Bd.returns
  have hlk : meth.locks = false := BodyLoose.notSynchronized Bd
  have X0 : Stand p l e ({ frames := 0, cells := 0, slots := 0, locals := 0 } : Room) s m #[(.ref o1), (.ref u2)] below meth c s₁ [] 0 0 := Stand.of_body Bd
  have e0 : s₁.heap = h0 := by rw [← hh, Bd.state]; rfl
  have N0 := Fr.nil n0
  have pre0 : ∀ t, Steps p.tables e below (s₁.setTop (mkF m 0 #[.val (.ref o1), .val (.ref u2)] [])) t → Steps p.tables e below (s₁.setTop (entryFrame m #[(.ref o1), (.ref u2)] 2)) t := fun t k => castTop (ef31 m o1 u2) k
  obtain ⟨fs, hr, hrun, hended, hW, hsame⟩ := X0.leave (v := some (.ref o1)) (fun h => by rw [hret] at h; cases h)
  refine ⟨_, _, pre0 _ ?_, hrun, hended, _, _, rfl, ?_, ⟨_, rfl⟩, hW, hsame.mono (by decide) (by decide)⟩
  ·
    show Steps p.tables e below (s₁.setTop (mkF m 0 #[.val (.ref o1), .val (.ref u2)] [])) _
    refine XS.aloadN X0.here hx rfl (hb hby d1_0) rfl rfl ?_
    refine XS.ifnonnullYes X0.here hx rfl (pc0 := 1) (pc' := 13) rfl (hb hby d1_1) rfl (by decide) (by decide) ?_
    refine XS.aloadN X0.here hx rfl (hb hby d1_13) rfl rfl ?_
    show Steps p.tables e below (s₁.setTop (mkF m 14 #[.val (.ref o1), .val (.ref u2)] [(.ref o1)])) _
    exact retOut X0 hx hret rfl (Or.inr (Or.inr (Or.inr (Or.inr ⟨rfl, rfl, rfl⟩)))) (hb hby d1_14) hr
  ·
    show Q31 Z o1 u2 h0 n0 _ s₁.heap _
    rw [e0]
    exact ⟨rfl, N0, rfl⟩
theorem ef32 (m : MethodId) (x0 : Addr) : entryFrame m #[(.ref x0)] 3 = mkF m 0 #[.val (.ref x0), .unset, .unset] [] := by first | (simp [entryFrame, mkF, argsToLocals, Value.category]; done) | rfl
def Q32 (Z : State) (w1 : Addr) (w2 : Addr) (o1 : Addr) (p3 : Int32) (p4 : Int32) (p5 : Int32) (p6 : Int32) (kc2 : ClassId) (h0 : Heap) (n0 : Nat) (v : Option Value) (h : Heap) (L : List Loc) : Prop :=
  (∃ b7 : Addr, ∃ k7 : ClassId, ∃ v12 : Addr, ∃ v25 : Addr, ∃ v36 : Addr, ∃ v47 : Addr, v = some (.ref b7) ∧ Fr n0 L ∧ Keep h0 h [] ∧ h0.size ≤ b7 ∧ Ovr Z k7 "java/lang/Boolean" ∧ (Arv Z h b7 k7 (.object "java/lang/Boolean") (4 : Int32) [(.ref v12), (.ref v25), (.ref v36), (.ref v47)] .null) ∧ (Exa Z h b7 "[Ljava/lang/Boolean;") ∧ (Exa Z Z.heap v12 "java/lang/Boolean") ∧ (Fld Z Z.heap v12 "java/lang/Boolean" "value" "Z" (.int p3)) ∧ (Exa Z Z.heap v25 "java/lang/Boolean") ∧ (Fld Z Z.heap v25 "java/lang/Boolean" "value" "Z" (.int p4)) ∧ (Exa Z Z.heap v36 "java/lang/Boolean") ∧ (Fld Z Z.heap v36 "java/lang/Boolean" "value" "Z" (.int p5)) ∧ (Exa Z Z.heap v47 "java/lang/Boolean") ∧ (Fld Z Z.heap v47 "java/lang/Boolean" "value" "Z" (.int p6)))
set_option maxRecDepth 65536 in
set_option maxHeartbeats 40000000 in
theorem rm32 (l : Launch) (Z : State) (a0 : Array Value) (hw : ∀ d ∈ tables_1, d.before a0 Z = true) (w1 : Addr) (w2 : Addr) (G : GW Z w1 w2) (ws : List Jvm.Cond) (o1 : Addr) (p3 : Int32) (p4 : Int32) (p5 : Int32) (p6 : Int32) (kc2 : ClassId) (h0 : Heap) (n0 : Nat) (O0 : Old Z n0 h0) (g_o1 : n0 ≤ o1) (bd_p3 : 0 ≤ p3.toInt ∧ p3.toInt ≤ 1) (bd_p4 : 0 ≤ p4.toInt ∧ p4.toInt ≤ 1) (bd_p5 : 0 ≤ p5.toInt ∧ p5.toInt ≤ 1) (bd_p6 : 0 ≤ p6.toInt ∧ p6.toInt ≤ 1) (P0 : Arv Z h0 o1 kc2 .boolean (4 : Int32) [(.int p3), (.int p4), (.int p5), (.int p6)] (.int (0 : Int32))) :
    MetFree l yn1 (head1 (Jvm.Cond.code yn1 prog_11_method_2_code 3 (some (.array (.object "java/lang/Boolean"))) :: ws) ({ frames := 1, cells := 3, slots := 60, locals := 14 } : Room)) (fun a U => a = #[(.ref o1)] ∧ Z.Warmed39 U.vm ∧ U.heap = h0) (fun _ _ _ _ _ => True) (fun _ U o U' => ∃ v L, o = .returned v ∧ Q32 Z w1 w2 o1 p3 p4 p5 p6 kc2 h0 n0 v U'.heap L ∧ ReturnedEndW U o U' L ({ frames := 1, cells := 3, slots := 60, locals := 14 } : Room).cells ({ frames := 1, cells := 3, slots := 60, locals := 14 } : Room).slots) := by
  obtain ⟨S_w1, E_w1, S_w2, E_w2, F_w1_value, F_w2_value⟩ := id G
  refine MetFree.of_bodySF (plainFor_of_name pn1) hisR ?_
  intro p e s m args below meth c s₁ Bd hml0 hP hK
  obtain ⟨rfl, hZ, hh⟩ := hP
  have hx := Bd.exec
  have hby := Bd.bytes
  have hml : c.maxLocals = 3 := hml0
  have hown : s.vm.findClass "com/example/castless/castless/PrimitiveArrays" = some m.cls := findClass_of_methodNamed Bd.named
  have hnm := (name_of_methodNamed Bd.named Bd.method).1
  have hret := Bd.returns
  have hlk : meth.locks = false := BodyLoose.notSynchronized Bd
  have X0 : Stand p l e ({ frames := 1, cells := 3, slots := 60, locals := 14 } : Room) s m #[(.ref o1)] below meth c s₁ [] 0 0 := Stand.of_body Bd
  have e0 : s₁.heap = h0 := by rw [← hh, Bd.state]; rfl
  have N0 := Fr.nil n0
  have pre0 : ∀ t, Steps p.tables e below (s₁.setTop (mkF m 0 #[.val (.ref o1), .unset, .unset] [])) t → Steps p.tables e below (s₁.setTop (entryFrame m #[(.ref o1)] 3)) t := fun t k => castTop (ef32 m o1) k
  obtain ⟨sx1, T1, h1, ks1, X1, e1, E1, hS1, hk1, hZ, hown, st1⟩ := ldcS (s := s) (vm0 := s.vm) X0 hx hZ hown (own_w hw 6 rfl) (own_sa hw) e0 ((State.WarmedH.refl s).since h0.size) (Nat.le_refl _) (g := (mkF m 1 #[.val (.ref o1), .unset, .unset] [(.ref o1)])) rfl (hb hby d0_1) (n := 52) (by decide) (by decide) (by decide) (by decide)
  have M1 : h0.size ≤ h1.size := Nat.le_trans (Nat.le_refl _) E1.1
  have O1 := Old.ext O0 E1
  obtain ⟨_, _, ⟨T2, L2, c2, n2⟩, -, X2, ⟨Lc2, hQ2, l2, y2, z2⟩, st2⟩ := Jvm.LawKit.callS X1 hx (y := yn0) hown (mvT hZ (own_w hw 14 rfl)) (mvT hZ (own_w hw 15 rfl)) (mvT hZ (own_w hw 16 rfl)) (mvT hZ (own_w hw 17 rfl)) (by decide) (backOf (W := 0) (rm31 l Z a0 hw [] o1 sx1 h1 n0 O1 g_o1) hZ (own_w hw 17 rfl) (own_w hw 16 rfl) (by decide) (by decide)) (g := (mkF m 3 #[.val (.ref o1), .unset, .unset] [(.ref sx1), (.ref o1)])) rfl (by rw [hml]; rfl) (argsL := [(.ref o1), (.ref sx1)]) (rest := []) (lenOf pd0 rfl) rfl (by show 2 * 0 + _ ≤ _; exact Nat.le_of_eq rfl) (hb hby d0_3) (fun _ _ => ⟨rfl, e1, (by decide : 2 + 0 ≤ _), (by decide : 56 + 0 ≤ _)⟩)
  dsimp only [Pt.U, Pt.locs, Pt.cells, Pt.slots] at X2 l2 y2 z2 st2 hQ2
  subst l2 y2 z2
  have X2 : Stand p l e ({ frames := 1, cells := 3, slots := 60, locals := 14 } : Room) (s.setVm T1.vm) m #[(.ref o1)] below meth c T2 _ 2 56 := X2
  obtain ⟨rfl, Nq3, e4⟩ := hQ2
  have N2 := Fr.app N0 Nq3
  have f5 := (P0.ext E1)
  obtain ⟨cl6, Ar6, qa6, Sa6, Na6, Ha6, Ga6⟩ := id (f5)
  obtain ⟨T7, h7, k7, X7, e7, E7, A7, EX7, OV7, st7⟩ := newRE X2 hx hZ hown (own_w hw 18 rfl) (own_w hw 19 rfl) e4 (g := (mkF m 9 #[.val (.ref o1), .unset, .unset] [(.int (4 : Int32))])) rfl (hb hby d0_9) rfl (by decide) (cap := 4) (by decide) (by decide) (by decide) (by decide) (ad := "[Ljava/lang/Boolean;") (by decide)
  obtain ⟨b7, g7⟩ : ∃ z, z = h1.size := ⟨_, rfl⟩
  rw [← g7] at A7 EX7 st7
  have hkk7 := Nat.le_trans hk1 E7.1
  have M7 : h0.size ≤ h7.size := Nat.le_trans M1 E7.1
  have O7 := Old.ext O1 E7
  have sz_b7 : h1.size ≤ b7 := Nat.le_of_eq g7.symm
  have g_b7 : n0 ≤ b7 := Nat.le_trans (own_oz O0) (Nat.le_trans M1 sz_b7)
  have V7_0 := Arv.new A7 (by decide)
  have V7 : Arv Z h7 b7 k7 (.object "java/lang/Boolean") (4 : Int32) [.null, .null, .null, .null] .null := V7_0.pad (pad_rep [] .null 4)
  have f8 := (f5.ext E7)
  obtain ⟨cl9, Ar9, qa9, Sa9, Na9, Ha9, Ga9⟩ := id (f8)
  obtain ⟨cl10, Ar10, qa10, Sa10, Na10, Ha10, Ga10⟩ := id (f8)
  have hin10 : ¬ ((0 : Int32) < 0 ∨ cl10.slots.size ≤ ((0 : Int32)).toNatClampNeg) := inb_of Sa10 ⟨by decide, by decide⟩
  have hat10 : cl10.slots[((0 : Int32)).toNatClampNeg]? = some (.int p3) := Has.at Ha10 hin10 rfl
  obtain ⟨_, _, ⟨T11, L11, c11, n11⟩, -, X11, ⟨Lc11, hQ11, l11, y11, z11⟩, st11⟩ := Jvm.LawKit.callS X7 hx (y := yn4) hown (mvT hZ (own_w hw 27 rfl)) (mvT hZ (own_w hw 28 rfl)) (mvT hZ (own_w hw 29 rfl)) (mvT hZ (own_w hw 30 rfl)) (by decide) (backOf (W := 2) (rm9 l Z a0 hw w1 w2 G [] p3 h7 n0 O7 (by have q0 := bd_p3; omega)) hZ (own_w hw 30 rfl) (own_w hw 29 rfl) (by decide) (by decide)) (g := (mkF m 26 #[.val (.ref o1), .val (.ref b7), .val (.int (0 : Int32))] [(.int p3), (.int (0 : Int32)), (.ref b7)])) rfl (by rw [hml]; rfl) (argsL := [(.int p3)]) (rest := [(.int (0 : Int32)), (.ref b7)]) (lenOf pd4 rfl) rfl (by show 2 * 0 + _ ≤ _; exact Nat.le_of_eq rfl) (hb hby d0_26) (fun _ _ => ⟨rfl, e7, (by decide : 3 + 0 ≤ _), (by decide : 60 + 0 ≤ _)⟩)
  dsimp only [Pt.U, Pt.locs, Pt.cells, Pt.slots] at X11 l11 y11 z11 st11 hQ11
  subst l11 y11 z11
  have X11 : Stand p l e ({ frames := 1, cells := 3, slots := 60, locals := 14 } : Room) (s.setVm T1.vm) m #[(.ref o1)] below meth c T11 _ 3 60 := X11
  obtain ⟨v12, rfl, Nq13, e14, f15, f16⟩ := hQ11
  have N11 := Fr.app N2 Nq13
  obtain ⟨cl17, Ar17, qa17, Sa17, Na17, Ha17, Ga17⟩ := id (V7)
  have hin17 : ¬ ((0 : Int32) < 0 ∨ cl17.slots.size ≤ ((0 : Int32)).toNatClampNeg) := inb_of Sa17 ⟨by decide, by decide⟩
  obtain ⟨T18, h18, X18, e18, W18, st18⟩ := stR X11 hx hZ e14 Ar17 (j := (0 : Int32)) hin17 rfl (Sto.ofV Ar17 qa17 OV7 (Ins.self (f15.ext O7.2))) (g := (mkF m 29 #[.val (.ref o1), .val (.ref b7), .val (.int (0 : Int32))] [(.ref v12), (.int (0 : Int32)), (.ref b7)])) rfl rfl (hb hby d0_29)
  have V18 : Arv Z h18 b7 k7 (.object "java/lang/Boolean") (4 : Int32) [(.ref v12), .null, .null, .null] .null := Arv.set Ar17 qa17 Sa17 Na17 Ha17 Ga17 rfl W18 0 rfl (Nat.le_of_ble_eq_true rfl)
  have N18 := Fr.snoc X18 N11 g_b7
  have hkk18 := Nat.le_trans hkk7 (Nat.le_of_eq W18.size.symm)
  have M18 : h0.size ≤ h18.size := Nat.le_trans M7 (Nat.le_of_eq W18.size.symm)
  have O18 := Old.wr O7 W18 g_b7
  have lt19 : o1 < h1.size := (Nat.lt_of_lt_of_le P0.lt E1.1)
  have ne20 : o1 ≠ b7 := Nat.ne_of_lt (Nat.lt_of_lt_of_le lt19 sz_b7)
  have f21 := (f8.other W18 ne20)
  obtain ⟨cl22, Ar22, qa22, Sa22, Na22, Ha22, Ga22⟩ := id (f21)
  obtain ⟨cl23, Ar23, qa23, Sa23, Na23, Ha23, Ga23⟩ := id (f21)
  have hin23 : ¬ ((1 : Int32) < 0 ∨ cl23.slots.size ≤ ((1 : Int32)).toNatClampNeg) := inb_of Sa23 ⟨by decide, by decide⟩
  have hat23 : cl23.slots[((1 : Int32)).toNatClampNeg]? = some (.int p4) := Has.at Ha23 hin23 rfl
  obtain ⟨_, _, ⟨T24, L24, c24, n24⟩, -, X24, ⟨Lc24, hQ24, l24, y24, z24⟩, st24⟩ := Jvm.LawKit.callS X18 hx (y := yn4) hown (mvT hZ (own_w hw 27 rfl)) (mvT hZ (own_w hw 28 rfl)) (mvT hZ (own_w hw 29 rfl)) (mvT hZ (own_w hw 30 rfl)) (by decide) (backOf (W := 2) (rm9 l Z a0 hw w1 w2 G [] p4 h18 n0 O18 (by have q0 := bd_p4; omega)) hZ (own_w hw 30 rfl) (own_w hw 29 rfl) (by decide) (by decide)) (g := (mkF m 26 #[.val (.ref o1), .val (.ref b7), .val (.int (1 : Int32))] [(.int p4), (.int (1 : Int32)), (.ref b7)])) rfl (by rw [hml]; rfl) (argsL := [(.int p4)]) (rest := [(.int (1 : Int32)), (.ref b7)]) (lenOf pd4 rfl) rfl (by show 2 * 0 + _ ≤ _; exact Nat.le_of_eq rfl) (hb hby d0_26) (fun _ _ => ⟨rfl, e18, (by decide : 3 + 0 ≤ _), (by decide : 60 + 0 ≤ _)⟩)
  dsimp only [Pt.U, Pt.locs, Pt.cells, Pt.slots] at X24 l24 y24 z24 st24 hQ24
  subst l24 y24 z24
  have X24 : Stand p l e ({ frames := 1, cells := 3, slots := 60, locals := 14 } : Room) (s.setVm T1.vm) m #[(.ref o1)] below meth c T24 _ 3 60 := X24
  obtain ⟨v25, rfl, Nq26, e27, f28, f29⟩ := hQ24
  have N24 := Fr.app N18 Nq26
  obtain ⟨cl30, Ar30, qa30, Sa30, Na30, Ha30, Ga30⟩ := id (V18)
  have hin30 : ¬ ((1 : Int32) < 0 ∨ cl30.slots.size ≤ ((1 : Int32)).toNatClampNeg) := inb_of Sa30 ⟨by decide, by decide⟩
  obtain ⟨T31, h31, X31, e31, W31, st31⟩ := stR X24 hx hZ e27 Ar30 (j := (1 : Int32)) hin30 rfl (Sto.ofV Ar30 qa30 OV7 (Ins.self (f28.ext O18.2))) (g := (mkF m 29 #[.val (.ref o1), .val (.ref b7), .val (.int (1 : Int32))] [(.ref v25), (.int (1 : Int32)), (.ref b7)])) rfl rfl (hb hby d0_29)
  have V31 : Arv Z h31 b7 k7 (.object "java/lang/Boolean") (4 : Int32) [(.ref v12), (.ref v25), .null, .null] .null := Arv.set Ar30 qa30 Sa30 Na30 Ha30 Ga30 rfl W31 1 rfl (Nat.le_of_ble_eq_true rfl)
  have N31 := Fr.snoc X31 N24 g_b7
  have hkk31 := Nat.le_trans hkk18 (Nat.le_of_eq W31.size.symm)
  have M31 : h0.size ≤ h31.size := Nat.le_trans M18 (Nat.le_of_eq W31.size.symm)
  have O31 := Old.wr O18 W31 g_b7
  have f32 := (f21.other W31 ne20)
  obtain ⟨cl33, Ar33, qa33, Sa33, Na33, Ha33, Ga33⟩ := id (f32)
  obtain ⟨cl34, Ar34, qa34, Sa34, Na34, Ha34, Ga34⟩ := id (f32)
  have hin34 : ¬ ((2 : Int32) < 0 ∨ cl34.slots.size ≤ ((2 : Int32)).toNatClampNeg) := inb_of Sa34 ⟨by decide, by decide⟩
  have hat34 : cl34.slots[((2 : Int32)).toNatClampNeg]? = some (.int p5) := Has.at Ha34 hin34 rfl
  obtain ⟨_, _, ⟨T35, L35, c35, n35⟩, -, X35, ⟨Lc35, hQ35, l35, y35, z35⟩, st35⟩ := Jvm.LawKit.callS X31 hx (y := yn4) hown (mvT hZ (own_w hw 27 rfl)) (mvT hZ (own_w hw 28 rfl)) (mvT hZ (own_w hw 29 rfl)) (mvT hZ (own_w hw 30 rfl)) (by decide) (backOf (W := 2) (rm9 l Z a0 hw w1 w2 G [] p5 h31 n0 O31 (by have q0 := bd_p5; omega)) hZ (own_w hw 30 rfl) (own_w hw 29 rfl) (by decide) (by decide)) (g := (mkF m 26 #[.val (.ref o1), .val (.ref b7), .val (.int (2 : Int32))] [(.int p5), (.int (2 : Int32)), (.ref b7)])) rfl (by rw [hml]; rfl) (argsL := [(.int p5)]) (rest := [(.int (2 : Int32)), (.ref b7)]) (lenOf pd4 rfl) rfl (by show 2 * 0 + _ ≤ _; exact Nat.le_of_eq rfl) (hb hby d0_26) (fun _ _ => ⟨rfl, e31, (by decide : 3 + 0 ≤ _), (by decide : 60 + 0 ≤ _)⟩)
  dsimp only [Pt.U, Pt.locs, Pt.cells, Pt.slots] at X35 l35 y35 z35 st35 hQ35
  subst l35 y35 z35
  have X35 : Stand p l e ({ frames := 1, cells := 3, slots := 60, locals := 14 } : Room) (s.setVm T1.vm) m #[(.ref o1)] below meth c T35 _ 3 60 := X35
  obtain ⟨v36, rfl, Nq37, e38, f39, f40⟩ := hQ35
  have N35 := Fr.app N31 Nq37
  obtain ⟨cl41, Ar41, qa41, Sa41, Na41, Ha41, Ga41⟩ := id (V31)
  have hin41 : ¬ ((2 : Int32) < 0 ∨ cl41.slots.size ≤ ((2 : Int32)).toNatClampNeg) := inb_of Sa41 ⟨by decide, by decide⟩
  obtain ⟨T42, h42, X42, e42, W42, st42⟩ := stR X35 hx hZ e38 Ar41 (j := (2 : Int32)) hin41 rfl (Sto.ofV Ar41 qa41 OV7 (Ins.self (f39.ext O31.2))) (g := (mkF m 29 #[.val (.ref o1), .val (.ref b7), .val (.int (2 : Int32))] [(.ref v36), (.int (2 : Int32)), (.ref b7)])) rfl rfl (hb hby d0_29)
  have V42 : Arv Z h42 b7 k7 (.object "java/lang/Boolean") (4 : Int32) [(.ref v12), (.ref v25), (.ref v36), .null] .null := Arv.set Ar41 qa41 Sa41 Na41 Ha41 Ga41 rfl W42 2 rfl (Nat.le_of_ble_eq_true rfl)
  have N42 := Fr.snoc X42 N35 g_b7
  have hkk42 := Nat.le_trans hkk31 (Nat.le_of_eq W42.size.symm)
  have M42 : h0.size ≤ h42.size := Nat.le_trans M31 (Nat.le_of_eq W42.size.symm)
  have O42 := Old.wr O31 W42 g_b7
  have f43 := (f32.other W42 ne20)
  obtain ⟨cl44, Ar44, qa44, Sa44, Na44, Ha44, Ga44⟩ := id (f43)
  obtain ⟨cl45, Ar45, qa45, Sa45, Na45, Ha45, Ga45⟩ := id (f43)
  have hin45 : ¬ ((3 : Int32) < 0 ∨ cl45.slots.size ≤ ((3 : Int32)).toNatClampNeg) := inb_of Sa45 ⟨by decide, by decide⟩
  have hat45 : cl45.slots[((3 : Int32)).toNatClampNeg]? = some (.int p6) := Has.at Ha45 hin45 rfl
  obtain ⟨_, _, ⟨T46, L46, c46, n46⟩, -, X46, ⟨Lc46, hQ46, l46, y46, z46⟩, st46⟩ := Jvm.LawKit.callS X42 hx (y := yn4) hown (mvT hZ (own_w hw 27 rfl)) (mvT hZ (own_w hw 28 rfl)) (mvT hZ (own_w hw 29 rfl)) (mvT hZ (own_w hw 30 rfl)) (by decide) (backOf (W := 2) (rm9 l Z a0 hw w1 w2 G [] p6 h42 n0 O42 (by have q0 := bd_p6; omega)) hZ (own_w hw 30 rfl) (own_w hw 29 rfl) (by decide) (by decide)) (g := (mkF m 26 #[.val (.ref o1), .val (.ref b7), .val (.int (3 : Int32))] [(.int p6), (.int (3 : Int32)), (.ref b7)])) rfl (by rw [hml]; rfl) (argsL := [(.int p6)]) (rest := [(.int (3 : Int32)), (.ref b7)]) (lenOf pd4 rfl) rfl (by show 2 * 0 + _ ≤ _; exact Nat.le_of_eq rfl) (hb hby d0_26) (fun _ _ => ⟨rfl, e42, (by decide : 3 + 0 ≤ _), (by decide : 60 + 0 ≤ _)⟩)
  dsimp only [Pt.U, Pt.locs, Pt.cells, Pt.slots] at X46 l46 y46 z46 st46 hQ46
  subst l46 y46 z46
  have X46 : Stand p l e ({ frames := 1, cells := 3, slots := 60, locals := 14 } : Room) (s.setVm T1.vm) m #[(.ref o1)] below meth c T46 _ 3 60 := X46
  obtain ⟨v47, rfl, Nq48, e49, f50, f51⟩ := hQ46
  have N46 := Fr.app N42 Nq48
  obtain ⟨cl52, Ar52, qa52, Sa52, Na52, Ha52, Ga52⟩ := id (V42)
  have hin52 : ¬ ((3 : Int32) < 0 ∨ cl52.slots.size ≤ ((3 : Int32)).toNatClampNeg) := inb_of Sa52 ⟨by decide, by decide⟩
  obtain ⟨T53, h53, X53, e53, W53, st53⟩ := stR X46 hx hZ e49 Ar52 (j := (3 : Int32)) hin52 rfl (Sto.ofV Ar52 qa52 OV7 (Ins.self (f50.ext O42.2))) (g := (mkF m 29 #[.val (.ref o1), .val (.ref b7), .val (.int (3 : Int32))] [(.ref v47), (.int (3 : Int32)), (.ref b7)])) rfl rfl (hb hby d0_29)
  have V53 : Arv Z h53 b7 k7 (.object "java/lang/Boolean") (4 : Int32) [(.ref v12), (.ref v25), (.ref v36), (.ref v47)] .null := Arv.set Ar52 qa52 Sa52 Na52 Ha52 Ga52 rfl W53 3 rfl (Nat.le_of_ble_eq_true rfl)
  have N53 := Fr.snoc X53 N46 g_b7
  have hkk53 := Nat.le_trans hkk42 (Nat.le_of_eq W53.size.symm)
  have M53 : h0.size ≤ h53.size := Nat.le_trans M42 (Nat.le_of_eq W53.size.symm)
  have O53 := Old.wr O42 W53 g_b7
  have f54 := (f43.other W53 ne20)
  obtain ⟨cl55, Ar55, qa55, Sa55, Na55, Ha55, Ga55⟩ := id (f54)
  obtain ⟨fs, hr, hrun, hended, hRE⟩ := X53.leaveW hS1 (by rw [e53]; exact hkk53) (v := some (.ref b7)) (fun h => by rw [hret] at h; cases h)
  have KL : Keep h0 h53 [] := (((((((Keep.refl h0 []).ext E1).ext E7).wr W18 (Or.inr (Nat.le_trans M1 sz_b7))).wr W31 (Or.inr (Nat.le_trans M1 sz_b7))).wr W42 (Or.inr (Nat.le_trans M1 sz_b7))).wr W53 (Or.inr (Nat.le_trans M1 sz_b7)))
  have f56 := ((((EX7.wr W18).wr W31).wr W42).wr W53)
  refine ⟨_, _, pre0 _ ?_, hrun, hended, _, _, rfl, ?_, hRE.1, hRE.2.1, hRE.2.2.1, hRE.2.2.2.mono (by decide) (by decide)⟩
  ·
    show Steps p.tables e below (s₁.setTop (mkF m 0 #[.val (.ref o1), .unset, .unset] [])) _
    refine XS.aloadN X0.here hx rfl (hb hby d0_0) rfl rfl ?_
    refine st1 _ ?_
    refine st2 _ ?_
    refine XS.pop X2.here hx rfl (hb hby d0_6) rfl rfl ?_
    refine XS.aloadN X2.here hx rfl (hb hby d0_7) rfl rfl ?_
    refine X2.arraylength hx (by rw [e4]; exact Ar6.1) (State.isArrayOf_alike hZ.alike Ar6.2.1) (g := (mkF m 8 #[.val (.ref o1), .unset, .unset] [(.ref o1)])) rfl rfl (hb hby d0_8) _ ?_
    rw [len_of Sa6 Na6]
    refine st7 _ ?_
    refine XS.astoreN X7.here hx rfl (hb hby d0_12) rfl rfl (l' := #[.val (.ref o1), .val (.ref b7), .unset]) rfl ?_
    refine XS.iconst X7.here hx rfl (hb hby d0_13) ?_
    refine XS.istoreN X7.here hx rfl (hb hby d0_14) rfl (l' := #[.val (.ref o1), .val (.ref b7), .val (.int (0 : Int32))]) rfl ?_
    refine XS.iloadN X7.here hx rfl (hb hby d0_15) rfl ?_
    refine XS.aloadN X7.here hx rfl (hb hby d0_16) rfl rfl ?_
    refine X7.arraylength hx (by rw [e7]; exact Ar9.1) (State.isArrayOf_alike hZ.alike Ar9.2.1) (g := (mkF m 17 #[.val (.ref o1), .val (.ref b7), .val (.int (0 : Int32))] [(.ref o1), (.int (0 : Int32))])) rfl rfl (hb hby d0_17) _ ?_
    rw [len_of Sa9 Na9]
    refine XS.icmpNo X7.here hx rfl (hb hby d0_18) rfl (tlt (by decide : (0 : Int32) < (4 : Int32))).2.1 ?_
    refine XS.aloadN X7.here hx rfl (hb hby d0_21) rfl rfl ?_
    refine XS.iloadN X7.here hx rfl (hb hby d0_22) rfl ?_
    refine XS.aloadN X7.here hx rfl (hb hby d0_23) rfl rfl ?_
    refine XS.iloadN X7.here hx rfl (hb hby d0_24) rfl ?_
    refine X7.baloadBooleans hx (j := (0 : Int32)) (v := (.int p3)) (by rw [e7]; exact Ar10.1) (State.isArrayOf_alike hZ.alike Ar10.2.1) Ar10.2.2 hin10 hat10 (g := (mkF m 25 #[.val (.ref o1), .val (.ref b7), .val (.int (0 : Int32))] [(.int (0 : Int32)), (.ref o1), (.int (0 : Int32)), (.ref b7)])) rfl rfl (hb hby d0_25) _ ?_
    refine st11 _ ?_
    refine st18 _ ?_
    refine XS.iinc X18.here hx rfl (hb hby d0_30) rfl (l' := #[.val (.ref o1), .val (.ref b7), .val (.int (1 : Int32))]) rfl ?_
    refine XS.goto X18.here hx rfl (pc0 := 33) (pc' := 15) rfl (hb hby d0_33) (by decide) (by decide) ?_
    refine XS.iloadN X18.here hx rfl (hb hby d0_15) rfl ?_
    refine XS.aloadN X18.here hx rfl (hb hby d0_16) rfl rfl ?_
    refine X18.arraylength hx (by rw [e18]; exact Ar22.1) (State.isArrayOf_alike hZ.alike Ar22.2.1) (g := (mkF m 17 #[.val (.ref o1), .val (.ref b7), .val (.int (1 : Int32))] [(.ref o1), (.int (1 : Int32))])) rfl rfl (hb hby d0_17) _ ?_
    rw [len_of Sa22 Na22]
    refine XS.icmpNo X18.here hx rfl (hb hby d0_18) rfl (tlt (by decide : (1 : Int32) < (4 : Int32))).2.1 ?_
    refine XS.aloadN X18.here hx rfl (hb hby d0_21) rfl rfl ?_
    refine XS.iloadN X18.here hx rfl (hb hby d0_22) rfl ?_
    refine XS.aloadN X18.here hx rfl (hb hby d0_23) rfl rfl ?_
    refine XS.iloadN X18.here hx rfl (hb hby d0_24) rfl ?_
    refine X18.baloadBooleans hx (j := (1 : Int32)) (v := (.int p4)) (by rw [e18]; exact Ar23.1) (State.isArrayOf_alike hZ.alike Ar23.2.1) Ar23.2.2 hin23 hat23 (g := (mkF m 25 #[.val (.ref o1), .val (.ref b7), .val (.int (1 : Int32))] [(.int (1 : Int32)), (.ref o1), (.int (1 : Int32)), (.ref b7)])) rfl rfl (hb hby d0_25) _ ?_
    refine st24 _ ?_
    refine st31 _ ?_
    refine XS.iinc X31.here hx rfl (hb hby d0_30) rfl (l' := #[.val (.ref o1), .val (.ref b7), .val (.int (2 : Int32))]) rfl ?_
    refine XS.goto X31.here hx rfl (pc0 := 33) (pc' := 15) rfl (hb hby d0_33) (by decide) (by decide) ?_
    refine XS.iloadN X31.here hx rfl (hb hby d0_15) rfl ?_
    refine XS.aloadN X31.here hx rfl (hb hby d0_16) rfl rfl ?_
    refine X31.arraylength hx (by rw [e31]; exact Ar33.1) (State.isArrayOf_alike hZ.alike Ar33.2.1) (g := (mkF m 17 #[.val (.ref o1), .val (.ref b7), .val (.int (2 : Int32))] [(.ref o1), (.int (2 : Int32))])) rfl rfl (hb hby d0_17) _ ?_
    rw [len_of Sa33 Na33]
    refine XS.icmpNo X31.here hx rfl (hb hby d0_18) rfl (tlt (by decide : (2 : Int32) < (4 : Int32))).2.1 ?_
    show Steps p.tables e below (T31.setTop (mkF m 21 #[.val (.ref o1), .val (.ref b7), .val (.int (2 : Int32))] [])) _
    refine XS.aloadN X31.here hx rfl (hb hby d0_21) rfl rfl ?_
    refine XS.iloadN X31.here hx rfl (hb hby d0_22) rfl ?_
    refine XS.aloadN X31.here hx rfl (hb hby d0_23) rfl rfl ?_
    refine XS.iloadN X31.here hx rfl (hb hby d0_24) rfl ?_
    refine X31.baloadBooleans hx (j := (2 : Int32)) (v := (.int p5)) (by rw [e31]; exact Ar34.1) (State.isArrayOf_alike hZ.alike Ar34.2.1) Ar34.2.2 hin34 hat34 (g := (mkF m 25 #[.val (.ref o1), .val (.ref b7), .val (.int (2 : Int32))] [(.int (2 : Int32)), (.ref o1), (.int (2 : Int32)), (.ref b7)])) rfl rfl (hb hby d0_25) _ ?_
    refine st35 _ ?_
    refine st42 _ ?_
    refine XS.iinc X42.here hx rfl (hb hby d0_30) rfl (l' := #[.val (.ref o1), .val (.ref b7), .val (.int (3 : Int32))]) rfl ?_
    refine XS.goto X42.here hx rfl (pc0 := 33) (pc' := 15) rfl (hb hby d0_33) (by decide) (by decide) ?_
    refine XS.iloadN X42.here hx rfl (hb hby d0_15) rfl ?_
    refine XS.aloadN X42.here hx rfl (hb hby d0_16) rfl rfl ?_
    refine X42.arraylength hx (by rw [e42]; exact Ar44.1) (State.isArrayOf_alike hZ.alike Ar44.2.1) (g := (mkF m 17 #[.val (.ref o1), .val (.ref b7), .val (.int (3 : Int32))] [(.ref o1), (.int (3 : Int32))])) rfl rfl (hb hby d0_17) _ ?_
    rw [len_of Sa44 Na44]
    refine XS.icmpNo X42.here hx rfl (hb hby d0_18) rfl (tlt (by decide : (3 : Int32) < (4 : Int32))).2.1 ?_
    refine XS.aloadN X42.here hx rfl (hb hby d0_21) rfl rfl ?_
    refine XS.iloadN X42.here hx rfl (hb hby d0_22) rfl ?_
    refine XS.aloadN X42.here hx rfl (hb hby d0_23) rfl rfl ?_
    refine XS.iloadN X42.here hx rfl (hb hby d0_24) rfl ?_
    refine X42.baloadBooleans hx (j := (3 : Int32)) (v := (.int p6)) (by rw [e42]; exact Ar45.1) (State.isArrayOf_alike hZ.alike Ar45.2.1) Ar45.2.2 hin45 hat45 (g := (mkF m 25 #[.val (.ref o1), .val (.ref b7), .val (.int (3 : Int32))] [(.int (3 : Int32)), (.ref o1), (.int (3 : Int32)), (.ref b7)])) rfl rfl (hb hby d0_25) _ ?_
    refine st46 _ ?_
    refine st53 _ ?_
    refine XS.iinc X53.here hx rfl (hb hby d0_30) rfl (l' := #[.val (.ref o1), .val (.ref b7), .val (.int (4 : Int32))]) rfl ?_
    refine XS.goto X53.here hx rfl (pc0 := 33) (pc' := 15) rfl (hb hby d0_33) (by decide) (by decide) ?_
    refine XS.iloadN X53.here hx rfl (hb hby d0_15) rfl ?_
    refine XS.aloadN X53.here hx rfl (hb hby d0_16) rfl rfl ?_
    refine X53.arraylength hx (by rw [e53]; exact Ar55.1) (State.isArrayOf_alike hZ.alike Ar55.2.1) (g := (mkF m 17 #[.val (.ref o1), .val (.ref b7), .val (.int (4 : Int32))] [(.ref o1), (.int (4 : Int32))])) rfl rfl (hb hby d0_17) _ ?_
    rw [len_of Sa55 Na55]
    refine XS.icmpYes X53.here hx rfl (pc0 := 18) (pc' := 36) rfl (hb hby d0_18) rfl (flt (by decide : ¬ ((4 : Int32) < (4 : Int32)))).2.1 (by decide) (by decide) ?_
    refine XS.aloadN X53.here hx rfl (hb hby d0_36) rfl rfl ?_
    show Steps p.tables e below (T53.setTop (mkF m 37 #[.val (.ref o1), .val (.ref b7), .val (.int (4 : Int32))] [(.ref b7)])) _
    exact retOut X53 hx hret rfl (Or.inr (Or.inr (Or.inr (Or.inr ⟨rfl, rfl, rfl⟩)))) (hb hby d0_37) hr
  ·
    show Q32 Z w1 w2 o1 p3 p4 p5 p6 kc2 h0 n0 _ T53.heap _
    rw [e53]
    exact ⟨b7, k7, v12, v25, v36, v47, rfl, N53, KL, (Nat.le_trans M1 sz_b7), OV7, V53, f56, f15, f16, f28, f29, f39, f40, f50, f51⟩
theorem ef33 (m : MethodId) (x0 : Addr) (x1 : Addr) (x2 : Int32) (x3 : Int32) (x4 : Int32) : entryFrame m #[(.ref x0), (.ref x1), (.int x2), (.int x3), (.int x4)] 8 = mkF m 0 #[.val (.ref x0), .val (.ref x1), .val (.int x2), .val (.int x3), .val (.int x4), .unset, .unset, .unset] [] := by first | (simp [entryFrame, mkF, argsToLocals, Value.category]; done) | rfl
def Q33 (Z : State) (o1 : Addr) (o2 : Addr) (kc4 : ClassId) (p10 : Int32) (p11 : Int32) (p12 : Int32) (p13 : Int32) (p14 : Int32) (p15 : Int32) (p16 : Int32) (p17 : Int32) (v5 : Addr) (v6 : Addr) (v7 : Addr) (v8 : Addr) (kc9 : ClassId) (p3 : Int32) (h0 : Heap) (n0 : Nat) (v : Option Value) (h : Heap) (L : List Loc) : Prop :=
  ((p10 = (if (((p3.toUInt32 >>> ((0 : Int32) &&& 31).toUInt32).toInt32) &&& (1 : Int32)) = (0 : Int32) then (0 : Int32) else (1 : Int32))) ∧ (p14 = (if (((p3.toUInt32 >>> ((0 : Int32) &&& 31).toUInt32).toInt32) &&& (1 : Int32)) = (0 : Int32) then (0 : Int32) else (1 : Int32))) ∧ v = some (.int (1 : Int32)) ∧ Fr n0 L ∧ h = h0)
  ∨ ((p10 = (if (((p3.toUInt32 >>> ((0 : Int32) &&& 31).toUInt32).toInt32) &&& (1 : Int32)) = (0 : Int32) then (0 : Int32) else (1 : Int32))) ∧ (¬ (p14 = (if (((p3.toUInt32 >>> ((0 : Int32) &&& 31).toUInt32).toInt32) &&& (1 : Int32)) = (0 : Int32) then (0 : Int32) else (1 : Int32)))) ∧ v = some (.int (0 : Int32)) ∧ Fr n0 L ∧ h = h0)
  ∨ ((¬ (p10 = (if (((p3.toUInt32 >>> ((0 : Int32) &&& 31).toUInt32).toInt32) &&& (1 : Int32)) = (0 : Int32) then (0 : Int32) else (1 : Int32)))) ∧ v = some (.int (0 : Int32)) ∧ Fr n0 L ∧ h = h0)
set_option maxRecDepth 65536 in
set_option maxHeartbeats 40000000 in
theorem rm33 (l : Launch) (Z : State) (a0 : Array Value) (hw : ∀ d ∈ tables_1, d.before a0 Z = true) (ws : List Jvm.Cond) (o1 : Addr) (o2 : Addr) (kc4 : ClassId) (p10 : Int32) (p11 : Int32) (p12 : Int32) (p13 : Int32) (p14 : Int32) (p15 : Int32) (p16 : Int32) (p17 : Int32) (v5 : Addr) (v6 : Addr) (v7 : Addr) (v8 : Addr) (kc9 : ClassId) (p3 : Int32) (h0 : Heap) (n0 : Nat) (O0 : Old Z n0 h0) (g_o1 : n0 ≤ o1) (g_o2 : n0 ≤ o2) (Ov_kc4 : Ovr Z kc4 "java/lang/Boolean") (bd_p10 : 0 ≤ p10.toInt ∧ p10.toInt ≤ 1) (bd_p11 : 0 ≤ p11.toInt ∧ p11.toInt ≤ 1) (bd_p12 : 0 ≤ p12.toInt ∧ p12.toInt ≤ 1) (bd_p13 : 0 ≤ p13.toInt ∧ p13.toInt ≤ 1) (bd_p14 : 0 ≤ p14.toInt ∧ p14.toInt ≤ 1) (bd_p15 : 0 ≤ p15.toInt ∧ p15.toInt ≤ 1) (bd_p16 : 0 ≤ p16.toInt ∧ p16.toInt ≤ 1) (bd_p17 : 0 ≤ p17.toInt ∧ p17.toInt ≤ 1) (P0 : Arv Z h0 o1 kc4 (.object "java/lang/Boolean") (4 : Int32) [(.ref v5), (.ref v6), (.ref v7), (.ref v8)] .null) (P2 : Arv Z h0 o2 kc9 .boolean (4 : Int32) [(.int p10), (.int p11), (.int p12), (.int p13)] (.int (0 : Int32))) (P4 : Exa Z Z.heap v5 "java/lang/Boolean") (P5 : Fld Z Z.heap v5 "java/lang/Boolean" "value" "Z" (.int p14)) :
    MetFree l yn2 (head1 (Jvm.Cond.code yn2 method_4_code 8 (some .boolean) :: ws) ({ frames := 1, cells := 0, slots := 0, locals := 13 } : Room)) (fun a U => a = #[(.ref o1), (.ref o2), (.int (4 : Int32)), (.int p3), (.int (0 : Int32))] ∧ Z.Warmed39 U.vm ∧ U.heap = h0) (fun _ _ _ _ _ => True) (fun _ U o U' => ∃ v L, o = .returned v ∧ Q33 Z o1 o2 kc4 p10 p11 p12 p13 p14 p15 p16 p17 v5 v6 v7 v8 kc9 p3 h0 n0 v U'.heap L ∧ FrameEnd U o U' L ({ frames := 1, cells := 0, slots := 0, locals := 13 } : Room).cells ({ frames := 1, cells := 0, slots := 0, locals := 13 } : Room).slots) := by
  refine MetFree.of_bodySF (plainFor_of_name pn2) hisR ?_
  intro p e s m args below meth c s₁ Bd hml0 hP hK
  obtain ⟨rfl, hZ, hh⟩ := hP
  have hx := Bd.exec
  have hby := Bd.bytes
  have hml : c.maxLocals = 8 := hml0
  have hown : s.vm.findClass "com/example/castless/castless/PrimitiveArraysBox334PinLaw" = some m.cls := findClass_of_methodNamed Bd.named
  have hnm := (name_of_methodNamed Bd.named Bd.method).1
  have hret := Bd.returns
  have hlk : meth.locks = false := BodyLoose.notSynchronized Bd
  have X0 : Stand p l e ({ frames := 1, cells := 0, slots := 0, locals := 13 } : Room) s m #[(.ref o1), (.ref o2), (.int (4 : Int32)), (.int p3), (.int (0 : Int32))] below meth c s₁ [] 0 0 := Stand.of_body Bd
  have e0 : s₁.heap = h0 := by rw [← hh, Bd.state]; rfl
  have N0 := Fr.nil n0
  have pre0 : ∀ t, Steps p.tables e below (s₁.setTop (mkF m 0 #[.val (.ref o1), .val (.ref o2), .val (.int (4 : Int32)), .val (.int p3), .val (.int (0 : Int32)), .unset, .unset, .unset] [])) t → Steps p.tables e below (s₁.setTop (entryFrame m #[(.ref o1), (.ref o2), (.int (4 : Int32)), (.int p3), (.int (0 : Int32))] 8)) t := fun t k => castTop (ef33 m o1 o2 (4 : Int32) p3 (0 : Int32)) k
  obtain ⟨_, _, ⟨T1, L1, c1, n1⟩, -, X1, ⟨Lc1, hQ1, l1, y1, z1⟩, st1⟩ := Jvm.LawKit.callS X0 hx (y := yn3) hown (mvT hZ (own_w hw 24 rfl)) (mvT hZ (own_w hw 25 rfl)) (mvT hZ (own_w hw 22 rfl)) (mvT hZ (own_w hw 26 rfl)) (by decide) (backOf (W := 0) (rm7 l Z a0 hw [] p3 h0 n0 O0 ) hZ (own_w hw 26 rfl) (own_w hw 22 rfl) (by decide) (by decide)) (g := (mkF m 11 #[.val (.ref o1), .val (.ref o2), .val (.int (4 : Int32)), .val (.int p3), .val (.int (0 : Int32)), .unset, .unset, .unset] [(.int (0 : Int32)), (.int p3)])) rfl (by rw [hml]; rfl) (argsL := [(.int p3), (.int (0 : Int32))]) (rest := []) (lenOf pd3 rfl) rfl (by show 2 * 0 + _ ≤ _; exact Nat.le_of_eq rfl) (hb hby d2_11) (fun _ _ => ⟨rfl, e0, (by decide : 0 + 0 ≤ _), (by decide : 0 + 0 ≤ _)⟩)
  dsimp only [Pt.U, Pt.locs, Pt.cells, Pt.slots] at X1 l1 y1 z1 st1 hQ1
  subst l1 y1 z1
  have X1 : Stand p l e ({ frames := 1, cells := 0, slots := 0, locals := 13 } : Room) s m #[(.ref o1), (.ref o2), (.int (4 : Int32)), (.int p3), (.int (0 : Int32))] below meth c T1 _ 0 0 := X1
  obtain ⟨rfl, Nq2, e3⟩ := hQ1
  have N1 := Fr.app N0 Nq2
  obtain ⟨cl4, Ar4, qa4, Sa4, Na4, Ha4, Ga4⟩ := id (P2)
  have hin4 : ¬ ((0 : Int32) < 0 ∨ cl4.slots.size ≤ ((0 : Int32)).toNatClampNeg) := inb_of Sa4 ⟨by decide, by decide⟩
  have hat4 : cl4.slots[((0 : Int32)).toNatClampNeg]? = some (.int p10) := Has.at Ha4 hin4 rfl
  have pre5 : ∀ t, Steps p.tables e below (T1.setTop (mkF m 22 #[.val (.ref o1), .val (.ref o2), .val (.int (4 : Int32)), .val (.int p3), .val (.int (0 : Int32)), .val (.int (if (((p3.toUInt32 >>> ((0 : Int32) &&& 31).toUInt32).toInt32) &&& (1 : Int32)) = (0 : Int32) then (0 : Int32) else (1 : Int32))), .unset, .unset] [(.int (if (((p3.toUInt32 >>> ((0 : Int32) &&& 31).toUInt32).toInt32) &&& (1 : Int32)) = (0 : Int32) then (0 : Int32) else (1 : Int32))), (.int p10)])) t → Steps p.tables e below (s₁.setTop (entryFrame m #[(.ref o1), (.ref o2), (.int (4 : Int32)), (.int p3), (.int (0 : Int32))] 8)) t := fun t k => by
    refine pre0 _ ?_
    show Steps p.tables e below (s₁.setTop (mkF m 0 #[.val (.ref o1), .val (.ref o2), .val (.int (4 : Int32)), .val (.int p3), .val (.int (0 : Int32)), .unset, .unset, .unset] [])) _
    refine XS.iload X0.here hx rfl (hb hby d2_0) rfl ?_
    refine XS.iloadN X0.here hx rfl (hb hby d2_2) rfl ?_
    refine XS.icmpYes X0.here hx rfl (pc0 := 3) (pc' := 8) rfl (hb hby d2_3) rfl (tlt (by decide : (0 : Int32) < (4 : Int32))).1 (by decide) (by decide) ?_
    refine XS.iloadN X0.here hx rfl (hb hby d2_8) rfl ?_
    refine XS.iload X0.here hx rfl (hb hby d2_9) rfl ?_
    refine st1 _ ?_
    refine XS.istore X1.here hx rfl (hb hby d2_14) rfl (l' := #[.val (.ref o1), .val (.ref o2), .val (.int (4 : Int32)), .val (.int p3), .val (.int (0 : Int32)), .val (.int (if (((p3.toUInt32 >>> ((0 : Int32) &&& 31).toUInt32).toInt32) &&& (1 : Int32)) = (0 : Int32) then (0 : Int32) else (1 : Int32))), .unset, .unset]) rfl ?_
    refine XS.aloadN X1.here hx rfl (hb hby d2_16) rfl rfl ?_
    refine XS.iload X1.here hx rfl (hb hby d2_17) rfl ?_
    refine X1.baloadBooleans hx (j := (0 : Int32)) (v := (.int p10)) (by rw [e3]; exact Ar4.1) (State.isArrayOf_alike hZ.alike Ar4.2.1) Ar4.2.2 hin4 hat4 (g := (mkF m 19 #[.val (.ref o1), .val (.ref o2), .val (.int (4 : Int32)), .val (.int p3), .val (.int (0 : Int32)), .val (.int (if (((p3.toUInt32 >>> ((0 : Int32) &&& 31).toUInt32).toInt32) &&& (1 : Int32)) = (0 : Int32) then (0 : Int32) else (1 : Int32))), .unset, .unset] [(.int (0 : Int32)), (.ref o2)])) rfl rfl (hb hby d2_19) _ ?_
    refine XS.iload X1.here hx rfl (hb hby d2_20) rfl ?_
    exact k
  by_cases hc6 : p10 = (if (((p3.toUInt32 >>> ((0 : Int32) &&& 31).toUInt32).toInt32) &&& (1 : Int32)) = (0 : Int32) then (0 : Int32) else (1 : Int32))
  ·
    obtain ⟨cl7, Ar7, qa7, Sa7, Na7, Ha7, Ga7⟩ := id (P0)
    have hin7 : ¬ ((0 : Int32) < 0 ∨ cl7.slots.size ≤ ((0 : Int32)).toNatClampNeg) := inb_of Sa7 ⟨by decide, by decide⟩
    have hat7 : cl7.slots[((0 : Int32)).toNatClampNeg]? = some (.ref v5) := Has.at Ha7 hin7 rfl
    obtain ⟨cq8, kq8, q8a, q8b, q8c⟩ := isOf hZ e3 (P4.ext O0.2)
    obtain ⟨_, _, ⟨T9, L9, c9, n9⟩, -, X9, ⟨Lc9, hQ9, l9, y9, z9⟩, st9⟩ := X1.virtualBack hx (y := yn5) (z := yn5) hown (mvT hZ (own_w hw 34 rfl)) (mvT hZ (own_w hw 35 rfl)) (notFace_of_selects (args := #[]) (mvT hZ (own_w hw 37 rfl))) (mvT hZ (own_w hw 37 rfl)) (mvT hZ (own_w hw 36 rfl)) (by decide) (backOf (W := 0) (rm11 l Z a0 hw [] p14 v5 h0 n0 O0 (by have q0 := bd_p14; omega) P5) hZ (own_w hw 38 rfl) (own_w hw 29 rfl) (by decide) (by decide)) q8a q8c (g := (mkF m 42 #[.val (.ref o1), .val (.ref o2), .val (.int (4 : Int32)), .val (.int p3), .val (.int (0 : Int32)), .val (.int (if (((p3.toUInt32 >>> ((0 : Int32) &&& 31).toUInt32).toInt32) &&& (1 : Int32)) = (0 : Int32) then (0 : Int32) else (1 : Int32))), .val (.ref v5), .unset] [(.ref v5)])) rfl (by rw [hml]; rfl) (Steps.refl _) (argsL := []) (rest := []) (lenOf pd5 rfl) rfl (by show 2 * 0 + _ ≤ _; exact Nat.le_of_eq rfl) (hb hby d2_42) (fun _ _ => ⟨rfl, e3, (by decide : 0 + 0 ≤ _), (by decide : 0 + 0 ≤ _)⟩)
    dsimp only [Pt.U, Pt.locs, Pt.cells, Pt.slots] at X9 l9 y9 z9 st9 hQ9
    subst l9 y9 z9
    have X9 : Stand p l e ({ frames := 1, cells := 0, slots := 0, locals := 13 } : Room) s m #[(.ref o1), (.ref o2), (.int (4 : Int32)), (.int p3), (.int (0 : Int32))] below meth c T9 _ 0 0 := X9
    obtain ⟨rfl, Nq10, e11⟩ := hQ9
    have N9 := Fr.app N1 Nq10
    have pre12 : ∀ t, Steps p.tables e below (T9.setTop (mkF m 51 #[.val (.ref o1), .val (.ref o2), .val (.int (4 : Int32)), .val (.int p3), .val (.int (0 : Int32)), .val (.int (if (((p3.toUInt32 >>> ((0 : Int32) &&& 31).toUInt32).toInt32) &&& (1 : Int32)) = (0 : Int32) then (0 : Int32) else (1 : Int32))), .val (.ref v5), .val (.int p14)] [(.int (if (((p3.toUInt32 >>> ((0 : Int32) &&& 31).toUInt32).toInt32) &&& (1 : Int32)) = (0 : Int32) then (0 : Int32) else (1 : Int32))), (.int p14)])) t → Steps p.tables e below (s₁.setTop (entryFrame m #[(.ref o1), (.ref o2), (.int (4 : Int32)), (.int p3), (.int (0 : Int32))] 8)) t := fun t k => by
      refine pre5 _ ?_
      show Steps p.tables e below (T1.setTop (mkF m 22 #[.val (.ref o1), .val (.ref o2), .val (.int (4 : Int32)), .val (.int p3), .val (.int (0 : Int32)), .val (.int (if (((p3.toUInt32 >>> ((0 : Int32) &&& 31).toUInt32).toInt32) &&& (1 : Int32)) = (0 : Int32) then (0 : Int32) else (1 : Int32))), .unset, .unset] [(.int (if (((p3.toUInt32 >>> ((0 : Int32) &&& 31).toUInt32).toInt32) &&& (1 : Int32)) = (0 : Int32) then (0 : Int32) else (1 : Int32))), (.int p10)])) _
      refine XS.icmpYes X1.here hx rfl (pc0 := 22) (pc' := 27) rfl (hb hby d2_22) rfl (teq hc6).1 (by decide) (by decide) ?_
      refine XS.aloadN X1.here hx rfl (hb hby d2_27) rfl rfl ?_
      refine XS.iload X1.here hx rfl (hb hby d2_28) rfl ?_
      refine X1.aaload hx (j := (0 : Int32)) (v := (.ref v5)) (by rw [e3]; exact Ar7.1) (State.isArrayOf_alike hZ.alike Ar7.2.1) rfl Ar7.2.2 hin7 hat7 (g := (mkF m 30 #[.val (.ref o1), .val (.ref o2), .val (.int (4 : Int32)), .val (.int p3), .val (.int (0 : Int32)), .val (.int (if (((p3.toUInt32 >>> ((0 : Int32) &&& 31).toUInt32).toInt32) &&& (1 : Int32)) = (0 : Int32) then (0 : Int32) else (1 : Int32))), .unset, .unset] [(.int (0 : Int32)), (.ref o1)])) rfl rfl (hb hby d2_30) _ ?_
      refine XS.astore X1.here hx rfl (hb hby d2_31) rfl rfl (l' := #[.val (.ref o1), .val (.ref o2), .val (.int (4 : Int32)), .val (.int p3), .val (.int (0 : Int32)), .val (.int (if (((p3.toUInt32 >>> ((0 : Int32) &&& 31).toUInt32).toInt32) &&& (1 : Int32)) = (0 : Int32) then (0 : Int32) else (1 : Int32))), .val (.ref v5), .unset]) rfl ?_
      refine XS.aload X1.here hx rfl (hb hby d2_33) rfl rfl ?_
      refine XS.ifnonnullYes X1.here hx rfl (pc0 := 35) (pc' := 40) rfl (hb hby d2_35) rfl (by decide) (by decide) ?_
      refine XS.aload X1.here hx rfl (hb hby d2_40) rfl rfl ?_
      refine st9.trans ?_
      refine XS.istore X9.here hx rfl (hb hby d2_45) rfl (l' := #[.val (.ref o1), .val (.ref o2), .val (.int (4 : Int32)), .val (.int p3), .val (.int (0 : Int32)), .val (.int (if (((p3.toUInt32 >>> ((0 : Int32) &&& 31).toUInt32).toInt32) &&& (1 : Int32)) = (0 : Int32) then (0 : Int32) else (1 : Int32))), .val (.ref v5), .val (.int p14)]) rfl ?_
      refine XS.iload X9.here hx rfl (hb hby d2_47) rfl ?_
      refine XS.iload X9.here hx rfl (hb hby d2_49) rfl ?_
      exact k
    by_cases hc13 : p14 = (if (((p3.toUInt32 >>> ((0 : Int32) &&& 31).toUInt32).toInt32) &&& (1 : Int32)) = (0 : Int32) then (0 : Int32) else (1 : Int32))
    ·
      obtain ⟨fs, hr, hrun, hended, hW, hsame⟩ := X9.leave (v := some (.int (1 : Int32))) (fun h => by rw [hret] at h; cases h)
      refine ⟨_, _, pre12 _ ?_, hrun, hended, _, _, rfl, ?_, ⟨_, rfl⟩, hW, hsame.mono (by decide) (by decide)⟩
      ·
        show Steps p.tables e below (T9.setTop (mkF m 51 #[.val (.ref o1), .val (.ref o2), .val (.int (4 : Int32)), .val (.int p3), .val (.int (0 : Int32)), .val (.int (if (((p3.toUInt32 >>> ((0 : Int32) &&& 31).toUInt32).toInt32) &&& (1 : Int32)) = (0 : Int32) then (0 : Int32) else (1 : Int32))), .val (.ref v5), .val (.int p14)] [(.int (if (((p3.toUInt32 >>> ((0 : Int32) &&& 31).toUInt32).toInt32) &&& (1 : Int32)) = (0 : Int32) then (0 : Int32) else (1 : Int32))), (.int p14)])) _
        refine XS.icmpNo X9.here hx rfl (hb hby d2_51) rfl (teq hc13).2 ?_
        refine XS.iconst X9.here hx rfl (hb hby d2_54) ?_
        refine XS.goto X9.here hx rfl (pc0 := 55) (pc' := 59) rfl (hb hby d2_55) (by decide) (by decide) ?_
        show Steps p.tables e below (T9.setTop (mkF m 59 #[.val (.ref o1), .val (.ref o2), .val (.int (4 : Int32)), .val (.int p3), .val (.int (0 : Int32)), .val (.int (if (((p3.toUInt32 >>> ((0 : Int32) &&& 31).toUInt32).toInt32) &&& (1 : Int32)) = (0 : Int32) then (0 : Int32) else (1 : Int32))), .val (.ref v5), .val (.int p14)] [(.int (1 : Int32))])) _
        exact retN X9 hx (t := .boolean) hret (by simp) (hb hby d2_59) hr
      ·
        show Q33 Z o1 o2 kc4 p10 p11 p12 p13 p14 p15 p16 p17 v5 v6 v7 v8 kc9 p3 h0 n0 _ T9.heap _
        rw [e11]
        exact (Or.inl ⟨hc6, hc13, rfl, N9, rfl⟩)
    ·
      obtain ⟨fs, hr, hrun, hended, hW, hsame⟩ := X9.leave (v := some (.int (0 : Int32))) (fun h => by rw [hret] at h; cases h)
      refine ⟨_, _, pre12 _ ?_, hrun, hended, _, _, rfl, ?_, ⟨_, rfl⟩, hW, hsame.mono (by decide) (by decide)⟩
      ·
        show Steps p.tables e below (T9.setTop (mkF m 51 #[.val (.ref o1), .val (.ref o2), .val (.int (4 : Int32)), .val (.int p3), .val (.int (0 : Int32)), .val (.int (if (((p3.toUInt32 >>> ((0 : Int32) &&& 31).toUInt32).toInt32) &&& (1 : Int32)) = (0 : Int32) then (0 : Int32) else (1 : Int32))), .val (.ref v5), .val (.int p14)] [(.int (if (((p3.toUInt32 >>> ((0 : Int32) &&& 31).toUInt32).toInt32) &&& (1 : Int32)) = (0 : Int32) then (0 : Int32) else (1 : Int32))), (.int p14)])) _
        refine XS.icmpYes X9.here hx rfl (pc0 := 51) (pc' := 58) rfl (hb hby d2_51) rfl (feq hc13).2 (by decide) (by decide) ?_
        refine XS.iconst X9.here hx rfl (hb hby d2_58) ?_
        show Steps p.tables e below (T9.setTop (mkF m 59 #[.val (.ref o1), .val (.ref o2), .val (.int (4 : Int32)), .val (.int p3), .val (.int (0 : Int32)), .val (.int (if (((p3.toUInt32 >>> ((0 : Int32) &&& 31).toUInt32).toInt32) &&& (1 : Int32)) = (0 : Int32) then (0 : Int32) else (1 : Int32))), .val (.ref v5), .val (.int p14)] [(.int (0 : Int32))])) _
        exact retN X9 hx (t := .boolean) hret (by simp) (hb hby d2_59) hr
      ·
        show Q33 Z o1 o2 kc4 p10 p11 p12 p13 p14 p15 p16 p17 v5 v6 v7 v8 kc9 p3 h0 n0 _ T9.heap _
        rw [e11]
        exact (Or.inr (Or.inl ⟨hc6, hc13, rfl, N9, rfl⟩))
  ·
    obtain ⟨fs, hr, hrun, hended, hW, hsame⟩ := X1.leave (v := some (.int (0 : Int32))) (fun h => by rw [hret] at h; cases h)
    refine ⟨_, _, pre5 _ ?_, hrun, hended, _, _, rfl, ?_, ⟨_, rfl⟩, hW, hsame.mono (by decide) (by decide)⟩
    ·
      show Steps p.tables e below (T1.setTop (mkF m 22 #[.val (.ref o1), .val (.ref o2), .val (.int (4 : Int32)), .val (.int p3), .val (.int (0 : Int32)), .val (.int (if (((p3.toUInt32 >>> ((0 : Int32) &&& 31).toUInt32).toInt32) &&& (1 : Int32)) = (0 : Int32) then (0 : Int32) else (1 : Int32))), .unset, .unset] [(.int (if (((p3.toUInt32 >>> ((0 : Int32) &&& 31).toUInt32).toInt32) &&& (1 : Int32)) = (0 : Int32) then (0 : Int32) else (1 : Int32))), (.int p10)])) _
      refine XS.icmpNo X1.here hx rfl (hb hby d2_22) rfl (feq hc6).1 ?_
      refine XS.iconst X1.here hx rfl (hb hby d2_25) ?_
      show Steps p.tables e below (T1.setTop (mkF m 26 #[.val (.ref o1), .val (.ref o2), .val (.int (4 : Int32)), .val (.int p3), .val (.int (0 : Int32)), .val (.int (if (((p3.toUInt32 >>> ((0 : Int32) &&& 31).toUInt32).toInt32) &&& (1 : Int32)) = (0 : Int32) then (0 : Int32) else (1 : Int32))), .unset, .unset] [(.int (0 : Int32))])) _
      exact retN X1 hx (t := .boolean) hret (by simp) (hb hby d2_26) hr
    ·
      show Q33 Z o1 o2 kc4 p10 p11 p12 p13 p14 p15 p16 p17 v5 v6 v7 v8 kc9 p3 h0 n0 _ T1.heap _
      rw [e3]
      exact (Or.inr (Or.inr ⟨hc6, rfl, N1, rfl⟩))
theorem ef34 (m : MethodId) (x0 : Addr) (x1 : Addr) (x2 : Int32) (x3 : Int32) (x4 : Int32) : entryFrame m #[(.ref x0), (.ref x1), (.int x2), (.int x3), (.int x4)] 8 = mkF m 0 #[.val (.ref x0), .val (.ref x1), .val (.int x2), .val (.int x3), .val (.int x4), .unset, .unset, .unset] [] := by first | (simp [entryFrame, mkF, argsToLocals, Value.category]; done) | rfl
def Q34 (Z : State) (o1 : Addr) (o2 : Addr) (kc4 : ClassId) (p10 : Int32) (p11 : Int32) (p12 : Int32) (p13 : Int32) (p14 : Int32) (p15 : Int32) (p16 : Int32) (p17 : Int32) (v5 : Addr) (v6 : Addr) (v7 : Addr) (v8 : Addr) (kc9 : ClassId) (p3 : Int32) (h0 : Heap) (n0 : Nat) (v : Option Value) (h : Heap) (L : List Loc) : Prop :=
  ((p11 = (if (((p3.toUInt32 >>> ((1 : Int32) &&& 31).toUInt32).toInt32) &&& (1 : Int32)) = (0 : Int32) then (0 : Int32) else (1 : Int32))) ∧ (p15 = (if (((p3.toUInt32 >>> ((1 : Int32) &&& 31).toUInt32).toInt32) &&& (1 : Int32)) = (0 : Int32) then (0 : Int32) else (1 : Int32))) ∧ v = some (.int (1 : Int32)) ∧ Fr n0 L ∧ h = h0)
  ∨ ((p11 = (if (((p3.toUInt32 >>> ((1 : Int32) &&& 31).toUInt32).toInt32) &&& (1 : Int32)) = (0 : Int32) then (0 : Int32) else (1 : Int32))) ∧ (¬ (p15 = (if (((p3.toUInt32 >>> ((1 : Int32) &&& 31).toUInt32).toInt32) &&& (1 : Int32)) = (0 : Int32) then (0 : Int32) else (1 : Int32)))) ∧ v = some (.int (0 : Int32)) ∧ Fr n0 L ∧ h = h0)
  ∨ ((¬ (p11 = (if (((p3.toUInt32 >>> ((1 : Int32) &&& 31).toUInt32).toInt32) &&& (1 : Int32)) = (0 : Int32) then (0 : Int32) else (1 : Int32)))) ∧ v = some (.int (0 : Int32)) ∧ Fr n0 L ∧ h = h0)
set_option maxRecDepth 65536 in
set_option maxHeartbeats 40000000 in
theorem rm34 (l : Launch) (Z : State) (a0 : Array Value) (hw : ∀ d ∈ tables_1, d.before a0 Z = true) (ws : List Jvm.Cond) (o1 : Addr) (o2 : Addr) (kc4 : ClassId) (p10 : Int32) (p11 : Int32) (p12 : Int32) (p13 : Int32) (p14 : Int32) (p15 : Int32) (p16 : Int32) (p17 : Int32) (v5 : Addr) (v6 : Addr) (v7 : Addr) (v8 : Addr) (kc9 : ClassId) (p3 : Int32) (h0 : Heap) (n0 : Nat) (O0 : Old Z n0 h0) (g_o1 : n0 ≤ o1) (g_o2 : n0 ≤ o2) (Ov_kc4 : Ovr Z kc4 "java/lang/Boolean") (bd_p10 : 0 ≤ p10.toInt ∧ p10.toInt ≤ 1) (bd_p11 : 0 ≤ p11.toInt ∧ p11.toInt ≤ 1) (bd_p12 : 0 ≤ p12.toInt ∧ p12.toInt ≤ 1) (bd_p13 : 0 ≤ p13.toInt ∧ p13.toInt ≤ 1) (bd_p14 : 0 ≤ p14.toInt ∧ p14.toInt ≤ 1) (bd_p15 : 0 ≤ p15.toInt ∧ p15.toInt ≤ 1) (bd_p16 : 0 ≤ p16.toInt ∧ p16.toInt ≤ 1) (bd_p17 : 0 ≤ p17.toInt ∧ p17.toInt ≤ 1) (P0 : Arv Z h0 o1 kc4 (.object "java/lang/Boolean") (4 : Int32) [(.ref v5), (.ref v6), (.ref v7), (.ref v8)] .null) (P2 : Arv Z h0 o2 kc9 .boolean (4 : Int32) [(.int p10), (.int p11), (.int p12), (.int p13)] (.int (0 : Int32))) (P6 : Exa Z Z.heap v6 "java/lang/Boolean") (P7 : Fld Z Z.heap v6 "java/lang/Boolean" "value" "Z" (.int p15)) :
    MetFree l yn2 (head1 (Jvm.Cond.code yn2 method_4_code 8 (some .boolean) :: ws) ({ frames := 1, cells := 0, slots := 0, locals := 13 } : Room)) (fun a U => a = #[(.ref o1), (.ref o2), (.int (4 : Int32)), (.int p3), (.int (1 : Int32))] ∧ Z.Warmed39 U.vm ∧ U.heap = h0) (fun _ _ _ _ _ => True) (fun _ U o U' => ∃ v L, o = .returned v ∧ Q34 Z o1 o2 kc4 p10 p11 p12 p13 p14 p15 p16 p17 v5 v6 v7 v8 kc9 p3 h0 n0 v U'.heap L ∧ FrameEnd U o U' L ({ frames := 1, cells := 0, slots := 0, locals := 13 } : Room).cells ({ frames := 1, cells := 0, slots := 0, locals := 13 } : Room).slots) := by
  refine MetFree.of_bodySF (plainFor_of_name pn2) hisR ?_
  intro p e s m args below meth c s₁ Bd hml0 hP hK
  obtain ⟨rfl, hZ, hh⟩ := hP
  have hx := Bd.exec
  have hby := Bd.bytes
  have hml : c.maxLocals = 8 := hml0
  have hown : s.vm.findClass "com/example/castless/castless/PrimitiveArraysBox334PinLaw" = some m.cls := findClass_of_methodNamed Bd.named
  have hnm := (name_of_methodNamed Bd.named Bd.method).1
  have hret := Bd.returns
  have hlk : meth.locks = false := BodyLoose.notSynchronized Bd
  have X0 : Stand p l e ({ frames := 1, cells := 0, slots := 0, locals := 13 } : Room) s m #[(.ref o1), (.ref o2), (.int (4 : Int32)), (.int p3), (.int (1 : Int32))] below meth c s₁ [] 0 0 := Stand.of_body Bd
  have e0 : s₁.heap = h0 := by rw [← hh, Bd.state]; rfl
  have N0 := Fr.nil n0
  have pre0 : ∀ t, Steps p.tables e below (s₁.setTop (mkF m 0 #[.val (.ref o1), .val (.ref o2), .val (.int (4 : Int32)), .val (.int p3), .val (.int (1 : Int32)), .unset, .unset, .unset] [])) t → Steps p.tables e below (s₁.setTop (entryFrame m #[(.ref o1), (.ref o2), (.int (4 : Int32)), (.int p3), (.int (1 : Int32))] 8)) t := fun t k => castTop (ef34 m o1 o2 (4 : Int32) p3 (1 : Int32)) k
  obtain ⟨_, _, ⟨T1, L1, c1, n1⟩, -, X1, ⟨Lc1, hQ1, l1, y1, z1⟩, st1⟩ := Jvm.LawKit.callS X0 hx (y := yn3) hown (mvT hZ (own_w hw 24 rfl)) (mvT hZ (own_w hw 25 rfl)) (mvT hZ (own_w hw 22 rfl)) (mvT hZ (own_w hw 26 rfl)) (by decide) (backOf (W := 0) (rm16 l Z a0 hw [] p3 h0 n0 O0 ) hZ (own_w hw 26 rfl) (own_w hw 22 rfl) (by decide) (by decide)) (g := (mkF m 11 #[.val (.ref o1), .val (.ref o2), .val (.int (4 : Int32)), .val (.int p3), .val (.int (1 : Int32)), .unset, .unset, .unset] [(.int (1 : Int32)), (.int p3)])) rfl (by rw [hml]; rfl) (argsL := [(.int p3), (.int (1 : Int32))]) (rest := []) (lenOf pd3 rfl) rfl (by show 2 * 0 + _ ≤ _; exact Nat.le_of_eq rfl) (hb hby d2_11) (fun _ _ => ⟨rfl, e0, (by decide : 0 + 0 ≤ _), (by decide : 0 + 0 ≤ _)⟩)
  dsimp only [Pt.U, Pt.locs, Pt.cells, Pt.slots] at X1 l1 y1 z1 st1 hQ1
  subst l1 y1 z1
  have X1 : Stand p l e ({ frames := 1, cells := 0, slots := 0, locals := 13 } : Room) s m #[(.ref o1), (.ref o2), (.int (4 : Int32)), (.int p3), (.int (1 : Int32))] below meth c T1 _ 0 0 := X1
  obtain ⟨rfl, Nq2, e3⟩ := hQ1
  have N1 := Fr.app N0 Nq2
  obtain ⟨cl4, Ar4, qa4, Sa4, Na4, Ha4, Ga4⟩ := id (P2)
  have hin4 : ¬ ((1 : Int32) < 0 ∨ cl4.slots.size ≤ ((1 : Int32)).toNatClampNeg) := inb_of Sa4 ⟨by decide, by decide⟩
  have hat4 : cl4.slots[((1 : Int32)).toNatClampNeg]? = some (.int p11) := Has.at Ha4 hin4 rfl
  have pre5 : ∀ t, Steps p.tables e below (T1.setTop (mkF m 22 #[.val (.ref o1), .val (.ref o2), .val (.int (4 : Int32)), .val (.int p3), .val (.int (1 : Int32)), .val (.int (if (((p3.toUInt32 >>> ((1 : Int32) &&& 31).toUInt32).toInt32) &&& (1 : Int32)) = (0 : Int32) then (0 : Int32) else (1 : Int32))), .unset, .unset] [(.int (if (((p3.toUInt32 >>> ((1 : Int32) &&& 31).toUInt32).toInt32) &&& (1 : Int32)) = (0 : Int32) then (0 : Int32) else (1 : Int32))), (.int p11)])) t → Steps p.tables e below (s₁.setTop (entryFrame m #[(.ref o1), (.ref o2), (.int (4 : Int32)), (.int p3), (.int (1 : Int32))] 8)) t := fun t k => by
    refine pre0 _ ?_
    show Steps p.tables e below (s₁.setTop (mkF m 0 #[.val (.ref o1), .val (.ref o2), .val (.int (4 : Int32)), .val (.int p3), .val (.int (1 : Int32)), .unset, .unset, .unset] [])) _
    refine XS.iload X0.here hx rfl (hb hby d2_0) rfl ?_
    refine XS.iloadN X0.here hx rfl (hb hby d2_2) rfl ?_
    refine XS.icmpYes X0.here hx rfl (pc0 := 3) (pc' := 8) rfl (hb hby d2_3) rfl (tlt (by decide : (1 : Int32) < (4 : Int32))).1 (by decide) (by decide) ?_
    refine XS.iloadN X0.here hx rfl (hb hby d2_8) rfl ?_
    refine XS.iload X0.here hx rfl (hb hby d2_9) rfl ?_
    refine st1 _ ?_
    refine XS.istore X1.here hx rfl (hb hby d2_14) rfl (l' := #[.val (.ref o1), .val (.ref o2), .val (.int (4 : Int32)), .val (.int p3), .val (.int (1 : Int32)), .val (.int (if (((p3.toUInt32 >>> ((1 : Int32) &&& 31).toUInt32).toInt32) &&& (1 : Int32)) = (0 : Int32) then (0 : Int32) else (1 : Int32))), .unset, .unset]) rfl ?_
    refine XS.aloadN X1.here hx rfl (hb hby d2_16) rfl rfl ?_
    refine XS.iload X1.here hx rfl (hb hby d2_17) rfl ?_
    refine X1.baloadBooleans hx (j := (1 : Int32)) (v := (.int p11)) (by rw [e3]; exact Ar4.1) (State.isArrayOf_alike hZ.alike Ar4.2.1) Ar4.2.2 hin4 hat4 (g := (mkF m 19 #[.val (.ref o1), .val (.ref o2), .val (.int (4 : Int32)), .val (.int p3), .val (.int (1 : Int32)), .val (.int (if (((p3.toUInt32 >>> ((1 : Int32) &&& 31).toUInt32).toInt32) &&& (1 : Int32)) = (0 : Int32) then (0 : Int32) else (1 : Int32))), .unset, .unset] [(.int (1 : Int32)), (.ref o2)])) rfl rfl (hb hby d2_19) _ ?_
    refine XS.iload X1.here hx rfl (hb hby d2_20) rfl ?_
    exact k
  by_cases hc6 : p11 = (if (((p3.toUInt32 >>> ((1 : Int32) &&& 31).toUInt32).toInt32) &&& (1 : Int32)) = (0 : Int32) then (0 : Int32) else (1 : Int32))
  ·
    obtain ⟨cl7, Ar7, qa7, Sa7, Na7, Ha7, Ga7⟩ := id (P0)
    have hin7 : ¬ ((1 : Int32) < 0 ∨ cl7.slots.size ≤ ((1 : Int32)).toNatClampNeg) := inb_of Sa7 ⟨by decide, by decide⟩
    have hat7 : cl7.slots[((1 : Int32)).toNatClampNeg]? = some (.ref v6) := Has.at Ha7 hin7 rfl
    obtain ⟨cq8, kq8, q8a, q8b, q8c⟩ := isOf hZ e3 (P6.ext O0.2)
    obtain ⟨_, _, ⟨T9, L9, c9, n9⟩, -, X9, ⟨Lc9, hQ9, l9, y9, z9⟩, st9⟩ := X1.virtualBack hx (y := yn5) (z := yn5) hown (mvT hZ (own_w hw 34 rfl)) (mvT hZ (own_w hw 35 rfl)) (notFace_of_selects (args := #[]) (mvT hZ (own_w hw 37 rfl))) (mvT hZ (own_w hw 37 rfl)) (mvT hZ (own_w hw 36 rfl)) (by decide) (backOf (W := 0) (rm11 l Z a0 hw [] p15 v6 h0 n0 O0 (by have q0 := bd_p15; omega) P7) hZ (own_w hw 38 rfl) (own_w hw 29 rfl) (by decide) (by decide)) q8a q8c (g := (mkF m 42 #[.val (.ref o1), .val (.ref o2), .val (.int (4 : Int32)), .val (.int p3), .val (.int (1 : Int32)), .val (.int (if (((p3.toUInt32 >>> ((1 : Int32) &&& 31).toUInt32).toInt32) &&& (1 : Int32)) = (0 : Int32) then (0 : Int32) else (1 : Int32))), .val (.ref v6), .unset] [(.ref v6)])) rfl (by rw [hml]; rfl) (Steps.refl _) (argsL := []) (rest := []) (lenOf pd5 rfl) rfl (by show 2 * 0 + _ ≤ _; exact Nat.le_of_eq rfl) (hb hby d2_42) (fun _ _ => ⟨rfl, e3, (by decide : 0 + 0 ≤ _), (by decide : 0 + 0 ≤ _)⟩)
    dsimp only [Pt.U, Pt.locs, Pt.cells, Pt.slots] at X9 l9 y9 z9 st9 hQ9
    subst l9 y9 z9
    have X9 : Stand p l e ({ frames := 1, cells := 0, slots := 0, locals := 13 } : Room) s m #[(.ref o1), (.ref o2), (.int (4 : Int32)), (.int p3), (.int (1 : Int32))] below meth c T9 _ 0 0 := X9
    obtain ⟨rfl, Nq10, e11⟩ := hQ9
    have N9 := Fr.app N1 Nq10
    have pre12 : ∀ t, Steps p.tables e below (T9.setTop (mkF m 51 #[.val (.ref o1), .val (.ref o2), .val (.int (4 : Int32)), .val (.int p3), .val (.int (1 : Int32)), .val (.int (if (((p3.toUInt32 >>> ((1 : Int32) &&& 31).toUInt32).toInt32) &&& (1 : Int32)) = (0 : Int32) then (0 : Int32) else (1 : Int32))), .val (.ref v6), .val (.int p15)] [(.int (if (((p3.toUInt32 >>> ((1 : Int32) &&& 31).toUInt32).toInt32) &&& (1 : Int32)) = (0 : Int32) then (0 : Int32) else (1 : Int32))), (.int p15)])) t → Steps p.tables e below (s₁.setTop (entryFrame m #[(.ref o1), (.ref o2), (.int (4 : Int32)), (.int p3), (.int (1 : Int32))] 8)) t := fun t k => by
      refine pre5 _ ?_
      show Steps p.tables e below (T1.setTop (mkF m 22 #[.val (.ref o1), .val (.ref o2), .val (.int (4 : Int32)), .val (.int p3), .val (.int (1 : Int32)), .val (.int (if (((p3.toUInt32 >>> ((1 : Int32) &&& 31).toUInt32).toInt32) &&& (1 : Int32)) = (0 : Int32) then (0 : Int32) else (1 : Int32))), .unset, .unset] [(.int (if (((p3.toUInt32 >>> ((1 : Int32) &&& 31).toUInt32).toInt32) &&& (1 : Int32)) = (0 : Int32) then (0 : Int32) else (1 : Int32))), (.int p11)])) _
      refine XS.icmpYes X1.here hx rfl (pc0 := 22) (pc' := 27) rfl (hb hby d2_22) rfl (teq hc6).1 (by decide) (by decide) ?_
      refine XS.aloadN X1.here hx rfl (hb hby d2_27) rfl rfl ?_
      refine XS.iload X1.here hx rfl (hb hby d2_28) rfl ?_
      refine X1.aaload hx (j := (1 : Int32)) (v := (.ref v6)) (by rw [e3]; exact Ar7.1) (State.isArrayOf_alike hZ.alike Ar7.2.1) rfl Ar7.2.2 hin7 hat7 (g := (mkF m 30 #[.val (.ref o1), .val (.ref o2), .val (.int (4 : Int32)), .val (.int p3), .val (.int (1 : Int32)), .val (.int (if (((p3.toUInt32 >>> ((1 : Int32) &&& 31).toUInt32).toInt32) &&& (1 : Int32)) = (0 : Int32) then (0 : Int32) else (1 : Int32))), .unset, .unset] [(.int (1 : Int32)), (.ref o1)])) rfl rfl (hb hby d2_30) _ ?_
      refine XS.astore X1.here hx rfl (hb hby d2_31) rfl rfl (l' := #[.val (.ref o1), .val (.ref o2), .val (.int (4 : Int32)), .val (.int p3), .val (.int (1 : Int32)), .val (.int (if (((p3.toUInt32 >>> ((1 : Int32) &&& 31).toUInt32).toInt32) &&& (1 : Int32)) = (0 : Int32) then (0 : Int32) else (1 : Int32))), .val (.ref v6), .unset]) rfl ?_
      refine XS.aload X1.here hx rfl (hb hby d2_33) rfl rfl ?_
      refine XS.ifnonnullYes X1.here hx rfl (pc0 := 35) (pc' := 40) rfl (hb hby d2_35) rfl (by decide) (by decide) ?_
      refine XS.aload X1.here hx rfl (hb hby d2_40) rfl rfl ?_
      refine st9.trans ?_
      refine XS.istore X9.here hx rfl (hb hby d2_45) rfl (l' := #[.val (.ref o1), .val (.ref o2), .val (.int (4 : Int32)), .val (.int p3), .val (.int (1 : Int32)), .val (.int (if (((p3.toUInt32 >>> ((1 : Int32) &&& 31).toUInt32).toInt32) &&& (1 : Int32)) = (0 : Int32) then (0 : Int32) else (1 : Int32))), .val (.ref v6), .val (.int p15)]) rfl ?_
      refine XS.iload X9.here hx rfl (hb hby d2_47) rfl ?_
      refine XS.iload X9.here hx rfl (hb hby d2_49) rfl ?_
      exact k
    by_cases hc13 : p15 = (if (((p3.toUInt32 >>> ((1 : Int32) &&& 31).toUInt32).toInt32) &&& (1 : Int32)) = (0 : Int32) then (0 : Int32) else (1 : Int32))
    ·
      obtain ⟨fs, hr, hrun, hended, hW, hsame⟩ := X9.leave (v := some (.int (1 : Int32))) (fun h => by rw [hret] at h; cases h)
      refine ⟨_, _, pre12 _ ?_, hrun, hended, _, _, rfl, ?_, ⟨_, rfl⟩, hW, hsame.mono (by decide) (by decide)⟩
      ·
        show Steps p.tables e below (T9.setTop (mkF m 51 #[.val (.ref o1), .val (.ref o2), .val (.int (4 : Int32)), .val (.int p3), .val (.int (1 : Int32)), .val (.int (if (((p3.toUInt32 >>> ((1 : Int32) &&& 31).toUInt32).toInt32) &&& (1 : Int32)) = (0 : Int32) then (0 : Int32) else (1 : Int32))), .val (.ref v6), .val (.int p15)] [(.int (if (((p3.toUInt32 >>> ((1 : Int32) &&& 31).toUInt32).toInt32) &&& (1 : Int32)) = (0 : Int32) then (0 : Int32) else (1 : Int32))), (.int p15)])) _
        refine XS.icmpNo X9.here hx rfl (hb hby d2_51) rfl (teq hc13).2 ?_
        refine XS.iconst X9.here hx rfl (hb hby d2_54) ?_
        refine XS.goto X9.here hx rfl (pc0 := 55) (pc' := 59) rfl (hb hby d2_55) (by decide) (by decide) ?_
        show Steps p.tables e below (T9.setTop (mkF m 59 #[.val (.ref o1), .val (.ref o2), .val (.int (4 : Int32)), .val (.int p3), .val (.int (1 : Int32)), .val (.int (if (((p3.toUInt32 >>> ((1 : Int32) &&& 31).toUInt32).toInt32) &&& (1 : Int32)) = (0 : Int32) then (0 : Int32) else (1 : Int32))), .val (.ref v6), .val (.int p15)] [(.int (1 : Int32))])) _
        exact retN X9 hx (t := .boolean) hret (by simp) (hb hby d2_59) hr
      ·
        show Q34 Z o1 o2 kc4 p10 p11 p12 p13 p14 p15 p16 p17 v5 v6 v7 v8 kc9 p3 h0 n0 _ T9.heap _
        rw [e11]
        exact (Or.inl ⟨hc6, hc13, rfl, N9, rfl⟩)
    ·
      obtain ⟨fs, hr, hrun, hended, hW, hsame⟩ := X9.leave (v := some (.int (0 : Int32))) (fun h => by rw [hret] at h; cases h)
      refine ⟨_, _, pre12 _ ?_, hrun, hended, _, _, rfl, ?_, ⟨_, rfl⟩, hW, hsame.mono (by decide) (by decide)⟩
      ·
        show Steps p.tables e below (T9.setTop (mkF m 51 #[.val (.ref o1), .val (.ref o2), .val (.int (4 : Int32)), .val (.int p3), .val (.int (1 : Int32)), .val (.int (if (((p3.toUInt32 >>> ((1 : Int32) &&& 31).toUInt32).toInt32) &&& (1 : Int32)) = (0 : Int32) then (0 : Int32) else (1 : Int32))), .val (.ref v6), .val (.int p15)] [(.int (if (((p3.toUInt32 >>> ((1 : Int32) &&& 31).toUInt32).toInt32) &&& (1 : Int32)) = (0 : Int32) then (0 : Int32) else (1 : Int32))), (.int p15)])) _
        refine XS.icmpYes X9.here hx rfl (pc0 := 51) (pc' := 58) rfl (hb hby d2_51) rfl (feq hc13).2 (by decide) (by decide) ?_
        refine XS.iconst X9.here hx rfl (hb hby d2_58) ?_
        show Steps p.tables e below (T9.setTop (mkF m 59 #[.val (.ref o1), .val (.ref o2), .val (.int (4 : Int32)), .val (.int p3), .val (.int (1 : Int32)), .val (.int (if (((p3.toUInt32 >>> ((1 : Int32) &&& 31).toUInt32).toInt32) &&& (1 : Int32)) = (0 : Int32) then (0 : Int32) else (1 : Int32))), .val (.ref v6), .val (.int p15)] [(.int (0 : Int32))])) _
        exact retN X9 hx (t := .boolean) hret (by simp) (hb hby d2_59) hr
      ·
        show Q34 Z o1 o2 kc4 p10 p11 p12 p13 p14 p15 p16 p17 v5 v6 v7 v8 kc9 p3 h0 n0 _ T9.heap _
        rw [e11]
        exact (Or.inr (Or.inl ⟨hc6, hc13, rfl, N9, rfl⟩))
  ·
    obtain ⟨fs, hr, hrun, hended, hW, hsame⟩ := X1.leave (v := some (.int (0 : Int32))) (fun h => by rw [hret] at h; cases h)
    refine ⟨_, _, pre5 _ ?_, hrun, hended, _, _, rfl, ?_, ⟨_, rfl⟩, hW, hsame.mono (by decide) (by decide)⟩
    ·
      show Steps p.tables e below (T1.setTop (mkF m 22 #[.val (.ref o1), .val (.ref o2), .val (.int (4 : Int32)), .val (.int p3), .val (.int (1 : Int32)), .val (.int (if (((p3.toUInt32 >>> ((1 : Int32) &&& 31).toUInt32).toInt32) &&& (1 : Int32)) = (0 : Int32) then (0 : Int32) else (1 : Int32))), .unset, .unset] [(.int (if (((p3.toUInt32 >>> ((1 : Int32) &&& 31).toUInt32).toInt32) &&& (1 : Int32)) = (0 : Int32) then (0 : Int32) else (1 : Int32))), (.int p11)])) _
      refine XS.icmpNo X1.here hx rfl (hb hby d2_22) rfl (feq hc6).1 ?_
      refine XS.iconst X1.here hx rfl (hb hby d2_25) ?_
      show Steps p.tables e below (T1.setTop (mkF m 26 #[.val (.ref o1), .val (.ref o2), .val (.int (4 : Int32)), .val (.int p3), .val (.int (1 : Int32)), .val (.int (if (((p3.toUInt32 >>> ((1 : Int32) &&& 31).toUInt32).toInt32) &&& (1 : Int32)) = (0 : Int32) then (0 : Int32) else (1 : Int32))), .unset, .unset] [(.int (0 : Int32))])) _
      exact retN X1 hx (t := .boolean) hret (by simp) (hb hby d2_26) hr
    ·
      show Q34 Z o1 o2 kc4 p10 p11 p12 p13 p14 p15 p16 p17 v5 v6 v7 v8 kc9 p3 h0 n0 _ T1.heap _
      rw [e3]
      exact (Or.inr (Or.inr ⟨hc6, rfl, N1, rfl⟩))
theorem ef35 (m : MethodId) (x0 : Addr) (x1 : Addr) (x2 : Int32) (x3 : Int32) (x4 : Int32) : entryFrame m #[(.ref x0), (.ref x1), (.int x2), (.int x3), (.int x4)] 8 = mkF m 0 #[.val (.ref x0), .val (.ref x1), .val (.int x2), .val (.int x3), .val (.int x4), .unset, .unset, .unset] [] := by first | (simp [entryFrame, mkF, argsToLocals, Value.category]; done) | rfl
def Q35 (Z : State) (o1 : Addr) (o2 : Addr) (kc4 : ClassId) (p10 : Int32) (p11 : Int32) (p12 : Int32) (p13 : Int32) (p14 : Int32) (p15 : Int32) (p16 : Int32) (p17 : Int32) (v5 : Addr) (v6 : Addr) (v7 : Addr) (v8 : Addr) (kc9 : ClassId) (p3 : Int32) (h0 : Heap) (n0 : Nat) (v : Option Value) (h : Heap) (L : List Loc) : Prop :=
  ((p12 = (if (((p3.toUInt32 >>> ((2 : Int32) &&& 31).toUInt32).toInt32) &&& (1 : Int32)) = (0 : Int32) then (0 : Int32) else (1 : Int32))) ∧ (p16 = (if (((p3.toUInt32 >>> ((2 : Int32) &&& 31).toUInt32).toInt32) &&& (1 : Int32)) = (0 : Int32) then (0 : Int32) else (1 : Int32))) ∧ v = some (.int (1 : Int32)) ∧ Fr n0 L ∧ h = h0)
  ∨ ((p12 = (if (((p3.toUInt32 >>> ((2 : Int32) &&& 31).toUInt32).toInt32) &&& (1 : Int32)) = (0 : Int32) then (0 : Int32) else (1 : Int32))) ∧ (¬ (p16 = (if (((p3.toUInt32 >>> ((2 : Int32) &&& 31).toUInt32).toInt32) &&& (1 : Int32)) = (0 : Int32) then (0 : Int32) else (1 : Int32)))) ∧ v = some (.int (0 : Int32)) ∧ Fr n0 L ∧ h = h0)
  ∨ ((¬ (p12 = (if (((p3.toUInt32 >>> ((2 : Int32) &&& 31).toUInt32).toInt32) &&& (1 : Int32)) = (0 : Int32) then (0 : Int32) else (1 : Int32)))) ∧ v = some (.int (0 : Int32)) ∧ Fr n0 L ∧ h = h0)
set_option maxRecDepth 65536 in
set_option maxHeartbeats 40000000 in
theorem rm35 (l : Launch) (Z : State) (a0 : Array Value) (hw : ∀ d ∈ tables_1, d.before a0 Z = true) (ws : List Jvm.Cond) (o1 : Addr) (o2 : Addr) (kc4 : ClassId) (p10 : Int32) (p11 : Int32) (p12 : Int32) (p13 : Int32) (p14 : Int32) (p15 : Int32) (p16 : Int32) (p17 : Int32) (v5 : Addr) (v6 : Addr) (v7 : Addr) (v8 : Addr) (kc9 : ClassId) (p3 : Int32) (h0 : Heap) (n0 : Nat) (O0 : Old Z n0 h0) (g_o1 : n0 ≤ o1) (g_o2 : n0 ≤ o2) (Ov_kc4 : Ovr Z kc4 "java/lang/Boolean") (bd_p10 : 0 ≤ p10.toInt ∧ p10.toInt ≤ 1) (bd_p11 : 0 ≤ p11.toInt ∧ p11.toInt ≤ 1) (bd_p12 : 0 ≤ p12.toInt ∧ p12.toInt ≤ 1) (bd_p13 : 0 ≤ p13.toInt ∧ p13.toInt ≤ 1) (bd_p14 : 0 ≤ p14.toInt ∧ p14.toInt ≤ 1) (bd_p15 : 0 ≤ p15.toInt ∧ p15.toInt ≤ 1) (bd_p16 : 0 ≤ p16.toInt ∧ p16.toInt ≤ 1) (bd_p17 : 0 ≤ p17.toInt ∧ p17.toInt ≤ 1) (P0 : Arv Z h0 o1 kc4 (.object "java/lang/Boolean") (4 : Int32) [(.ref v5), (.ref v6), (.ref v7), (.ref v8)] .null) (P2 : Arv Z h0 o2 kc9 .boolean (4 : Int32) [(.int p10), (.int p11), (.int p12), (.int p13)] (.int (0 : Int32))) (P8 : Exa Z Z.heap v7 "java/lang/Boolean") (P9 : Fld Z Z.heap v7 "java/lang/Boolean" "value" "Z" (.int p16)) :
    MetFree l yn2 (head1 (Jvm.Cond.code yn2 method_4_code 8 (some .boolean) :: ws) ({ frames := 1, cells := 0, slots := 0, locals := 13 } : Room)) (fun a U => a = #[(.ref o1), (.ref o2), (.int (4 : Int32)), (.int p3), (.int (2 : Int32))] ∧ Z.Warmed39 U.vm ∧ U.heap = h0) (fun _ _ _ _ _ => True) (fun _ U o U' => ∃ v L, o = .returned v ∧ Q35 Z o1 o2 kc4 p10 p11 p12 p13 p14 p15 p16 p17 v5 v6 v7 v8 kc9 p3 h0 n0 v U'.heap L ∧ FrameEnd U o U' L ({ frames := 1, cells := 0, slots := 0, locals := 13 } : Room).cells ({ frames := 1, cells := 0, slots := 0, locals := 13 } : Room).slots) := by
  refine MetFree.of_bodySF (plainFor_of_name pn2) hisR ?_
  intro p e s m args below meth c s₁ Bd hml0 hP hK
  obtain ⟨rfl, hZ, hh⟩ := hP
  have hx := Bd.exec
  have hby := Bd.bytes
  have hml : c.maxLocals = 8 := hml0
  have hown : s.vm.findClass "com/example/castless/castless/PrimitiveArraysBox334PinLaw" = some m.cls := findClass_of_methodNamed Bd.named
  have hnm := (name_of_methodNamed Bd.named Bd.method).1
  have hret := Bd.returns
  have hlk : meth.locks = false := BodyLoose.notSynchronized Bd
  have X0 : Stand p l e ({ frames := 1, cells := 0, slots := 0, locals := 13 } : Room) s m #[(.ref o1), (.ref o2), (.int (4 : Int32)), (.int p3), (.int (2 : Int32))] below meth c s₁ [] 0 0 := Stand.of_body Bd
  have e0 : s₁.heap = h0 := by rw [← hh, Bd.state]; rfl
  have N0 := Fr.nil n0
  have pre0 : ∀ t, Steps p.tables e below (s₁.setTop (mkF m 0 #[.val (.ref o1), .val (.ref o2), .val (.int (4 : Int32)), .val (.int p3), .val (.int (2 : Int32)), .unset, .unset, .unset] [])) t → Steps p.tables e below (s₁.setTop (entryFrame m #[(.ref o1), (.ref o2), (.int (4 : Int32)), (.int p3), (.int (2 : Int32))] 8)) t := fun t k => castTop (ef35 m o1 o2 (4 : Int32) p3 (2 : Int32)) k
  obtain ⟨_, _, ⟨T1, L1, c1, n1⟩, -, X1, ⟨Lc1, hQ1, l1, y1, z1⟩, st1⟩ := Jvm.LawKit.callS X0 hx (y := yn3) hown (mvT hZ (own_w hw 24 rfl)) (mvT hZ (own_w hw 25 rfl)) (mvT hZ (own_w hw 22 rfl)) (mvT hZ (own_w hw 26 rfl)) (by decide) (backOf (W := 0) (rm23 l Z a0 hw [] p3 h0 n0 O0 ) hZ (own_w hw 26 rfl) (own_w hw 22 rfl) (by decide) (by decide)) (g := (mkF m 11 #[.val (.ref o1), .val (.ref o2), .val (.int (4 : Int32)), .val (.int p3), .val (.int (2 : Int32)), .unset, .unset, .unset] [(.int (2 : Int32)), (.int p3)])) rfl (by rw [hml]; rfl) (argsL := [(.int p3), (.int (2 : Int32))]) (rest := []) (lenOf pd3 rfl) rfl (by show 2 * 0 + _ ≤ _; exact Nat.le_of_eq rfl) (hb hby d2_11) (fun _ _ => ⟨rfl, e0, (by decide : 0 + 0 ≤ _), (by decide : 0 + 0 ≤ _)⟩)
  dsimp only [Pt.U, Pt.locs, Pt.cells, Pt.slots] at X1 l1 y1 z1 st1 hQ1
  subst l1 y1 z1
  have X1 : Stand p l e ({ frames := 1, cells := 0, slots := 0, locals := 13 } : Room) s m #[(.ref o1), (.ref o2), (.int (4 : Int32)), (.int p3), (.int (2 : Int32))] below meth c T1 _ 0 0 := X1
  obtain ⟨rfl, Nq2, e3⟩ := hQ1
  have N1 := Fr.app N0 Nq2
  obtain ⟨cl4, Ar4, qa4, Sa4, Na4, Ha4, Ga4⟩ := id (P2)
  have hin4 : ¬ ((2 : Int32) < 0 ∨ cl4.slots.size ≤ ((2 : Int32)).toNatClampNeg) := inb_of Sa4 ⟨by decide, by decide⟩
  have hat4 : cl4.slots[((2 : Int32)).toNatClampNeg]? = some (.int p12) := Has.at Ha4 hin4 rfl
  have pre5 : ∀ t, Steps p.tables e below (T1.setTop (mkF m 22 #[.val (.ref o1), .val (.ref o2), .val (.int (4 : Int32)), .val (.int p3), .val (.int (2 : Int32)), .val (.int (if (((p3.toUInt32 >>> ((2 : Int32) &&& 31).toUInt32).toInt32) &&& (1 : Int32)) = (0 : Int32) then (0 : Int32) else (1 : Int32))), .unset, .unset] [(.int (if (((p3.toUInt32 >>> ((2 : Int32) &&& 31).toUInt32).toInt32) &&& (1 : Int32)) = (0 : Int32) then (0 : Int32) else (1 : Int32))), (.int p12)])) t → Steps p.tables e below (s₁.setTop (entryFrame m #[(.ref o1), (.ref o2), (.int (4 : Int32)), (.int p3), (.int (2 : Int32))] 8)) t := fun t k => by
    refine pre0 _ ?_
    show Steps p.tables e below (s₁.setTop (mkF m 0 #[.val (.ref o1), .val (.ref o2), .val (.int (4 : Int32)), .val (.int p3), .val (.int (2 : Int32)), .unset, .unset, .unset] [])) _
    refine XS.iload X0.here hx rfl (hb hby d2_0) rfl ?_
    refine XS.iloadN X0.here hx rfl (hb hby d2_2) rfl ?_
    refine XS.icmpYes X0.here hx rfl (pc0 := 3) (pc' := 8) rfl (hb hby d2_3) rfl (tlt (by decide : (2 : Int32) < (4 : Int32))).1 (by decide) (by decide) ?_
    refine XS.iloadN X0.here hx rfl (hb hby d2_8) rfl ?_
    refine XS.iload X0.here hx rfl (hb hby d2_9) rfl ?_
    refine st1 _ ?_
    refine XS.istore X1.here hx rfl (hb hby d2_14) rfl (l' := #[.val (.ref o1), .val (.ref o2), .val (.int (4 : Int32)), .val (.int p3), .val (.int (2 : Int32)), .val (.int (if (((p3.toUInt32 >>> ((2 : Int32) &&& 31).toUInt32).toInt32) &&& (1 : Int32)) = (0 : Int32) then (0 : Int32) else (1 : Int32))), .unset, .unset]) rfl ?_
    refine XS.aloadN X1.here hx rfl (hb hby d2_16) rfl rfl ?_
    refine XS.iload X1.here hx rfl (hb hby d2_17) rfl ?_
    refine X1.baloadBooleans hx (j := (2 : Int32)) (v := (.int p12)) (by rw [e3]; exact Ar4.1) (State.isArrayOf_alike hZ.alike Ar4.2.1) Ar4.2.2 hin4 hat4 (g := (mkF m 19 #[.val (.ref o1), .val (.ref o2), .val (.int (4 : Int32)), .val (.int p3), .val (.int (2 : Int32)), .val (.int (if (((p3.toUInt32 >>> ((2 : Int32) &&& 31).toUInt32).toInt32) &&& (1 : Int32)) = (0 : Int32) then (0 : Int32) else (1 : Int32))), .unset, .unset] [(.int (2 : Int32)), (.ref o2)])) rfl rfl (hb hby d2_19) _ ?_
    refine XS.iload X1.here hx rfl (hb hby d2_20) rfl ?_
    exact k
  by_cases hc6 : p12 = (if (((p3.toUInt32 >>> ((2 : Int32) &&& 31).toUInt32).toInt32) &&& (1 : Int32)) = (0 : Int32) then (0 : Int32) else (1 : Int32))
  ·
    obtain ⟨cl7, Ar7, qa7, Sa7, Na7, Ha7, Ga7⟩ := id (P0)
    have hin7 : ¬ ((2 : Int32) < 0 ∨ cl7.slots.size ≤ ((2 : Int32)).toNatClampNeg) := inb_of Sa7 ⟨by decide, by decide⟩
    have hat7 : cl7.slots[((2 : Int32)).toNatClampNeg]? = some (.ref v7) := Has.at Ha7 hin7 rfl
    obtain ⟨cq8, kq8, q8a, q8b, q8c⟩ := isOf hZ e3 (P8.ext O0.2)
    obtain ⟨_, _, ⟨T9, L9, c9, n9⟩, -, X9, ⟨Lc9, hQ9, l9, y9, z9⟩, st9⟩ := X1.virtualBack hx (y := yn5) (z := yn5) hown (mvT hZ (own_w hw 34 rfl)) (mvT hZ (own_w hw 35 rfl)) (notFace_of_selects (args := #[]) (mvT hZ (own_w hw 37 rfl))) (mvT hZ (own_w hw 37 rfl)) (mvT hZ (own_w hw 36 rfl)) (by decide) (backOf (W := 0) (rm11 l Z a0 hw [] p16 v7 h0 n0 O0 (by have q0 := bd_p16; omega) P9) hZ (own_w hw 38 rfl) (own_w hw 29 rfl) (by decide) (by decide)) q8a q8c (g := (mkF m 42 #[.val (.ref o1), .val (.ref o2), .val (.int (4 : Int32)), .val (.int p3), .val (.int (2 : Int32)), .val (.int (if (((p3.toUInt32 >>> ((2 : Int32) &&& 31).toUInt32).toInt32) &&& (1 : Int32)) = (0 : Int32) then (0 : Int32) else (1 : Int32))), .val (.ref v7), .unset] [(.ref v7)])) rfl (by rw [hml]; rfl) (Steps.refl _) (argsL := []) (rest := []) (lenOf pd5 rfl) rfl (by show 2 * 0 + _ ≤ _; exact Nat.le_of_eq rfl) (hb hby d2_42) (fun _ _ => ⟨rfl, e3, (by decide : 0 + 0 ≤ _), (by decide : 0 + 0 ≤ _)⟩)
    dsimp only [Pt.U, Pt.locs, Pt.cells, Pt.slots] at X9 l9 y9 z9 st9 hQ9
    subst l9 y9 z9
    have X9 : Stand p l e ({ frames := 1, cells := 0, slots := 0, locals := 13 } : Room) s m #[(.ref o1), (.ref o2), (.int (4 : Int32)), (.int p3), (.int (2 : Int32))] below meth c T9 _ 0 0 := X9
    obtain ⟨rfl, Nq10, e11⟩ := hQ9
    have N9 := Fr.app N1 Nq10
    have pre12 : ∀ t, Steps p.tables e below (T9.setTop (mkF m 51 #[.val (.ref o1), .val (.ref o2), .val (.int (4 : Int32)), .val (.int p3), .val (.int (2 : Int32)), .val (.int (if (((p3.toUInt32 >>> ((2 : Int32) &&& 31).toUInt32).toInt32) &&& (1 : Int32)) = (0 : Int32) then (0 : Int32) else (1 : Int32))), .val (.ref v7), .val (.int p16)] [(.int (if (((p3.toUInt32 >>> ((2 : Int32) &&& 31).toUInt32).toInt32) &&& (1 : Int32)) = (0 : Int32) then (0 : Int32) else (1 : Int32))), (.int p16)])) t → Steps p.tables e below (s₁.setTop (entryFrame m #[(.ref o1), (.ref o2), (.int (4 : Int32)), (.int p3), (.int (2 : Int32))] 8)) t := fun t k => by
      refine pre5 _ ?_
      show Steps p.tables e below (T1.setTop (mkF m 22 #[.val (.ref o1), .val (.ref o2), .val (.int (4 : Int32)), .val (.int p3), .val (.int (2 : Int32)), .val (.int (if (((p3.toUInt32 >>> ((2 : Int32) &&& 31).toUInt32).toInt32) &&& (1 : Int32)) = (0 : Int32) then (0 : Int32) else (1 : Int32))), .unset, .unset] [(.int (if (((p3.toUInt32 >>> ((2 : Int32) &&& 31).toUInt32).toInt32) &&& (1 : Int32)) = (0 : Int32) then (0 : Int32) else (1 : Int32))), (.int p12)])) _
      refine XS.icmpYes X1.here hx rfl (pc0 := 22) (pc' := 27) rfl (hb hby d2_22) rfl (teq hc6).1 (by decide) (by decide) ?_
      refine XS.aloadN X1.here hx rfl (hb hby d2_27) rfl rfl ?_
      refine XS.iload X1.here hx rfl (hb hby d2_28) rfl ?_
      refine X1.aaload hx (j := (2 : Int32)) (v := (.ref v7)) (by rw [e3]; exact Ar7.1) (State.isArrayOf_alike hZ.alike Ar7.2.1) rfl Ar7.2.2 hin7 hat7 (g := (mkF m 30 #[.val (.ref o1), .val (.ref o2), .val (.int (4 : Int32)), .val (.int p3), .val (.int (2 : Int32)), .val (.int (if (((p3.toUInt32 >>> ((2 : Int32) &&& 31).toUInt32).toInt32) &&& (1 : Int32)) = (0 : Int32) then (0 : Int32) else (1 : Int32))), .unset, .unset] [(.int (2 : Int32)), (.ref o1)])) rfl rfl (hb hby d2_30) _ ?_
      refine XS.astore X1.here hx rfl (hb hby d2_31) rfl rfl (l' := #[.val (.ref o1), .val (.ref o2), .val (.int (4 : Int32)), .val (.int p3), .val (.int (2 : Int32)), .val (.int (if (((p3.toUInt32 >>> ((2 : Int32) &&& 31).toUInt32).toInt32) &&& (1 : Int32)) = (0 : Int32) then (0 : Int32) else (1 : Int32))), .val (.ref v7), .unset]) rfl ?_
      refine XS.aload X1.here hx rfl (hb hby d2_33) rfl rfl ?_
      refine XS.ifnonnullYes X1.here hx rfl (pc0 := 35) (pc' := 40) rfl (hb hby d2_35) rfl (by decide) (by decide) ?_
      refine XS.aload X1.here hx rfl (hb hby d2_40) rfl rfl ?_
      refine st9.trans ?_
      refine XS.istore X9.here hx rfl (hb hby d2_45) rfl (l' := #[.val (.ref o1), .val (.ref o2), .val (.int (4 : Int32)), .val (.int p3), .val (.int (2 : Int32)), .val (.int (if (((p3.toUInt32 >>> ((2 : Int32) &&& 31).toUInt32).toInt32) &&& (1 : Int32)) = (0 : Int32) then (0 : Int32) else (1 : Int32))), .val (.ref v7), .val (.int p16)]) rfl ?_
      refine XS.iload X9.here hx rfl (hb hby d2_47) rfl ?_
      refine XS.iload X9.here hx rfl (hb hby d2_49) rfl ?_
      exact k
    by_cases hc13 : p16 = (if (((p3.toUInt32 >>> ((2 : Int32) &&& 31).toUInt32).toInt32) &&& (1 : Int32)) = (0 : Int32) then (0 : Int32) else (1 : Int32))
    ·
      obtain ⟨fs, hr, hrun, hended, hW, hsame⟩ := X9.leave (v := some (.int (1 : Int32))) (fun h => by rw [hret] at h; cases h)
      refine ⟨_, _, pre12 _ ?_, hrun, hended, _, _, rfl, ?_, ⟨_, rfl⟩, hW, hsame.mono (by decide) (by decide)⟩
      ·
        show Steps p.tables e below (T9.setTop (mkF m 51 #[.val (.ref o1), .val (.ref o2), .val (.int (4 : Int32)), .val (.int p3), .val (.int (2 : Int32)), .val (.int (if (((p3.toUInt32 >>> ((2 : Int32) &&& 31).toUInt32).toInt32) &&& (1 : Int32)) = (0 : Int32) then (0 : Int32) else (1 : Int32))), .val (.ref v7), .val (.int p16)] [(.int (if (((p3.toUInt32 >>> ((2 : Int32) &&& 31).toUInt32).toInt32) &&& (1 : Int32)) = (0 : Int32) then (0 : Int32) else (1 : Int32))), (.int p16)])) _
        refine XS.icmpNo X9.here hx rfl (hb hby d2_51) rfl (teq hc13).2 ?_
        refine XS.iconst X9.here hx rfl (hb hby d2_54) ?_
        refine XS.goto X9.here hx rfl (pc0 := 55) (pc' := 59) rfl (hb hby d2_55) (by decide) (by decide) ?_
        show Steps p.tables e below (T9.setTop (mkF m 59 #[.val (.ref o1), .val (.ref o2), .val (.int (4 : Int32)), .val (.int p3), .val (.int (2 : Int32)), .val (.int (if (((p3.toUInt32 >>> ((2 : Int32) &&& 31).toUInt32).toInt32) &&& (1 : Int32)) = (0 : Int32) then (0 : Int32) else (1 : Int32))), .val (.ref v7), .val (.int p16)] [(.int (1 : Int32))])) _
        exact retN X9 hx (t := .boolean) hret (by simp) (hb hby d2_59) hr
      ·
        show Q35 Z o1 o2 kc4 p10 p11 p12 p13 p14 p15 p16 p17 v5 v6 v7 v8 kc9 p3 h0 n0 _ T9.heap _
        rw [e11]
        exact (Or.inl ⟨hc6, hc13, rfl, N9, rfl⟩)
    ·
      obtain ⟨fs, hr, hrun, hended, hW, hsame⟩ := X9.leave (v := some (.int (0 : Int32))) (fun h => by rw [hret] at h; cases h)
      refine ⟨_, _, pre12 _ ?_, hrun, hended, _, _, rfl, ?_, ⟨_, rfl⟩, hW, hsame.mono (by decide) (by decide)⟩
      ·
        show Steps p.tables e below (T9.setTop (mkF m 51 #[.val (.ref o1), .val (.ref o2), .val (.int (4 : Int32)), .val (.int p3), .val (.int (2 : Int32)), .val (.int (if (((p3.toUInt32 >>> ((2 : Int32) &&& 31).toUInt32).toInt32) &&& (1 : Int32)) = (0 : Int32) then (0 : Int32) else (1 : Int32))), .val (.ref v7), .val (.int p16)] [(.int (if (((p3.toUInt32 >>> ((2 : Int32) &&& 31).toUInt32).toInt32) &&& (1 : Int32)) = (0 : Int32) then (0 : Int32) else (1 : Int32))), (.int p16)])) _
        refine XS.icmpYes X9.here hx rfl (pc0 := 51) (pc' := 58) rfl (hb hby d2_51) rfl (feq hc13).2 (by decide) (by decide) ?_
        refine XS.iconst X9.here hx rfl (hb hby d2_58) ?_
        show Steps p.tables e below (T9.setTop (mkF m 59 #[.val (.ref o1), .val (.ref o2), .val (.int (4 : Int32)), .val (.int p3), .val (.int (2 : Int32)), .val (.int (if (((p3.toUInt32 >>> ((2 : Int32) &&& 31).toUInt32).toInt32) &&& (1 : Int32)) = (0 : Int32) then (0 : Int32) else (1 : Int32))), .val (.ref v7), .val (.int p16)] [(.int (0 : Int32))])) _
        exact retN X9 hx (t := .boolean) hret (by simp) (hb hby d2_59) hr
      ·
        show Q35 Z o1 o2 kc4 p10 p11 p12 p13 p14 p15 p16 p17 v5 v6 v7 v8 kc9 p3 h0 n0 _ T9.heap _
        rw [e11]
        exact (Or.inr (Or.inl ⟨hc6, hc13, rfl, N9, rfl⟩))
  ·
    obtain ⟨fs, hr, hrun, hended, hW, hsame⟩ := X1.leave (v := some (.int (0 : Int32))) (fun h => by rw [hret] at h; cases h)
    refine ⟨_, _, pre5 _ ?_, hrun, hended, _, _, rfl, ?_, ⟨_, rfl⟩, hW, hsame.mono (by decide) (by decide)⟩
    ·
      show Steps p.tables e below (T1.setTop (mkF m 22 #[.val (.ref o1), .val (.ref o2), .val (.int (4 : Int32)), .val (.int p3), .val (.int (2 : Int32)), .val (.int (if (((p3.toUInt32 >>> ((2 : Int32) &&& 31).toUInt32).toInt32) &&& (1 : Int32)) = (0 : Int32) then (0 : Int32) else (1 : Int32))), .unset, .unset] [(.int (if (((p3.toUInt32 >>> ((2 : Int32) &&& 31).toUInt32).toInt32) &&& (1 : Int32)) = (0 : Int32) then (0 : Int32) else (1 : Int32))), (.int p12)])) _
      refine XS.icmpNo X1.here hx rfl (hb hby d2_22) rfl (feq hc6).1 ?_
      refine XS.iconst X1.here hx rfl (hb hby d2_25) ?_
      show Steps p.tables e below (T1.setTop (mkF m 26 #[.val (.ref o1), .val (.ref o2), .val (.int (4 : Int32)), .val (.int p3), .val (.int (2 : Int32)), .val (.int (if (((p3.toUInt32 >>> ((2 : Int32) &&& 31).toUInt32).toInt32) &&& (1 : Int32)) = (0 : Int32) then (0 : Int32) else (1 : Int32))), .unset, .unset] [(.int (0 : Int32))])) _
      exact retN X1 hx (t := .boolean) hret (by simp) (hb hby d2_26) hr
    ·
      show Q35 Z o1 o2 kc4 p10 p11 p12 p13 p14 p15 p16 p17 v5 v6 v7 v8 kc9 p3 h0 n0 _ T1.heap _
      rw [e3]
      exact (Or.inr (Or.inr ⟨hc6, rfl, N1, rfl⟩))
theorem ef36 (m : MethodId) (x0 : Addr) (x1 : Addr) (x2 : Int32) (x3 : Int32) (x4 : Int32) : entryFrame m #[(.ref x0), (.ref x1), (.int x2), (.int x3), (.int x4)] 8 = mkF m 0 #[.val (.ref x0), .val (.ref x1), .val (.int x2), .val (.int x3), .val (.int x4), .unset, .unset, .unset] [] := by first | (simp [entryFrame, mkF, argsToLocals, Value.category]; done) | rfl
def Q36 (Z : State) (o1 : Addr) (o2 : Addr) (kc4 : ClassId) (p10 : Int32) (p11 : Int32) (p12 : Int32) (p13 : Int32) (p14 : Int32) (p15 : Int32) (p16 : Int32) (p17 : Int32) (v5 : Addr) (v6 : Addr) (v7 : Addr) (v8 : Addr) (kc9 : ClassId) (p3 : Int32) (h0 : Heap) (n0 : Nat) (v : Option Value) (h : Heap) (L : List Loc) : Prop :=
  ((p13 = (if (((p3.toUInt32 >>> ((3 : Int32) &&& 31).toUInt32).toInt32) &&& (1 : Int32)) = (0 : Int32) then (0 : Int32) else (1 : Int32))) ∧ (p17 = (if (((p3.toUInt32 >>> ((3 : Int32) &&& 31).toUInt32).toInt32) &&& (1 : Int32)) = (0 : Int32) then (0 : Int32) else (1 : Int32))) ∧ v = some (.int (1 : Int32)) ∧ Fr n0 L ∧ h = h0)
  ∨ ((p13 = (if (((p3.toUInt32 >>> ((3 : Int32) &&& 31).toUInt32).toInt32) &&& (1 : Int32)) = (0 : Int32) then (0 : Int32) else (1 : Int32))) ∧ (¬ (p17 = (if (((p3.toUInt32 >>> ((3 : Int32) &&& 31).toUInt32).toInt32) &&& (1 : Int32)) = (0 : Int32) then (0 : Int32) else (1 : Int32)))) ∧ v = some (.int (0 : Int32)) ∧ Fr n0 L ∧ h = h0)
  ∨ ((¬ (p13 = (if (((p3.toUInt32 >>> ((3 : Int32) &&& 31).toUInt32).toInt32) &&& (1 : Int32)) = (0 : Int32) then (0 : Int32) else (1 : Int32)))) ∧ v = some (.int (0 : Int32)) ∧ Fr n0 L ∧ h = h0)
set_option maxRecDepth 65536 in
set_option maxHeartbeats 40000000 in
theorem rm36 (l : Launch) (Z : State) (a0 : Array Value) (hw : ∀ d ∈ tables_1, d.before a0 Z = true) (ws : List Jvm.Cond) (o1 : Addr) (o2 : Addr) (kc4 : ClassId) (p10 : Int32) (p11 : Int32) (p12 : Int32) (p13 : Int32) (p14 : Int32) (p15 : Int32) (p16 : Int32) (p17 : Int32) (v5 : Addr) (v6 : Addr) (v7 : Addr) (v8 : Addr) (kc9 : ClassId) (p3 : Int32) (h0 : Heap) (n0 : Nat) (O0 : Old Z n0 h0) (g_o1 : n0 ≤ o1) (g_o2 : n0 ≤ o2) (Ov_kc4 : Ovr Z kc4 "java/lang/Boolean") (bd_p10 : 0 ≤ p10.toInt ∧ p10.toInt ≤ 1) (bd_p11 : 0 ≤ p11.toInt ∧ p11.toInt ≤ 1) (bd_p12 : 0 ≤ p12.toInt ∧ p12.toInt ≤ 1) (bd_p13 : 0 ≤ p13.toInt ∧ p13.toInt ≤ 1) (bd_p14 : 0 ≤ p14.toInt ∧ p14.toInt ≤ 1) (bd_p15 : 0 ≤ p15.toInt ∧ p15.toInt ≤ 1) (bd_p16 : 0 ≤ p16.toInt ∧ p16.toInt ≤ 1) (bd_p17 : 0 ≤ p17.toInt ∧ p17.toInt ≤ 1) (P0 : Arv Z h0 o1 kc4 (.object "java/lang/Boolean") (4 : Int32) [(.ref v5), (.ref v6), (.ref v7), (.ref v8)] .null) (P2 : Arv Z h0 o2 kc9 .boolean (4 : Int32) [(.int p10), (.int p11), (.int p12), (.int p13)] (.int (0 : Int32))) (P10 : Exa Z Z.heap v8 "java/lang/Boolean") (P11 : Fld Z Z.heap v8 "java/lang/Boolean" "value" "Z" (.int p17)) :
    MetFree l yn2 (head1 (Jvm.Cond.code yn2 method_4_code 8 (some .boolean) :: ws) ({ frames := 1, cells := 0, slots := 0, locals := 13 } : Room)) (fun a U => a = #[(.ref o1), (.ref o2), (.int (4 : Int32)), (.int p3), (.int (3 : Int32))] ∧ Z.Warmed39 U.vm ∧ U.heap = h0) (fun _ _ _ _ _ => True) (fun _ U o U' => ∃ v L, o = .returned v ∧ Q36 Z o1 o2 kc4 p10 p11 p12 p13 p14 p15 p16 p17 v5 v6 v7 v8 kc9 p3 h0 n0 v U'.heap L ∧ FrameEnd U o U' L ({ frames := 1, cells := 0, slots := 0, locals := 13 } : Room).cells ({ frames := 1, cells := 0, slots := 0, locals := 13 } : Room).slots) := by
  refine MetFree.of_bodySF (plainFor_of_name pn2) hisR ?_
  intro p e s m args below meth c s₁ Bd hml0 hP hK
  obtain ⟨rfl, hZ, hh⟩ := hP
  have hx := Bd.exec
  have hby := Bd.bytes
  have hml : c.maxLocals = 8 := hml0
  have hown : s.vm.findClass "com/example/castless/castless/PrimitiveArraysBox334PinLaw" = some m.cls := findClass_of_methodNamed Bd.named
  have hnm := (name_of_methodNamed Bd.named Bd.method).1
  have hret := Bd.returns
  have hlk : meth.locks = false := BodyLoose.notSynchronized Bd
  have X0 : Stand p l e ({ frames := 1, cells := 0, slots := 0, locals := 13 } : Room) s m #[(.ref o1), (.ref o2), (.int (4 : Int32)), (.int p3), (.int (3 : Int32))] below meth c s₁ [] 0 0 := Stand.of_body Bd
  have e0 : s₁.heap = h0 := by rw [← hh, Bd.state]; rfl
  have N0 := Fr.nil n0
  have pre0 : ∀ t, Steps p.tables e below (s₁.setTop (mkF m 0 #[.val (.ref o1), .val (.ref o2), .val (.int (4 : Int32)), .val (.int p3), .val (.int (3 : Int32)), .unset, .unset, .unset] [])) t → Steps p.tables e below (s₁.setTop (entryFrame m #[(.ref o1), (.ref o2), (.int (4 : Int32)), (.int p3), (.int (3 : Int32))] 8)) t := fun t k => castTop (ef36 m o1 o2 (4 : Int32) p3 (3 : Int32)) k
  obtain ⟨_, _, ⟨T1, L1, c1, n1⟩, -, X1, ⟨Lc1, hQ1, l1, y1, z1⟩, st1⟩ := Jvm.LawKit.callS X0 hx (y := yn3) hown (mvT hZ (own_w hw 24 rfl)) (mvT hZ (own_w hw 25 rfl)) (mvT hZ (own_w hw 22 rfl)) (mvT hZ (own_w hw 26 rfl)) (by decide) (backOf (W := 0) (rm30 l Z a0 hw [] p3 h0 n0 O0 ) hZ (own_w hw 26 rfl) (own_w hw 22 rfl) (by decide) (by decide)) (g := (mkF m 11 #[.val (.ref o1), .val (.ref o2), .val (.int (4 : Int32)), .val (.int p3), .val (.int (3 : Int32)), .unset, .unset, .unset] [(.int (3 : Int32)), (.int p3)])) rfl (by rw [hml]; rfl) (argsL := [(.int p3), (.int (3 : Int32))]) (rest := []) (lenOf pd3 rfl) rfl (by show 2 * 0 + _ ≤ _; exact Nat.le_of_eq rfl) (hb hby d2_11) (fun _ _ => ⟨rfl, e0, (by decide : 0 + 0 ≤ _), (by decide : 0 + 0 ≤ _)⟩)
  dsimp only [Pt.U, Pt.locs, Pt.cells, Pt.slots] at X1 l1 y1 z1 st1 hQ1
  subst l1 y1 z1
  have X1 : Stand p l e ({ frames := 1, cells := 0, slots := 0, locals := 13 } : Room) s m #[(.ref o1), (.ref o2), (.int (4 : Int32)), (.int p3), (.int (3 : Int32))] below meth c T1 _ 0 0 := X1
  obtain ⟨rfl, Nq2, e3⟩ := hQ1
  have N1 := Fr.app N0 Nq2
  obtain ⟨cl4, Ar4, qa4, Sa4, Na4, Ha4, Ga4⟩ := id (P2)
  have hin4 : ¬ ((3 : Int32) < 0 ∨ cl4.slots.size ≤ ((3 : Int32)).toNatClampNeg) := inb_of Sa4 ⟨by decide, by decide⟩
  have hat4 : cl4.slots[((3 : Int32)).toNatClampNeg]? = some (.int p13) := Has.at Ha4 hin4 rfl
  have pre5 : ∀ t, Steps p.tables e below (T1.setTop (mkF m 22 #[.val (.ref o1), .val (.ref o2), .val (.int (4 : Int32)), .val (.int p3), .val (.int (3 : Int32)), .val (.int (if (((p3.toUInt32 >>> ((3 : Int32) &&& 31).toUInt32).toInt32) &&& (1 : Int32)) = (0 : Int32) then (0 : Int32) else (1 : Int32))), .unset, .unset] [(.int (if (((p3.toUInt32 >>> ((3 : Int32) &&& 31).toUInt32).toInt32) &&& (1 : Int32)) = (0 : Int32) then (0 : Int32) else (1 : Int32))), (.int p13)])) t → Steps p.tables e below (s₁.setTop (entryFrame m #[(.ref o1), (.ref o2), (.int (4 : Int32)), (.int p3), (.int (3 : Int32))] 8)) t := fun t k => by
    refine pre0 _ ?_
    show Steps p.tables e below (s₁.setTop (mkF m 0 #[.val (.ref o1), .val (.ref o2), .val (.int (4 : Int32)), .val (.int p3), .val (.int (3 : Int32)), .unset, .unset, .unset] [])) _
    refine XS.iload X0.here hx rfl (hb hby d2_0) rfl ?_
    refine XS.iloadN X0.here hx rfl (hb hby d2_2) rfl ?_
    refine XS.icmpYes X0.here hx rfl (pc0 := 3) (pc' := 8) rfl (hb hby d2_3) rfl (tlt (by decide : (3 : Int32) < (4 : Int32))).1 (by decide) (by decide) ?_
    refine XS.iloadN X0.here hx rfl (hb hby d2_8) rfl ?_
    refine XS.iload X0.here hx rfl (hb hby d2_9) rfl ?_
    refine st1 _ ?_
    refine XS.istore X1.here hx rfl (hb hby d2_14) rfl (l' := #[.val (.ref o1), .val (.ref o2), .val (.int (4 : Int32)), .val (.int p3), .val (.int (3 : Int32)), .val (.int (if (((p3.toUInt32 >>> ((3 : Int32) &&& 31).toUInt32).toInt32) &&& (1 : Int32)) = (0 : Int32) then (0 : Int32) else (1 : Int32))), .unset, .unset]) rfl ?_
    refine XS.aloadN X1.here hx rfl (hb hby d2_16) rfl rfl ?_
    refine XS.iload X1.here hx rfl (hb hby d2_17) rfl ?_
    refine X1.baloadBooleans hx (j := (3 : Int32)) (v := (.int p13)) (by rw [e3]; exact Ar4.1) (State.isArrayOf_alike hZ.alike Ar4.2.1) Ar4.2.2 hin4 hat4 (g := (mkF m 19 #[.val (.ref o1), .val (.ref o2), .val (.int (4 : Int32)), .val (.int p3), .val (.int (3 : Int32)), .val (.int (if (((p3.toUInt32 >>> ((3 : Int32) &&& 31).toUInt32).toInt32) &&& (1 : Int32)) = (0 : Int32) then (0 : Int32) else (1 : Int32))), .unset, .unset] [(.int (3 : Int32)), (.ref o2)])) rfl rfl (hb hby d2_19) _ ?_
    refine XS.iload X1.here hx rfl (hb hby d2_20) rfl ?_
    exact k
  by_cases hc6 : p13 = (if (((p3.toUInt32 >>> ((3 : Int32) &&& 31).toUInt32).toInt32) &&& (1 : Int32)) = (0 : Int32) then (0 : Int32) else (1 : Int32))
  ·
    obtain ⟨cl7, Ar7, qa7, Sa7, Na7, Ha7, Ga7⟩ := id (P0)
    have hin7 : ¬ ((3 : Int32) < 0 ∨ cl7.slots.size ≤ ((3 : Int32)).toNatClampNeg) := inb_of Sa7 ⟨by decide, by decide⟩
    have hat7 : cl7.slots[((3 : Int32)).toNatClampNeg]? = some (.ref v8) := Has.at Ha7 hin7 rfl
    obtain ⟨cq8, kq8, q8a, q8b, q8c⟩ := isOf hZ e3 (P10.ext O0.2)
    obtain ⟨_, _, ⟨T9, L9, c9, n9⟩, -, X9, ⟨Lc9, hQ9, l9, y9, z9⟩, st9⟩ := X1.virtualBack hx (y := yn5) (z := yn5) hown (mvT hZ (own_w hw 34 rfl)) (mvT hZ (own_w hw 35 rfl)) (notFace_of_selects (args := #[]) (mvT hZ (own_w hw 37 rfl))) (mvT hZ (own_w hw 37 rfl)) (mvT hZ (own_w hw 36 rfl)) (by decide) (backOf (W := 0) (rm11 l Z a0 hw [] p17 v8 h0 n0 O0 (by have q0 := bd_p17; omega) P11) hZ (own_w hw 38 rfl) (own_w hw 29 rfl) (by decide) (by decide)) q8a q8c (g := (mkF m 42 #[.val (.ref o1), .val (.ref o2), .val (.int (4 : Int32)), .val (.int p3), .val (.int (3 : Int32)), .val (.int (if (((p3.toUInt32 >>> ((3 : Int32) &&& 31).toUInt32).toInt32) &&& (1 : Int32)) = (0 : Int32) then (0 : Int32) else (1 : Int32))), .val (.ref v8), .unset] [(.ref v8)])) rfl (by rw [hml]; rfl) (Steps.refl _) (argsL := []) (rest := []) (lenOf pd5 rfl) rfl (by show 2 * 0 + _ ≤ _; exact Nat.le_of_eq rfl) (hb hby d2_42) (fun _ _ => ⟨rfl, e3, (by decide : 0 + 0 ≤ _), (by decide : 0 + 0 ≤ _)⟩)
    dsimp only [Pt.U, Pt.locs, Pt.cells, Pt.slots] at X9 l9 y9 z9 st9 hQ9
    subst l9 y9 z9
    have X9 : Stand p l e ({ frames := 1, cells := 0, slots := 0, locals := 13 } : Room) s m #[(.ref o1), (.ref o2), (.int (4 : Int32)), (.int p3), (.int (3 : Int32))] below meth c T9 _ 0 0 := X9
    obtain ⟨rfl, Nq10, e11⟩ := hQ9
    have N9 := Fr.app N1 Nq10
    have pre12 : ∀ t, Steps p.tables e below (T9.setTop (mkF m 51 #[.val (.ref o1), .val (.ref o2), .val (.int (4 : Int32)), .val (.int p3), .val (.int (3 : Int32)), .val (.int (if (((p3.toUInt32 >>> ((3 : Int32) &&& 31).toUInt32).toInt32) &&& (1 : Int32)) = (0 : Int32) then (0 : Int32) else (1 : Int32))), .val (.ref v8), .val (.int p17)] [(.int (if (((p3.toUInt32 >>> ((3 : Int32) &&& 31).toUInt32).toInt32) &&& (1 : Int32)) = (0 : Int32) then (0 : Int32) else (1 : Int32))), (.int p17)])) t → Steps p.tables e below (s₁.setTop (entryFrame m #[(.ref o1), (.ref o2), (.int (4 : Int32)), (.int p3), (.int (3 : Int32))] 8)) t := fun t k => by
      refine pre5 _ ?_
      show Steps p.tables e below (T1.setTop (mkF m 22 #[.val (.ref o1), .val (.ref o2), .val (.int (4 : Int32)), .val (.int p3), .val (.int (3 : Int32)), .val (.int (if (((p3.toUInt32 >>> ((3 : Int32) &&& 31).toUInt32).toInt32) &&& (1 : Int32)) = (0 : Int32) then (0 : Int32) else (1 : Int32))), .unset, .unset] [(.int (if (((p3.toUInt32 >>> ((3 : Int32) &&& 31).toUInt32).toInt32) &&& (1 : Int32)) = (0 : Int32) then (0 : Int32) else (1 : Int32))), (.int p13)])) _
      refine XS.icmpYes X1.here hx rfl (pc0 := 22) (pc' := 27) rfl (hb hby d2_22) rfl (teq hc6).1 (by decide) (by decide) ?_
      refine XS.aloadN X1.here hx rfl (hb hby d2_27) rfl rfl ?_
      refine XS.iload X1.here hx rfl (hb hby d2_28) rfl ?_
      refine X1.aaload hx (j := (3 : Int32)) (v := (.ref v8)) (by rw [e3]; exact Ar7.1) (State.isArrayOf_alike hZ.alike Ar7.2.1) rfl Ar7.2.2 hin7 hat7 (g := (mkF m 30 #[.val (.ref o1), .val (.ref o2), .val (.int (4 : Int32)), .val (.int p3), .val (.int (3 : Int32)), .val (.int (if (((p3.toUInt32 >>> ((3 : Int32) &&& 31).toUInt32).toInt32) &&& (1 : Int32)) = (0 : Int32) then (0 : Int32) else (1 : Int32))), .unset, .unset] [(.int (3 : Int32)), (.ref o1)])) rfl rfl (hb hby d2_30) _ ?_
      refine XS.astore X1.here hx rfl (hb hby d2_31) rfl rfl (l' := #[.val (.ref o1), .val (.ref o2), .val (.int (4 : Int32)), .val (.int p3), .val (.int (3 : Int32)), .val (.int (if (((p3.toUInt32 >>> ((3 : Int32) &&& 31).toUInt32).toInt32) &&& (1 : Int32)) = (0 : Int32) then (0 : Int32) else (1 : Int32))), .val (.ref v8), .unset]) rfl ?_
      refine XS.aload X1.here hx rfl (hb hby d2_33) rfl rfl ?_
      refine XS.ifnonnullYes X1.here hx rfl (pc0 := 35) (pc' := 40) rfl (hb hby d2_35) rfl (by decide) (by decide) ?_
      refine XS.aload X1.here hx rfl (hb hby d2_40) rfl rfl ?_
      refine st9.trans ?_
      refine XS.istore X9.here hx rfl (hb hby d2_45) rfl (l' := #[.val (.ref o1), .val (.ref o2), .val (.int (4 : Int32)), .val (.int p3), .val (.int (3 : Int32)), .val (.int (if (((p3.toUInt32 >>> ((3 : Int32) &&& 31).toUInt32).toInt32) &&& (1 : Int32)) = (0 : Int32) then (0 : Int32) else (1 : Int32))), .val (.ref v8), .val (.int p17)]) rfl ?_
      refine XS.iload X9.here hx rfl (hb hby d2_47) rfl ?_
      refine XS.iload X9.here hx rfl (hb hby d2_49) rfl ?_
      exact k
    by_cases hc13 : p17 = (if (((p3.toUInt32 >>> ((3 : Int32) &&& 31).toUInt32).toInt32) &&& (1 : Int32)) = (0 : Int32) then (0 : Int32) else (1 : Int32))
    ·
      obtain ⟨fs, hr, hrun, hended, hW, hsame⟩ := X9.leave (v := some (.int (1 : Int32))) (fun h => by rw [hret] at h; cases h)
      refine ⟨_, _, pre12 _ ?_, hrun, hended, _, _, rfl, ?_, ⟨_, rfl⟩, hW, hsame.mono (by decide) (by decide)⟩
      ·
        show Steps p.tables e below (T9.setTop (mkF m 51 #[.val (.ref o1), .val (.ref o2), .val (.int (4 : Int32)), .val (.int p3), .val (.int (3 : Int32)), .val (.int (if (((p3.toUInt32 >>> ((3 : Int32) &&& 31).toUInt32).toInt32) &&& (1 : Int32)) = (0 : Int32) then (0 : Int32) else (1 : Int32))), .val (.ref v8), .val (.int p17)] [(.int (if (((p3.toUInt32 >>> ((3 : Int32) &&& 31).toUInt32).toInt32) &&& (1 : Int32)) = (0 : Int32) then (0 : Int32) else (1 : Int32))), (.int p17)])) _
        refine XS.icmpNo X9.here hx rfl (hb hby d2_51) rfl (teq hc13).2 ?_
        refine XS.iconst X9.here hx rfl (hb hby d2_54) ?_
        refine XS.goto X9.here hx rfl (pc0 := 55) (pc' := 59) rfl (hb hby d2_55) (by decide) (by decide) ?_
        show Steps p.tables e below (T9.setTop (mkF m 59 #[.val (.ref o1), .val (.ref o2), .val (.int (4 : Int32)), .val (.int p3), .val (.int (3 : Int32)), .val (.int (if (((p3.toUInt32 >>> ((3 : Int32) &&& 31).toUInt32).toInt32) &&& (1 : Int32)) = (0 : Int32) then (0 : Int32) else (1 : Int32))), .val (.ref v8), .val (.int p17)] [(.int (1 : Int32))])) _
        exact retN X9 hx (t := .boolean) hret (by simp) (hb hby d2_59) hr
      ·
        show Q36 Z o1 o2 kc4 p10 p11 p12 p13 p14 p15 p16 p17 v5 v6 v7 v8 kc9 p3 h0 n0 _ T9.heap _
        rw [e11]
        exact (Or.inl ⟨hc6, hc13, rfl, N9, rfl⟩)
    ·
      obtain ⟨fs, hr, hrun, hended, hW, hsame⟩ := X9.leave (v := some (.int (0 : Int32))) (fun h => by rw [hret] at h; cases h)
      refine ⟨_, _, pre12 _ ?_, hrun, hended, _, _, rfl, ?_, ⟨_, rfl⟩, hW, hsame.mono (by decide) (by decide)⟩
      ·
        show Steps p.tables e below (T9.setTop (mkF m 51 #[.val (.ref o1), .val (.ref o2), .val (.int (4 : Int32)), .val (.int p3), .val (.int (3 : Int32)), .val (.int (if (((p3.toUInt32 >>> ((3 : Int32) &&& 31).toUInt32).toInt32) &&& (1 : Int32)) = (0 : Int32) then (0 : Int32) else (1 : Int32))), .val (.ref v8), .val (.int p17)] [(.int (if (((p3.toUInt32 >>> ((3 : Int32) &&& 31).toUInt32).toInt32) &&& (1 : Int32)) = (0 : Int32) then (0 : Int32) else (1 : Int32))), (.int p17)])) _
        refine XS.icmpYes X9.here hx rfl (pc0 := 51) (pc' := 58) rfl (hb hby d2_51) rfl (feq hc13).2 (by decide) (by decide) ?_
        refine XS.iconst X9.here hx rfl (hb hby d2_58) ?_
        show Steps p.tables e below (T9.setTop (mkF m 59 #[.val (.ref o1), .val (.ref o2), .val (.int (4 : Int32)), .val (.int p3), .val (.int (3 : Int32)), .val (.int (if (((p3.toUInt32 >>> ((3 : Int32) &&& 31).toUInt32).toInt32) &&& (1 : Int32)) = (0 : Int32) then (0 : Int32) else (1 : Int32))), .val (.ref v8), .val (.int p17)] [(.int (0 : Int32))])) _
        exact retN X9 hx (t := .boolean) hret (by simp) (hb hby d2_59) hr
      ·
        show Q36 Z o1 o2 kc4 p10 p11 p12 p13 p14 p15 p16 p17 v5 v6 v7 v8 kc9 p3 h0 n0 _ T9.heap _
        rw [e11]
        exact (Or.inr (Or.inl ⟨hc6, hc13, rfl, N9, rfl⟩))
  ·
    obtain ⟨fs, hr, hrun, hended, hW, hsame⟩ := X1.leave (v := some (.int (0 : Int32))) (fun h => by rw [hret] at h; cases h)
    refine ⟨_, _, pre5 _ ?_, hrun, hended, _, _, rfl, ?_, ⟨_, rfl⟩, hW, hsame.mono (by decide) (by decide)⟩
    ·
      show Steps p.tables e below (T1.setTop (mkF m 22 #[.val (.ref o1), .val (.ref o2), .val (.int (4 : Int32)), .val (.int p3), .val (.int (3 : Int32)), .val (.int (if (((p3.toUInt32 >>> ((3 : Int32) &&& 31).toUInt32).toInt32) &&& (1 : Int32)) = (0 : Int32) then (0 : Int32) else (1 : Int32))), .unset, .unset] [(.int (if (((p3.toUInt32 >>> ((3 : Int32) &&& 31).toUInt32).toInt32) &&& (1 : Int32)) = (0 : Int32) then (0 : Int32) else (1 : Int32))), (.int p13)])) _
      refine XS.icmpNo X1.here hx rfl (hb hby d2_22) rfl (feq hc6).1 ?_
      refine XS.iconst X1.here hx rfl (hb hby d2_25) ?_
      show Steps p.tables e below (T1.setTop (mkF m 26 #[.val (.ref o1), .val (.ref o2), .val (.int (4 : Int32)), .val (.int p3), .val (.int (3 : Int32)), .val (.int (if (((p3.toUInt32 >>> ((3 : Int32) &&& 31).toUInt32).toInt32) &&& (1 : Int32)) = (0 : Int32) then (0 : Int32) else (1 : Int32))), .unset, .unset] [(.int (0 : Int32))])) _
      exact retN X1 hx (t := .boolean) hret (by simp) (hb hby d2_26) hr
    ·
      show Q36 Z o1 o2 kc4 p10 p11 p12 p13 p14 p15 p16 p17 v5 v6 v7 v8 kc9 p3 h0 n0 _ T1.heap _
      rw [e3]
      exact (Or.inr (Or.inr ⟨hc6, rfl, N1, rfl⟩))
theorem ef0 (m : MethodId) (x0 : Int32) (x1 : Int32) : entryFrame m #[(.int x0), (.int x1)] maxLocals = mkF m 0 #[.val (.int x0), .val (.int x1), .unset, .unset, .unset] [] := by first | (simp [entryFrame, mkF, argsToLocals, Value.category, maxLocals]; done) | rfl
set_option maxRecDepth 65536 in
set_option maxHeartbeats 40000000 in
theorem rm0 (l : Launch) (Z : State) (a0 : Array Value) (hw : ∀ d ∈ tables_1, d.before a0 Z = true) (w1 : Addr) (w2 : Addr) (G : GW Z w1 w2) (ws : List Jvm.Cond) (p1 : Int32) (p2 : Int32) (h0 : Heap) (n0 : Nat) (O0 : Old Z n0 h0) :
    MetFree l x (head1 (Jvm.Cond.code x code maxLocals ret :: ws) room_1) (fun a U => a = #[(.int p1), (.int p2)] ∧ Z.Warmed39 U.vm ∧ U.heap = h0) (fun _ _ _ _ _ => True) (fun _ U o U' => ∃ v L, o = .returned v ∧ Q0 n0 v U'.heap L ∧ ReturnedEndW U o U' L 16 1152) := by
  obtain ⟨S_w1, E_w1, S_w2, E_w2, F_w1_value, F_w2_value⟩ := id G
  refine MetFree.of_bodySF (plainFor_of_name pn2) hisR ?_
  intro p e s m args below meth c s₁ Bd hml0 hP hK
  obtain ⟨rfl, hZ, hh⟩ := hP
  have hx := Bd.exec
  have hby := Bd.bytes
  have hml : c.maxLocals = 5 := hml0
  have hown : s.vm.findClass "com/example/castless/castless/PrimitiveArraysBox334PinLaw" = some m.cls := findClass_of_methodNamed Bd.named
  have hnm := (name_of_methodNamed Bd.named Bd.method).1
  have hret := Bd.returns
  have hlk : meth.locks = false := BodyLoose.notSynchronized Bd
  have X0 : Stand p l e room_1 s m #[(.int p1), (.int p2)] below meth c s₁ [] 0 0 := Stand.of_body Bd
  have e0 : s₁.heap = h0 := by rw [← hh, Bd.state]; rfl
  have N0 := Fr.nil n0
  have pre0 : ∀ t, Steps p.tables e below (s₁.setTop (mkF m 0 #[.val (.int p1), .val (.int p2), .unset, .unset, .unset] [])) t → Steps p.tables e below (s₁.setTop (entryFrame m #[(.int p1), (.int p2)] maxLocals)) t := fun t k => castTop (ef0 m p1 p2) k
  have pre1 : ∀ t, Steps p.tables e below (s₁.setTop (mkF m 8 #[.val (.int p1), .val (.int p2), .val (.int ((p1 &&& (2147483647 : Int32)) % (5 : Int32))), .unset, .unset] [(.int ((p1 &&& (2147483647 : Int32)) % (5 : Int32)))])) t → Steps p.tables e below (s₁.setTop (entryFrame m #[(.int p1), (.int p2)] maxLocals)) t := fun t k => by
    refine pre0 _ ?_
    show Steps p.tables e below (s₁.setTop (mkF m 0 #[.val (.int p1), .val (.int p2), .unset, .unset, .unset] [])) _
    refine XS.iloadN X0.here hx rfl (hb hby at_0) rfl ?_
    refine X0.ldcInt hx hown (mvT hZ (own_w hw 0 rfl)) (g := (mkF m 1 #[.val (.int p1), .val (.int p2), .unset, .unset, .unset] [(.int p1)])) rfl (hb hby at_1) _ ?_
    refine XS.iand X0.here hx rfl (hb hby at_3) rfl ?_
    refine XS.iconst X0.here hx rfl (hb hby at_4) ?_
    refine iremM X0 hx rfl (hb hby at_5) rfl (by decide : ¬ ((5 : Int32) = (0 : Int32))) ?_
    refine XS.istoreN X0.here hx rfl (hb hby at_6) rfl (l' := #[.val (.int p1), .val (.int p2), .val (.int ((p1 &&& (2147483647 : Int32)) % (5 : Int32))), .unset, .unset]) rfl ?_
    refine XS.iloadN X0.here hx rfl (hb hby at_7) rfl ?_
    exact k
  by_cases hc2 : ((p1 &&& (2147483647 : Int32)) % (5 : Int32)) = (0 : Int32)
  ·
    have pre3 : ∀ t, Steps p.tables e below (s₁.setTop (mkF m 8 #[.val (.int p1), .val (.int p2), .val (.int (0 : Int32)), .unset, .unset] [(.int (0 : Int32))])) t → Steps p.tables e below (s₁.setTop (entryFrame m #[(.int p1), (.int p2)] maxLocals)) t := fun t k => pre1 t (by rw [hc2]; exact k)
    obtain ⟨T4, h4, k4, X4, e4, E4, A4, EX4, st4⟩ := newPE X0 hx hZ (own_w hw 1 rfl) e0 (g := (mkF m 8 #[.val (.int p1), .val (.int p2), .val (.int (0 : Int32)), .unset, .unset] [(.int (0 : Int32))])) rfl (hb hby at_8) rfl (by decide) (cap := 0) (by decide) (by decide) (by decide) (by decide) (ad := "[Z") (by decide)
    obtain ⟨b4, g4⟩ : ∃ z, z = h0.size := ⟨_, rfl⟩
    rw [← g4] at A4 EX4 st4
    have M4 : h0.size ≤ h4.size := Nat.le_trans (Nat.le_refl _) E4.1
    have O4 := Old.ext O0 E4
    have sz_b4 : h0.size ≤ b4 := Nat.le_of_eq g4.symm
    have g_b4 : n0 ≤ b4 := Nat.le_trans (own_oz O0) (Nat.le_trans (Nat.le_refl _) sz_b4)
    have V4_0 := Arv.new A4 (by decide)
    have V4 : Arv Z h4 b4 k4 .boolean (0 : Int32) [] (.int (0 : Int32)) := V4_0
    obtain ⟨_, _, ⟨T5, L5, c5, n5⟩, -, X5, hSn5, hgr5, ⟨Lc5, hQ5, l5, y5, z5⟩, st5⟩ := callSS X4 hx (y := yn1) hown (mvT hZ (own_w hw 2 rfl)) (mvT hZ (own_w hw 3 rfl)) (mvT hZ (own_w hw 4 rfl)) (mvT hZ (own_w hw 5 rfl)) (by decide) (backOfS (W := 0) (rm2 l Z a0 hw [] b4 k4 h4 n0 O4 g_b4 V4) hZ (own_w hw 5 rfl) (own_w hw 4 rfl) (by decide) (by decide)) (g := (mkF m 63 #[.val (.int p1), .val (.int p2), .val (.int (0 : Int32)), .val (.ref b4), .unset] [(.ref b4)])) rfl (by rw [hml]; rfl) (argsL := [(.ref b4)]) (rest := []) (lenOf pd1 rfl) rfl (by show 2 * 0 + _ ≤ _; exact Nat.le_of_eq rfl) (hb hby at_63) (fun _ _ => ⟨rfl, e4, (by decide : 1 + 3 ≤ _), (by decide : 0 + 56 ≤ _)⟩)
    dsimp only [Pt.U, Pt.locs, Pt.cells, Pt.slots] at X5 l5 y5 z5 st5 hQ5
    subst l5 y5 z5
    have hS5 : s.Since T5.vm T5.heap.size := hSn5
    have hZ := State.Warmed39.trans (t := s) hZ hS5.1
    have hown : (s.setVm T5.vm).vm.findClass "com/example/castless/castless/PrimitiveArraysBox334PinLaw" = some m.cls := by rw [show (s.setVm T5.vm).vm = T5.vm from rfl, hS5.1.alike.findClass]; exact hown
    have X5 : Stand p l e room_1 (s.setVm T5.vm) m #[(.int p1), (.int p2)] below meth c T5 _ 4 56 := X5
    obtain ⟨b6, k7, rfl, Nq8, K9, sz_b6, OV10, f11, f12⟩ := hQ5
    have N5 := Fr.app N0 Nq8
    have g_b6 : n0 ≤ b6 := Nat.le_trans (own_oz O4) sz_b6
    have M5 : h0.size ≤ T5.heap.size := Nat.le_trans M4 K9.1
    have O5 := Old.keep O4 K9 all0
    obtain ⟨cl13, Ar13, qa13, Sa13, Na13, Ha13, Ga13⟩ := id (f11)
    obtain ⟨_, _, ⟨T14, L14, c14, n14⟩, -, X14, ⟨Lc14, hQ14, l14, y14, z14⟩, st14⟩ := Jvm.LawKit.callS X5 hx (y := yn2) hown (mvT hZ (own_w hw 20 rfl)) (mvT hZ (own_w hw 21 rfl)) (mvT hZ (own_w hw 22 rfl)) (mvT hZ (own_w hw 23 rfl)) (by decide) (backOf (W := 0) (rm3 l Z a0 hw [] b6 b4 k7 p2 T5.heap n0 O5 g_b6 g_b4 OV10) hZ (own_w hw 23 rfl) (own_w hw 22 rfl) (by decide) (by decide)) (g := (mkF m 88 #[.val (.int p1), .val (.int p2), .val (.int (0 : Int32)), .val (.ref b4), .val (.ref b6)] [(.int (0 : Int32)), (.int p2), (.int (0 : Int32)), (.ref b4), (.ref b6)])) rfl (by rw [hml]; rfl) (argsL := [(.ref b6), (.ref b4), (.int (0 : Int32)), (.int p2), (.int (0 : Int32))]) (rest := []) (lenOf pd2 rfl) rfl (by show 2 * 0 + _ ≤ _; exact Nat.le_of_eq rfl) (hb hby at_88) (fun _ _ => ⟨rfl, rfl, (by decide : 4 + 0 ≤ _), (by decide : 56 + 0 ≤ _)⟩)
    dsimp only [Pt.U, Pt.locs, Pt.cells, Pt.slots] at X14 l14 y14 z14 st14 hQ14
    subst l14 y14 z14
    have X14 : Stand p l e room_1 (s.setVm T5.vm) m #[(.int p1), (.int p2)] below meth c T14 _ 4 56 := X14
    obtain ⟨rfl, Nq15, e16⟩ := hQ14
    have N14 := Fr.app N5 Nq15
    obtain ⟨_, _, ⟨T17, L17, c17, n17⟩, -, X17, ⟨Lc17, hQ17, l17, y17, z17⟩, st17⟩ := Jvm.LawKit.callS X14 hx (y := yn2) hown (mvT hZ (own_w hw 20 rfl)) (mvT hZ (own_w hw 21 rfl)) (mvT hZ (own_w hw 22 rfl)) (mvT hZ (own_w hw 23 rfl)) (by decide) (backOf (W := 0) (rm4 l Z a0 hw [] b6 b4 k7 p2 T5.heap n0 O5 g_b6 g_b4 OV10) hZ (own_w hw 23 rfl) (own_w hw 22 rfl) (by decide) (by decide)) (g := (mkF m 100 #[.val (.int p1), .val (.int p2), .val (.int (0 : Int32)), .val (.ref b4), .val (.ref b6)] [(.int (1 : Int32)), (.int p2), (.int (0 : Int32)), (.ref b4), (.ref b6)])) rfl (by rw [hml]; rfl) (argsL := [(.ref b6), (.ref b4), (.int (0 : Int32)), (.int p2), (.int (1 : Int32))]) (rest := []) (lenOf pd2 rfl) rfl (by show 2 * 0 + _ ≤ _; exact Nat.le_of_eq rfl) (hb hby at_100) (fun _ _ => ⟨rfl, e16, (by decide : 4 + 0 ≤ _), (by decide : 56 + 0 ≤ _)⟩)
    dsimp only [Pt.U, Pt.locs, Pt.cells, Pt.slots] at X17 l17 y17 z17 st17 hQ17
    subst l17 y17 z17
    have X17 : Stand p l e room_1 (s.setVm T5.vm) m #[(.int p1), (.int p2)] below meth c T17 _ 4 56 := X17
    obtain ⟨rfl, Nq18, e19⟩ := hQ17
    have N17 := Fr.app N14 Nq18
    obtain ⟨_, _, ⟨T20, L20, c20, n20⟩, -, X20, ⟨Lc20, hQ20, l20, y20, z20⟩, st20⟩ := Jvm.LawKit.callS X17 hx (y := yn2) hown (mvT hZ (own_w hw 20 rfl)) (mvT hZ (own_w hw 21 rfl)) (mvT hZ (own_w hw 22 rfl)) (mvT hZ (own_w hw 23 rfl)) (by decide) (backOf (W := 0) (rm5 l Z a0 hw [] b6 b4 k7 p2 T5.heap n0 O5 g_b6 g_b4 OV10) hZ (own_w hw 23 rfl) (own_w hw 22 rfl) (by decide) (by decide)) (g := (mkF m 112 #[.val (.int p1), .val (.int p2), .val (.int (0 : Int32)), .val (.ref b4), .val (.ref b6)] [(.int (2 : Int32)), (.int p2), (.int (0 : Int32)), (.ref b4), (.ref b6)])) rfl (by rw [hml]; rfl) (argsL := [(.ref b6), (.ref b4), (.int (0 : Int32)), (.int p2), (.int (2 : Int32))]) (rest := []) (lenOf pd2 rfl) rfl (by show 2 * 0 + _ ≤ _; exact Nat.le_of_eq rfl) (hb hby at_112) (fun _ _ => ⟨rfl, e19, (by decide : 4 + 0 ≤ _), (by decide : 56 + 0 ≤ _)⟩)
    dsimp only [Pt.U, Pt.locs, Pt.cells, Pt.slots] at X20 l20 y20 z20 st20 hQ20
    subst l20 y20 z20
    have X20 : Stand p l e room_1 (s.setVm T5.vm) m #[(.int p1), (.int p2)] below meth c T20 _ 4 56 := X20
    obtain ⟨rfl, Nq21, e22⟩ := hQ20
    have N20 := Fr.app N17 Nq21
    obtain ⟨_, _, ⟨T23, L23, c23, n23⟩, -, X23, ⟨Lc23, hQ23, l23, y23, z23⟩, st23⟩ := Jvm.LawKit.callS X20 hx (y := yn2) hown (mvT hZ (own_w hw 20 rfl)) (mvT hZ (own_w hw 21 rfl)) (mvT hZ (own_w hw 22 rfl)) (mvT hZ (own_w hw 23 rfl)) (by decide) (backOf (W := 0) (rm6 l Z a0 hw [] b6 b4 k7 p2 T5.heap n0 O5 g_b6 g_b4 OV10) hZ (own_w hw 23 rfl) (own_w hw 22 rfl) (by decide) (by decide)) (g := (mkF m 124 #[.val (.int p1), .val (.int p2), .val (.int (0 : Int32)), .val (.ref b4), .val (.ref b6)] [(.int (3 : Int32)), (.int p2), (.int (0 : Int32)), (.ref b4), (.ref b6)])) rfl (by rw [hml]; rfl) (argsL := [(.ref b6), (.ref b4), (.int (0 : Int32)), (.int p2), (.int (3 : Int32))]) (rest := []) (lenOf pd2 rfl) rfl (by show 2 * 0 + _ ≤ _; exact Nat.le_of_eq rfl) (hb hby at_124) (fun _ _ => ⟨rfl, e22, (by decide : 4 + 0 ≤ _), (by decide : 56 + 0 ≤ _)⟩)
    dsimp only [Pt.U, Pt.locs, Pt.cells, Pt.slots] at X23 l23 y23 z23 st23 hQ23
    subst l23 y23 z23
    have X23 : Stand p l e room_1 (s.setVm T5.vm) m #[(.int p1), (.int p2)] below meth c T23 _ 4 56 := X23
    obtain ⟨rfl, Nq24, e25⟩ := hQ23
    have N23 := Fr.app N20 Nq24
    obtain ⟨fs, hr, hrun, hended, hRE⟩ := X23.leaveW hS5 (by rw [e25]; exact (Nat.le_refl _)) (v := some (.int (1 : Int32))) (fun h => by rw [hret] at h; cases h)
    refine ⟨_, _, pre3 _ ?_, hrun, hended, _, _, rfl, ?_, hRE.1, hRE.2.1, hRE.2.2.1, hRE.2.2.2.mono (by decide) (by decide)⟩
    ·
      show Steps p.tables e below (s₁.setTop (mkF m 8 #[.val (.int p1), .val (.int p2), .val (.int (0 : Int32)), .unset, .unset] [(.int (0 : Int32))])) _
      refine st4 _ ?_
      refine XS.astoreN X4.here hx rfl (hb hby at_10) rfl rfl (l' := #[.val (.int p1), .val (.int p2), .val (.int (0 : Int32)), .val (.ref b4), .unset]) rfl ?_
      refine XS.iloadN X4.here hx rfl (hb hby at_11) rfl ?_
      refine XS.ifYes X4.here hx rfl (pc0 := 12) (pc' := 23) rfl (hb hby at_12) rfl ((if0 _ _).trans (flt (by decide : ¬ ((0 : Int32) < (0 : Int32)))).2.2.2) (by decide) (by decide) ?_
      refine XS.iloadN X4.here hx rfl (hb hby at_23) rfl ?_
      refine XS.iconst X4.here hx rfl (hb hby at_24) ?_
      refine XS.icmpYes X4.here hx rfl (pc0 := 25) (pc' := 36) rfl (hb hby at_25) rfl (flt (by decide : ¬ ((1 : Int32) < (0 : Int32)))).2.2.2 (by decide) (by decide) ?_
      refine XS.iloadN X4.here hx rfl (hb hby at_36) rfl ?_
      refine XS.iconst X4.here hx rfl (hb hby at_37) ?_
      refine XS.icmpYes X4.here hx rfl (pc0 := 38) (pc' := 49) rfl (hb hby at_38) rfl (flt (by decide : ¬ ((2 : Int32) < (0 : Int32)))).2.2.2 (by decide) (by decide) ?_
      refine XS.iloadN X4.here hx rfl (hb hby at_49) rfl ?_
      refine XS.iconst X4.here hx rfl (hb hby at_50) ?_
      refine XS.icmpYes X4.here hx rfl (pc0 := 51) (pc' := 62) rfl (hb hby at_51) rfl (flt (by decide : ¬ ((3 : Int32) < (0 : Int32)))).2.2.2 (by decide) (by decide) ?_
      refine XS.aloadN X4.here hx rfl (hb hby at_62) rfl rfl ?_
      refine st5.trans ?_
      refine XS.astore X5.here hx rfl (hb hby at_66) rfl rfl (l' := #[.val (.int p1), .val (.int p2), .val (.int (0 : Int32)), .val (.ref b4), .val (.ref b6)]) rfl ?_
      refine XS.aload X5.here hx rfl (hb hby at_68) rfl rfl ?_
      refine XS.ifnullNo X5.here hx rfl (hb hby at_70) rfl ?_
      refine XS.aload X5.here hx rfl (hb hby at_73) rfl rfl ?_
      refine X5.arraylength hx Ar13.1 (State.isArrayOf_alike hZ.alike Ar13.2.1) (g := (mkF m 75 #[.val (.int p1), .val (.int p2), .val (.int (0 : Int32)), .val (.ref b4), .val (.ref b6)] [(.ref b6)])) rfl rfl (hb hby at_75) _ ?_
      rw [len_of Sa13 Na13]
      refine XS.iloadN X5.here hx rfl (hb hby at_76) rfl ?_
      refine XS.icmpYes X5.here hx rfl (pc0 := 77) (pc' := 82) rfl (hb hby at_77) rfl (teq (by decide : (0 : Int32) = (0 : Int32))).1 (by decide) (by decide) ?_
      refine XS.aload X5.here hx rfl (hb hby at_82) rfl rfl ?_
      refine XS.aloadN X5.here hx rfl (hb hby at_84) rfl rfl ?_
      refine XS.iloadN X5.here hx rfl (hb hby at_85) rfl ?_
      refine XS.iloadN X5.here hx rfl (hb hby at_86) rfl ?_
      refine XS.iconst X5.here hx rfl (hb hby at_87) ?_
      refine st14 _ ?_
      refine XS.ifNo X14.here hx rfl (hb hby at_91) rfl ((if0 _ _).trans (feq (by decide : ¬ ((1 : Int32) = (0 : Int32)))).1) ?_
      refine XS.aload X14.here hx rfl (hb hby at_94) rfl rfl ?_
      refine XS.aloadN X14.here hx rfl (hb hby at_96) rfl rfl ?_
      refine XS.iloadN X14.here hx rfl (hb hby at_97) rfl ?_
      refine XS.iloadN X14.here hx rfl (hb hby at_98) rfl ?_
      show Steps p.tables e below (T14.setTop (mkF m 99 #[.val (.int p1), .val (.int p2), .val (.int (0 : Int32)), .val (.ref b4), .val (.ref b6)] [(.int p2), (.int (0 : Int32)), (.ref b4), (.ref b6)])) _
      refine XS.iconst X14.here hx rfl (hb hby at_99) ?_
      refine st17 _ ?_
      refine XS.ifNo X17.here hx rfl (hb hby at_103) rfl ((if0 _ _).trans (feq (by decide : ¬ ((1 : Int32) = (0 : Int32)))).1) ?_
      refine XS.aload X17.here hx rfl (hb hby at_106) rfl rfl ?_
      refine XS.aloadN X17.here hx rfl (hb hby at_108) rfl rfl ?_
      refine XS.iloadN X17.here hx rfl (hb hby at_109) rfl ?_
      refine XS.iloadN X17.here hx rfl (hb hby at_110) rfl ?_
      refine XS.iconst X17.here hx rfl (hb hby at_111) ?_
      refine st20 _ ?_
      refine XS.ifNo X20.here hx rfl (hb hby at_115) rfl ((if0 _ _).trans (feq (by decide : ¬ ((1 : Int32) = (0 : Int32)))).1) ?_
      refine XS.aload X20.here hx rfl (hb hby at_118) rfl rfl ?_
      refine XS.aloadN X20.here hx rfl (hb hby at_120) rfl rfl ?_
      refine XS.iloadN X20.here hx rfl (hb hby at_121) rfl ?_
      refine XS.iloadN X20.here hx rfl (hb hby at_122) rfl ?_
      refine XS.iconst X20.here hx rfl (hb hby at_123) ?_
      refine st23 _ ?_
      refine XS.ifNo X23.here hx rfl (hb hby at_127) rfl ((if0 _ _).trans (feq (by decide : ¬ ((1 : Int32) = (0 : Int32)))).1) ?_
      refine XS.iconst X23.here hx rfl (hb hby at_130) ?_
      refine XS.goto X23.here hx rfl (pc0 := 131) (pc' := 135) rfl (hb hby at_131) (by decide) (by decide) ?_
      show Steps p.tables e below (T23.setTop (mkF m 135 #[.val (.int p1), .val (.int p2), .val (.int (0 : Int32)), .val (.ref b4), .val (.ref b6)] [(.int (1 : Int32))])) _
      exact retN X23 hx (t := .boolean) hret (by simp) (hb hby at_135) hr
    ·
      show Q0 n0 _ T23.heap _
      rw [e25]
      exact ⟨rfl, N23⟩
  ·
    by_cases hc26 : ((p1 &&& (2147483647 : Int32)) % (5 : Int32)) = (1 : Int32)
    ·
      have pre27 : ∀ t, Steps p.tables e below (s₁.setTop (mkF m 8 #[.val (.int p1), .val (.int p2), .val (.int (1 : Int32)), .unset, .unset] [(.int (1 : Int32))])) t → Steps p.tables e below (s₁.setTop (entryFrame m #[(.int p1), (.int p2)] maxLocals)) t := fun t k => pre1 t (by rw [hc26]; exact k)
      obtain ⟨T28, h28, k28, X28, e28, E28, A28, EX28, st28⟩ := newPE X0 hx hZ (own_w hw 1 rfl) e0 (g := (mkF m 8 #[.val (.int p1), .val (.int p2), .val (.int (1 : Int32)), .unset, .unset] [(.int (1 : Int32))])) rfl (hb hby at_8) rfl (by decide) (cap := 1) (by decide) (by decide) (by decide) (by decide) (ad := "[Z") (by decide)
      obtain ⟨b28, g28⟩ : ∃ z, z = h0.size := ⟨_, rfl⟩
      rw [← g28] at A28 EX28 st28
      have M28 : h0.size ≤ h28.size := Nat.le_trans (Nat.le_refl _) E28.1
      have O28 := Old.ext O0 E28
      have sz_b28 : h0.size ≤ b28 := Nat.le_of_eq g28.symm
      have g_b28 : n0 ≤ b28 := Nat.le_trans (own_oz O0) (Nat.le_trans (Nat.le_refl _) sz_b28)
      have V28_0 := Arv.new A28 (by decide)
      have V28 : Arv Z h28 b28 k28 .boolean (1 : Int32) [(.int (0 : Int32))] (.int (0 : Int32)) := V28_0.pad (pad_rep [] (.int (0 : Int32)) 1)
      obtain ⟨_, _, ⟨T29, L29, c29, n29⟩, -, X29, ⟨Lc29, hQ29, l29, y29, z29⟩, st29⟩ := Jvm.LawKit.callS X28 hx (y := yn3) hown (mvT hZ (own_w hw 24 rfl)) (mvT hZ (own_w hw 25 rfl)) (mvT hZ (own_w hw 22 rfl)) (mvT hZ (own_w hw 26 rfl)) (by decide) (backOf (W := 2) (rm7 l Z a0 hw [] p2 h28 n0 O28 ) hZ (own_w hw 26 rfl) (own_w hw 22 rfl) (by decide) (by decide)) (g := (mkF m 19 #[.val (.int p1), .val (.int p2), .val (.int (1 : Int32)), .val (.ref b28), .unset] [(.int (0 : Int32)), (.int p2), (.int (0 : Int32)), (.ref b28)])) rfl (by rw [hml]; rfl) (argsL := [(.int p2), (.int (0 : Int32))]) (rest := [(.int (0 : Int32)), (.ref b28)]) (lenOf pd3 rfl) rfl (by show 2 * 0 + _ ≤ _; exact Nat.le_of_eq rfl) (hb hby at_19) (fun _ _ => ⟨rfl, e28, (by decide : 1 + 0 ≤ _), (by decide : 1 + 0 ≤ _)⟩)
      dsimp only [Pt.U, Pt.locs, Pt.cells, Pt.slots] at X29 l29 y29 z29 st29 hQ29
      subst l29 y29 z29
      have X29 : Stand p l e room_1 s m #[(.int p1), (.int p2)] below meth c T29 _ 1 1 := X29
      obtain ⟨rfl, Nq30, e31⟩ := hQ29
      have N29 := Fr.app N0 Nq30
      obtain ⟨cl32, Ar32, qa32, Sa32, Na32, Ha32, Ga32⟩ := id (V28)
      have hin32 : ¬ ((0 : Int32) < 0 ∨ cl32.slots.size ≤ ((0 : Int32)).toNatClampNeg) := inb_of Sa32 ⟨by decide, by decide⟩
      have hbz33 : 0 ≤ (if (((p2.toUInt32 >>> ((0 : Int32) &&& 31).toUInt32).toInt32) &&& (1 : Int32)) = (0 : Int32) then (0 : Int32) else (1 : Int32)).toInt ∧ (if (((p2.toUInt32 >>> ((0 : Int32) &&& 31).toUInt32).toInt32) &&& (1 : Int32)) = (0 : Int32) then (0 : Int32) else (1 : Int32)).toInt ≤ 1 := by have q0 := (by split <;> decide : 0 ≤ (if (((p2.toUInt32 >>> ((0 : Int32) &&& 31).toUInt32).toInt32) &&& (1 : Int32)) = (0 : Int32) then (0 : Int32) else (1 : Int32)).toInt ∧ (if (((p2.toUInt32 >>> ((0 : Int32) &&& 31).toUInt32).toInt32) &&& (1 : Int32)) = (0 : Int32) then (0 : Int32) else (1 : Int32)).toInt ≤ 1); omega
      obtain ⟨T34, h34, X34, e34, W34, st34⟩ := stZ X29 hx hZ e31 Ar32 (j := (0 : Int32)) hin32 (g := (mkF m 22 #[.val (.int p1), .val (.int p2), .val (.int (1 : Int32)), .val (.ref b28), .unset] [(.int (if (((p2.toUInt32 >>> ((0 : Int32) &&& 31).toUInt32).toInt32) &&& (1 : Int32)) = (0 : Int32) then (0 : Int32) else (1 : Int32))), (.int (0 : Int32)), (.ref b28)])) rfl rfl (hb hby at_22)
      rw [own_nz hbz33] at W34
      have V34 : Arv Z h34 b28 k28 .boolean (1 : Int32) [(.int (if (((p2.toUInt32 >>> ((0 : Int32) &&& 31).toUInt32).toInt32) &&& (1 : Int32)) = (0 : Int32) then (0 : Int32) else (1 : Int32)))] (.int (0 : Int32)) := Arv.set Ar32 qa32 Sa32 Na32 Ha32 Ga32 (own_fz hbz33) W34 0 rfl (Nat.le_of_ble_eq_true rfl)
      have N34 := Fr.snoc X34 N29 g_b28
      have M34 : h0.size ≤ h34.size := Nat.le_trans M28 (Nat.le_of_eq W34.size.symm)
      have O34 := Old.wr O28 W34 g_b28
      obtain ⟨_, _, ⟨T35, L35, c35, n35⟩, -, X35, hSn35, hgr35, ⟨Lc35, hQ35, l35, y35, z35⟩, st35⟩ := callSS X34 hx (y := yn1) hown (mvT hZ (own_w hw 2 rfl)) (mvT hZ (own_w hw 3 rfl)) (mvT hZ (own_w hw 4 rfl)) (mvT hZ (own_w hw 5 rfl)) (by decide) (backOfS (W := 0) (rm10 l Z a0 hw w1 w2 G [] b28 ((if (((p2.toUInt32 >>> ((0 : Int32) &&& 31).toUInt32).toInt32) &&& (1 : Int32)) = (0 : Int32) then (0 : Int32) else (1 : Int32))) k28 h34 n0 O34 g_b28 (by have q0 := (by split <;> decide : 0 ≤ (if (((p2.toUInt32 >>> ((0 : Int32) &&& 31).toUInt32).toInt32) &&& (1 : Int32)) = (0 : Int32) then (0 : Int32) else (1 : Int32)).toInt ∧ (if (((p2.toUInt32 >>> ((0 : Int32) &&& 31).toUInt32).toInt32) &&& (1 : Int32)) = (0 : Int32) then (0 : Int32) else (1 : Int32)).toInt ≤ 1); omega) V34) hZ (own_w hw 5 rfl) (own_w hw 4 rfl) (by decide) (by decide)) (g := (mkF m 63 #[.val (.int p1), .val (.int p2), .val (.int (1 : Int32)), .val (.ref b28), .unset] [(.ref b28)])) rfl (by rw [hml]; rfl) (argsL := [(.ref b28)]) (rest := []) (lenOf pd1 rfl) rfl (by show 2 * 0 + _ ≤ _; exact Nat.le_of_eq rfl) (hb hby at_63) (fun _ _ => ⟨rfl, e34, (by decide : 1 + 3 ≤ _), (by decide : 1 + 57 ≤ _)⟩)
      dsimp only [Pt.U, Pt.locs, Pt.cells, Pt.slots] at X35 l35 y35 z35 st35 hQ35
      subst l35 y35 z35
      have hS35 : s.Since T35.vm T35.heap.size := hSn35
      have hZ := State.Warmed39.trans (t := s) hZ hS35.1
      have hown : (s.setVm T35.vm).vm.findClass "com/example/castless/castless/PrimitiveArraysBox334PinLaw" = some m.cls := by rw [show (s.setVm T35.vm).vm = T35.vm from rfl, hS35.1.alike.findClass]; exact hown
      have X35 : Stand p l e room_1 (s.setVm T35.vm) m #[(.int p1), (.int p2)] below meth c T35 _ 4 58 := X35
      obtain ⟨b36, k37, v38, rfl, Nq39, K40, sz_b36, OV41, f42, f43, f44, f45⟩ := hQ35
      have N35 := Fr.app N34 Nq39
      have g_b36 : n0 ≤ b36 := Nat.le_trans (own_oz O34) sz_b36
      have M35 : h0.size ≤ T35.heap.size := Nat.le_trans M34 K40.1
      have O35 := Old.keep O34 K40 all0
      obtain ⟨cl46, Ar46, qa46, Sa46, Na46, Ha46, Ga46⟩ := id (f42)
      have f47 := (V34.keep K40 nin0)
      obtain ⟨_, _, ⟨T48, L48, c48, n48⟩, -, X48, ⟨Lc48, hQ48, l48, y48, z48⟩, st48⟩ := Jvm.LawKit.callS X35 hx (y := yn2) hown (mvT hZ (own_w hw 20 rfl)) (mvT hZ (own_w hw 21 rfl)) (mvT hZ (own_w hw 22 rfl)) (mvT hZ (own_w hw 23 rfl)) (by decide) (backOf (W := 0) (rm12 l Z a0 hw [] b36 b28 k37 ((if (((p2.toUInt32 >>> ((0 : Int32) &&& 31).toUInt32).toInt32) &&& (1 : Int32)) = (0 : Int32) then (0 : Int32) else (1 : Int32))) ((if (((p2.toUInt32 >>> ((0 : Int32) &&& 31).toUInt32).toInt32) &&& (1 : Int32)) = (0 : Int32) then (0 : Int32) else (1 : Int32))) v38 k28 p2 T35.heap n0 O35 g_b36 g_b28 OV41 (by have q0 := (by split <;> decide : 0 ≤ (if (((p2.toUInt32 >>> ((0 : Int32) &&& 31).toUInt32).toInt32) &&& (1 : Int32)) = (0 : Int32) then (0 : Int32) else (1 : Int32)).toInt ∧ (if (((p2.toUInt32 >>> ((0 : Int32) &&& 31).toUInt32).toInt32) &&& (1 : Int32)) = (0 : Int32) then (0 : Int32) else (1 : Int32)).toInt ≤ 1); omega) (by have q0 := (by split <;> decide : 0 ≤ (if (((p2.toUInt32 >>> ((0 : Int32) &&& 31).toUInt32).toInt32) &&& (1 : Int32)) = (0 : Int32) then (0 : Int32) else (1 : Int32)).toInt ∧ (if (((p2.toUInt32 >>> ((0 : Int32) &&& 31).toUInt32).toInt32) &&& (1 : Int32)) = (0 : Int32) then (0 : Int32) else (1 : Int32)).toInt ≤ 1); omega) f42 f47 f44 f45) hZ (own_w hw 23 rfl) (own_w hw 22 rfl) (by decide) (by decide)) (g := (mkF m 88 #[.val (.int p1), .val (.int p2), .val (.int (1 : Int32)), .val (.ref b28), .val (.ref b36)] [(.int (0 : Int32)), (.int p2), (.int (1 : Int32)), (.ref b28), (.ref b36)])) rfl (by rw [hml]; rfl) (argsL := [(.ref b36), (.ref b28), (.int (1 : Int32)), (.int p2), (.int (0 : Int32))]) (rest := []) (lenOf pd2 rfl) rfl (by show 2 * 0 + _ ≤ _; exact Nat.le_of_eq rfl) (hb hby at_88) (fun _ _ => ⟨rfl, rfl, (by decide : 4 + 0 ≤ _), (by decide : 58 + 0 ≤ _)⟩)
      dsimp only [Pt.U, Pt.locs, Pt.cells, Pt.slots] at X48 l48 y48 z48 st48 hQ48
      subst l48 y48 z48
      have pre49 : ∀ t, Steps p.tables e below (T35.setTop (mkF m 88 #[.val (.int p1), .val (.int p2), .val (.int (1 : Int32)), .val (.ref b28), .val (.ref b36)] [(.int (0 : Int32)), (.int p2), (.int (1 : Int32)), (.ref b28), (.ref b36)])) t → Steps p.tables e below (s₁.setTop (entryFrame m #[(.int p1), (.int p2)] maxLocals)) t := fun t k => by
        refine pre27 _ ?_
        show Steps p.tables e below (s₁.setTop (mkF m 8 #[.val (.int p1), .val (.int p2), .val (.int (1 : Int32)), .unset, .unset] [(.int (1 : Int32))])) _
        refine st28 _ ?_
        refine XS.astoreN X28.here hx rfl (hb hby at_10) rfl rfl (l' := #[.val (.int p1), .val (.int p2), .val (.int (1 : Int32)), .val (.ref b28), .unset]) rfl ?_
        refine XS.iloadN X28.here hx rfl (hb hby at_11) rfl ?_
        refine XS.ifNo X28.here hx rfl (hb hby at_12) rfl ((if0 _ _).trans (tlt (by decide : (0 : Int32) < (1 : Int32))).2.2.2) ?_
        refine XS.aloadN X28.here hx rfl (hb hby at_15) rfl rfl ?_
        refine XS.iconst X28.here hx rfl (hb hby at_16) ?_
        refine XS.iloadN X28.here hx rfl (hb hby at_17) rfl ?_
        refine XS.iconst X28.here hx rfl (hb hby at_18) ?_
        refine st29 _ ?_
        refine st34 _ ?_
        refine XS.iloadN X34.here hx rfl (hb hby at_23) rfl ?_
        refine XS.iconst X34.here hx rfl (hb hby at_24) ?_
        refine XS.icmpYes X34.here hx rfl (pc0 := 25) (pc' := 36) rfl (hb hby at_25) rfl (flt (by decide : ¬ ((1 : Int32) < (1 : Int32)))).2.2.2 (by decide) (by decide) ?_
        refine XS.iloadN X34.here hx rfl (hb hby at_36) rfl ?_
        refine XS.iconst X34.here hx rfl (hb hby at_37) ?_
        refine XS.icmpYes X34.here hx rfl (pc0 := 38) (pc' := 49) rfl (hb hby at_38) rfl (flt (by decide : ¬ ((2 : Int32) < (1 : Int32)))).2.2.2 (by decide) (by decide) ?_
        refine XS.iloadN X34.here hx rfl (hb hby at_49) rfl ?_
        refine XS.iconst X34.here hx rfl (hb hby at_50) ?_
        refine XS.icmpYes X34.here hx rfl (pc0 := 51) (pc' := 62) rfl (hb hby at_51) rfl (flt (by decide : ¬ ((3 : Int32) < (1 : Int32)))).2.2.2 (by decide) (by decide) ?_
        refine XS.aloadN X34.here hx rfl (hb hby at_62) rfl rfl ?_
        refine st35.trans ?_
        refine XS.astore X35.here hx rfl (hb hby at_66) rfl rfl (l' := #[.val (.int p1), .val (.int p2), .val (.int (1 : Int32)), .val (.ref b28), .val (.ref b36)]) rfl ?_
        refine XS.aload X35.here hx rfl (hb hby at_68) rfl rfl ?_
        refine XS.ifnullNo X35.here hx rfl (hb hby at_70) rfl ?_
        refine XS.aload X35.here hx rfl (hb hby at_73) rfl rfl ?_
        refine X35.arraylength hx Ar46.1 (State.isArrayOf_alike hZ.alike Ar46.2.1) (g := (mkF m 75 #[.val (.int p1), .val (.int p2), .val (.int (1 : Int32)), .val (.ref b28), .val (.ref b36)] [(.ref b36)])) rfl rfl (hb hby at_75) _ ?_
        rw [len_of Sa46 Na46]
        refine XS.iloadN X35.here hx rfl (hb hby at_76) rfl ?_
        refine XS.icmpYes X35.here hx rfl (pc0 := 77) (pc' := 82) rfl (hb hby at_77) rfl (teq (by decide : (1 : Int32) = (1 : Int32))).1 (by decide) (by decide) ?_
        refine XS.aload X35.here hx rfl (hb hby at_82) rfl rfl ?_
        refine XS.aloadN X35.here hx rfl (hb hby at_84) rfl rfl ?_
        refine XS.iloadN X35.here hx rfl (hb hby at_85) rfl ?_
        refine XS.iloadN X35.here hx rfl (hb hby at_86) rfl ?_
        refine XS.iconst X35.here hx rfl (hb hby at_87) ?_
        exact k
      have X48 : Stand p l e room_1 (s.setVm T35.vm) m #[(.int p1), (.int p2)] below meth c T48 _ 4 58 := X48
      rcases hQ48 with ⟨hc50, hc51, rfl, Nq52, e53⟩ | ⟨hc54, hc55, rfl, Nq56, e57⟩ | ⟨hc58, rfl, Nq59, e60⟩
      ·
        have N48 := Fr.app N35 Nq52
        obtain ⟨_, _, ⟨T61, L61, c61, n61⟩, -, X61, ⟨Lc61, hQ61, l61, y61, z61⟩, st61⟩ := Jvm.LawKit.callS X48 hx (y := yn2) hown (mvT hZ (own_w hw 20 rfl)) (mvT hZ (own_w hw 21 rfl)) (mvT hZ (own_w hw 22 rfl)) (mvT hZ (own_w hw 23 rfl)) (by decide) (backOf (W := 0) (rm13 l Z a0 hw [] b36 b28 k37 ((if (((p2.toUInt32 >>> ((0 : Int32) &&& 31).toUInt32).toInt32) &&& (1 : Int32)) = (0 : Int32) then (0 : Int32) else (1 : Int32))) ((if (((p2.toUInt32 >>> ((0 : Int32) &&& 31).toUInt32).toInt32) &&& (1 : Int32)) = (0 : Int32) then (0 : Int32) else (1 : Int32))) p2 T35.heap n0 O35 g_b36 g_b28 OV41 (by have q0 := (by split <;> decide : 0 ≤ (if (((p2.toUInt32 >>> ((0 : Int32) &&& 31).toUInt32).toInt32) &&& (1 : Int32)) = (0 : Int32) then (0 : Int32) else (1 : Int32)).toInt ∧ (if (((p2.toUInt32 >>> ((0 : Int32) &&& 31).toUInt32).toInt32) &&& (1 : Int32)) = (0 : Int32) then (0 : Int32) else (1 : Int32)).toInt ≤ 1); omega) (by have q0 := (by split <;> decide : 0 ≤ (if (((p2.toUInt32 >>> ((0 : Int32) &&& 31).toUInt32).toInt32) &&& (1 : Int32)) = (0 : Int32) then (0 : Int32) else (1 : Int32)).toInt ∧ (if (((p2.toUInt32 >>> ((0 : Int32) &&& 31).toUInt32).toInt32) &&& (1 : Int32)) = (0 : Int32) then (0 : Int32) else (1 : Int32)).toInt ≤ 1); omega)) hZ (own_w hw 23 rfl) (own_w hw 22 rfl) (by decide) (by decide)) (g := (mkF m 100 #[.val (.int p1), .val (.int p2), .val (.int (1 : Int32)), .val (.ref b28), .val (.ref b36)] [(.int (1 : Int32)), (.int p2), (.int (1 : Int32)), (.ref b28), (.ref b36)])) rfl (by rw [hml]; rfl) (argsL := [(.ref b36), (.ref b28), (.int (1 : Int32)), (.int p2), (.int (1 : Int32))]) (rest := []) (lenOf pd2 rfl) rfl (by show 2 * 0 + _ ≤ _; exact Nat.le_of_eq rfl) (hb hby at_100) (fun _ _ => ⟨rfl, e53, (by decide : 4 + 0 ≤ _), (by decide : 58 + 0 ≤ _)⟩)
        dsimp only [Pt.U, Pt.locs, Pt.cells, Pt.slots] at X61 l61 y61 z61 st61 hQ61
        subst l61 y61 z61
        have X61 : Stand p l e room_1 (s.setVm T35.vm) m #[(.int p1), (.int p2)] below meth c T61 _ 4 58 := X61
        obtain ⟨rfl, Nq62, e63⟩ := hQ61
        have N61 := Fr.app N48 Nq62
        obtain ⟨_, _, ⟨T64, L64, c64, n64⟩, -, X64, ⟨Lc64, hQ64, l64, y64, z64⟩, st64⟩ := Jvm.LawKit.callS X61 hx (y := yn2) hown (mvT hZ (own_w hw 20 rfl)) (mvT hZ (own_w hw 21 rfl)) (mvT hZ (own_w hw 22 rfl)) (mvT hZ (own_w hw 23 rfl)) (by decide) (backOf (W := 0) (rm14 l Z a0 hw [] b36 b28 k37 ((if (((p2.toUInt32 >>> ((0 : Int32) &&& 31).toUInt32).toInt32) &&& (1 : Int32)) = (0 : Int32) then (0 : Int32) else (1 : Int32))) ((if (((p2.toUInt32 >>> ((0 : Int32) &&& 31).toUInt32).toInt32) &&& (1 : Int32)) = (0 : Int32) then (0 : Int32) else (1 : Int32))) p2 T35.heap n0 O35 g_b36 g_b28 OV41 (by have q0 := (by split <;> decide : 0 ≤ (if (((p2.toUInt32 >>> ((0 : Int32) &&& 31).toUInt32).toInt32) &&& (1 : Int32)) = (0 : Int32) then (0 : Int32) else (1 : Int32)).toInt ∧ (if (((p2.toUInt32 >>> ((0 : Int32) &&& 31).toUInt32).toInt32) &&& (1 : Int32)) = (0 : Int32) then (0 : Int32) else (1 : Int32)).toInt ≤ 1); omega) (by have q0 := (by split <;> decide : 0 ≤ (if (((p2.toUInt32 >>> ((0 : Int32) &&& 31).toUInt32).toInt32) &&& (1 : Int32)) = (0 : Int32) then (0 : Int32) else (1 : Int32)).toInt ∧ (if (((p2.toUInt32 >>> ((0 : Int32) &&& 31).toUInt32).toInt32) &&& (1 : Int32)) = (0 : Int32) then (0 : Int32) else (1 : Int32)).toInt ≤ 1); omega)) hZ (own_w hw 23 rfl) (own_w hw 22 rfl) (by decide) (by decide)) (g := (mkF m 112 #[.val (.int p1), .val (.int p2), .val (.int (1 : Int32)), .val (.ref b28), .val (.ref b36)] [(.int (2 : Int32)), (.int p2), (.int (1 : Int32)), (.ref b28), (.ref b36)])) rfl (by rw [hml]; rfl) (argsL := [(.ref b36), (.ref b28), (.int (1 : Int32)), (.int p2), (.int (2 : Int32))]) (rest := []) (lenOf pd2 rfl) rfl (by show 2 * 0 + _ ≤ _; exact Nat.le_of_eq rfl) (hb hby at_112) (fun _ _ => ⟨rfl, e63, (by decide : 4 + 0 ≤ _), (by decide : 58 + 0 ≤ _)⟩)
        dsimp only [Pt.U, Pt.locs, Pt.cells, Pt.slots] at X64 l64 y64 z64 st64 hQ64
        subst l64 y64 z64
        have X64 : Stand p l e room_1 (s.setVm T35.vm) m #[(.int p1), (.int p2)] below meth c T64 _ 4 58 := X64
        obtain ⟨rfl, Nq65, e66⟩ := hQ64
        have N64 := Fr.app N61 Nq65
        obtain ⟨_, _, ⟨T67, L67, c67, n67⟩, -, X67, ⟨Lc67, hQ67, l67, y67, z67⟩, st67⟩ := Jvm.LawKit.callS X64 hx (y := yn2) hown (mvT hZ (own_w hw 20 rfl)) (mvT hZ (own_w hw 21 rfl)) (mvT hZ (own_w hw 22 rfl)) (mvT hZ (own_w hw 23 rfl)) (by decide) (backOf (W := 0) (rm15 l Z a0 hw [] b36 b28 k37 ((if (((p2.toUInt32 >>> ((0 : Int32) &&& 31).toUInt32).toInt32) &&& (1 : Int32)) = (0 : Int32) then (0 : Int32) else (1 : Int32))) ((if (((p2.toUInt32 >>> ((0 : Int32) &&& 31).toUInt32).toInt32) &&& (1 : Int32)) = (0 : Int32) then (0 : Int32) else (1 : Int32))) p2 T35.heap n0 O35 g_b36 g_b28 OV41 (by have q0 := (by split <;> decide : 0 ≤ (if (((p2.toUInt32 >>> ((0 : Int32) &&& 31).toUInt32).toInt32) &&& (1 : Int32)) = (0 : Int32) then (0 : Int32) else (1 : Int32)).toInt ∧ (if (((p2.toUInt32 >>> ((0 : Int32) &&& 31).toUInt32).toInt32) &&& (1 : Int32)) = (0 : Int32) then (0 : Int32) else (1 : Int32)).toInt ≤ 1); omega) (by have q0 := (by split <;> decide : 0 ≤ (if (((p2.toUInt32 >>> ((0 : Int32) &&& 31).toUInt32).toInt32) &&& (1 : Int32)) = (0 : Int32) then (0 : Int32) else (1 : Int32)).toInt ∧ (if (((p2.toUInt32 >>> ((0 : Int32) &&& 31).toUInt32).toInt32) &&& (1 : Int32)) = (0 : Int32) then (0 : Int32) else (1 : Int32)).toInt ≤ 1); omega)) hZ (own_w hw 23 rfl) (own_w hw 22 rfl) (by decide) (by decide)) (g := (mkF m 124 #[.val (.int p1), .val (.int p2), .val (.int (1 : Int32)), .val (.ref b28), .val (.ref b36)] [(.int (3 : Int32)), (.int p2), (.int (1 : Int32)), (.ref b28), (.ref b36)])) rfl (by rw [hml]; rfl) (argsL := [(.ref b36), (.ref b28), (.int (1 : Int32)), (.int p2), (.int (3 : Int32))]) (rest := []) (lenOf pd2 rfl) rfl (by show 2 * 0 + _ ≤ _; exact Nat.le_of_eq rfl) (hb hby at_124) (fun _ _ => ⟨rfl, e66, (by decide : 4 + 0 ≤ _), (by decide : 58 + 0 ≤ _)⟩)
        dsimp only [Pt.U, Pt.locs, Pt.cells, Pt.slots] at X67 l67 y67 z67 st67 hQ67
        subst l67 y67 z67
        have X67 : Stand p l e room_1 (s.setVm T35.vm) m #[(.int p1), (.int p2)] below meth c T67 _ 4 58 := X67
        obtain ⟨rfl, Nq68, e69⟩ := hQ67
        have N67 := Fr.app N64 Nq68
        obtain ⟨fs, hr, hrun, hended, hRE⟩ := X67.leaveW hS35 (by rw [e69]; exact (Nat.le_refl _)) (v := some (.int (1 : Int32))) (fun h => by rw [hret] at h; cases h)
        refine ⟨_, _, pre49 _ ?_, hrun, hended, _, _, rfl, ?_, hRE.1, hRE.2.1, hRE.2.2.1, hRE.2.2.2.mono (by decide) (by decide)⟩
        ·
          show Steps p.tables e below (T35.setTop (mkF m 88 #[.val (.int p1), .val (.int p2), .val (.int (1 : Int32)), .val (.ref b28), .val (.ref b36)] [(.int (0 : Int32)), (.int p2), (.int (1 : Int32)), (.ref b28), (.ref b36)])) _
          refine st48 _ ?_
          refine XS.ifNo X48.here hx rfl (hb hby at_91) rfl ((if0 _ _).trans (feq (by decide : ¬ ((1 : Int32) = (0 : Int32)))).1) ?_
          refine XS.aload X48.here hx rfl (hb hby at_94) rfl rfl ?_
          refine XS.aloadN X48.here hx rfl (hb hby at_96) rfl rfl ?_
          refine XS.iloadN X48.here hx rfl (hb hby at_97) rfl ?_
          refine XS.iloadN X48.here hx rfl (hb hby at_98) rfl ?_
          refine XS.iconst X48.here hx rfl (hb hby at_99) ?_
          refine st61 _ ?_
          refine XS.ifNo X61.here hx rfl (hb hby at_103) rfl ((if0 _ _).trans (feq (by decide : ¬ ((1 : Int32) = (0 : Int32)))).1) ?_
          refine XS.aload X61.here hx rfl (hb hby at_106) rfl rfl ?_
          refine XS.aloadN X61.here hx rfl (hb hby at_108) rfl rfl ?_
          refine XS.iloadN X61.here hx rfl (hb hby at_109) rfl ?_
          refine XS.iloadN X61.here hx rfl (hb hby at_110) rfl ?_
          refine XS.iconst X61.here hx rfl (hb hby at_111) ?_
          refine st64 _ ?_
          refine XS.ifNo X64.here hx rfl (hb hby at_115) rfl ((if0 _ _).trans (feq (by decide : ¬ ((1 : Int32) = (0 : Int32)))).1) ?_
          refine XS.aload X64.here hx rfl (hb hby at_118) rfl rfl ?_
          refine XS.aloadN X64.here hx rfl (hb hby at_120) rfl rfl ?_
          refine XS.iloadN X64.here hx rfl (hb hby at_121) rfl ?_
          refine XS.iloadN X64.here hx rfl (hb hby at_122) rfl ?_
          refine XS.iconst X64.here hx rfl (hb hby at_123) ?_
          refine st67 _ ?_
          refine XS.ifNo X67.here hx rfl (hb hby at_127) rfl ((if0 _ _).trans (feq (by decide : ¬ ((1 : Int32) = (0 : Int32)))).1) ?_
          refine XS.iconst X67.here hx rfl (hb hby at_130) ?_
          refine XS.goto X67.here hx rfl (pc0 := 131) (pc' := 135) rfl (hb hby at_131) (by decide) (by decide) ?_
          show Steps p.tables e below (T67.setTop (mkF m 135 #[.val (.int p1), .val (.int p2), .val (.int (1 : Int32)), .val (.ref b28), .val (.ref b36)] [(.int (1 : Int32))])) _
          exact retN X67 hx (t := .boolean) hret (by simp) (hb hby at_135) hr
        ·
          show Q0 n0 _ T67.heap _
          rw [e69]
          exact ⟨rfl, N67⟩
      ·
        exact absurd (rfl : (if (((p2.toUInt32 >>> ((0 : Int32) &&& 31).toUInt32).toInt32) &&& (1 : Int32)) = (0 : Int32) then (0 : Int32) else (1 : Int32)) = (if (((p2.toUInt32 >>> ((0 : Int32) &&& 31).toUInt32).toInt32) &&& (1 : Int32)) = (0 : Int32) then (0 : Int32) else (1 : Int32))) hc55
      ·
        exact absurd (rfl : (if (((p2.toUInt32 >>> ((0 : Int32) &&& 31).toUInt32).toInt32) &&& (1 : Int32)) = (0 : Int32) then (0 : Int32) else (1 : Int32)) = (if (((p2.toUInt32 >>> ((0 : Int32) &&& 31).toUInt32).toInt32) &&& (1 : Int32)) = (0 : Int32) then (0 : Int32) else (1 : Int32))) hc58
    ·
      by_cases hc70 : ((p1 &&& (2147483647 : Int32)) % (5 : Int32)) = (2 : Int32)
      ·
        have pre71 : ∀ t, Steps p.tables e below (s₁.setTop (mkF m 8 #[.val (.int p1), .val (.int p2), .val (.int (2 : Int32)), .unset, .unset] [(.int (2 : Int32))])) t → Steps p.tables e below (s₁.setTop (entryFrame m #[(.int p1), (.int p2)] maxLocals)) t := fun t k => pre1 t (by rw [hc70]; exact k)
        obtain ⟨T72, h72, k72, X72, e72, E72, A72, EX72, st72⟩ := newPE X0 hx hZ (own_w hw 1 rfl) e0 (g := (mkF m 8 #[.val (.int p1), .val (.int p2), .val (.int (2 : Int32)), .unset, .unset] [(.int (2 : Int32))])) rfl (hb hby at_8) rfl (by decide) (cap := 2) (by decide) (by decide) (by decide) (by decide) (ad := "[Z") (by decide)
        obtain ⟨b72, g72⟩ : ∃ z, z = h0.size := ⟨_, rfl⟩
        rw [← g72] at A72 EX72 st72
        have M72 : h0.size ≤ h72.size := Nat.le_trans (Nat.le_refl _) E72.1
        have O72 := Old.ext O0 E72
        have sz_b72 : h0.size ≤ b72 := Nat.le_of_eq g72.symm
        have g_b72 : n0 ≤ b72 := Nat.le_trans (own_oz O0) (Nat.le_trans (Nat.le_refl _) sz_b72)
        have V72_0 := Arv.new A72 (by decide)
        have V72 : Arv Z h72 b72 k72 .boolean (2 : Int32) [(.int (0 : Int32)), (.int (0 : Int32))] (.int (0 : Int32)) := V72_0.pad (pad_rep [] (.int (0 : Int32)) 2)
        obtain ⟨_, _, ⟨T73, L73, c73, n73⟩, -, X73, ⟨Lc73, hQ73, l73, y73, z73⟩, st73⟩ := Jvm.LawKit.callS X72 hx (y := yn3) hown (mvT hZ (own_w hw 24 rfl)) (mvT hZ (own_w hw 25 rfl)) (mvT hZ (own_w hw 22 rfl)) (mvT hZ (own_w hw 26 rfl)) (by decide) (backOf (W := 2) (rm7 l Z a0 hw [] p2 h72 n0 O72 ) hZ (own_w hw 26 rfl) (own_w hw 22 rfl) (by decide) (by decide)) (g := (mkF m 19 #[.val (.int p1), .val (.int p2), .val (.int (2 : Int32)), .val (.ref b72), .unset] [(.int (0 : Int32)), (.int p2), (.int (0 : Int32)), (.ref b72)])) rfl (by rw [hml]; rfl) (argsL := [(.int p2), (.int (0 : Int32))]) (rest := [(.int (0 : Int32)), (.ref b72)]) (lenOf pd3 rfl) rfl (by show 2 * 0 + _ ≤ _; exact Nat.le_of_eq rfl) (hb hby at_19) (fun _ _ => ⟨rfl, e72, (by decide : 1 + 0 ≤ _), (by decide : 2 + 0 ≤ _)⟩)
        dsimp only [Pt.U, Pt.locs, Pt.cells, Pt.slots] at X73 l73 y73 z73 st73 hQ73
        subst l73 y73 z73
        have X73 : Stand p l e room_1 s m #[(.int p1), (.int p2)] below meth c T73 _ 1 2 := X73
        obtain ⟨rfl, Nq74, e75⟩ := hQ73
        have N73 := Fr.app N0 Nq74
        obtain ⟨cl76, Ar76, qa76, Sa76, Na76, Ha76, Ga76⟩ := id (V72)
        have hin76 : ¬ ((0 : Int32) < 0 ∨ cl76.slots.size ≤ ((0 : Int32)).toNatClampNeg) := inb_of Sa76 ⟨by decide, by decide⟩
        have hbz77 : 0 ≤ (if (((p2.toUInt32 >>> ((0 : Int32) &&& 31).toUInt32).toInt32) &&& (1 : Int32)) = (0 : Int32) then (0 : Int32) else (1 : Int32)).toInt ∧ (if (((p2.toUInt32 >>> ((0 : Int32) &&& 31).toUInt32).toInt32) &&& (1 : Int32)) = (0 : Int32) then (0 : Int32) else (1 : Int32)).toInt ≤ 1 := by have q0 := (by split <;> decide : 0 ≤ (if (((p2.toUInt32 >>> ((0 : Int32) &&& 31).toUInt32).toInt32) &&& (1 : Int32)) = (0 : Int32) then (0 : Int32) else (1 : Int32)).toInt ∧ (if (((p2.toUInt32 >>> ((0 : Int32) &&& 31).toUInt32).toInt32) &&& (1 : Int32)) = (0 : Int32) then (0 : Int32) else (1 : Int32)).toInt ≤ 1); omega
        obtain ⟨T78, h78, X78, e78, W78, st78⟩ := stZ X73 hx hZ e75 Ar76 (j := (0 : Int32)) hin76 (g := (mkF m 22 #[.val (.int p1), .val (.int p2), .val (.int (2 : Int32)), .val (.ref b72), .unset] [(.int (if (((p2.toUInt32 >>> ((0 : Int32) &&& 31).toUInt32).toInt32) &&& (1 : Int32)) = (0 : Int32) then (0 : Int32) else (1 : Int32))), (.int (0 : Int32)), (.ref b72)])) rfl rfl (hb hby at_22)
        rw [own_nz hbz77] at W78
        have V78 : Arv Z h78 b72 k72 .boolean (2 : Int32) [(.int (if (((p2.toUInt32 >>> ((0 : Int32) &&& 31).toUInt32).toInt32) &&& (1 : Int32)) = (0 : Int32) then (0 : Int32) else (1 : Int32))), (.int (0 : Int32))] (.int (0 : Int32)) := Arv.set Ar76 qa76 Sa76 Na76 Ha76 Ga76 (own_fz hbz77) W78 0 rfl (Nat.le_of_ble_eq_true rfl)
        have N78 := Fr.snoc X78 N73 g_b72
        have M78 : h0.size ≤ h78.size := Nat.le_trans M72 (Nat.le_of_eq W78.size.symm)
        have O78 := Old.wr O72 W78 g_b72
        obtain ⟨_, _, ⟨T79, L79, c79, n79⟩, -, X79, ⟨Lc79, hQ79, l79, y79, z79⟩, st79⟩ := Jvm.LawKit.callS X78 hx (y := yn3) hown (mvT hZ (own_w hw 24 rfl)) (mvT hZ (own_w hw 25 rfl)) (mvT hZ (own_w hw 22 rfl)) (mvT hZ (own_w hw 26 rfl)) (by decide) (backOf (W := 2) (rm16 l Z a0 hw [] p2 h78 n0 O78 ) hZ (own_w hw 26 rfl) (own_w hw 22 rfl) (by decide) (by decide)) (g := (mkF m 32 #[.val (.int p1), .val (.int p2), .val (.int (2 : Int32)), .val (.ref b72), .unset] [(.int (1 : Int32)), (.int p2), (.int (1 : Int32)), (.ref b72)])) rfl (by rw [hml]; rfl) (argsL := [(.int p2), (.int (1 : Int32))]) (rest := [(.int (1 : Int32)), (.ref b72)]) (lenOf pd3 rfl) rfl (by show 2 * 0 + _ ≤ _; exact Nat.le_of_eq rfl) (hb hby at_32) (fun _ _ => ⟨rfl, e78, (by decide : 1 + 0 ≤ _), (by decide : 2 + 0 ≤ _)⟩)
        dsimp only [Pt.U, Pt.locs, Pt.cells, Pt.slots] at X79 l79 y79 z79 st79 hQ79
        subst l79 y79 z79
        have X79 : Stand p l e room_1 s m #[(.int p1), (.int p2)] below meth c T79 _ 1 2 := X79
        obtain ⟨rfl, Nq80, e81⟩ := hQ79
        have N79 := Fr.app N78 Nq80
        obtain ⟨cl82, Ar82, qa82, Sa82, Na82, Ha82, Ga82⟩ := id (V78)
        have hin82 : ¬ ((1 : Int32) < 0 ∨ cl82.slots.size ≤ ((1 : Int32)).toNatClampNeg) := inb_of Sa82 ⟨by decide, by decide⟩
        have hbz83 : 0 ≤ (if (((p2.toUInt32 >>> ((1 : Int32) &&& 31).toUInt32).toInt32) &&& (1 : Int32)) = (0 : Int32) then (0 : Int32) else (1 : Int32)).toInt ∧ (if (((p2.toUInt32 >>> ((1 : Int32) &&& 31).toUInt32).toInt32) &&& (1 : Int32)) = (0 : Int32) then (0 : Int32) else (1 : Int32)).toInt ≤ 1 := by have q0 := (by split <;> decide : 0 ≤ (if (((p2.toUInt32 >>> ((1 : Int32) &&& 31).toUInt32).toInt32) &&& (1 : Int32)) = (0 : Int32) then (0 : Int32) else (1 : Int32)).toInt ∧ (if (((p2.toUInt32 >>> ((1 : Int32) &&& 31).toUInt32).toInt32) &&& (1 : Int32)) = (0 : Int32) then (0 : Int32) else (1 : Int32)).toInt ≤ 1); omega
        obtain ⟨T84, h84, X84, e84, W84, st84⟩ := stZ X79 hx hZ e81 Ar82 (j := (1 : Int32)) hin82 (g := (mkF m 35 #[.val (.int p1), .val (.int p2), .val (.int (2 : Int32)), .val (.ref b72), .unset] [(.int (if (((p2.toUInt32 >>> ((1 : Int32) &&& 31).toUInt32).toInt32) &&& (1 : Int32)) = (0 : Int32) then (0 : Int32) else (1 : Int32))), (.int (1 : Int32)), (.ref b72)])) rfl rfl (hb hby at_35)
        rw [own_nz hbz83] at W84
        have V84 : Arv Z h84 b72 k72 .boolean (2 : Int32) [(.int (if (((p2.toUInt32 >>> ((0 : Int32) &&& 31).toUInt32).toInt32) &&& (1 : Int32)) = (0 : Int32) then (0 : Int32) else (1 : Int32))), (.int (if (((p2.toUInt32 >>> ((1 : Int32) &&& 31).toUInt32).toInt32) &&& (1 : Int32)) = (0 : Int32) then (0 : Int32) else (1 : Int32)))] (.int (0 : Int32)) := Arv.set Ar82 qa82 Sa82 Na82 Ha82 Ga82 (own_fz hbz83) W84 1 rfl (Nat.le_of_ble_eq_true rfl)
        have N84 := Fr.snoc X84 N79 g_b72
        have M84 : h0.size ≤ h84.size := Nat.le_trans M78 (Nat.le_of_eq W84.size.symm)
        have O84 := Old.wr O78 W84 g_b72
        obtain ⟨_, _, ⟨T85, L85, c85, n85⟩, -, X85, hSn85, hgr85, ⟨Lc85, hQ85, l85, y85, z85⟩, st85⟩ := callSS X84 hx (y := yn1) hown (mvT hZ (own_w hw 2 rfl)) (mvT hZ (own_w hw 3 rfl)) (mvT hZ (own_w hw 4 rfl)) (mvT hZ (own_w hw 5 rfl)) (by decide) (backOfS (W := 0) (rm18 l Z a0 hw w1 w2 G [] b72 ((if (((p2.toUInt32 >>> ((0 : Int32) &&& 31).toUInt32).toInt32) &&& (1 : Int32)) = (0 : Int32) then (0 : Int32) else (1 : Int32))) ((if (((p2.toUInt32 >>> ((1 : Int32) &&& 31).toUInt32).toInt32) &&& (1 : Int32)) = (0 : Int32) then (0 : Int32) else (1 : Int32))) k72 h84 n0 O84 g_b72 (by have q0 := (by split <;> decide : 0 ≤ (if (((p2.toUInt32 >>> ((0 : Int32) &&& 31).toUInt32).toInt32) &&& (1 : Int32)) = (0 : Int32) then (0 : Int32) else (1 : Int32)).toInt ∧ (if (((p2.toUInt32 >>> ((0 : Int32) &&& 31).toUInt32).toInt32) &&& (1 : Int32)) = (0 : Int32) then (0 : Int32) else (1 : Int32)).toInt ≤ 1); omega) (by have q0 := (by split <;> decide : 0 ≤ (if (((p2.toUInt32 >>> ((1 : Int32) &&& 31).toUInt32).toInt32) &&& (1 : Int32)) = (0 : Int32) then (0 : Int32) else (1 : Int32)).toInt ∧ (if (((p2.toUInt32 >>> ((1 : Int32) &&& 31).toUInt32).toInt32) &&& (1 : Int32)) = (0 : Int32) then (0 : Int32) else (1 : Int32)).toInt ≤ 1); omega) V84) hZ (own_w hw 5 rfl) (own_w hw 4 rfl) (by decide) (by decide)) (g := (mkF m 63 #[.val (.int p1), .val (.int p2), .val (.int (2 : Int32)), .val (.ref b72), .unset] [(.ref b72)])) rfl (by rw [hml]; rfl) (argsL := [(.ref b72)]) (rest := []) (lenOf pd1 rfl) rfl (by show 2 * 0 + _ ≤ _; exact Nat.le_of_eq rfl) (hb hby at_63) (fun _ _ => ⟨rfl, e84, (by decide : 1 + 3 ≤ _), (by decide : 2 + 58 ≤ _)⟩)
        dsimp only [Pt.U, Pt.locs, Pt.cells, Pt.slots] at X85 l85 y85 z85 st85 hQ85
        subst l85 y85 z85
        have hS85 : s.Since T85.vm T85.heap.size := hSn85
        have hZ := State.Warmed39.trans (t := s) hZ hS85.1
        have hown : (s.setVm T85.vm).vm.findClass "com/example/castless/castless/PrimitiveArraysBox334PinLaw" = some m.cls := by rw [show (s.setVm T85.vm).vm = T85.vm from rfl, hS85.1.alike.findClass]; exact hown
        have X85 : Stand p l e room_1 (s.setVm T85.vm) m #[(.int p1), (.int p2)] below meth c T85 _ 4 60 := X85
        obtain ⟨b86, k87, v88, v89, rfl, Nq90, K91, sz_b86, OV92, f93, f94, f95, f96, f97, f98⟩ := hQ85
        have N85 := Fr.app N84 Nq90
        have g_b86 : n0 ≤ b86 := Nat.le_trans (own_oz O84) sz_b86
        have M85 : h0.size ≤ T85.heap.size := Nat.le_trans M84 K91.1
        have O85 := Old.keep O84 K91 all0
        obtain ⟨cl99, Ar99, qa99, Sa99, Na99, Ha99, Ga99⟩ := id (f93)
        have f100 := (V84.keep K91 nin0)
        obtain ⟨_, _, ⟨T101, L101, c101, n101⟩, -, X101, ⟨Lc101, hQ101, l101, y101, z101⟩, st101⟩ := Jvm.LawKit.callS X85 hx (y := yn2) hown (mvT hZ (own_w hw 20 rfl)) (mvT hZ (own_w hw 21 rfl)) (mvT hZ (own_w hw 22 rfl)) (mvT hZ (own_w hw 23 rfl)) (by decide) (backOf (W := 0) (rm19 l Z a0 hw [] b86 b72 k87 ((if (((p2.toUInt32 >>> ((0 : Int32) &&& 31).toUInt32).toInt32) &&& (1 : Int32)) = (0 : Int32) then (0 : Int32) else (1 : Int32))) ((if (((p2.toUInt32 >>> ((1 : Int32) &&& 31).toUInt32).toInt32) &&& (1 : Int32)) = (0 : Int32) then (0 : Int32) else (1 : Int32))) ((if (((p2.toUInt32 >>> ((0 : Int32) &&& 31).toUInt32).toInt32) &&& (1 : Int32)) = (0 : Int32) then (0 : Int32) else (1 : Int32))) ((if (((p2.toUInt32 >>> ((1 : Int32) &&& 31).toUInt32).toInt32) &&& (1 : Int32)) = (0 : Int32) then (0 : Int32) else (1 : Int32))) v88 v89 k72 p2 T85.heap n0 O85 g_b86 g_b72 OV92 (by have q0 := (by split <;> decide : 0 ≤ (if (((p2.toUInt32 >>> ((0 : Int32) &&& 31).toUInt32).toInt32) &&& (1 : Int32)) = (0 : Int32) then (0 : Int32) else (1 : Int32)).toInt ∧ (if (((p2.toUInt32 >>> ((0 : Int32) &&& 31).toUInt32).toInt32) &&& (1 : Int32)) = (0 : Int32) then (0 : Int32) else (1 : Int32)).toInt ≤ 1); omega) (by have q0 := (by split <;> decide : 0 ≤ (if (((p2.toUInt32 >>> ((1 : Int32) &&& 31).toUInt32).toInt32) &&& (1 : Int32)) = (0 : Int32) then (0 : Int32) else (1 : Int32)).toInt ∧ (if (((p2.toUInt32 >>> ((1 : Int32) &&& 31).toUInt32).toInt32) &&& (1 : Int32)) = (0 : Int32) then (0 : Int32) else (1 : Int32)).toInt ≤ 1); omega) (by have q0 := (by split <;> decide : 0 ≤ (if (((p2.toUInt32 >>> ((0 : Int32) &&& 31).toUInt32).toInt32) &&& (1 : Int32)) = (0 : Int32) then (0 : Int32) else (1 : Int32)).toInt ∧ (if (((p2.toUInt32 >>> ((0 : Int32) &&& 31).toUInt32).toInt32) &&& (1 : Int32)) = (0 : Int32) then (0 : Int32) else (1 : Int32)).toInt ≤ 1); omega) (by have q0 := (by split <;> decide : 0 ≤ (if (((p2.toUInt32 >>> ((1 : Int32) &&& 31).toUInt32).toInt32) &&& (1 : Int32)) = (0 : Int32) then (0 : Int32) else (1 : Int32)).toInt ∧ (if (((p2.toUInt32 >>> ((1 : Int32) &&& 31).toUInt32).toInt32) &&& (1 : Int32)) = (0 : Int32) then (0 : Int32) else (1 : Int32)).toInt ≤ 1); omega) f93 f100 f95 f96) hZ (own_w hw 23 rfl) (own_w hw 22 rfl) (by decide) (by decide)) (g := (mkF m 88 #[.val (.int p1), .val (.int p2), .val (.int (2 : Int32)), .val (.ref b72), .val (.ref b86)] [(.int (0 : Int32)), (.int p2), (.int (2 : Int32)), (.ref b72), (.ref b86)])) rfl (by rw [hml]; rfl) (argsL := [(.ref b86), (.ref b72), (.int (2 : Int32)), (.int p2), (.int (0 : Int32))]) (rest := []) (lenOf pd2 rfl) rfl (by show 2 * 0 + _ ≤ _; exact Nat.le_of_eq rfl) (hb hby at_88) (fun _ _ => ⟨rfl, rfl, (by decide : 4 + 0 ≤ _), (by decide : 60 + 0 ≤ _)⟩)
        dsimp only [Pt.U, Pt.locs, Pt.cells, Pt.slots] at X101 l101 y101 z101 st101 hQ101
        subst l101 y101 z101
        have pre102 : ∀ t, Steps p.tables e below (T85.setTop (mkF m 88 #[.val (.int p1), .val (.int p2), .val (.int (2 : Int32)), .val (.ref b72), .val (.ref b86)] [(.int (0 : Int32)), (.int p2), (.int (2 : Int32)), (.ref b72), (.ref b86)])) t → Steps p.tables e below (s₁.setTop (entryFrame m #[(.int p1), (.int p2)] maxLocals)) t := fun t k => by
          refine pre71 _ ?_
          show Steps p.tables e below (s₁.setTop (mkF m 8 #[.val (.int p1), .val (.int p2), .val (.int (2 : Int32)), .unset, .unset] [(.int (2 : Int32))])) _
          refine st72 _ ?_
          refine XS.astoreN X72.here hx rfl (hb hby at_10) rfl rfl (l' := #[.val (.int p1), .val (.int p2), .val (.int (2 : Int32)), .val (.ref b72), .unset]) rfl ?_
          refine XS.iloadN X72.here hx rfl (hb hby at_11) rfl ?_
          refine XS.ifNo X72.here hx rfl (hb hby at_12) rfl ((if0 _ _).trans (tlt (by decide : (0 : Int32) < (2 : Int32))).2.2.2) ?_
          refine XS.aloadN X72.here hx rfl (hb hby at_15) rfl rfl ?_
          refine XS.iconst X72.here hx rfl (hb hby at_16) ?_
          refine XS.iloadN X72.here hx rfl (hb hby at_17) rfl ?_
          refine XS.iconst X72.here hx rfl (hb hby at_18) ?_
          refine st73 _ ?_
          refine st78 _ ?_
          refine XS.iloadN X78.here hx rfl (hb hby at_23) rfl ?_
          refine XS.iconst X78.here hx rfl (hb hby at_24) ?_
          refine XS.icmpNo X78.here hx rfl (hb hby at_25) rfl (tlt (by decide : (1 : Int32) < (2 : Int32))).2.2.2 ?_
          refine XS.aloadN X78.here hx rfl (hb hby at_28) rfl rfl ?_
          refine XS.iconst X78.here hx rfl (hb hby at_29) ?_
          refine XS.iloadN X78.here hx rfl (hb hby at_30) rfl ?_
          refine XS.iconst X78.here hx rfl (hb hby at_31) ?_
          refine st79 _ ?_
          refine st84 _ ?_
          refine XS.iloadN X84.here hx rfl (hb hby at_36) rfl ?_
          refine XS.iconst X84.here hx rfl (hb hby at_37) ?_
          refine XS.icmpYes X84.here hx rfl (pc0 := 38) (pc' := 49) rfl (hb hby at_38) rfl (flt (by decide : ¬ ((2 : Int32) < (2 : Int32)))).2.2.2 (by decide) (by decide) ?_
          refine XS.iloadN X84.here hx rfl (hb hby at_49) rfl ?_
          refine XS.iconst X84.here hx rfl (hb hby at_50) ?_
          refine XS.icmpYes X84.here hx rfl (pc0 := 51) (pc' := 62) rfl (hb hby at_51) rfl (flt (by decide : ¬ ((3 : Int32) < (2 : Int32)))).2.2.2 (by decide) (by decide) ?_
          refine XS.aloadN X84.here hx rfl (hb hby at_62) rfl rfl ?_
          refine st85.trans ?_
          refine XS.astore X85.here hx rfl (hb hby at_66) rfl rfl (l' := #[.val (.int p1), .val (.int p2), .val (.int (2 : Int32)), .val (.ref b72), .val (.ref b86)]) rfl ?_
          refine XS.aload X85.here hx rfl (hb hby at_68) rfl rfl ?_
          refine XS.ifnullNo X85.here hx rfl (hb hby at_70) rfl ?_
          refine XS.aload X85.here hx rfl (hb hby at_73) rfl rfl ?_
          refine X85.arraylength hx Ar99.1 (State.isArrayOf_alike hZ.alike Ar99.2.1) (g := (mkF m 75 #[.val (.int p1), .val (.int p2), .val (.int (2 : Int32)), .val (.ref b72), .val (.ref b86)] [(.ref b86)])) rfl rfl (hb hby at_75) _ ?_
          rw [len_of Sa99 Na99]
          refine XS.iloadN X85.here hx rfl (hb hby at_76) rfl ?_
          show Steps p.tables e below (T85.setTop (mkF m 77 #[.val (.int p1), .val (.int p2), .val (.int (2 : Int32)), .val (.ref b72), .val (.ref b86)] [(.int (2 : Int32)), (.int (2 : Int32))])) _
          refine XS.icmpYes X85.here hx rfl (pc0 := 77) (pc' := 82) rfl (hb hby at_77) rfl (teq (by decide : (2 : Int32) = (2 : Int32))).1 (by decide) (by decide) ?_
          refine XS.aload X85.here hx rfl (hb hby at_82) rfl rfl ?_
          refine XS.aloadN X85.here hx rfl (hb hby at_84) rfl rfl ?_
          refine XS.iloadN X85.here hx rfl (hb hby at_85) rfl ?_
          refine XS.iloadN X85.here hx rfl (hb hby at_86) rfl ?_
          refine XS.iconst X85.here hx rfl (hb hby at_87) ?_
          exact k
        have X101 : Stand p l e room_1 (s.setVm T85.vm) m #[(.int p1), (.int p2)] below meth c T101 _ 4 60 := X101
        rcases hQ101 with ⟨hc103, hc104, rfl, Nq105, e106⟩ | ⟨hc107, hc108, rfl, Nq109, e110⟩ | ⟨hc111, rfl, Nq112, e113⟩
        ·
          have N101 := Fr.app N85 Nq105
          obtain ⟨_, _, ⟨T114, L114, c114, n114⟩, -, X114, ⟨Lc114, hQ114, l114, y114, z114⟩, st114⟩ := Jvm.LawKit.callS X101 hx (y := yn2) hown (mvT hZ (own_w hw 20 rfl)) (mvT hZ (own_w hw 21 rfl)) (mvT hZ (own_w hw 22 rfl)) (mvT hZ (own_w hw 23 rfl)) (by decide) (backOf (W := 0) (rm20 l Z a0 hw [] b86 b72 k87 ((if (((p2.toUInt32 >>> ((0 : Int32) &&& 31).toUInt32).toInt32) &&& (1 : Int32)) = (0 : Int32) then (0 : Int32) else (1 : Int32))) ((if (((p2.toUInt32 >>> ((1 : Int32) &&& 31).toUInt32).toInt32) &&& (1 : Int32)) = (0 : Int32) then (0 : Int32) else (1 : Int32))) ((if (((p2.toUInt32 >>> ((0 : Int32) &&& 31).toUInt32).toInt32) &&& (1 : Int32)) = (0 : Int32) then (0 : Int32) else (1 : Int32))) ((if (((p2.toUInt32 >>> ((1 : Int32) &&& 31).toUInt32).toInt32) &&& (1 : Int32)) = (0 : Int32) then (0 : Int32) else (1 : Int32))) v88 v89 k72 p2 T85.heap n0 O85 g_b86 g_b72 OV92 (by have q0 := (by split <;> decide : 0 ≤ (if (((p2.toUInt32 >>> ((0 : Int32) &&& 31).toUInt32).toInt32) &&& (1 : Int32)) = (0 : Int32) then (0 : Int32) else (1 : Int32)).toInt ∧ (if (((p2.toUInt32 >>> ((0 : Int32) &&& 31).toUInt32).toInt32) &&& (1 : Int32)) = (0 : Int32) then (0 : Int32) else (1 : Int32)).toInt ≤ 1); omega) (by have q0 := (by split <;> decide : 0 ≤ (if (((p2.toUInt32 >>> ((1 : Int32) &&& 31).toUInt32).toInt32) &&& (1 : Int32)) = (0 : Int32) then (0 : Int32) else (1 : Int32)).toInt ∧ (if (((p2.toUInt32 >>> ((1 : Int32) &&& 31).toUInt32).toInt32) &&& (1 : Int32)) = (0 : Int32) then (0 : Int32) else (1 : Int32)).toInt ≤ 1); omega) (by have q0 := (by split <;> decide : 0 ≤ (if (((p2.toUInt32 >>> ((0 : Int32) &&& 31).toUInt32).toInt32) &&& (1 : Int32)) = (0 : Int32) then (0 : Int32) else (1 : Int32)).toInt ∧ (if (((p2.toUInt32 >>> ((0 : Int32) &&& 31).toUInt32).toInt32) &&& (1 : Int32)) = (0 : Int32) then (0 : Int32) else (1 : Int32)).toInt ≤ 1); omega) (by have q0 := (by split <;> decide : 0 ≤ (if (((p2.toUInt32 >>> ((1 : Int32) &&& 31).toUInt32).toInt32) &&& (1 : Int32)) = (0 : Int32) then (0 : Int32) else (1 : Int32)).toInt ∧ (if (((p2.toUInt32 >>> ((1 : Int32) &&& 31).toUInt32).toInt32) &&& (1 : Int32)) = (0 : Int32) then (0 : Int32) else (1 : Int32)).toInt ≤ 1); omega) f93 f100 f97 f98) hZ (own_w hw 23 rfl) (own_w hw 22 rfl) (by decide) (by decide)) (g := (mkF m 100 #[.val (.int p1), .val (.int p2), .val (.int (2 : Int32)), .val (.ref b72), .val (.ref b86)] [(.int (1 : Int32)), (.int p2), (.int (2 : Int32)), (.ref b72), (.ref b86)])) rfl (by rw [hml]; rfl) (argsL := [(.ref b86), (.ref b72), (.int (2 : Int32)), (.int p2), (.int (1 : Int32))]) (rest := []) (lenOf pd2 rfl) rfl (by show 2 * 0 + _ ≤ _; exact Nat.le_of_eq rfl) (hb hby at_100) (fun _ _ => ⟨rfl, e106, (by decide : 4 + 0 ≤ _), (by decide : 60 + 0 ≤ _)⟩)
          dsimp only [Pt.U, Pt.locs, Pt.cells, Pt.slots] at X114 l114 y114 z114 st114 hQ114
          subst l114 y114 z114
          have pre115 : ∀ t, Steps p.tables e below (T101.setTop (mkF m 100 #[.val (.int p1), .val (.int p2), .val (.int (2 : Int32)), .val (.ref b72), .val (.ref b86)] [(.int (1 : Int32)), (.int p2), (.int (2 : Int32)), (.ref b72), (.ref b86)])) t → Steps p.tables e below (s₁.setTop (entryFrame m #[(.int p1), (.int p2)] maxLocals)) t := fun t k => by
            refine pre102 _ ?_
            show Steps p.tables e below (T85.setTop (mkF m 88 #[.val (.int p1), .val (.int p2), .val (.int (2 : Int32)), .val (.ref b72), .val (.ref b86)] [(.int (0 : Int32)), (.int p2), (.int (2 : Int32)), (.ref b72), (.ref b86)])) _
            refine st101 _ ?_
            refine XS.ifNo X101.here hx rfl (hb hby at_91) rfl ((if0 _ _).trans (feq (by decide : ¬ ((1 : Int32) = (0 : Int32)))).1) ?_
            refine XS.aload X101.here hx rfl (hb hby at_94) rfl rfl ?_
            refine XS.aloadN X101.here hx rfl (hb hby at_96) rfl rfl ?_
            refine XS.iloadN X101.here hx rfl (hb hby at_97) rfl ?_
            refine XS.iloadN X101.here hx rfl (hb hby at_98) rfl ?_
            refine XS.iconst X101.here hx rfl (hb hby at_99) ?_
            exact k
          have X114 : Stand p l e room_1 (s.setVm T85.vm) m #[(.int p1), (.int p2)] below meth c T114 _ 4 60 := X114
          rcases hQ114 with ⟨hc116, hc117, rfl, Nq118, e119⟩ | ⟨hc120, hc121, rfl, Nq122, e123⟩ | ⟨hc124, rfl, Nq125, e126⟩
          ·
            have N114 := Fr.app N101 Nq118
            obtain ⟨_, _, ⟨T127, L127, c127, n127⟩, -, X127, ⟨Lc127, hQ127, l127, y127, z127⟩, st127⟩ := Jvm.LawKit.callS X114 hx (y := yn2) hown (mvT hZ (own_w hw 20 rfl)) (mvT hZ (own_w hw 21 rfl)) (mvT hZ (own_w hw 22 rfl)) (mvT hZ (own_w hw 23 rfl)) (by decide) (backOf (W := 0) (rm21 l Z a0 hw [] b86 b72 k87 ((if (((p2.toUInt32 >>> ((0 : Int32) &&& 31).toUInt32).toInt32) &&& (1 : Int32)) = (0 : Int32) then (0 : Int32) else (1 : Int32))) ((if (((p2.toUInt32 >>> ((1 : Int32) &&& 31).toUInt32).toInt32) &&& (1 : Int32)) = (0 : Int32) then (0 : Int32) else (1 : Int32))) ((if (((p2.toUInt32 >>> ((0 : Int32) &&& 31).toUInt32).toInt32) &&& (1 : Int32)) = (0 : Int32) then (0 : Int32) else (1 : Int32))) ((if (((p2.toUInt32 >>> ((1 : Int32) &&& 31).toUInt32).toInt32) &&& (1 : Int32)) = (0 : Int32) then (0 : Int32) else (1 : Int32))) p2 T85.heap n0 O85 g_b86 g_b72 OV92 (by have q0 := (by split <;> decide : 0 ≤ (if (((p2.toUInt32 >>> ((0 : Int32) &&& 31).toUInt32).toInt32) &&& (1 : Int32)) = (0 : Int32) then (0 : Int32) else (1 : Int32)).toInt ∧ (if (((p2.toUInt32 >>> ((0 : Int32) &&& 31).toUInt32).toInt32) &&& (1 : Int32)) = (0 : Int32) then (0 : Int32) else (1 : Int32)).toInt ≤ 1); omega) (by have q0 := (by split <;> decide : 0 ≤ (if (((p2.toUInt32 >>> ((1 : Int32) &&& 31).toUInt32).toInt32) &&& (1 : Int32)) = (0 : Int32) then (0 : Int32) else (1 : Int32)).toInt ∧ (if (((p2.toUInt32 >>> ((1 : Int32) &&& 31).toUInt32).toInt32) &&& (1 : Int32)) = (0 : Int32) then (0 : Int32) else (1 : Int32)).toInt ≤ 1); omega) (by have q0 := (by split <;> decide : 0 ≤ (if (((p2.toUInt32 >>> ((0 : Int32) &&& 31).toUInt32).toInt32) &&& (1 : Int32)) = (0 : Int32) then (0 : Int32) else (1 : Int32)).toInt ∧ (if (((p2.toUInt32 >>> ((0 : Int32) &&& 31).toUInt32).toInt32) &&& (1 : Int32)) = (0 : Int32) then (0 : Int32) else (1 : Int32)).toInt ≤ 1); omega) (by have q0 := (by split <;> decide : 0 ≤ (if (((p2.toUInt32 >>> ((1 : Int32) &&& 31).toUInt32).toInt32) &&& (1 : Int32)) = (0 : Int32) then (0 : Int32) else (1 : Int32)).toInt ∧ (if (((p2.toUInt32 >>> ((1 : Int32) &&& 31).toUInt32).toInt32) &&& (1 : Int32)) = (0 : Int32) then (0 : Int32) else (1 : Int32)).toInt ≤ 1); omega)) hZ (own_w hw 23 rfl) (own_w hw 22 rfl) (by decide) (by decide)) (g := (mkF m 112 #[.val (.int p1), .val (.int p2), .val (.int (2 : Int32)), .val (.ref b72), .val (.ref b86)] [(.int (2 : Int32)), (.int p2), (.int (2 : Int32)), (.ref b72), (.ref b86)])) rfl (by rw [hml]; rfl) (argsL := [(.ref b86), (.ref b72), (.int (2 : Int32)), (.int p2), (.int (2 : Int32))]) (rest := []) (lenOf pd2 rfl) rfl (by show 2 * 0 + _ ≤ _; exact Nat.le_of_eq rfl) (hb hby at_112) (fun _ _ => ⟨rfl, e119, (by decide : 4 + 0 ≤ _), (by decide : 60 + 0 ≤ _)⟩)
            dsimp only [Pt.U, Pt.locs, Pt.cells, Pt.slots] at X127 l127 y127 z127 st127 hQ127
            subst l127 y127 z127
            have X127 : Stand p l e room_1 (s.setVm T85.vm) m #[(.int p1), (.int p2)] below meth c T127 _ 4 60 := X127
            obtain ⟨rfl, Nq128, e129⟩ := hQ127
            have N127 := Fr.app N114 Nq128
            obtain ⟨_, _, ⟨T130, L130, c130, n130⟩, -, X130, ⟨Lc130, hQ130, l130, y130, z130⟩, st130⟩ := Jvm.LawKit.callS X127 hx (y := yn2) hown (mvT hZ (own_w hw 20 rfl)) (mvT hZ (own_w hw 21 rfl)) (mvT hZ (own_w hw 22 rfl)) (mvT hZ (own_w hw 23 rfl)) (by decide) (backOf (W := 0) (rm22 l Z a0 hw [] b86 b72 k87 ((if (((p2.toUInt32 >>> ((0 : Int32) &&& 31).toUInt32).toInt32) &&& (1 : Int32)) = (0 : Int32) then (0 : Int32) else (1 : Int32))) ((if (((p2.toUInt32 >>> ((1 : Int32) &&& 31).toUInt32).toInt32) &&& (1 : Int32)) = (0 : Int32) then (0 : Int32) else (1 : Int32))) ((if (((p2.toUInt32 >>> ((0 : Int32) &&& 31).toUInt32).toInt32) &&& (1 : Int32)) = (0 : Int32) then (0 : Int32) else (1 : Int32))) ((if (((p2.toUInt32 >>> ((1 : Int32) &&& 31).toUInt32).toInt32) &&& (1 : Int32)) = (0 : Int32) then (0 : Int32) else (1 : Int32))) p2 T85.heap n0 O85 g_b86 g_b72 OV92 (by have q0 := (by split <;> decide : 0 ≤ (if (((p2.toUInt32 >>> ((0 : Int32) &&& 31).toUInt32).toInt32) &&& (1 : Int32)) = (0 : Int32) then (0 : Int32) else (1 : Int32)).toInt ∧ (if (((p2.toUInt32 >>> ((0 : Int32) &&& 31).toUInt32).toInt32) &&& (1 : Int32)) = (0 : Int32) then (0 : Int32) else (1 : Int32)).toInt ≤ 1); omega) (by have q0 := (by split <;> decide : 0 ≤ (if (((p2.toUInt32 >>> ((1 : Int32) &&& 31).toUInt32).toInt32) &&& (1 : Int32)) = (0 : Int32) then (0 : Int32) else (1 : Int32)).toInt ∧ (if (((p2.toUInt32 >>> ((1 : Int32) &&& 31).toUInt32).toInt32) &&& (1 : Int32)) = (0 : Int32) then (0 : Int32) else (1 : Int32)).toInt ≤ 1); omega) (by have q0 := (by split <;> decide : 0 ≤ (if (((p2.toUInt32 >>> ((0 : Int32) &&& 31).toUInt32).toInt32) &&& (1 : Int32)) = (0 : Int32) then (0 : Int32) else (1 : Int32)).toInt ∧ (if (((p2.toUInt32 >>> ((0 : Int32) &&& 31).toUInt32).toInt32) &&& (1 : Int32)) = (0 : Int32) then (0 : Int32) else (1 : Int32)).toInt ≤ 1); omega) (by have q0 := (by split <;> decide : 0 ≤ (if (((p2.toUInt32 >>> ((1 : Int32) &&& 31).toUInt32).toInt32) &&& (1 : Int32)) = (0 : Int32) then (0 : Int32) else (1 : Int32)).toInt ∧ (if (((p2.toUInt32 >>> ((1 : Int32) &&& 31).toUInt32).toInt32) &&& (1 : Int32)) = (0 : Int32) then (0 : Int32) else (1 : Int32)).toInt ≤ 1); omega)) hZ (own_w hw 23 rfl) (own_w hw 22 rfl) (by decide) (by decide)) (g := (mkF m 124 #[.val (.int p1), .val (.int p2), .val (.int (2 : Int32)), .val (.ref b72), .val (.ref b86)] [(.int (3 : Int32)), (.int p2), (.int (2 : Int32)), (.ref b72), (.ref b86)])) rfl (by rw [hml]; rfl) (argsL := [(.ref b86), (.ref b72), (.int (2 : Int32)), (.int p2), (.int (3 : Int32))]) (rest := []) (lenOf pd2 rfl) rfl (by show 2 * 0 + _ ≤ _; exact Nat.le_of_eq rfl) (hb hby at_124) (fun _ _ => ⟨rfl, e129, (by decide : 4 + 0 ≤ _), (by decide : 60 + 0 ≤ _)⟩)
            dsimp only [Pt.U, Pt.locs, Pt.cells, Pt.slots] at X130 l130 y130 z130 st130 hQ130
            subst l130 y130 z130
            have X130 : Stand p l e room_1 (s.setVm T85.vm) m #[(.int p1), (.int p2)] below meth c T130 _ 4 60 := X130
            obtain ⟨rfl, Nq131, e132⟩ := hQ130
            have N130 := Fr.app N127 Nq131
            obtain ⟨fs, hr, hrun, hended, hRE⟩ := X130.leaveW hS85 (by rw [e132]; exact (Nat.le_refl _)) (v := some (.int (1 : Int32))) (fun h => by rw [hret] at h; cases h)
            refine ⟨_, _, pre115 _ ?_, hrun, hended, _, _, rfl, ?_, hRE.1, hRE.2.1, hRE.2.2.1, hRE.2.2.2.mono (by decide) (by decide)⟩
            ·
              show Steps p.tables e below (T101.setTop (mkF m 100 #[.val (.int p1), .val (.int p2), .val (.int (2 : Int32)), .val (.ref b72), .val (.ref b86)] [(.int (1 : Int32)), (.int p2), (.int (2 : Int32)), (.ref b72), (.ref b86)])) _
              refine st114 _ ?_
              refine XS.ifNo X114.here hx rfl (hb hby at_103) rfl ((if0 _ _).trans (feq (by decide : ¬ ((1 : Int32) = (0 : Int32)))).1) ?_
              refine XS.aload X114.here hx rfl (hb hby at_106) rfl rfl ?_
              refine XS.aloadN X114.here hx rfl (hb hby at_108) rfl rfl ?_
              refine XS.iloadN X114.here hx rfl (hb hby at_109) rfl ?_
              refine XS.iloadN X114.here hx rfl (hb hby at_110) rfl ?_
              refine XS.iconst X114.here hx rfl (hb hby at_111) ?_
              refine st127 _ ?_
              refine XS.ifNo X127.here hx rfl (hb hby at_115) rfl ((if0 _ _).trans (feq (by decide : ¬ ((1 : Int32) = (0 : Int32)))).1) ?_
              refine XS.aload X127.here hx rfl (hb hby at_118) rfl rfl ?_
              refine XS.aloadN X127.here hx rfl (hb hby at_120) rfl rfl ?_
              refine XS.iloadN X127.here hx rfl (hb hby at_121) rfl ?_
              refine XS.iloadN X127.here hx rfl (hb hby at_122) rfl ?_
              refine XS.iconst X127.here hx rfl (hb hby at_123) ?_
              refine st130 _ ?_
              refine XS.ifNo X130.here hx rfl (hb hby at_127) rfl ((if0 _ _).trans (feq (by decide : ¬ ((1 : Int32) = (0 : Int32)))).1) ?_
              refine XS.iconst X130.here hx rfl (hb hby at_130) ?_
              refine XS.goto X130.here hx rfl (pc0 := 131) (pc' := 135) rfl (hb hby at_131) (by decide) (by decide) ?_
              show Steps p.tables e below (T130.setTop (mkF m 135 #[.val (.int p1), .val (.int p2), .val (.int (2 : Int32)), .val (.ref b72), .val (.ref b86)] [(.int (1 : Int32))])) _
              exact retN X130 hx (t := .boolean) hret (by simp) (hb hby at_135) hr
            ·
              show Q0 n0 _ T130.heap _
              rw [e132]
              exact ⟨rfl, N130⟩
          ·
            exact absurd (rfl : (if (((p2.toUInt32 >>> ((1 : Int32) &&& 31).toUInt32).toInt32) &&& (1 : Int32)) = (0 : Int32) then (0 : Int32) else (1 : Int32)) = (if (((p2.toUInt32 >>> ((1 : Int32) &&& 31).toUInt32).toInt32) &&& (1 : Int32)) = (0 : Int32) then (0 : Int32) else (1 : Int32))) hc121
          ·
            exact absurd (rfl : (if (((p2.toUInt32 >>> ((1 : Int32) &&& 31).toUInt32).toInt32) &&& (1 : Int32)) = (0 : Int32) then (0 : Int32) else (1 : Int32)) = (if (((p2.toUInt32 >>> ((1 : Int32) &&& 31).toUInt32).toInt32) &&& (1 : Int32)) = (0 : Int32) then (0 : Int32) else (1 : Int32))) hc124
        ·
          exact absurd (rfl : (if (((p2.toUInt32 >>> ((0 : Int32) &&& 31).toUInt32).toInt32) &&& (1 : Int32)) = (0 : Int32) then (0 : Int32) else (1 : Int32)) = (if (((p2.toUInt32 >>> ((0 : Int32) &&& 31).toUInt32).toInt32) &&& (1 : Int32)) = (0 : Int32) then (0 : Int32) else (1 : Int32))) hc108
        ·
          exact absurd (rfl : (if (((p2.toUInt32 >>> ((0 : Int32) &&& 31).toUInt32).toInt32) &&& (1 : Int32)) = (0 : Int32) then (0 : Int32) else (1 : Int32)) = (if (((p2.toUInt32 >>> ((0 : Int32) &&& 31).toUInt32).toInt32) &&& (1 : Int32)) = (0 : Int32) then (0 : Int32) else (1 : Int32))) hc111
      ·
        by_cases hc133 : ((p1 &&& (2147483647 : Int32)) % (5 : Int32)) = (3 : Int32)
        ·
          have pre134 : ∀ t, Steps p.tables e below (s₁.setTop (mkF m 8 #[.val (.int p1), .val (.int p2), .val (.int (3 : Int32)), .unset, .unset] [(.int (3 : Int32))])) t → Steps p.tables e below (s₁.setTop (entryFrame m #[(.int p1), (.int p2)] maxLocals)) t := fun t k => pre1 t (by rw [hc133]; exact k)
          obtain ⟨T135, h135, k135, X135, e135, E135, A135, EX135, st135⟩ := newPE X0 hx hZ (own_w hw 1 rfl) e0 (g := (mkF m 8 #[.val (.int p1), .val (.int p2), .val (.int (3 : Int32)), .unset, .unset] [(.int (3 : Int32))])) rfl (hb hby at_8) rfl (by decide) (cap := 3) (by decide) (by decide) (by decide) (by decide) (ad := "[Z") (by decide)
          obtain ⟨b135, g135⟩ : ∃ z, z = h0.size := ⟨_, rfl⟩
          rw [← g135] at A135 EX135 st135
          have M135 : h0.size ≤ h135.size := Nat.le_trans (Nat.le_refl _) E135.1
          have O135 := Old.ext O0 E135
          have sz_b135 : h0.size ≤ b135 := Nat.le_of_eq g135.symm
          have g_b135 : n0 ≤ b135 := Nat.le_trans (own_oz O0) (Nat.le_trans (Nat.le_refl _) sz_b135)
          have V135_0 := Arv.new A135 (by decide)
          have V135 : Arv Z h135 b135 k135 .boolean (3 : Int32) [(.int (0 : Int32)), (.int (0 : Int32)), (.int (0 : Int32))] (.int (0 : Int32)) := V135_0.pad (pad_rep [] (.int (0 : Int32)) 3)
          obtain ⟨_, _, ⟨T136, L136, c136, n136⟩, -, X136, ⟨Lc136, hQ136, l136, y136, z136⟩, st136⟩ := Jvm.LawKit.callS X135 hx (y := yn3) hown (mvT hZ (own_w hw 24 rfl)) (mvT hZ (own_w hw 25 rfl)) (mvT hZ (own_w hw 22 rfl)) (mvT hZ (own_w hw 26 rfl)) (by decide) (backOf (W := 2) (rm7 l Z a0 hw [] p2 h135 n0 O135 ) hZ (own_w hw 26 rfl) (own_w hw 22 rfl) (by decide) (by decide)) (g := (mkF m 19 #[.val (.int p1), .val (.int p2), .val (.int (3 : Int32)), .val (.ref b135), .unset] [(.int (0 : Int32)), (.int p2), (.int (0 : Int32)), (.ref b135)])) rfl (by rw [hml]; rfl) (argsL := [(.int p2), (.int (0 : Int32))]) (rest := [(.int (0 : Int32)), (.ref b135)]) (lenOf pd3 rfl) rfl (by show 2 * 0 + _ ≤ _; exact Nat.le_of_eq rfl) (hb hby at_19) (fun _ _ => ⟨rfl, e135, (by decide : 1 + 0 ≤ _), (by decide : 3 + 0 ≤ _)⟩)
          dsimp only [Pt.U, Pt.locs, Pt.cells, Pt.slots] at X136 l136 y136 z136 st136 hQ136
          subst l136 y136 z136
          have X136 : Stand p l e room_1 s m #[(.int p1), (.int p2)] below meth c T136 _ 1 3 := X136
          obtain ⟨rfl, Nq137, e138⟩ := hQ136
          have N136 := Fr.app N0 Nq137
          obtain ⟨cl139, Ar139, qa139, Sa139, Na139, Ha139, Ga139⟩ := id (V135)
          have hin139 : ¬ ((0 : Int32) < 0 ∨ cl139.slots.size ≤ ((0 : Int32)).toNatClampNeg) := inb_of Sa139 ⟨by decide, by decide⟩
          have hbz140 : 0 ≤ (if (((p2.toUInt32 >>> ((0 : Int32) &&& 31).toUInt32).toInt32) &&& (1 : Int32)) = (0 : Int32) then (0 : Int32) else (1 : Int32)).toInt ∧ (if (((p2.toUInt32 >>> ((0 : Int32) &&& 31).toUInt32).toInt32) &&& (1 : Int32)) = (0 : Int32) then (0 : Int32) else (1 : Int32)).toInt ≤ 1 := by have q0 := (by split <;> decide : 0 ≤ (if (((p2.toUInt32 >>> ((0 : Int32) &&& 31).toUInt32).toInt32) &&& (1 : Int32)) = (0 : Int32) then (0 : Int32) else (1 : Int32)).toInt ∧ (if (((p2.toUInt32 >>> ((0 : Int32) &&& 31).toUInt32).toInt32) &&& (1 : Int32)) = (0 : Int32) then (0 : Int32) else (1 : Int32)).toInt ≤ 1); omega
          obtain ⟨T141, h141, X141, e141, W141, st141⟩ := stZ X136 hx hZ e138 Ar139 (j := (0 : Int32)) hin139 (g := (mkF m 22 #[.val (.int p1), .val (.int p2), .val (.int (3 : Int32)), .val (.ref b135), .unset] [(.int (if (((p2.toUInt32 >>> ((0 : Int32) &&& 31).toUInt32).toInt32) &&& (1 : Int32)) = (0 : Int32) then (0 : Int32) else (1 : Int32))), (.int (0 : Int32)), (.ref b135)])) rfl rfl (hb hby at_22)
          rw [own_nz hbz140] at W141
          have V141 : Arv Z h141 b135 k135 .boolean (3 : Int32) [(.int (if (((p2.toUInt32 >>> ((0 : Int32) &&& 31).toUInt32).toInt32) &&& (1 : Int32)) = (0 : Int32) then (0 : Int32) else (1 : Int32))), (.int (0 : Int32)), (.int (0 : Int32))] (.int (0 : Int32)) := Arv.set Ar139 qa139 Sa139 Na139 Ha139 Ga139 (own_fz hbz140) W141 0 rfl (Nat.le_of_ble_eq_true rfl)
          have N141 := Fr.snoc X141 N136 g_b135
          have M141 : h0.size ≤ h141.size := Nat.le_trans M135 (Nat.le_of_eq W141.size.symm)
          have O141 := Old.wr O135 W141 g_b135
          obtain ⟨_, _, ⟨T142, L142, c142, n142⟩, -, X142, ⟨Lc142, hQ142, l142, y142, z142⟩, st142⟩ := Jvm.LawKit.callS X141 hx (y := yn3) hown (mvT hZ (own_w hw 24 rfl)) (mvT hZ (own_w hw 25 rfl)) (mvT hZ (own_w hw 22 rfl)) (mvT hZ (own_w hw 26 rfl)) (by decide) (backOf (W := 2) (rm16 l Z a0 hw [] p2 h141 n0 O141 ) hZ (own_w hw 26 rfl) (own_w hw 22 rfl) (by decide) (by decide)) (g := (mkF m 32 #[.val (.int p1), .val (.int p2), .val (.int (3 : Int32)), .val (.ref b135), .unset] [(.int (1 : Int32)), (.int p2), (.int (1 : Int32)), (.ref b135)])) rfl (by rw [hml]; rfl) (argsL := [(.int p2), (.int (1 : Int32))]) (rest := [(.int (1 : Int32)), (.ref b135)]) (lenOf pd3 rfl) rfl (by show 2 * 0 + _ ≤ _; exact Nat.le_of_eq rfl) (hb hby at_32) (fun _ _ => ⟨rfl, e141, (by decide : 1 + 0 ≤ _), (by decide : 3 + 0 ≤ _)⟩)
          dsimp only [Pt.U, Pt.locs, Pt.cells, Pt.slots] at X142 l142 y142 z142 st142 hQ142
          subst l142 y142 z142
          have X142 : Stand p l e room_1 s m #[(.int p1), (.int p2)] below meth c T142 _ 1 3 := X142
          obtain ⟨rfl, Nq143, e144⟩ := hQ142
          have N142 := Fr.app N141 Nq143
          obtain ⟨cl145, Ar145, qa145, Sa145, Na145, Ha145, Ga145⟩ := id (V141)
          have hin145 : ¬ ((1 : Int32) < 0 ∨ cl145.slots.size ≤ ((1 : Int32)).toNatClampNeg) := inb_of Sa145 ⟨by decide, by decide⟩
          have hbz146 : 0 ≤ (if (((p2.toUInt32 >>> ((1 : Int32) &&& 31).toUInt32).toInt32) &&& (1 : Int32)) = (0 : Int32) then (0 : Int32) else (1 : Int32)).toInt ∧ (if (((p2.toUInt32 >>> ((1 : Int32) &&& 31).toUInt32).toInt32) &&& (1 : Int32)) = (0 : Int32) then (0 : Int32) else (1 : Int32)).toInt ≤ 1 := by have q0 := (by split <;> decide : 0 ≤ (if (((p2.toUInt32 >>> ((1 : Int32) &&& 31).toUInt32).toInt32) &&& (1 : Int32)) = (0 : Int32) then (0 : Int32) else (1 : Int32)).toInt ∧ (if (((p2.toUInt32 >>> ((1 : Int32) &&& 31).toUInt32).toInt32) &&& (1 : Int32)) = (0 : Int32) then (0 : Int32) else (1 : Int32)).toInt ≤ 1); omega
          obtain ⟨T147, h147, X147, e147, W147, st147⟩ := stZ X142 hx hZ e144 Ar145 (j := (1 : Int32)) hin145 (g := (mkF m 35 #[.val (.int p1), .val (.int p2), .val (.int (3 : Int32)), .val (.ref b135), .unset] [(.int (if (((p2.toUInt32 >>> ((1 : Int32) &&& 31).toUInt32).toInt32) &&& (1 : Int32)) = (0 : Int32) then (0 : Int32) else (1 : Int32))), (.int (1 : Int32)), (.ref b135)])) rfl rfl (hb hby at_35)
          rw [own_nz hbz146] at W147
          have V147 : Arv Z h147 b135 k135 .boolean (3 : Int32) [(.int (if (((p2.toUInt32 >>> ((0 : Int32) &&& 31).toUInt32).toInt32) &&& (1 : Int32)) = (0 : Int32) then (0 : Int32) else (1 : Int32))), (.int (if (((p2.toUInt32 >>> ((1 : Int32) &&& 31).toUInt32).toInt32) &&& (1 : Int32)) = (0 : Int32) then (0 : Int32) else (1 : Int32))), (.int (0 : Int32))] (.int (0 : Int32)) := Arv.set Ar145 qa145 Sa145 Na145 Ha145 Ga145 (own_fz hbz146) W147 1 rfl (Nat.le_of_ble_eq_true rfl)
          have N147 := Fr.snoc X147 N142 g_b135
          have M147 : h0.size ≤ h147.size := Nat.le_trans M141 (Nat.le_of_eq W147.size.symm)
          have O147 := Old.wr O141 W147 g_b135
          obtain ⟨_, _, ⟨T148, L148, c148, n148⟩, -, X148, ⟨Lc148, hQ148, l148, y148, z148⟩, st148⟩ := Jvm.LawKit.callS X147 hx (y := yn3) hown (mvT hZ (own_w hw 24 rfl)) (mvT hZ (own_w hw 25 rfl)) (mvT hZ (own_w hw 22 rfl)) (mvT hZ (own_w hw 26 rfl)) (by decide) (backOf (W := 2) (rm23 l Z a0 hw [] p2 h147 n0 O147 ) hZ (own_w hw 26 rfl) (own_w hw 22 rfl) (by decide) (by decide)) (g := (mkF m 45 #[.val (.int p1), .val (.int p2), .val (.int (3 : Int32)), .val (.ref b135), .unset] [(.int (2 : Int32)), (.int p2), (.int (2 : Int32)), (.ref b135)])) rfl (by rw [hml]; rfl) (argsL := [(.int p2), (.int (2 : Int32))]) (rest := [(.int (2 : Int32)), (.ref b135)]) (lenOf pd3 rfl) rfl (by show 2 * 0 + _ ≤ _; exact Nat.le_of_eq rfl) (hb hby at_45) (fun _ _ => ⟨rfl, e147, (by decide : 1 + 0 ≤ _), (by decide : 3 + 0 ≤ _)⟩)
          dsimp only [Pt.U, Pt.locs, Pt.cells, Pt.slots] at X148 l148 y148 z148 st148 hQ148
          subst l148 y148 z148
          have X148 : Stand p l e room_1 s m #[(.int p1), (.int p2)] below meth c T148 _ 1 3 := X148
          obtain ⟨rfl, Nq149, e150⟩ := hQ148
          have N148 := Fr.app N147 Nq149
          obtain ⟨cl151, Ar151, qa151, Sa151, Na151, Ha151, Ga151⟩ := id (V147)
          have hin151 : ¬ ((2 : Int32) < 0 ∨ cl151.slots.size ≤ ((2 : Int32)).toNatClampNeg) := inb_of Sa151 ⟨by decide, by decide⟩
          have hbz152 : 0 ≤ (if (((p2.toUInt32 >>> ((2 : Int32) &&& 31).toUInt32).toInt32) &&& (1 : Int32)) = (0 : Int32) then (0 : Int32) else (1 : Int32)).toInt ∧ (if (((p2.toUInt32 >>> ((2 : Int32) &&& 31).toUInt32).toInt32) &&& (1 : Int32)) = (0 : Int32) then (0 : Int32) else (1 : Int32)).toInt ≤ 1 := by have q0 := (by split <;> decide : 0 ≤ (if (((p2.toUInt32 >>> ((2 : Int32) &&& 31).toUInt32).toInt32) &&& (1 : Int32)) = (0 : Int32) then (0 : Int32) else (1 : Int32)).toInt ∧ (if (((p2.toUInt32 >>> ((2 : Int32) &&& 31).toUInt32).toInt32) &&& (1 : Int32)) = (0 : Int32) then (0 : Int32) else (1 : Int32)).toInt ≤ 1); omega
          obtain ⟨T153, h153, X153, e153, W153, st153⟩ := stZ X148 hx hZ e150 Ar151 (j := (2 : Int32)) hin151 (g := (mkF m 48 #[.val (.int p1), .val (.int p2), .val (.int (3 : Int32)), .val (.ref b135), .unset] [(.int (if (((p2.toUInt32 >>> ((2 : Int32) &&& 31).toUInt32).toInt32) &&& (1 : Int32)) = (0 : Int32) then (0 : Int32) else (1 : Int32))), (.int (2 : Int32)), (.ref b135)])) rfl rfl (hb hby at_48)
          rw [own_nz hbz152] at W153
          have V153 : Arv Z h153 b135 k135 .boolean (3 : Int32) [(.int (if (((p2.toUInt32 >>> ((0 : Int32) &&& 31).toUInt32).toInt32) &&& (1 : Int32)) = (0 : Int32) then (0 : Int32) else (1 : Int32))), (.int (if (((p2.toUInt32 >>> ((1 : Int32) &&& 31).toUInt32).toInt32) &&& (1 : Int32)) = (0 : Int32) then (0 : Int32) else (1 : Int32))), (.int (if (((p2.toUInt32 >>> ((2 : Int32) &&& 31).toUInt32).toInt32) &&& (1 : Int32)) = (0 : Int32) then (0 : Int32) else (1 : Int32)))] (.int (0 : Int32)) := Arv.set Ar151 qa151 Sa151 Na151 Ha151 Ga151 (own_fz hbz152) W153 2 rfl (Nat.le_of_ble_eq_true rfl)
          have N153 := Fr.snoc X153 N148 g_b135
          have M153 : h0.size ≤ h153.size := Nat.le_trans M147 (Nat.le_of_eq W153.size.symm)
          have O153 := Old.wr O147 W153 g_b135
          obtain ⟨_, _, ⟨T154, L154, c154, n154⟩, -, X154, hSn154, hgr154, ⟨Lc154, hQ154, l154, y154, z154⟩, st154⟩ := callSS X153 hx (y := yn1) hown (mvT hZ (own_w hw 2 rfl)) (mvT hZ (own_w hw 3 rfl)) (mvT hZ (own_w hw 4 rfl)) (mvT hZ (own_w hw 5 rfl)) (by decide) (backOfS (W := 0) (rm25 l Z a0 hw w1 w2 G [] b135 ((if (((p2.toUInt32 >>> ((0 : Int32) &&& 31).toUInt32).toInt32) &&& (1 : Int32)) = (0 : Int32) then (0 : Int32) else (1 : Int32))) ((if (((p2.toUInt32 >>> ((1 : Int32) &&& 31).toUInt32).toInt32) &&& (1 : Int32)) = (0 : Int32) then (0 : Int32) else (1 : Int32))) ((if (((p2.toUInt32 >>> ((2 : Int32) &&& 31).toUInt32).toInt32) &&& (1 : Int32)) = (0 : Int32) then (0 : Int32) else (1 : Int32))) k135 h153 n0 O153 g_b135 (by have q0 := (by split <;> decide : 0 ≤ (if (((p2.toUInt32 >>> ((0 : Int32) &&& 31).toUInt32).toInt32) &&& (1 : Int32)) = (0 : Int32) then (0 : Int32) else (1 : Int32)).toInt ∧ (if (((p2.toUInt32 >>> ((0 : Int32) &&& 31).toUInt32).toInt32) &&& (1 : Int32)) = (0 : Int32) then (0 : Int32) else (1 : Int32)).toInt ≤ 1); omega) (by have q0 := (by split <;> decide : 0 ≤ (if (((p2.toUInt32 >>> ((1 : Int32) &&& 31).toUInt32).toInt32) &&& (1 : Int32)) = (0 : Int32) then (0 : Int32) else (1 : Int32)).toInt ∧ (if (((p2.toUInt32 >>> ((1 : Int32) &&& 31).toUInt32).toInt32) &&& (1 : Int32)) = (0 : Int32) then (0 : Int32) else (1 : Int32)).toInt ≤ 1); omega) (by have q0 := (by split <;> decide : 0 ≤ (if (((p2.toUInt32 >>> ((2 : Int32) &&& 31).toUInt32).toInt32) &&& (1 : Int32)) = (0 : Int32) then (0 : Int32) else (1 : Int32)).toInt ∧ (if (((p2.toUInt32 >>> ((2 : Int32) &&& 31).toUInt32).toInt32) &&& (1 : Int32)) = (0 : Int32) then (0 : Int32) else (1 : Int32)).toInt ≤ 1); omega) V153) hZ (own_w hw 5 rfl) (own_w hw 4 rfl) (by decide) (by decide)) (g := (mkF m 63 #[.val (.int p1), .val (.int p2), .val (.int (3 : Int32)), .val (.ref b135), .unset] [(.ref b135)])) rfl (by rw [hml]; rfl) (argsL := [(.ref b135)]) (rest := []) (lenOf pd1 rfl) rfl (by show 2 * 0 + _ ≤ _; exact Nat.le_of_eq rfl) (hb hby at_63) (fun _ _ => ⟨rfl, e153, (by decide : 1 + 3 ≤ _), (by decide : 3 + 59 ≤ _)⟩)
          dsimp only [Pt.U, Pt.locs, Pt.cells, Pt.slots] at X154 l154 y154 z154 st154 hQ154
          subst l154 y154 z154
          have hS154 : s.Since T154.vm T154.heap.size := hSn154
          have hZ := State.Warmed39.trans (t := s) hZ hS154.1
          have hown : (s.setVm T154.vm).vm.findClass "com/example/castless/castless/PrimitiveArraysBox334PinLaw" = some m.cls := by rw [show (s.setVm T154.vm).vm = T154.vm from rfl, hS154.1.alike.findClass]; exact hown
          have X154 : Stand p l e room_1 (s.setVm T154.vm) m #[(.int p1), (.int p2)] below meth c T154 _ 4 62 := X154
          obtain ⟨b155, k156, v157, v158, v159, rfl, Nq160, K161, sz_b155, OV162, f163, f164, f165, f166, f167, f168, f169, f170⟩ := hQ154
          have N154 := Fr.app N153 Nq160
          have g_b155 : n0 ≤ b155 := Nat.le_trans (own_oz O153) sz_b155
          have M154 : h0.size ≤ T154.heap.size := Nat.le_trans M153 K161.1
          have O154 := Old.keep O153 K161 all0
          obtain ⟨cl171, Ar171, qa171, Sa171, Na171, Ha171, Ga171⟩ := id (f163)
          have f172 := (V153.keep K161 nin0)
          obtain ⟨_, _, ⟨T173, L173, c173, n173⟩, -, X173, ⟨Lc173, hQ173, l173, y173, z173⟩, st173⟩ := Jvm.LawKit.callS X154 hx (y := yn2) hown (mvT hZ (own_w hw 20 rfl)) (mvT hZ (own_w hw 21 rfl)) (mvT hZ (own_w hw 22 rfl)) (mvT hZ (own_w hw 23 rfl)) (by decide) (backOf (W := 0) (rm26 l Z a0 hw [] b155 b135 k156 ((if (((p2.toUInt32 >>> ((0 : Int32) &&& 31).toUInt32).toInt32) &&& (1 : Int32)) = (0 : Int32) then (0 : Int32) else (1 : Int32))) ((if (((p2.toUInt32 >>> ((1 : Int32) &&& 31).toUInt32).toInt32) &&& (1 : Int32)) = (0 : Int32) then (0 : Int32) else (1 : Int32))) ((if (((p2.toUInt32 >>> ((2 : Int32) &&& 31).toUInt32).toInt32) &&& (1 : Int32)) = (0 : Int32) then (0 : Int32) else (1 : Int32))) ((if (((p2.toUInt32 >>> ((0 : Int32) &&& 31).toUInt32).toInt32) &&& (1 : Int32)) = (0 : Int32) then (0 : Int32) else (1 : Int32))) ((if (((p2.toUInt32 >>> ((1 : Int32) &&& 31).toUInt32).toInt32) &&& (1 : Int32)) = (0 : Int32) then (0 : Int32) else (1 : Int32))) ((if (((p2.toUInt32 >>> ((2 : Int32) &&& 31).toUInt32).toInt32) &&& (1 : Int32)) = (0 : Int32) then (0 : Int32) else (1 : Int32))) v157 v158 v159 k135 p2 T154.heap n0 O154 g_b155 g_b135 OV162 (by have q0 := (by split <;> decide : 0 ≤ (if (((p2.toUInt32 >>> ((0 : Int32) &&& 31).toUInt32).toInt32) &&& (1 : Int32)) = (0 : Int32) then (0 : Int32) else (1 : Int32)).toInt ∧ (if (((p2.toUInt32 >>> ((0 : Int32) &&& 31).toUInt32).toInt32) &&& (1 : Int32)) = (0 : Int32) then (0 : Int32) else (1 : Int32)).toInt ≤ 1); omega) (by have q0 := (by split <;> decide : 0 ≤ (if (((p2.toUInt32 >>> ((1 : Int32) &&& 31).toUInt32).toInt32) &&& (1 : Int32)) = (0 : Int32) then (0 : Int32) else (1 : Int32)).toInt ∧ (if (((p2.toUInt32 >>> ((1 : Int32) &&& 31).toUInt32).toInt32) &&& (1 : Int32)) = (0 : Int32) then (0 : Int32) else (1 : Int32)).toInt ≤ 1); omega) (by have q0 := (by split <;> decide : 0 ≤ (if (((p2.toUInt32 >>> ((2 : Int32) &&& 31).toUInt32).toInt32) &&& (1 : Int32)) = (0 : Int32) then (0 : Int32) else (1 : Int32)).toInt ∧ (if (((p2.toUInt32 >>> ((2 : Int32) &&& 31).toUInt32).toInt32) &&& (1 : Int32)) = (0 : Int32) then (0 : Int32) else (1 : Int32)).toInt ≤ 1); omega) (by have q0 := (by split <;> decide : 0 ≤ (if (((p2.toUInt32 >>> ((0 : Int32) &&& 31).toUInt32).toInt32) &&& (1 : Int32)) = (0 : Int32) then (0 : Int32) else (1 : Int32)).toInt ∧ (if (((p2.toUInt32 >>> ((0 : Int32) &&& 31).toUInt32).toInt32) &&& (1 : Int32)) = (0 : Int32) then (0 : Int32) else (1 : Int32)).toInt ≤ 1); omega) (by have q0 := (by split <;> decide : 0 ≤ (if (((p2.toUInt32 >>> ((1 : Int32) &&& 31).toUInt32).toInt32) &&& (1 : Int32)) = (0 : Int32) then (0 : Int32) else (1 : Int32)).toInt ∧ (if (((p2.toUInt32 >>> ((1 : Int32) &&& 31).toUInt32).toInt32) &&& (1 : Int32)) = (0 : Int32) then (0 : Int32) else (1 : Int32)).toInt ≤ 1); omega) (by have q0 := (by split <;> decide : 0 ≤ (if (((p2.toUInt32 >>> ((2 : Int32) &&& 31).toUInt32).toInt32) &&& (1 : Int32)) = (0 : Int32) then (0 : Int32) else (1 : Int32)).toInt ∧ (if (((p2.toUInt32 >>> ((2 : Int32) &&& 31).toUInt32).toInt32) &&& (1 : Int32)) = (0 : Int32) then (0 : Int32) else (1 : Int32)).toInt ≤ 1); omega) f163 f172 f165 f166) hZ (own_w hw 23 rfl) (own_w hw 22 rfl) (by decide) (by decide)) (g := (mkF m 88 #[.val (.int p1), .val (.int p2), .val (.int (3 : Int32)), .val (.ref b135), .val (.ref b155)] [(.int (0 : Int32)), (.int p2), (.int (3 : Int32)), (.ref b135), (.ref b155)])) rfl (by rw [hml]; rfl) (argsL := [(.ref b155), (.ref b135), (.int (3 : Int32)), (.int p2), (.int (0 : Int32))]) (rest := []) (lenOf pd2 rfl) rfl (by show 2 * 0 + _ ≤ _; exact Nat.le_of_eq rfl) (hb hby at_88) (fun _ _ => ⟨rfl, rfl, (by decide : 4 + 0 ≤ _), (by decide : 62 + 0 ≤ _)⟩)
          dsimp only [Pt.U, Pt.locs, Pt.cells, Pt.slots] at X173 l173 y173 z173 st173 hQ173
          subst l173 y173 z173
          have pre174 : ∀ t, Steps p.tables e below (T154.setTop (mkF m 88 #[.val (.int p1), .val (.int p2), .val (.int (3 : Int32)), .val (.ref b135), .val (.ref b155)] [(.int (0 : Int32)), (.int p2), (.int (3 : Int32)), (.ref b135), (.ref b155)])) t → Steps p.tables e below (s₁.setTop (entryFrame m #[(.int p1), (.int p2)] maxLocals)) t := fun t k => by
            refine pre134 _ ?_
            show Steps p.tables e below (s₁.setTop (mkF m 8 #[.val (.int p1), .val (.int p2), .val (.int (3 : Int32)), .unset, .unset] [(.int (3 : Int32))])) _
            refine st135 _ ?_
            refine XS.astoreN X135.here hx rfl (hb hby at_10) rfl rfl (l' := #[.val (.int p1), .val (.int p2), .val (.int (3 : Int32)), .val (.ref b135), .unset]) rfl ?_
            refine XS.iloadN X135.here hx rfl (hb hby at_11) rfl ?_
            refine XS.ifNo X135.here hx rfl (hb hby at_12) rfl ((if0 _ _).trans (tlt (by decide : (0 : Int32) < (3 : Int32))).2.2.2) ?_
            refine XS.aloadN X135.here hx rfl (hb hby at_15) rfl rfl ?_
            refine XS.iconst X135.here hx rfl (hb hby at_16) ?_
            refine XS.iloadN X135.here hx rfl (hb hby at_17) rfl ?_
            refine XS.iconst X135.here hx rfl (hb hby at_18) ?_
            refine st136 _ ?_
            refine st141 _ ?_
            refine XS.iloadN X141.here hx rfl (hb hby at_23) rfl ?_
            refine XS.iconst X141.here hx rfl (hb hby at_24) ?_
            refine XS.icmpNo X141.here hx rfl (hb hby at_25) rfl (tlt (by decide : (1 : Int32) < (3 : Int32))).2.2.2 ?_
            refine XS.aloadN X141.here hx rfl (hb hby at_28) rfl rfl ?_
            refine XS.iconst X141.here hx rfl (hb hby at_29) ?_
            refine XS.iloadN X141.here hx rfl (hb hby at_30) rfl ?_
            refine XS.iconst X141.here hx rfl (hb hby at_31) ?_
            refine st142 _ ?_
            refine st147 _ ?_
            refine XS.iloadN X147.here hx rfl (hb hby at_36) rfl ?_
            refine XS.iconst X147.here hx rfl (hb hby at_37) ?_
            refine XS.icmpNo X147.here hx rfl (hb hby at_38) rfl (tlt (by decide : (2 : Int32) < (3 : Int32))).2.2.2 ?_
            refine XS.aloadN X147.here hx rfl (hb hby at_41) rfl rfl ?_
            refine XS.iconst X147.here hx rfl (hb hby at_42) ?_
            refine XS.iloadN X147.here hx rfl (hb hby at_43) rfl ?_
            refine XS.iconst X147.here hx rfl (hb hby at_44) ?_
            refine st148 _ ?_
            refine st153 _ ?_
            refine XS.iloadN X153.here hx rfl (hb hby at_49) rfl ?_
            refine XS.iconst X153.here hx rfl (hb hby at_50) ?_
            refine XS.icmpYes X153.here hx rfl (pc0 := 51) (pc' := 62) rfl (hb hby at_51) rfl (flt (by decide : ¬ ((3 : Int32) < (3 : Int32)))).2.2.2 (by decide) (by decide) ?_
            refine XS.aloadN X153.here hx rfl (hb hby at_62) rfl rfl ?_
            refine st154.trans ?_
            show Steps p.tables e below (T154.setTop (mkF m 66 #[.val (.int p1), .val (.int p2), .val (.int (3 : Int32)), .val (.ref b135), .unset] [(.ref b155)])) _
            refine XS.astore X154.here hx rfl (hb hby at_66) rfl rfl (l' := #[.val (.int p1), .val (.int p2), .val (.int (3 : Int32)), .val (.ref b135), .val (.ref b155)]) rfl ?_
            refine XS.aload X154.here hx rfl (hb hby at_68) rfl rfl ?_
            refine XS.ifnullNo X154.here hx rfl (hb hby at_70) rfl ?_
            refine XS.aload X154.here hx rfl (hb hby at_73) rfl rfl ?_
            refine X154.arraylength hx Ar171.1 (State.isArrayOf_alike hZ.alike Ar171.2.1) (g := (mkF m 75 #[.val (.int p1), .val (.int p2), .val (.int (3 : Int32)), .val (.ref b135), .val (.ref b155)] [(.ref b155)])) rfl rfl (hb hby at_75) _ ?_
            rw [len_of Sa171 Na171]
            refine XS.iloadN X154.here hx rfl (hb hby at_76) rfl ?_
            refine XS.icmpYes X154.here hx rfl (pc0 := 77) (pc' := 82) rfl (hb hby at_77) rfl (teq (by decide : (3 : Int32) = (3 : Int32))).1 (by decide) (by decide) ?_
            refine XS.aload X154.here hx rfl (hb hby at_82) rfl rfl ?_
            refine XS.aloadN X154.here hx rfl (hb hby at_84) rfl rfl ?_
            refine XS.iloadN X154.here hx rfl (hb hby at_85) rfl ?_
            refine XS.iloadN X154.here hx rfl (hb hby at_86) rfl ?_
            refine XS.iconst X154.here hx rfl (hb hby at_87) ?_
            exact k
          have X173 : Stand p l e room_1 (s.setVm T154.vm) m #[(.int p1), (.int p2)] below meth c T173 _ 4 62 := X173
          rcases hQ173 with ⟨hc175, hc176, rfl, Nq177, e178⟩ | ⟨hc179, hc180, rfl, Nq181, e182⟩ | ⟨hc183, rfl, Nq184, e185⟩
          ·
            have N173 := Fr.app N154 Nq177
            obtain ⟨_, _, ⟨T186, L186, c186, n186⟩, -, X186, ⟨Lc186, hQ186, l186, y186, z186⟩, st186⟩ := Jvm.LawKit.callS X173 hx (y := yn2) hown (mvT hZ (own_w hw 20 rfl)) (mvT hZ (own_w hw 21 rfl)) (mvT hZ (own_w hw 22 rfl)) (mvT hZ (own_w hw 23 rfl)) (by decide) (backOf (W := 0) (rm27 l Z a0 hw [] b155 b135 k156 ((if (((p2.toUInt32 >>> ((0 : Int32) &&& 31).toUInt32).toInt32) &&& (1 : Int32)) = (0 : Int32) then (0 : Int32) else (1 : Int32))) ((if (((p2.toUInt32 >>> ((1 : Int32) &&& 31).toUInt32).toInt32) &&& (1 : Int32)) = (0 : Int32) then (0 : Int32) else (1 : Int32))) ((if (((p2.toUInt32 >>> ((2 : Int32) &&& 31).toUInt32).toInt32) &&& (1 : Int32)) = (0 : Int32) then (0 : Int32) else (1 : Int32))) ((if (((p2.toUInt32 >>> ((0 : Int32) &&& 31).toUInt32).toInt32) &&& (1 : Int32)) = (0 : Int32) then (0 : Int32) else (1 : Int32))) ((if (((p2.toUInt32 >>> ((1 : Int32) &&& 31).toUInt32).toInt32) &&& (1 : Int32)) = (0 : Int32) then (0 : Int32) else (1 : Int32))) ((if (((p2.toUInt32 >>> ((2 : Int32) &&& 31).toUInt32).toInt32) &&& (1 : Int32)) = (0 : Int32) then (0 : Int32) else (1 : Int32))) v157 v158 v159 k135 p2 T154.heap n0 O154 g_b155 g_b135 OV162 (by have q0 := (by split <;> decide : 0 ≤ (if (((p2.toUInt32 >>> ((0 : Int32) &&& 31).toUInt32).toInt32) &&& (1 : Int32)) = (0 : Int32) then (0 : Int32) else (1 : Int32)).toInt ∧ (if (((p2.toUInt32 >>> ((0 : Int32) &&& 31).toUInt32).toInt32) &&& (1 : Int32)) = (0 : Int32) then (0 : Int32) else (1 : Int32)).toInt ≤ 1); omega) (by have q0 := (by split <;> decide : 0 ≤ (if (((p2.toUInt32 >>> ((1 : Int32) &&& 31).toUInt32).toInt32) &&& (1 : Int32)) = (0 : Int32) then (0 : Int32) else (1 : Int32)).toInt ∧ (if (((p2.toUInt32 >>> ((1 : Int32) &&& 31).toUInt32).toInt32) &&& (1 : Int32)) = (0 : Int32) then (0 : Int32) else (1 : Int32)).toInt ≤ 1); omega) (by have q0 := (by split <;> decide : 0 ≤ (if (((p2.toUInt32 >>> ((2 : Int32) &&& 31).toUInt32).toInt32) &&& (1 : Int32)) = (0 : Int32) then (0 : Int32) else (1 : Int32)).toInt ∧ (if (((p2.toUInt32 >>> ((2 : Int32) &&& 31).toUInt32).toInt32) &&& (1 : Int32)) = (0 : Int32) then (0 : Int32) else (1 : Int32)).toInt ≤ 1); omega) (by have q0 := (by split <;> decide : 0 ≤ (if (((p2.toUInt32 >>> ((0 : Int32) &&& 31).toUInt32).toInt32) &&& (1 : Int32)) = (0 : Int32) then (0 : Int32) else (1 : Int32)).toInt ∧ (if (((p2.toUInt32 >>> ((0 : Int32) &&& 31).toUInt32).toInt32) &&& (1 : Int32)) = (0 : Int32) then (0 : Int32) else (1 : Int32)).toInt ≤ 1); omega) (by have q0 := (by split <;> decide : 0 ≤ (if (((p2.toUInt32 >>> ((1 : Int32) &&& 31).toUInt32).toInt32) &&& (1 : Int32)) = (0 : Int32) then (0 : Int32) else (1 : Int32)).toInt ∧ (if (((p2.toUInt32 >>> ((1 : Int32) &&& 31).toUInt32).toInt32) &&& (1 : Int32)) = (0 : Int32) then (0 : Int32) else (1 : Int32)).toInt ≤ 1); omega) (by have q0 := (by split <;> decide : 0 ≤ (if (((p2.toUInt32 >>> ((2 : Int32) &&& 31).toUInt32).toInt32) &&& (1 : Int32)) = (0 : Int32) then (0 : Int32) else (1 : Int32)).toInt ∧ (if (((p2.toUInt32 >>> ((2 : Int32) &&& 31).toUInt32).toInt32) &&& (1 : Int32)) = (0 : Int32) then (0 : Int32) else (1 : Int32)).toInt ≤ 1); omega) f163 f172 f167 f168) hZ (own_w hw 23 rfl) (own_w hw 22 rfl) (by decide) (by decide)) (g := (mkF m 100 #[.val (.int p1), .val (.int p2), .val (.int (3 : Int32)), .val (.ref b135), .val (.ref b155)] [(.int (1 : Int32)), (.int p2), (.int (3 : Int32)), (.ref b135), (.ref b155)])) rfl (by rw [hml]; rfl) (argsL := [(.ref b155), (.ref b135), (.int (3 : Int32)), (.int p2), (.int (1 : Int32))]) (rest := []) (lenOf pd2 rfl) rfl (by show 2 * 0 + _ ≤ _; exact Nat.le_of_eq rfl) (hb hby at_100) (fun _ _ => ⟨rfl, e178, (by decide : 4 + 0 ≤ _), (by decide : 62 + 0 ≤ _)⟩)
            dsimp only [Pt.U, Pt.locs, Pt.cells, Pt.slots] at X186 l186 y186 z186 st186 hQ186
            subst l186 y186 z186
            have pre187 : ∀ t, Steps p.tables e below (T173.setTop (mkF m 100 #[.val (.int p1), .val (.int p2), .val (.int (3 : Int32)), .val (.ref b135), .val (.ref b155)] [(.int (1 : Int32)), (.int p2), (.int (3 : Int32)), (.ref b135), (.ref b155)])) t → Steps p.tables e below (s₁.setTop (entryFrame m #[(.int p1), (.int p2)] maxLocals)) t := fun t k => by
              refine pre174 _ ?_
              show Steps p.tables e below (T154.setTop (mkF m 88 #[.val (.int p1), .val (.int p2), .val (.int (3 : Int32)), .val (.ref b135), .val (.ref b155)] [(.int (0 : Int32)), (.int p2), (.int (3 : Int32)), (.ref b135), (.ref b155)])) _
              refine st173 _ ?_
              refine XS.ifNo X173.here hx rfl (hb hby at_91) rfl ((if0 _ _).trans (feq (by decide : ¬ ((1 : Int32) = (0 : Int32)))).1) ?_
              refine XS.aload X173.here hx rfl (hb hby at_94) rfl rfl ?_
              refine XS.aloadN X173.here hx rfl (hb hby at_96) rfl rfl ?_
              refine XS.iloadN X173.here hx rfl (hb hby at_97) rfl ?_
              refine XS.iloadN X173.here hx rfl (hb hby at_98) rfl ?_
              refine XS.iconst X173.here hx rfl (hb hby at_99) ?_
              exact k
            have X186 : Stand p l e room_1 (s.setVm T154.vm) m #[(.int p1), (.int p2)] below meth c T186 _ 4 62 := X186
            rcases hQ186 with ⟨hc188, hc189, rfl, Nq190, e191⟩ | ⟨hc192, hc193, rfl, Nq194, e195⟩ | ⟨hc196, rfl, Nq197, e198⟩
            ·
              have N186 := Fr.app N173 Nq190
              obtain ⟨_, _, ⟨T199, L199, c199, n199⟩, -, X199, ⟨Lc199, hQ199, l199, y199, z199⟩, st199⟩ := Jvm.LawKit.callS X186 hx (y := yn2) hown (mvT hZ (own_w hw 20 rfl)) (mvT hZ (own_w hw 21 rfl)) (mvT hZ (own_w hw 22 rfl)) (mvT hZ (own_w hw 23 rfl)) (by decide) (backOf (W := 0) (rm28 l Z a0 hw [] b155 b135 k156 ((if (((p2.toUInt32 >>> ((0 : Int32) &&& 31).toUInt32).toInt32) &&& (1 : Int32)) = (0 : Int32) then (0 : Int32) else (1 : Int32))) ((if (((p2.toUInt32 >>> ((1 : Int32) &&& 31).toUInt32).toInt32) &&& (1 : Int32)) = (0 : Int32) then (0 : Int32) else (1 : Int32))) ((if (((p2.toUInt32 >>> ((2 : Int32) &&& 31).toUInt32).toInt32) &&& (1 : Int32)) = (0 : Int32) then (0 : Int32) else (1 : Int32))) ((if (((p2.toUInt32 >>> ((0 : Int32) &&& 31).toUInt32).toInt32) &&& (1 : Int32)) = (0 : Int32) then (0 : Int32) else (1 : Int32))) ((if (((p2.toUInt32 >>> ((1 : Int32) &&& 31).toUInt32).toInt32) &&& (1 : Int32)) = (0 : Int32) then (0 : Int32) else (1 : Int32))) ((if (((p2.toUInt32 >>> ((2 : Int32) &&& 31).toUInt32).toInt32) &&& (1 : Int32)) = (0 : Int32) then (0 : Int32) else (1 : Int32))) v157 v158 v159 k135 p2 T154.heap n0 O154 g_b155 g_b135 OV162 (by have q0 := (by split <;> decide : 0 ≤ (if (((p2.toUInt32 >>> ((0 : Int32) &&& 31).toUInt32).toInt32) &&& (1 : Int32)) = (0 : Int32) then (0 : Int32) else (1 : Int32)).toInt ∧ (if (((p2.toUInt32 >>> ((0 : Int32) &&& 31).toUInt32).toInt32) &&& (1 : Int32)) = (0 : Int32) then (0 : Int32) else (1 : Int32)).toInt ≤ 1); omega) (by have q0 := (by split <;> decide : 0 ≤ (if (((p2.toUInt32 >>> ((1 : Int32) &&& 31).toUInt32).toInt32) &&& (1 : Int32)) = (0 : Int32) then (0 : Int32) else (1 : Int32)).toInt ∧ (if (((p2.toUInt32 >>> ((1 : Int32) &&& 31).toUInt32).toInt32) &&& (1 : Int32)) = (0 : Int32) then (0 : Int32) else (1 : Int32)).toInt ≤ 1); omega) (by have q0 := (by split <;> decide : 0 ≤ (if (((p2.toUInt32 >>> ((2 : Int32) &&& 31).toUInt32).toInt32) &&& (1 : Int32)) = (0 : Int32) then (0 : Int32) else (1 : Int32)).toInt ∧ (if (((p2.toUInt32 >>> ((2 : Int32) &&& 31).toUInt32).toInt32) &&& (1 : Int32)) = (0 : Int32) then (0 : Int32) else (1 : Int32)).toInt ≤ 1); omega) (by have q0 := (by split <;> decide : 0 ≤ (if (((p2.toUInt32 >>> ((0 : Int32) &&& 31).toUInt32).toInt32) &&& (1 : Int32)) = (0 : Int32) then (0 : Int32) else (1 : Int32)).toInt ∧ (if (((p2.toUInt32 >>> ((0 : Int32) &&& 31).toUInt32).toInt32) &&& (1 : Int32)) = (0 : Int32) then (0 : Int32) else (1 : Int32)).toInt ≤ 1); omega) (by have q0 := (by split <;> decide : 0 ≤ (if (((p2.toUInt32 >>> ((1 : Int32) &&& 31).toUInt32).toInt32) &&& (1 : Int32)) = (0 : Int32) then (0 : Int32) else (1 : Int32)).toInt ∧ (if (((p2.toUInt32 >>> ((1 : Int32) &&& 31).toUInt32).toInt32) &&& (1 : Int32)) = (0 : Int32) then (0 : Int32) else (1 : Int32)).toInt ≤ 1); omega) (by have q0 := (by split <;> decide : 0 ≤ (if (((p2.toUInt32 >>> ((2 : Int32) &&& 31).toUInt32).toInt32) &&& (1 : Int32)) = (0 : Int32) then (0 : Int32) else (1 : Int32)).toInt ∧ (if (((p2.toUInt32 >>> ((2 : Int32) &&& 31).toUInt32).toInt32) &&& (1 : Int32)) = (0 : Int32) then (0 : Int32) else (1 : Int32)).toInt ≤ 1); omega) f163 f172 f169 f170) hZ (own_w hw 23 rfl) (own_w hw 22 rfl) (by decide) (by decide)) (g := (mkF m 112 #[.val (.int p1), .val (.int p2), .val (.int (3 : Int32)), .val (.ref b135), .val (.ref b155)] [(.int (2 : Int32)), (.int p2), (.int (3 : Int32)), (.ref b135), (.ref b155)])) rfl (by rw [hml]; rfl) (argsL := [(.ref b155), (.ref b135), (.int (3 : Int32)), (.int p2), (.int (2 : Int32))]) (rest := []) (lenOf pd2 rfl) rfl (by show 2 * 0 + _ ≤ _; exact Nat.le_of_eq rfl) (hb hby at_112) (fun _ _ => ⟨rfl, e191, (by decide : 4 + 0 ≤ _), (by decide : 62 + 0 ≤ _)⟩)
              dsimp only [Pt.U, Pt.locs, Pt.cells, Pt.slots] at X199 l199 y199 z199 st199 hQ199
              subst l199 y199 z199
              have pre200 : ∀ t, Steps p.tables e below (T186.setTop (mkF m 112 #[.val (.int p1), .val (.int p2), .val (.int (3 : Int32)), .val (.ref b135), .val (.ref b155)] [(.int (2 : Int32)), (.int p2), (.int (3 : Int32)), (.ref b135), (.ref b155)])) t → Steps p.tables e below (s₁.setTop (entryFrame m #[(.int p1), (.int p2)] maxLocals)) t := fun t k => by
                refine pre187 _ ?_
                show Steps p.tables e below (T173.setTop (mkF m 100 #[.val (.int p1), .val (.int p2), .val (.int (3 : Int32)), .val (.ref b135), .val (.ref b155)] [(.int (1 : Int32)), (.int p2), (.int (3 : Int32)), (.ref b135), (.ref b155)])) _
                refine st186 _ ?_
                refine XS.ifNo X186.here hx rfl (hb hby at_103) rfl ((if0 _ _).trans (feq (by decide : ¬ ((1 : Int32) = (0 : Int32)))).1) ?_
                refine XS.aload X186.here hx rfl (hb hby at_106) rfl rfl ?_
                refine XS.aloadN X186.here hx rfl (hb hby at_108) rfl rfl ?_
                refine XS.iloadN X186.here hx rfl (hb hby at_109) rfl ?_
                refine XS.iloadN X186.here hx rfl (hb hby at_110) rfl ?_
                refine XS.iconst X186.here hx rfl (hb hby at_111) ?_
                exact k
              have X199 : Stand p l e room_1 (s.setVm T154.vm) m #[(.int p1), (.int p2)] below meth c T199 _ 4 62 := X199
              rcases hQ199 with ⟨hc201, hc202, rfl, Nq203, e204⟩ | ⟨hc205, hc206, rfl, Nq207, e208⟩ | ⟨hc209, rfl, Nq210, e211⟩
              ·
                have N199 := Fr.app N186 Nq203
                obtain ⟨_, _, ⟨T212, L212, c212, n212⟩, -, X212, ⟨Lc212, hQ212, l212, y212, z212⟩, st212⟩ := Jvm.LawKit.callS X199 hx (y := yn2) hown (mvT hZ (own_w hw 20 rfl)) (mvT hZ (own_w hw 21 rfl)) (mvT hZ (own_w hw 22 rfl)) (mvT hZ (own_w hw 23 rfl)) (by decide) (backOf (W := 0) (rm29 l Z a0 hw [] b155 b135 k156 ((if (((p2.toUInt32 >>> ((0 : Int32) &&& 31).toUInt32).toInt32) &&& (1 : Int32)) = (0 : Int32) then (0 : Int32) else (1 : Int32))) ((if (((p2.toUInt32 >>> ((1 : Int32) &&& 31).toUInt32).toInt32) &&& (1 : Int32)) = (0 : Int32) then (0 : Int32) else (1 : Int32))) ((if (((p2.toUInt32 >>> ((2 : Int32) &&& 31).toUInt32).toInt32) &&& (1 : Int32)) = (0 : Int32) then (0 : Int32) else (1 : Int32))) ((if (((p2.toUInt32 >>> ((0 : Int32) &&& 31).toUInt32).toInt32) &&& (1 : Int32)) = (0 : Int32) then (0 : Int32) else (1 : Int32))) ((if (((p2.toUInt32 >>> ((1 : Int32) &&& 31).toUInt32).toInt32) &&& (1 : Int32)) = (0 : Int32) then (0 : Int32) else (1 : Int32))) ((if (((p2.toUInt32 >>> ((2 : Int32) &&& 31).toUInt32).toInt32) &&& (1 : Int32)) = (0 : Int32) then (0 : Int32) else (1 : Int32))) p2 T154.heap n0 O154 g_b155 g_b135 OV162 (by have q0 := (by split <;> decide : 0 ≤ (if (((p2.toUInt32 >>> ((0 : Int32) &&& 31).toUInt32).toInt32) &&& (1 : Int32)) = (0 : Int32) then (0 : Int32) else (1 : Int32)).toInt ∧ (if (((p2.toUInt32 >>> ((0 : Int32) &&& 31).toUInt32).toInt32) &&& (1 : Int32)) = (0 : Int32) then (0 : Int32) else (1 : Int32)).toInt ≤ 1); omega) (by have q0 := (by split <;> decide : 0 ≤ (if (((p2.toUInt32 >>> ((1 : Int32) &&& 31).toUInt32).toInt32) &&& (1 : Int32)) = (0 : Int32) then (0 : Int32) else (1 : Int32)).toInt ∧ (if (((p2.toUInt32 >>> ((1 : Int32) &&& 31).toUInt32).toInt32) &&& (1 : Int32)) = (0 : Int32) then (0 : Int32) else (1 : Int32)).toInt ≤ 1); omega) (by have q0 := (by split <;> decide : 0 ≤ (if (((p2.toUInt32 >>> ((2 : Int32) &&& 31).toUInt32).toInt32) &&& (1 : Int32)) = (0 : Int32) then (0 : Int32) else (1 : Int32)).toInt ∧ (if (((p2.toUInt32 >>> ((2 : Int32) &&& 31).toUInt32).toInt32) &&& (1 : Int32)) = (0 : Int32) then (0 : Int32) else (1 : Int32)).toInt ≤ 1); omega) (by have q0 := (by split <;> decide : 0 ≤ (if (((p2.toUInt32 >>> ((0 : Int32) &&& 31).toUInt32).toInt32) &&& (1 : Int32)) = (0 : Int32) then (0 : Int32) else (1 : Int32)).toInt ∧ (if (((p2.toUInt32 >>> ((0 : Int32) &&& 31).toUInt32).toInt32) &&& (1 : Int32)) = (0 : Int32) then (0 : Int32) else (1 : Int32)).toInt ≤ 1); omega) (by have q0 := (by split <;> decide : 0 ≤ (if (((p2.toUInt32 >>> ((1 : Int32) &&& 31).toUInt32).toInt32) &&& (1 : Int32)) = (0 : Int32) then (0 : Int32) else (1 : Int32)).toInt ∧ (if (((p2.toUInt32 >>> ((1 : Int32) &&& 31).toUInt32).toInt32) &&& (1 : Int32)) = (0 : Int32) then (0 : Int32) else (1 : Int32)).toInt ≤ 1); omega) (by have q0 := (by split <;> decide : 0 ≤ (if (((p2.toUInt32 >>> ((2 : Int32) &&& 31).toUInt32).toInt32) &&& (1 : Int32)) = (0 : Int32) then (0 : Int32) else (1 : Int32)).toInt ∧ (if (((p2.toUInt32 >>> ((2 : Int32) &&& 31).toUInt32).toInt32) &&& (1 : Int32)) = (0 : Int32) then (0 : Int32) else (1 : Int32)).toInt ≤ 1); omega)) hZ (own_w hw 23 rfl) (own_w hw 22 rfl) (by decide) (by decide)) (g := (mkF m 124 #[.val (.int p1), .val (.int p2), .val (.int (3 : Int32)), .val (.ref b135), .val (.ref b155)] [(.int (3 : Int32)), (.int p2), (.int (3 : Int32)), (.ref b135), (.ref b155)])) rfl (by rw [hml]; rfl) (argsL := [(.ref b155), (.ref b135), (.int (3 : Int32)), (.int p2), (.int (3 : Int32))]) (rest := []) (lenOf pd2 rfl) rfl (by show 2 * 0 + _ ≤ _; exact Nat.le_of_eq rfl) (hb hby at_124) (fun _ _ => ⟨rfl, e204, (by decide : 4 + 0 ≤ _), (by decide : 62 + 0 ≤ _)⟩)
                dsimp only [Pt.U, Pt.locs, Pt.cells, Pt.slots] at X212 l212 y212 z212 st212 hQ212
                subst l212 y212 z212
                have X212 : Stand p l e room_1 (s.setVm T154.vm) m #[(.int p1), (.int p2)] below meth c T212 _ 4 62 := X212
                obtain ⟨rfl, Nq213, e214⟩ := hQ212
                have N212 := Fr.app N199 Nq213
                obtain ⟨fs, hr, hrun, hended, hRE⟩ := X212.leaveW hS154 (by rw [e214]; exact (Nat.le_refl _)) (v := some (.int (1 : Int32))) (fun h => by rw [hret] at h; cases h)
                refine ⟨_, _, pre200 _ ?_, hrun, hended, _, _, rfl, ?_, hRE.1, hRE.2.1, hRE.2.2.1, hRE.2.2.2.mono (by decide) (by decide)⟩
                ·
                  show Steps p.tables e below (T186.setTop (mkF m 112 #[.val (.int p1), .val (.int p2), .val (.int (3 : Int32)), .val (.ref b135), .val (.ref b155)] [(.int (2 : Int32)), (.int p2), (.int (3 : Int32)), (.ref b135), (.ref b155)])) _
                  refine st199 _ ?_
                  refine XS.ifNo X199.here hx rfl (hb hby at_115) rfl ((if0 _ _).trans (feq (by decide : ¬ ((1 : Int32) = (0 : Int32)))).1) ?_
                  refine XS.aload X199.here hx rfl (hb hby at_118) rfl rfl ?_
                  refine XS.aloadN X199.here hx rfl (hb hby at_120) rfl rfl ?_
                  refine XS.iloadN X199.here hx rfl (hb hby at_121) rfl ?_
                  refine XS.iloadN X199.here hx rfl (hb hby at_122) rfl ?_
                  refine XS.iconst X199.here hx rfl (hb hby at_123) ?_
                  refine st212 _ ?_
                  refine XS.ifNo X212.here hx rfl (hb hby at_127) rfl ((if0 _ _).trans (feq (by decide : ¬ ((1 : Int32) = (0 : Int32)))).1) ?_
                  refine XS.iconst X212.here hx rfl (hb hby at_130) ?_
                  refine XS.goto X212.here hx rfl (pc0 := 131) (pc' := 135) rfl (hb hby at_131) (by decide) (by decide) ?_
                  show Steps p.tables e below (T212.setTop (mkF m 135 #[.val (.int p1), .val (.int p2), .val (.int (3 : Int32)), .val (.ref b135), .val (.ref b155)] [(.int (1 : Int32))])) _
                  exact retN X212 hx (t := .boolean) hret (by simp) (hb hby at_135) hr
                ·
                  show Q0 n0 _ T212.heap _
                  rw [e214]
                  exact ⟨rfl, N212⟩
              ·
                exact absurd (rfl : (if (((p2.toUInt32 >>> ((2 : Int32) &&& 31).toUInt32).toInt32) &&& (1 : Int32)) = (0 : Int32) then (0 : Int32) else (1 : Int32)) = (if (((p2.toUInt32 >>> ((2 : Int32) &&& 31).toUInt32).toInt32) &&& (1 : Int32)) = (0 : Int32) then (0 : Int32) else (1 : Int32))) hc206
              ·
                exact absurd (rfl : (if (((p2.toUInt32 >>> ((2 : Int32) &&& 31).toUInt32).toInt32) &&& (1 : Int32)) = (0 : Int32) then (0 : Int32) else (1 : Int32)) = (if (((p2.toUInt32 >>> ((2 : Int32) &&& 31).toUInt32).toInt32) &&& (1 : Int32)) = (0 : Int32) then (0 : Int32) else (1 : Int32))) hc209
            ·
              exact absurd (rfl : (if (((p2.toUInt32 >>> ((1 : Int32) &&& 31).toUInt32).toInt32) &&& (1 : Int32)) = (0 : Int32) then (0 : Int32) else (1 : Int32)) = (if (((p2.toUInt32 >>> ((1 : Int32) &&& 31).toUInt32).toInt32) &&& (1 : Int32)) = (0 : Int32) then (0 : Int32) else (1 : Int32))) hc193
            ·
              exact absurd (rfl : (if (((p2.toUInt32 >>> ((1 : Int32) &&& 31).toUInt32).toInt32) &&& (1 : Int32)) = (0 : Int32) then (0 : Int32) else (1 : Int32)) = (if (((p2.toUInt32 >>> ((1 : Int32) &&& 31).toUInt32).toInt32) &&& (1 : Int32)) = (0 : Int32) then (0 : Int32) else (1 : Int32))) hc196
          ·
            exact absurd (rfl : (if (((p2.toUInt32 >>> ((0 : Int32) &&& 31).toUInt32).toInt32) &&& (1 : Int32)) = (0 : Int32) then (0 : Int32) else (1 : Int32)) = (if (((p2.toUInt32 >>> ((0 : Int32) &&& 31).toUInt32).toInt32) &&& (1 : Int32)) = (0 : Int32) then (0 : Int32) else (1 : Int32))) hc180
          ·
            exact absurd (rfl : (if (((p2.toUInt32 >>> ((0 : Int32) &&& 31).toUInt32).toInt32) &&& (1 : Int32)) = (0 : Int32) then (0 : Int32) else (1 : Int32)) = (if (((p2.toUInt32 >>> ((0 : Int32) &&& 31).toUInt32).toInt32) &&& (1 : Int32)) = (0 : Int32) then (0 : Int32) else (1 : Int32))) hc183
        ·
          have hq215 : ((p1 &&& (2147483647 : Int32)) % (5 : Int32)) = (4 : Int32) := (own_geq (n := 4) (k := (4 : Int32)) (by decide) (by have q0 := own_rem (x := (p1 &&& (2147483647 : Int32))) (k := (5 : Int32)) (n := 5) (by decide) (by decide) (by have q0 := own_and (x := p1) (k := (2147483647 : Int32)) (n := 2147483647) (by decide) (by decide); omega); have q1 := own_neq (n := 0) (k := (0 : Int32)) (by decide) hc2; have q2 := own_neq (n := 1) (k := (1 : Int32)) (by decide) hc26; have q3 := own_neq (n := 2) (k := (2 : Int32)) (by decide) hc70; have q4 := own_neq (n := 3) (k := (3 : Int32)) (by decide) hc133; omega))
          have pre216 : ∀ t, Steps p.tables e below (s₁.setTop (mkF m 8 #[.val (.int p1), .val (.int p2), .val (.int (4 : Int32)), .unset, .unset] [(.int (4 : Int32))])) t → Steps p.tables e below (s₁.setTop (entryFrame m #[(.int p1), (.int p2)] maxLocals)) t := fun t k => pre1 t (by rw [hq215]; exact k)
          obtain ⟨T217, h217, k217, X217, e217, E217, A217, EX217, st217⟩ := newPE X0 hx hZ (own_w hw 1 rfl) e0 (g := (mkF m 8 #[.val (.int p1), .val (.int p2), .val (.int (4 : Int32)), .unset, .unset] [(.int (4 : Int32))])) rfl (hb hby at_8) rfl (by decide) (cap := 4) (by decide) (by decide) (by decide) (by decide) (ad := "[Z") (by decide)
          obtain ⟨b217, g217⟩ : ∃ z, z = h0.size := ⟨_, rfl⟩
          rw [← g217] at A217 EX217 st217
          have M217 : h0.size ≤ h217.size := Nat.le_trans (Nat.le_refl _) E217.1
          have O217 := Old.ext O0 E217
          have sz_b217 : h0.size ≤ b217 := Nat.le_of_eq g217.symm
          have g_b217 : n0 ≤ b217 := Nat.le_trans (own_oz O0) (Nat.le_trans (Nat.le_refl _) sz_b217)
          have V217_0 := Arv.new A217 (by decide)
          have V217 : Arv Z h217 b217 k217 .boolean (4 : Int32) [(.int (0 : Int32)), (.int (0 : Int32)), (.int (0 : Int32)), (.int (0 : Int32))] (.int (0 : Int32)) := V217_0.pad (pad_rep [] (.int (0 : Int32)) 4)
          obtain ⟨_, _, ⟨T218, L218, c218, n218⟩, -, X218, ⟨Lc218, hQ218, l218, y218, z218⟩, st218⟩ := Jvm.LawKit.callS X217 hx (y := yn3) hown (mvT hZ (own_w hw 24 rfl)) (mvT hZ (own_w hw 25 rfl)) (mvT hZ (own_w hw 22 rfl)) (mvT hZ (own_w hw 26 rfl)) (by decide) (backOf (W := 2) (rm7 l Z a0 hw [] p2 h217 n0 O217 ) hZ (own_w hw 26 rfl) (own_w hw 22 rfl) (by decide) (by decide)) (g := (mkF m 19 #[.val (.int p1), .val (.int p2), .val (.int (4 : Int32)), .val (.ref b217), .unset] [(.int (0 : Int32)), (.int p2), (.int (0 : Int32)), (.ref b217)])) rfl (by rw [hml]; rfl) (argsL := [(.int p2), (.int (0 : Int32))]) (rest := [(.int (0 : Int32)), (.ref b217)]) (lenOf pd3 rfl) rfl (by show 2 * 0 + _ ≤ _; exact Nat.le_of_eq rfl) (hb hby at_19) (fun _ _ => ⟨rfl, e217, (by decide : 1 + 0 ≤ _), (by decide : 4 + 0 ≤ _)⟩)
          dsimp only [Pt.U, Pt.locs, Pt.cells, Pt.slots] at X218 l218 y218 z218 st218 hQ218
          subst l218 y218 z218
          have X218 : Stand p l e room_1 s m #[(.int p1), (.int p2)] below meth c T218 _ 1 4 := X218
          obtain ⟨rfl, Nq219, e220⟩ := hQ218
          have N218 := Fr.app N0 Nq219
          obtain ⟨cl221, Ar221, qa221, Sa221, Na221, Ha221, Ga221⟩ := id (V217)
          have hin221 : ¬ ((0 : Int32) < 0 ∨ cl221.slots.size ≤ ((0 : Int32)).toNatClampNeg) := inb_of Sa221 ⟨by decide, by decide⟩
          have hbz222 : 0 ≤ (if (((p2.toUInt32 >>> ((0 : Int32) &&& 31).toUInt32).toInt32) &&& (1 : Int32)) = (0 : Int32) then (0 : Int32) else (1 : Int32)).toInt ∧ (if (((p2.toUInt32 >>> ((0 : Int32) &&& 31).toUInt32).toInt32) &&& (1 : Int32)) = (0 : Int32) then (0 : Int32) else (1 : Int32)).toInt ≤ 1 := by have q0 := (by split <;> decide : 0 ≤ (if (((p2.toUInt32 >>> ((0 : Int32) &&& 31).toUInt32).toInt32) &&& (1 : Int32)) = (0 : Int32) then (0 : Int32) else (1 : Int32)).toInt ∧ (if (((p2.toUInt32 >>> ((0 : Int32) &&& 31).toUInt32).toInt32) &&& (1 : Int32)) = (0 : Int32) then (0 : Int32) else (1 : Int32)).toInt ≤ 1); omega
          obtain ⟨T223, h223, X223, e223, W223, st223⟩ := stZ X218 hx hZ e220 Ar221 (j := (0 : Int32)) hin221 (g := (mkF m 22 #[.val (.int p1), .val (.int p2), .val (.int (4 : Int32)), .val (.ref b217), .unset] [(.int (if (((p2.toUInt32 >>> ((0 : Int32) &&& 31).toUInt32).toInt32) &&& (1 : Int32)) = (0 : Int32) then (0 : Int32) else (1 : Int32))), (.int (0 : Int32)), (.ref b217)])) rfl rfl (hb hby at_22)
          rw [own_nz hbz222] at W223
          have V223 : Arv Z h223 b217 k217 .boolean (4 : Int32) [(.int (if (((p2.toUInt32 >>> ((0 : Int32) &&& 31).toUInt32).toInt32) &&& (1 : Int32)) = (0 : Int32) then (0 : Int32) else (1 : Int32))), (.int (0 : Int32)), (.int (0 : Int32)), (.int (0 : Int32))] (.int (0 : Int32)) := Arv.set Ar221 qa221 Sa221 Na221 Ha221 Ga221 (own_fz hbz222) W223 0 rfl (Nat.le_of_ble_eq_true rfl)
          have N223 := Fr.snoc X223 N218 g_b217
          have M223 : h0.size ≤ h223.size := Nat.le_trans M217 (Nat.le_of_eq W223.size.symm)
          have O223 := Old.wr O217 W223 g_b217
          obtain ⟨_, _, ⟨T224, L224, c224, n224⟩, -, X224, ⟨Lc224, hQ224, l224, y224, z224⟩, st224⟩ := Jvm.LawKit.callS X223 hx (y := yn3) hown (mvT hZ (own_w hw 24 rfl)) (mvT hZ (own_w hw 25 rfl)) (mvT hZ (own_w hw 22 rfl)) (mvT hZ (own_w hw 26 rfl)) (by decide) (backOf (W := 2) (rm16 l Z a0 hw [] p2 h223 n0 O223 ) hZ (own_w hw 26 rfl) (own_w hw 22 rfl) (by decide) (by decide)) (g := (mkF m 32 #[.val (.int p1), .val (.int p2), .val (.int (4 : Int32)), .val (.ref b217), .unset] [(.int (1 : Int32)), (.int p2), (.int (1 : Int32)), (.ref b217)])) rfl (by rw [hml]; rfl) (argsL := [(.int p2), (.int (1 : Int32))]) (rest := [(.int (1 : Int32)), (.ref b217)]) (lenOf pd3 rfl) rfl (by show 2 * 0 + _ ≤ _; exact Nat.le_of_eq rfl) (hb hby at_32) (fun _ _ => ⟨rfl, e223, (by decide : 1 + 0 ≤ _), (by decide : 4 + 0 ≤ _)⟩)
          dsimp only [Pt.U, Pt.locs, Pt.cells, Pt.slots] at X224 l224 y224 z224 st224 hQ224
          subst l224 y224 z224
          have X224 : Stand p l e room_1 s m #[(.int p1), (.int p2)] below meth c T224 _ 1 4 := X224
          obtain ⟨rfl, Nq225, e226⟩ := hQ224
          have N224 := Fr.app N223 Nq225
          obtain ⟨cl227, Ar227, qa227, Sa227, Na227, Ha227, Ga227⟩ := id (V223)
          have hin227 : ¬ ((1 : Int32) < 0 ∨ cl227.slots.size ≤ ((1 : Int32)).toNatClampNeg) := inb_of Sa227 ⟨by decide, by decide⟩
          have hbz228 : 0 ≤ (if (((p2.toUInt32 >>> ((1 : Int32) &&& 31).toUInt32).toInt32) &&& (1 : Int32)) = (0 : Int32) then (0 : Int32) else (1 : Int32)).toInt ∧ (if (((p2.toUInt32 >>> ((1 : Int32) &&& 31).toUInt32).toInt32) &&& (1 : Int32)) = (0 : Int32) then (0 : Int32) else (1 : Int32)).toInt ≤ 1 := by have q0 := (by split <;> decide : 0 ≤ (if (((p2.toUInt32 >>> ((1 : Int32) &&& 31).toUInt32).toInt32) &&& (1 : Int32)) = (0 : Int32) then (0 : Int32) else (1 : Int32)).toInt ∧ (if (((p2.toUInt32 >>> ((1 : Int32) &&& 31).toUInt32).toInt32) &&& (1 : Int32)) = (0 : Int32) then (0 : Int32) else (1 : Int32)).toInt ≤ 1); omega
          obtain ⟨T229, h229, X229, e229, W229, st229⟩ := stZ X224 hx hZ e226 Ar227 (j := (1 : Int32)) hin227 (g := (mkF m 35 #[.val (.int p1), .val (.int p2), .val (.int (4 : Int32)), .val (.ref b217), .unset] [(.int (if (((p2.toUInt32 >>> ((1 : Int32) &&& 31).toUInt32).toInt32) &&& (1 : Int32)) = (0 : Int32) then (0 : Int32) else (1 : Int32))), (.int (1 : Int32)), (.ref b217)])) rfl rfl (hb hby at_35)
          rw [own_nz hbz228] at W229
          have V229 : Arv Z h229 b217 k217 .boolean (4 : Int32) [(.int (if (((p2.toUInt32 >>> ((0 : Int32) &&& 31).toUInt32).toInt32) &&& (1 : Int32)) = (0 : Int32) then (0 : Int32) else (1 : Int32))), (.int (if (((p2.toUInt32 >>> ((1 : Int32) &&& 31).toUInt32).toInt32) &&& (1 : Int32)) = (0 : Int32) then (0 : Int32) else (1 : Int32))), (.int (0 : Int32)), (.int (0 : Int32))] (.int (0 : Int32)) := Arv.set Ar227 qa227 Sa227 Na227 Ha227 Ga227 (own_fz hbz228) W229 1 rfl (Nat.le_of_ble_eq_true rfl)
          have N229 := Fr.snoc X229 N224 g_b217
          have M229 : h0.size ≤ h229.size := Nat.le_trans M223 (Nat.le_of_eq W229.size.symm)
          have O229 := Old.wr O223 W229 g_b217
          obtain ⟨_, _, ⟨T230, L230, c230, n230⟩, -, X230, ⟨Lc230, hQ230, l230, y230, z230⟩, st230⟩ := Jvm.LawKit.callS X229 hx (y := yn3) hown (mvT hZ (own_w hw 24 rfl)) (mvT hZ (own_w hw 25 rfl)) (mvT hZ (own_w hw 22 rfl)) (mvT hZ (own_w hw 26 rfl)) (by decide) (backOf (W := 2) (rm23 l Z a0 hw [] p2 h229 n0 O229 ) hZ (own_w hw 26 rfl) (own_w hw 22 rfl) (by decide) (by decide)) (g := (mkF m 45 #[.val (.int p1), .val (.int p2), .val (.int (4 : Int32)), .val (.ref b217), .unset] [(.int (2 : Int32)), (.int p2), (.int (2 : Int32)), (.ref b217)])) rfl (by rw [hml]; rfl) (argsL := [(.int p2), (.int (2 : Int32))]) (rest := [(.int (2 : Int32)), (.ref b217)]) (lenOf pd3 rfl) rfl (by show 2 * 0 + _ ≤ _; exact Nat.le_of_eq rfl) (hb hby at_45) (fun _ _ => ⟨rfl, e229, (by decide : 1 + 0 ≤ _), (by decide : 4 + 0 ≤ _)⟩)
          dsimp only [Pt.U, Pt.locs, Pt.cells, Pt.slots] at X230 l230 y230 z230 st230 hQ230
          subst l230 y230 z230
          have X230 : Stand p l e room_1 s m #[(.int p1), (.int p2)] below meth c T230 _ 1 4 := X230
          obtain ⟨rfl, Nq231, e232⟩ := hQ230
          have N230 := Fr.app N229 Nq231
          obtain ⟨cl233, Ar233, qa233, Sa233, Na233, Ha233, Ga233⟩ := id (V229)
          have hin233 : ¬ ((2 : Int32) < 0 ∨ cl233.slots.size ≤ ((2 : Int32)).toNatClampNeg) := inb_of Sa233 ⟨by decide, by decide⟩
          have hbz234 : 0 ≤ (if (((p2.toUInt32 >>> ((2 : Int32) &&& 31).toUInt32).toInt32) &&& (1 : Int32)) = (0 : Int32) then (0 : Int32) else (1 : Int32)).toInt ∧ (if (((p2.toUInt32 >>> ((2 : Int32) &&& 31).toUInt32).toInt32) &&& (1 : Int32)) = (0 : Int32) then (0 : Int32) else (1 : Int32)).toInt ≤ 1 := by have q0 := (by split <;> decide : 0 ≤ (if (((p2.toUInt32 >>> ((2 : Int32) &&& 31).toUInt32).toInt32) &&& (1 : Int32)) = (0 : Int32) then (0 : Int32) else (1 : Int32)).toInt ∧ (if (((p2.toUInt32 >>> ((2 : Int32) &&& 31).toUInt32).toInt32) &&& (1 : Int32)) = (0 : Int32) then (0 : Int32) else (1 : Int32)).toInt ≤ 1); omega
          obtain ⟨T235, h235, X235, e235, W235, st235⟩ := stZ X230 hx hZ e232 Ar233 (j := (2 : Int32)) hin233 (g := (mkF m 48 #[.val (.int p1), .val (.int p2), .val (.int (4 : Int32)), .val (.ref b217), .unset] [(.int (if (((p2.toUInt32 >>> ((2 : Int32) &&& 31).toUInt32).toInt32) &&& (1 : Int32)) = (0 : Int32) then (0 : Int32) else (1 : Int32))), (.int (2 : Int32)), (.ref b217)])) rfl rfl (hb hby at_48)
          rw [own_nz hbz234] at W235
          have V235 : Arv Z h235 b217 k217 .boolean (4 : Int32) [(.int (if (((p2.toUInt32 >>> ((0 : Int32) &&& 31).toUInt32).toInt32) &&& (1 : Int32)) = (0 : Int32) then (0 : Int32) else (1 : Int32))), (.int (if (((p2.toUInt32 >>> ((1 : Int32) &&& 31).toUInt32).toInt32) &&& (1 : Int32)) = (0 : Int32) then (0 : Int32) else (1 : Int32))), (.int (if (((p2.toUInt32 >>> ((2 : Int32) &&& 31).toUInt32).toInt32) &&& (1 : Int32)) = (0 : Int32) then (0 : Int32) else (1 : Int32))), (.int (0 : Int32))] (.int (0 : Int32)) := Arv.set Ar233 qa233 Sa233 Na233 Ha233 Ga233 (own_fz hbz234) W235 2 rfl (Nat.le_of_ble_eq_true rfl)
          have N235 := Fr.snoc X235 N230 g_b217
          have M235 : h0.size ≤ h235.size := Nat.le_trans M229 (Nat.le_of_eq W235.size.symm)
          have O235 := Old.wr O229 W235 g_b217
          obtain ⟨_, _, ⟨T236, L236, c236, n236⟩, -, X236, ⟨Lc236, hQ236, l236, y236, z236⟩, st236⟩ := Jvm.LawKit.callS X235 hx (y := yn3) hown (mvT hZ (own_w hw 24 rfl)) (mvT hZ (own_w hw 25 rfl)) (mvT hZ (own_w hw 22 rfl)) (mvT hZ (own_w hw 26 rfl)) (by decide) (backOf (W := 2) (rm30 l Z a0 hw [] p2 h235 n0 O235 ) hZ (own_w hw 26 rfl) (own_w hw 22 rfl) (by decide) (by decide)) (g := (mkF m 58 #[.val (.int p1), .val (.int p2), .val (.int (4 : Int32)), .val (.ref b217), .unset] [(.int (3 : Int32)), (.int p2), (.int (3 : Int32)), (.ref b217)])) rfl (by rw [hml]; rfl) (argsL := [(.int p2), (.int (3 : Int32))]) (rest := [(.int (3 : Int32)), (.ref b217)]) (lenOf pd3 rfl) rfl (by show 2 * 0 + _ ≤ _; exact Nat.le_of_eq rfl) (hb hby at_58) (fun _ _ => ⟨rfl, e235, (by decide : 1 + 0 ≤ _), (by decide : 4 + 0 ≤ _)⟩)
          dsimp only [Pt.U, Pt.locs, Pt.cells, Pt.slots] at X236 l236 y236 z236 st236 hQ236
          subst l236 y236 z236
          have X236 : Stand p l e room_1 s m #[(.int p1), (.int p2)] below meth c T236 _ 1 4 := X236
          obtain ⟨rfl, Nq237, e238⟩ := hQ236
          have N236 := Fr.app N235 Nq237
          obtain ⟨cl239, Ar239, qa239, Sa239, Na239, Ha239, Ga239⟩ := id (V235)
          have hin239 : ¬ ((3 : Int32) < 0 ∨ cl239.slots.size ≤ ((3 : Int32)).toNatClampNeg) := inb_of Sa239 ⟨by decide, by decide⟩
          have hbz240 : 0 ≤ (if (((p2.toUInt32 >>> ((3 : Int32) &&& 31).toUInt32).toInt32) &&& (1 : Int32)) = (0 : Int32) then (0 : Int32) else (1 : Int32)).toInt ∧ (if (((p2.toUInt32 >>> ((3 : Int32) &&& 31).toUInt32).toInt32) &&& (1 : Int32)) = (0 : Int32) then (0 : Int32) else (1 : Int32)).toInt ≤ 1 := by have q0 := (by split <;> decide : 0 ≤ (if (((p2.toUInt32 >>> ((3 : Int32) &&& 31).toUInt32).toInt32) &&& (1 : Int32)) = (0 : Int32) then (0 : Int32) else (1 : Int32)).toInt ∧ (if (((p2.toUInt32 >>> ((3 : Int32) &&& 31).toUInt32).toInt32) &&& (1 : Int32)) = (0 : Int32) then (0 : Int32) else (1 : Int32)).toInt ≤ 1); omega
          obtain ⟨T241, h241, X241, e241, W241, st241⟩ := stZ X236 hx hZ e238 Ar239 (j := (3 : Int32)) hin239 (g := (mkF m 61 #[.val (.int p1), .val (.int p2), .val (.int (4 : Int32)), .val (.ref b217), .unset] [(.int (if (((p2.toUInt32 >>> ((3 : Int32) &&& 31).toUInt32).toInt32) &&& (1 : Int32)) = (0 : Int32) then (0 : Int32) else (1 : Int32))), (.int (3 : Int32)), (.ref b217)])) rfl rfl (hb hby at_61)
          rw [own_nz hbz240] at W241
          have V241 : Arv Z h241 b217 k217 .boolean (4 : Int32) [(.int (if (((p2.toUInt32 >>> ((0 : Int32) &&& 31).toUInt32).toInt32) &&& (1 : Int32)) = (0 : Int32) then (0 : Int32) else (1 : Int32))), (.int (if (((p2.toUInt32 >>> ((1 : Int32) &&& 31).toUInt32).toInt32) &&& (1 : Int32)) = (0 : Int32) then (0 : Int32) else (1 : Int32))), (.int (if (((p2.toUInt32 >>> ((2 : Int32) &&& 31).toUInt32).toInt32) &&& (1 : Int32)) = (0 : Int32) then (0 : Int32) else (1 : Int32))), (.int (if (((p2.toUInt32 >>> ((3 : Int32) &&& 31).toUInt32).toInt32) &&& (1 : Int32)) = (0 : Int32) then (0 : Int32) else (1 : Int32)))] (.int (0 : Int32)) := Arv.set Ar239 qa239 Sa239 Na239 Ha239 Ga239 (own_fz hbz240) W241 3 rfl (Nat.le_of_ble_eq_true rfl)
          have N241 := Fr.snoc X241 N236 g_b217
          have M241 : h0.size ≤ h241.size := Nat.le_trans M235 (Nat.le_of_eq W241.size.symm)
          have O241 := Old.wr O235 W241 g_b217
          obtain ⟨_, _, ⟨T242, L242, c242, n242⟩, -, X242, hSn242, hgr242, ⟨Lc242, hQ242, l242, y242, z242⟩, st242⟩ := callSS X241 hx (y := yn1) hown (mvT hZ (own_w hw 2 rfl)) (mvT hZ (own_w hw 3 rfl)) (mvT hZ (own_w hw 4 rfl)) (mvT hZ (own_w hw 5 rfl)) (by decide) (backOfS (W := 0) (rm32 l Z a0 hw w1 w2 G [] b217 ((if (((p2.toUInt32 >>> ((0 : Int32) &&& 31).toUInt32).toInt32) &&& (1 : Int32)) = (0 : Int32) then (0 : Int32) else (1 : Int32))) ((if (((p2.toUInt32 >>> ((1 : Int32) &&& 31).toUInt32).toInt32) &&& (1 : Int32)) = (0 : Int32) then (0 : Int32) else (1 : Int32))) ((if (((p2.toUInt32 >>> ((2 : Int32) &&& 31).toUInt32).toInt32) &&& (1 : Int32)) = (0 : Int32) then (0 : Int32) else (1 : Int32))) ((if (((p2.toUInt32 >>> ((3 : Int32) &&& 31).toUInt32).toInt32) &&& (1 : Int32)) = (0 : Int32) then (0 : Int32) else (1 : Int32))) k217 h241 n0 O241 g_b217 (by have q0 := (by split <;> decide : 0 ≤ (if (((p2.toUInt32 >>> ((0 : Int32) &&& 31).toUInt32).toInt32) &&& (1 : Int32)) = (0 : Int32) then (0 : Int32) else (1 : Int32)).toInt ∧ (if (((p2.toUInt32 >>> ((0 : Int32) &&& 31).toUInt32).toInt32) &&& (1 : Int32)) = (0 : Int32) then (0 : Int32) else (1 : Int32)).toInt ≤ 1); omega) (by have q0 := (by split <;> decide : 0 ≤ (if (((p2.toUInt32 >>> ((1 : Int32) &&& 31).toUInt32).toInt32) &&& (1 : Int32)) = (0 : Int32) then (0 : Int32) else (1 : Int32)).toInt ∧ (if (((p2.toUInt32 >>> ((1 : Int32) &&& 31).toUInt32).toInt32) &&& (1 : Int32)) = (0 : Int32) then (0 : Int32) else (1 : Int32)).toInt ≤ 1); omega) (by have q0 := (by split <;> decide : 0 ≤ (if (((p2.toUInt32 >>> ((2 : Int32) &&& 31).toUInt32).toInt32) &&& (1 : Int32)) = (0 : Int32) then (0 : Int32) else (1 : Int32)).toInt ∧ (if (((p2.toUInt32 >>> ((2 : Int32) &&& 31).toUInt32).toInt32) &&& (1 : Int32)) = (0 : Int32) then (0 : Int32) else (1 : Int32)).toInt ≤ 1); omega) (by have q0 := (by split <;> decide : 0 ≤ (if (((p2.toUInt32 >>> ((3 : Int32) &&& 31).toUInt32).toInt32) &&& (1 : Int32)) = (0 : Int32) then (0 : Int32) else (1 : Int32)).toInt ∧ (if (((p2.toUInt32 >>> ((3 : Int32) &&& 31).toUInt32).toInt32) &&& (1 : Int32)) = (0 : Int32) then (0 : Int32) else (1 : Int32)).toInt ≤ 1); omega) V241) hZ (own_w hw 5 rfl) (own_w hw 4 rfl) (by decide) (by decide)) (g := (mkF m 63 #[.val (.int p1), .val (.int p2), .val (.int (4 : Int32)), .val (.ref b217), .unset] [(.ref b217)])) rfl (by rw [hml]; rfl) (argsL := [(.ref b217)]) (rest := []) (lenOf pd1 rfl) rfl (by show 2 * 0 + _ ≤ _; exact Nat.le_of_eq rfl) (hb hby at_63) (fun _ _ => ⟨rfl, e241, (by decide : 1 + 3 ≤ _), (by decide : 4 + 60 ≤ _)⟩)
          dsimp only [Pt.U, Pt.locs, Pt.cells, Pt.slots] at X242 l242 y242 z242 st242 hQ242
          subst l242 y242 z242
          have hS242 : s.Since T242.vm T242.heap.size := hSn242
          have hZ := State.Warmed39.trans (t := s) hZ hS242.1
          have hown : (s.setVm T242.vm).vm.findClass "com/example/castless/castless/PrimitiveArraysBox334PinLaw" = some m.cls := by rw [show (s.setVm T242.vm).vm = T242.vm from rfl, hS242.1.alike.findClass]; exact hown
          have X242 : Stand p l e room_1 (s.setVm T242.vm) m #[(.int p1), (.int p2)] below meth c T242 _ 4 64 := X242
          obtain ⟨b243, k244, v245, v246, v247, v248, rfl, Nq249, K250, sz_b243, OV251, f252, f253, f254, f255, f256, f257, f258, f259, f260, f261⟩ := hQ242
          have N242 := Fr.app N241 Nq249
          have g_b243 : n0 ≤ b243 := Nat.le_trans (own_oz O241) sz_b243
          have M242 : h0.size ≤ T242.heap.size := Nat.le_trans M241 K250.1
          have O242 := Old.keep O241 K250 all0
          obtain ⟨cl262, Ar262, qa262, Sa262, Na262, Ha262, Ga262⟩ := id (f252)
          have f263 := (V241.keep K250 nin0)
          obtain ⟨_, _, ⟨T264, L264, c264, n264⟩, -, X264, ⟨Lc264, hQ264, l264, y264, z264⟩, st264⟩ := Jvm.LawKit.callS X242 hx (y := yn2) hown (mvT hZ (own_w hw 20 rfl)) (mvT hZ (own_w hw 21 rfl)) (mvT hZ (own_w hw 22 rfl)) (mvT hZ (own_w hw 23 rfl)) (by decide) (backOf (W := 0) (rm33 l Z a0 hw [] b243 b217 k244 ((if (((p2.toUInt32 >>> ((0 : Int32) &&& 31).toUInt32).toInt32) &&& (1 : Int32)) = (0 : Int32) then (0 : Int32) else (1 : Int32))) ((if (((p2.toUInt32 >>> ((1 : Int32) &&& 31).toUInt32).toInt32) &&& (1 : Int32)) = (0 : Int32) then (0 : Int32) else (1 : Int32))) ((if (((p2.toUInt32 >>> ((2 : Int32) &&& 31).toUInt32).toInt32) &&& (1 : Int32)) = (0 : Int32) then (0 : Int32) else (1 : Int32))) ((if (((p2.toUInt32 >>> ((3 : Int32) &&& 31).toUInt32).toInt32) &&& (1 : Int32)) = (0 : Int32) then (0 : Int32) else (1 : Int32))) ((if (((p2.toUInt32 >>> ((0 : Int32) &&& 31).toUInt32).toInt32) &&& (1 : Int32)) = (0 : Int32) then (0 : Int32) else (1 : Int32))) ((if (((p2.toUInt32 >>> ((1 : Int32) &&& 31).toUInt32).toInt32) &&& (1 : Int32)) = (0 : Int32) then (0 : Int32) else (1 : Int32))) ((if (((p2.toUInt32 >>> ((2 : Int32) &&& 31).toUInt32).toInt32) &&& (1 : Int32)) = (0 : Int32) then (0 : Int32) else (1 : Int32))) ((if (((p2.toUInt32 >>> ((3 : Int32) &&& 31).toUInt32).toInt32) &&& (1 : Int32)) = (0 : Int32) then (0 : Int32) else (1 : Int32))) v245 v246 v247 v248 k217 p2 T242.heap n0 O242 g_b243 g_b217 OV251 (by have q0 := (by split <;> decide : 0 ≤ (if (((p2.toUInt32 >>> ((0 : Int32) &&& 31).toUInt32).toInt32) &&& (1 : Int32)) = (0 : Int32) then (0 : Int32) else (1 : Int32)).toInt ∧ (if (((p2.toUInt32 >>> ((0 : Int32) &&& 31).toUInt32).toInt32) &&& (1 : Int32)) = (0 : Int32) then (0 : Int32) else (1 : Int32)).toInt ≤ 1); omega) (by have q0 := (by split <;> decide : 0 ≤ (if (((p2.toUInt32 >>> ((1 : Int32) &&& 31).toUInt32).toInt32) &&& (1 : Int32)) = (0 : Int32) then (0 : Int32) else (1 : Int32)).toInt ∧ (if (((p2.toUInt32 >>> ((1 : Int32) &&& 31).toUInt32).toInt32) &&& (1 : Int32)) = (0 : Int32) then (0 : Int32) else (1 : Int32)).toInt ≤ 1); omega) (by have q0 := (by split <;> decide : 0 ≤ (if (((p2.toUInt32 >>> ((2 : Int32) &&& 31).toUInt32).toInt32) &&& (1 : Int32)) = (0 : Int32) then (0 : Int32) else (1 : Int32)).toInt ∧ (if (((p2.toUInt32 >>> ((2 : Int32) &&& 31).toUInt32).toInt32) &&& (1 : Int32)) = (0 : Int32) then (0 : Int32) else (1 : Int32)).toInt ≤ 1); omega) (by have q0 := (by split <;> decide : 0 ≤ (if (((p2.toUInt32 >>> ((3 : Int32) &&& 31).toUInt32).toInt32) &&& (1 : Int32)) = (0 : Int32) then (0 : Int32) else (1 : Int32)).toInt ∧ (if (((p2.toUInt32 >>> ((3 : Int32) &&& 31).toUInt32).toInt32) &&& (1 : Int32)) = (0 : Int32) then (0 : Int32) else (1 : Int32)).toInt ≤ 1); omega) (by have q0 := (by split <;> decide : 0 ≤ (if (((p2.toUInt32 >>> ((0 : Int32) &&& 31).toUInt32).toInt32) &&& (1 : Int32)) = (0 : Int32) then (0 : Int32) else (1 : Int32)).toInt ∧ (if (((p2.toUInt32 >>> ((0 : Int32) &&& 31).toUInt32).toInt32) &&& (1 : Int32)) = (0 : Int32) then (0 : Int32) else (1 : Int32)).toInt ≤ 1); omega) (by have q0 := (by split <;> decide : 0 ≤ (if (((p2.toUInt32 >>> ((1 : Int32) &&& 31).toUInt32).toInt32) &&& (1 : Int32)) = (0 : Int32) then (0 : Int32) else (1 : Int32)).toInt ∧ (if (((p2.toUInt32 >>> ((1 : Int32) &&& 31).toUInt32).toInt32) &&& (1 : Int32)) = (0 : Int32) then (0 : Int32) else (1 : Int32)).toInt ≤ 1); omega) (by have q0 := (by split <;> decide : 0 ≤ (if (((p2.toUInt32 >>> ((2 : Int32) &&& 31).toUInt32).toInt32) &&& (1 : Int32)) = (0 : Int32) then (0 : Int32) else (1 : Int32)).toInt ∧ (if (((p2.toUInt32 >>> ((2 : Int32) &&& 31).toUInt32).toInt32) &&& (1 : Int32)) = (0 : Int32) then (0 : Int32) else (1 : Int32)).toInt ≤ 1); omega) (by have q0 := (by split <;> decide : 0 ≤ (if (((p2.toUInt32 >>> ((3 : Int32) &&& 31).toUInt32).toInt32) &&& (1 : Int32)) = (0 : Int32) then (0 : Int32) else (1 : Int32)).toInt ∧ (if (((p2.toUInt32 >>> ((3 : Int32) &&& 31).toUInt32).toInt32) &&& (1 : Int32)) = (0 : Int32) then (0 : Int32) else (1 : Int32)).toInt ≤ 1); omega) f252 f263 f254 f255) hZ (own_w hw 23 rfl) (own_w hw 22 rfl) (by decide) (by decide)) (g := (mkF m 88 #[.val (.int p1), .val (.int p2), .val (.int (4 : Int32)), .val (.ref b217), .val (.ref b243)] [(.int (0 : Int32)), (.int p2), (.int (4 : Int32)), (.ref b217), (.ref b243)])) rfl (by rw [hml]; rfl) (argsL := [(.ref b243), (.ref b217), (.int (4 : Int32)), (.int p2), (.int (0 : Int32))]) (rest := []) (lenOf pd2 rfl) rfl (by show 2 * 0 + _ ≤ _; exact Nat.le_of_eq rfl) (hb hby at_88) (fun _ _ => ⟨rfl, rfl, (by decide : 4 + 0 ≤ _), (by decide : 64 + 0 ≤ _)⟩)
          dsimp only [Pt.U, Pt.locs, Pt.cells, Pt.slots] at X264 l264 y264 z264 st264 hQ264
          subst l264 y264 z264
          have pre265 : ∀ t, Steps p.tables e below (T242.setTop (mkF m 88 #[.val (.int p1), .val (.int p2), .val (.int (4 : Int32)), .val (.ref b217), .val (.ref b243)] [(.int (0 : Int32)), (.int p2), (.int (4 : Int32)), (.ref b217), (.ref b243)])) t → Steps p.tables e below (s₁.setTop (entryFrame m #[(.int p1), (.int p2)] maxLocals)) t := fun t k => by
            refine pre216 _ ?_
            show Steps p.tables e below (s₁.setTop (mkF m 8 #[.val (.int p1), .val (.int p2), .val (.int (4 : Int32)), .unset, .unset] [(.int (4 : Int32))])) _
            refine st217 _ ?_
            refine XS.astoreN X217.here hx rfl (hb hby at_10) rfl rfl (l' := #[.val (.int p1), .val (.int p2), .val (.int (4 : Int32)), .val (.ref b217), .unset]) rfl ?_
            refine XS.iloadN X217.here hx rfl (hb hby at_11) rfl ?_
            refine XS.ifNo X217.here hx rfl (hb hby at_12) rfl ((if0 _ _).trans (tlt (by decide : (0 : Int32) < (4 : Int32))).2.2.2) ?_
            refine XS.aloadN X217.here hx rfl (hb hby at_15) rfl rfl ?_
            refine XS.iconst X217.here hx rfl (hb hby at_16) ?_
            refine XS.iloadN X217.here hx rfl (hb hby at_17) rfl ?_
            refine XS.iconst X217.here hx rfl (hb hby at_18) ?_
            refine st218 _ ?_
            refine st223 _ ?_
            refine XS.iloadN X223.here hx rfl (hb hby at_23) rfl ?_
            refine XS.iconst X223.here hx rfl (hb hby at_24) ?_
            refine XS.icmpNo X223.here hx rfl (hb hby at_25) rfl (tlt (by decide : (1 : Int32) < (4 : Int32))).2.2.2 ?_
            refine XS.aloadN X223.here hx rfl (hb hby at_28) rfl rfl ?_
            refine XS.iconst X223.here hx rfl (hb hby at_29) ?_
            refine XS.iloadN X223.here hx rfl (hb hby at_30) rfl ?_
            refine XS.iconst X223.here hx rfl (hb hby at_31) ?_
            refine st224 _ ?_
            refine st229 _ ?_
            refine XS.iloadN X229.here hx rfl (hb hby at_36) rfl ?_
            refine XS.iconst X229.here hx rfl (hb hby at_37) ?_
            refine XS.icmpNo X229.here hx rfl (hb hby at_38) rfl (tlt (by decide : (2 : Int32) < (4 : Int32))).2.2.2 ?_
            refine XS.aloadN X229.here hx rfl (hb hby at_41) rfl rfl ?_
            refine XS.iconst X229.here hx rfl (hb hby at_42) ?_
            refine XS.iloadN X229.here hx rfl (hb hby at_43) rfl ?_
            refine XS.iconst X229.here hx rfl (hb hby at_44) ?_
            refine st230 _ ?_
            refine st235 _ ?_
            refine XS.iloadN X235.here hx rfl (hb hby at_49) rfl ?_
            refine XS.iconst X235.here hx rfl (hb hby at_50) ?_
            refine XS.icmpNo X235.here hx rfl (hb hby at_51) rfl (tlt (by decide : (3 : Int32) < (4 : Int32))).2.2.2 ?_
            refine XS.aloadN X235.here hx rfl (hb hby at_54) rfl rfl ?_
            refine XS.iconst X235.here hx rfl (hb hby at_55) ?_
            show Steps p.tables e below (T235.setTop (mkF m 56 #[.val (.int p1), .val (.int p2), .val (.int (4 : Int32)), .val (.ref b217), .unset] [(.int (3 : Int32)), (.ref b217)])) _
            refine XS.iloadN X235.here hx rfl (hb hby at_56) rfl ?_
            refine XS.iconst X235.here hx rfl (hb hby at_57) ?_
            refine st236 _ ?_
            refine st241 _ ?_
            refine XS.aloadN X241.here hx rfl (hb hby at_62) rfl rfl ?_
            refine st242.trans ?_
            refine XS.astore X242.here hx rfl (hb hby at_66) rfl rfl (l' := #[.val (.int p1), .val (.int p2), .val (.int (4 : Int32)), .val (.ref b217), .val (.ref b243)]) rfl ?_
            refine XS.aload X242.here hx rfl (hb hby at_68) rfl rfl ?_
            refine XS.ifnullNo X242.here hx rfl (hb hby at_70) rfl ?_
            refine XS.aload X242.here hx rfl (hb hby at_73) rfl rfl ?_
            refine X242.arraylength hx Ar262.1 (State.isArrayOf_alike hZ.alike Ar262.2.1) (g := (mkF m 75 #[.val (.int p1), .val (.int p2), .val (.int (4 : Int32)), .val (.ref b217), .val (.ref b243)] [(.ref b243)])) rfl rfl (hb hby at_75) _ ?_
            rw [len_of Sa262 Na262]
            refine XS.iloadN X242.here hx rfl (hb hby at_76) rfl ?_
            refine XS.icmpYes X242.here hx rfl (pc0 := 77) (pc' := 82) rfl (hb hby at_77) rfl (teq (by decide : (4 : Int32) = (4 : Int32))).1 (by decide) (by decide) ?_
            refine XS.aload X242.here hx rfl (hb hby at_82) rfl rfl ?_
            refine XS.aloadN X242.here hx rfl (hb hby at_84) rfl rfl ?_
            refine XS.iloadN X242.here hx rfl (hb hby at_85) rfl ?_
            refine XS.iloadN X242.here hx rfl (hb hby at_86) rfl ?_
            refine XS.iconst X242.here hx rfl (hb hby at_87) ?_
            exact k
          have X264 : Stand p l e room_1 (s.setVm T242.vm) m #[(.int p1), (.int p2)] below meth c T264 _ 4 64 := X264
          rcases hQ264 with ⟨hc266, hc267, rfl, Nq268, e269⟩ | ⟨hc270, hc271, rfl, Nq272, e273⟩ | ⟨hc274, rfl, Nq275, e276⟩
          ·
            have N264 := Fr.app N242 Nq268
            obtain ⟨_, _, ⟨T277, L277, c277, n277⟩, -, X277, ⟨Lc277, hQ277, l277, y277, z277⟩, st277⟩ := Jvm.LawKit.callS X264 hx (y := yn2) hown (mvT hZ (own_w hw 20 rfl)) (mvT hZ (own_w hw 21 rfl)) (mvT hZ (own_w hw 22 rfl)) (mvT hZ (own_w hw 23 rfl)) (by decide) (backOf (W := 0) (rm34 l Z a0 hw [] b243 b217 k244 ((if (((p2.toUInt32 >>> ((0 : Int32) &&& 31).toUInt32).toInt32) &&& (1 : Int32)) = (0 : Int32) then (0 : Int32) else (1 : Int32))) ((if (((p2.toUInt32 >>> ((1 : Int32) &&& 31).toUInt32).toInt32) &&& (1 : Int32)) = (0 : Int32) then (0 : Int32) else (1 : Int32))) ((if (((p2.toUInt32 >>> ((2 : Int32) &&& 31).toUInt32).toInt32) &&& (1 : Int32)) = (0 : Int32) then (0 : Int32) else (1 : Int32))) ((if (((p2.toUInt32 >>> ((3 : Int32) &&& 31).toUInt32).toInt32) &&& (1 : Int32)) = (0 : Int32) then (0 : Int32) else (1 : Int32))) ((if (((p2.toUInt32 >>> ((0 : Int32) &&& 31).toUInt32).toInt32) &&& (1 : Int32)) = (0 : Int32) then (0 : Int32) else (1 : Int32))) ((if (((p2.toUInt32 >>> ((1 : Int32) &&& 31).toUInt32).toInt32) &&& (1 : Int32)) = (0 : Int32) then (0 : Int32) else (1 : Int32))) ((if (((p2.toUInt32 >>> ((2 : Int32) &&& 31).toUInt32).toInt32) &&& (1 : Int32)) = (0 : Int32) then (0 : Int32) else (1 : Int32))) ((if (((p2.toUInt32 >>> ((3 : Int32) &&& 31).toUInt32).toInt32) &&& (1 : Int32)) = (0 : Int32) then (0 : Int32) else (1 : Int32))) v245 v246 v247 v248 k217 p2 T242.heap n0 O242 g_b243 g_b217 OV251 (by have q0 := (by split <;> decide : 0 ≤ (if (((p2.toUInt32 >>> ((0 : Int32) &&& 31).toUInt32).toInt32) &&& (1 : Int32)) = (0 : Int32) then (0 : Int32) else (1 : Int32)).toInt ∧ (if (((p2.toUInt32 >>> ((0 : Int32) &&& 31).toUInt32).toInt32) &&& (1 : Int32)) = (0 : Int32) then (0 : Int32) else (1 : Int32)).toInt ≤ 1); omega) (by have q0 := (by split <;> decide : 0 ≤ (if (((p2.toUInt32 >>> ((1 : Int32) &&& 31).toUInt32).toInt32) &&& (1 : Int32)) = (0 : Int32) then (0 : Int32) else (1 : Int32)).toInt ∧ (if (((p2.toUInt32 >>> ((1 : Int32) &&& 31).toUInt32).toInt32) &&& (1 : Int32)) = (0 : Int32) then (0 : Int32) else (1 : Int32)).toInt ≤ 1); omega) (by have q0 := (by split <;> decide : 0 ≤ (if (((p2.toUInt32 >>> ((2 : Int32) &&& 31).toUInt32).toInt32) &&& (1 : Int32)) = (0 : Int32) then (0 : Int32) else (1 : Int32)).toInt ∧ (if (((p2.toUInt32 >>> ((2 : Int32) &&& 31).toUInt32).toInt32) &&& (1 : Int32)) = (0 : Int32) then (0 : Int32) else (1 : Int32)).toInt ≤ 1); omega) (by have q0 := (by split <;> decide : 0 ≤ (if (((p2.toUInt32 >>> ((3 : Int32) &&& 31).toUInt32).toInt32) &&& (1 : Int32)) = (0 : Int32) then (0 : Int32) else (1 : Int32)).toInt ∧ (if (((p2.toUInt32 >>> ((3 : Int32) &&& 31).toUInt32).toInt32) &&& (1 : Int32)) = (0 : Int32) then (0 : Int32) else (1 : Int32)).toInt ≤ 1); omega) (by have q0 := (by split <;> decide : 0 ≤ (if (((p2.toUInt32 >>> ((0 : Int32) &&& 31).toUInt32).toInt32) &&& (1 : Int32)) = (0 : Int32) then (0 : Int32) else (1 : Int32)).toInt ∧ (if (((p2.toUInt32 >>> ((0 : Int32) &&& 31).toUInt32).toInt32) &&& (1 : Int32)) = (0 : Int32) then (0 : Int32) else (1 : Int32)).toInt ≤ 1); omega) (by have q0 := (by split <;> decide : 0 ≤ (if (((p2.toUInt32 >>> ((1 : Int32) &&& 31).toUInt32).toInt32) &&& (1 : Int32)) = (0 : Int32) then (0 : Int32) else (1 : Int32)).toInt ∧ (if (((p2.toUInt32 >>> ((1 : Int32) &&& 31).toUInt32).toInt32) &&& (1 : Int32)) = (0 : Int32) then (0 : Int32) else (1 : Int32)).toInt ≤ 1); omega) (by have q0 := (by split <;> decide : 0 ≤ (if (((p2.toUInt32 >>> ((2 : Int32) &&& 31).toUInt32).toInt32) &&& (1 : Int32)) = (0 : Int32) then (0 : Int32) else (1 : Int32)).toInt ∧ (if (((p2.toUInt32 >>> ((2 : Int32) &&& 31).toUInt32).toInt32) &&& (1 : Int32)) = (0 : Int32) then (0 : Int32) else (1 : Int32)).toInt ≤ 1); omega) (by have q0 := (by split <;> decide : 0 ≤ (if (((p2.toUInt32 >>> ((3 : Int32) &&& 31).toUInt32).toInt32) &&& (1 : Int32)) = (0 : Int32) then (0 : Int32) else (1 : Int32)).toInt ∧ (if (((p2.toUInt32 >>> ((3 : Int32) &&& 31).toUInt32).toInt32) &&& (1 : Int32)) = (0 : Int32) then (0 : Int32) else (1 : Int32)).toInt ≤ 1); omega) f252 f263 f256 f257) hZ (own_w hw 23 rfl) (own_w hw 22 rfl) (by decide) (by decide)) (g := (mkF m 100 #[.val (.int p1), .val (.int p2), .val (.int (4 : Int32)), .val (.ref b217), .val (.ref b243)] [(.int (1 : Int32)), (.int p2), (.int (4 : Int32)), (.ref b217), (.ref b243)])) rfl (by rw [hml]; rfl) (argsL := [(.ref b243), (.ref b217), (.int (4 : Int32)), (.int p2), (.int (1 : Int32))]) (rest := []) (lenOf pd2 rfl) rfl (by show 2 * 0 + _ ≤ _; exact Nat.le_of_eq rfl) (hb hby at_100) (fun _ _ => ⟨rfl, e269, (by decide : 4 + 0 ≤ _), (by decide : 64 + 0 ≤ _)⟩)
            dsimp only [Pt.U, Pt.locs, Pt.cells, Pt.slots] at X277 l277 y277 z277 st277 hQ277
            subst l277 y277 z277
            have pre278 : ∀ t, Steps p.tables e below (T264.setTop (mkF m 100 #[.val (.int p1), .val (.int p2), .val (.int (4 : Int32)), .val (.ref b217), .val (.ref b243)] [(.int (1 : Int32)), (.int p2), (.int (4 : Int32)), (.ref b217), (.ref b243)])) t → Steps p.tables e below (s₁.setTop (entryFrame m #[(.int p1), (.int p2)] maxLocals)) t := fun t k => by
              refine pre265 _ ?_
              show Steps p.tables e below (T242.setTop (mkF m 88 #[.val (.int p1), .val (.int p2), .val (.int (4 : Int32)), .val (.ref b217), .val (.ref b243)] [(.int (0 : Int32)), (.int p2), (.int (4 : Int32)), (.ref b217), (.ref b243)])) _
              refine st264 _ ?_
              refine XS.ifNo X264.here hx rfl (hb hby at_91) rfl ((if0 _ _).trans (feq (by decide : ¬ ((1 : Int32) = (0 : Int32)))).1) ?_
              refine XS.aload X264.here hx rfl (hb hby at_94) rfl rfl ?_
              refine XS.aloadN X264.here hx rfl (hb hby at_96) rfl rfl ?_
              refine XS.iloadN X264.here hx rfl (hb hby at_97) rfl ?_
              refine XS.iloadN X264.here hx rfl (hb hby at_98) rfl ?_
              refine XS.iconst X264.here hx rfl (hb hby at_99) ?_
              exact k
            have X277 : Stand p l e room_1 (s.setVm T242.vm) m #[(.int p1), (.int p2)] below meth c T277 _ 4 64 := X277
            rcases hQ277 with ⟨hc279, hc280, rfl, Nq281, e282⟩ | ⟨hc283, hc284, rfl, Nq285, e286⟩ | ⟨hc287, rfl, Nq288, e289⟩
            ·
              have N277 := Fr.app N264 Nq281
              obtain ⟨_, _, ⟨T290, L290, c290, n290⟩, -, X290, ⟨Lc290, hQ290, l290, y290, z290⟩, st290⟩ := Jvm.LawKit.callS X277 hx (y := yn2) hown (mvT hZ (own_w hw 20 rfl)) (mvT hZ (own_w hw 21 rfl)) (mvT hZ (own_w hw 22 rfl)) (mvT hZ (own_w hw 23 rfl)) (by decide) (backOf (W := 0) (rm35 l Z a0 hw [] b243 b217 k244 ((if (((p2.toUInt32 >>> ((0 : Int32) &&& 31).toUInt32).toInt32) &&& (1 : Int32)) = (0 : Int32) then (0 : Int32) else (1 : Int32))) ((if (((p2.toUInt32 >>> ((1 : Int32) &&& 31).toUInt32).toInt32) &&& (1 : Int32)) = (0 : Int32) then (0 : Int32) else (1 : Int32))) ((if (((p2.toUInt32 >>> ((2 : Int32) &&& 31).toUInt32).toInt32) &&& (1 : Int32)) = (0 : Int32) then (0 : Int32) else (1 : Int32))) ((if (((p2.toUInt32 >>> ((3 : Int32) &&& 31).toUInt32).toInt32) &&& (1 : Int32)) = (0 : Int32) then (0 : Int32) else (1 : Int32))) ((if (((p2.toUInt32 >>> ((0 : Int32) &&& 31).toUInt32).toInt32) &&& (1 : Int32)) = (0 : Int32) then (0 : Int32) else (1 : Int32))) ((if (((p2.toUInt32 >>> ((1 : Int32) &&& 31).toUInt32).toInt32) &&& (1 : Int32)) = (0 : Int32) then (0 : Int32) else (1 : Int32))) ((if (((p2.toUInt32 >>> ((2 : Int32) &&& 31).toUInt32).toInt32) &&& (1 : Int32)) = (0 : Int32) then (0 : Int32) else (1 : Int32))) ((if (((p2.toUInt32 >>> ((3 : Int32) &&& 31).toUInt32).toInt32) &&& (1 : Int32)) = (0 : Int32) then (0 : Int32) else (1 : Int32))) v245 v246 v247 v248 k217 p2 T242.heap n0 O242 g_b243 g_b217 OV251 (by have q0 := (by split <;> decide : 0 ≤ (if (((p2.toUInt32 >>> ((0 : Int32) &&& 31).toUInt32).toInt32) &&& (1 : Int32)) = (0 : Int32) then (0 : Int32) else (1 : Int32)).toInt ∧ (if (((p2.toUInt32 >>> ((0 : Int32) &&& 31).toUInt32).toInt32) &&& (1 : Int32)) = (0 : Int32) then (0 : Int32) else (1 : Int32)).toInt ≤ 1); omega) (by have q0 := (by split <;> decide : 0 ≤ (if (((p2.toUInt32 >>> ((1 : Int32) &&& 31).toUInt32).toInt32) &&& (1 : Int32)) = (0 : Int32) then (0 : Int32) else (1 : Int32)).toInt ∧ (if (((p2.toUInt32 >>> ((1 : Int32) &&& 31).toUInt32).toInt32) &&& (1 : Int32)) = (0 : Int32) then (0 : Int32) else (1 : Int32)).toInt ≤ 1); omega) (by have q0 := (by split <;> decide : 0 ≤ (if (((p2.toUInt32 >>> ((2 : Int32) &&& 31).toUInt32).toInt32) &&& (1 : Int32)) = (0 : Int32) then (0 : Int32) else (1 : Int32)).toInt ∧ (if (((p2.toUInt32 >>> ((2 : Int32) &&& 31).toUInt32).toInt32) &&& (1 : Int32)) = (0 : Int32) then (0 : Int32) else (1 : Int32)).toInt ≤ 1); omega) (by have q0 := (by split <;> decide : 0 ≤ (if (((p2.toUInt32 >>> ((3 : Int32) &&& 31).toUInt32).toInt32) &&& (1 : Int32)) = (0 : Int32) then (0 : Int32) else (1 : Int32)).toInt ∧ (if (((p2.toUInt32 >>> ((3 : Int32) &&& 31).toUInt32).toInt32) &&& (1 : Int32)) = (0 : Int32) then (0 : Int32) else (1 : Int32)).toInt ≤ 1); omega) (by have q0 := (by split <;> decide : 0 ≤ (if (((p2.toUInt32 >>> ((0 : Int32) &&& 31).toUInt32).toInt32) &&& (1 : Int32)) = (0 : Int32) then (0 : Int32) else (1 : Int32)).toInt ∧ (if (((p2.toUInt32 >>> ((0 : Int32) &&& 31).toUInt32).toInt32) &&& (1 : Int32)) = (0 : Int32) then (0 : Int32) else (1 : Int32)).toInt ≤ 1); omega) (by have q0 := (by split <;> decide : 0 ≤ (if (((p2.toUInt32 >>> ((1 : Int32) &&& 31).toUInt32).toInt32) &&& (1 : Int32)) = (0 : Int32) then (0 : Int32) else (1 : Int32)).toInt ∧ (if (((p2.toUInt32 >>> ((1 : Int32) &&& 31).toUInt32).toInt32) &&& (1 : Int32)) = (0 : Int32) then (0 : Int32) else (1 : Int32)).toInt ≤ 1); omega) (by have q0 := (by split <;> decide : 0 ≤ (if (((p2.toUInt32 >>> ((2 : Int32) &&& 31).toUInt32).toInt32) &&& (1 : Int32)) = (0 : Int32) then (0 : Int32) else (1 : Int32)).toInt ∧ (if (((p2.toUInt32 >>> ((2 : Int32) &&& 31).toUInt32).toInt32) &&& (1 : Int32)) = (0 : Int32) then (0 : Int32) else (1 : Int32)).toInt ≤ 1); omega) (by have q0 := (by split <;> decide : 0 ≤ (if (((p2.toUInt32 >>> ((3 : Int32) &&& 31).toUInt32).toInt32) &&& (1 : Int32)) = (0 : Int32) then (0 : Int32) else (1 : Int32)).toInt ∧ (if (((p2.toUInt32 >>> ((3 : Int32) &&& 31).toUInt32).toInt32) &&& (1 : Int32)) = (0 : Int32) then (0 : Int32) else (1 : Int32)).toInt ≤ 1); omega) f252 f263 f258 f259) hZ (own_w hw 23 rfl) (own_w hw 22 rfl) (by decide) (by decide)) (g := (mkF m 112 #[.val (.int p1), .val (.int p2), .val (.int (4 : Int32)), .val (.ref b217), .val (.ref b243)] [(.int (2 : Int32)), (.int p2), (.int (4 : Int32)), (.ref b217), (.ref b243)])) rfl (by rw [hml]; rfl) (argsL := [(.ref b243), (.ref b217), (.int (4 : Int32)), (.int p2), (.int (2 : Int32))]) (rest := []) (lenOf pd2 rfl) rfl (by show 2 * 0 + _ ≤ _; exact Nat.le_of_eq rfl) (hb hby at_112) (fun _ _ => ⟨rfl, e282, (by decide : 4 + 0 ≤ _), (by decide : 64 + 0 ≤ _)⟩)
              dsimp only [Pt.U, Pt.locs, Pt.cells, Pt.slots] at X290 l290 y290 z290 st290 hQ290
              subst l290 y290 z290
              have pre291 : ∀ t, Steps p.tables e below (T277.setTop (mkF m 112 #[.val (.int p1), .val (.int p2), .val (.int (4 : Int32)), .val (.ref b217), .val (.ref b243)] [(.int (2 : Int32)), (.int p2), (.int (4 : Int32)), (.ref b217), (.ref b243)])) t → Steps p.tables e below (s₁.setTop (entryFrame m #[(.int p1), (.int p2)] maxLocals)) t := fun t k => by
                refine pre278 _ ?_
                show Steps p.tables e below (T264.setTop (mkF m 100 #[.val (.int p1), .val (.int p2), .val (.int (4 : Int32)), .val (.ref b217), .val (.ref b243)] [(.int (1 : Int32)), (.int p2), (.int (4 : Int32)), (.ref b217), (.ref b243)])) _
                refine st277 _ ?_
                refine XS.ifNo X277.here hx rfl (hb hby at_103) rfl ((if0 _ _).trans (feq (by decide : ¬ ((1 : Int32) = (0 : Int32)))).1) ?_
                refine XS.aload X277.here hx rfl (hb hby at_106) rfl rfl ?_
                refine XS.aloadN X277.here hx rfl (hb hby at_108) rfl rfl ?_
                refine XS.iloadN X277.here hx rfl (hb hby at_109) rfl ?_
                refine XS.iloadN X277.here hx rfl (hb hby at_110) rfl ?_
                refine XS.iconst X277.here hx rfl (hb hby at_111) ?_
                exact k
              have X290 : Stand p l e room_1 (s.setVm T242.vm) m #[(.int p1), (.int p2)] below meth c T290 _ 4 64 := X290
              rcases hQ290 with ⟨hc292, hc293, rfl, Nq294, e295⟩ | ⟨hc296, hc297, rfl, Nq298, e299⟩ | ⟨hc300, rfl, Nq301, e302⟩
              ·
                have N290 := Fr.app N277 Nq294
                obtain ⟨_, _, ⟨T303, L303, c303, n303⟩, -, X303, ⟨Lc303, hQ303, l303, y303, z303⟩, st303⟩ := Jvm.LawKit.callS X290 hx (y := yn2) hown (mvT hZ (own_w hw 20 rfl)) (mvT hZ (own_w hw 21 rfl)) (mvT hZ (own_w hw 22 rfl)) (mvT hZ (own_w hw 23 rfl)) (by decide) (backOf (W := 0) (rm36 l Z a0 hw [] b243 b217 k244 ((if (((p2.toUInt32 >>> ((0 : Int32) &&& 31).toUInt32).toInt32) &&& (1 : Int32)) = (0 : Int32) then (0 : Int32) else (1 : Int32))) ((if (((p2.toUInt32 >>> ((1 : Int32) &&& 31).toUInt32).toInt32) &&& (1 : Int32)) = (0 : Int32) then (0 : Int32) else (1 : Int32))) ((if (((p2.toUInt32 >>> ((2 : Int32) &&& 31).toUInt32).toInt32) &&& (1 : Int32)) = (0 : Int32) then (0 : Int32) else (1 : Int32))) ((if (((p2.toUInt32 >>> ((3 : Int32) &&& 31).toUInt32).toInt32) &&& (1 : Int32)) = (0 : Int32) then (0 : Int32) else (1 : Int32))) ((if (((p2.toUInt32 >>> ((0 : Int32) &&& 31).toUInt32).toInt32) &&& (1 : Int32)) = (0 : Int32) then (0 : Int32) else (1 : Int32))) ((if (((p2.toUInt32 >>> ((1 : Int32) &&& 31).toUInt32).toInt32) &&& (1 : Int32)) = (0 : Int32) then (0 : Int32) else (1 : Int32))) ((if (((p2.toUInt32 >>> ((2 : Int32) &&& 31).toUInt32).toInt32) &&& (1 : Int32)) = (0 : Int32) then (0 : Int32) else (1 : Int32))) ((if (((p2.toUInt32 >>> ((3 : Int32) &&& 31).toUInt32).toInt32) &&& (1 : Int32)) = (0 : Int32) then (0 : Int32) else (1 : Int32))) v245 v246 v247 v248 k217 p2 T242.heap n0 O242 g_b243 g_b217 OV251 (by have q0 := (by split <;> decide : 0 ≤ (if (((p2.toUInt32 >>> ((0 : Int32) &&& 31).toUInt32).toInt32) &&& (1 : Int32)) = (0 : Int32) then (0 : Int32) else (1 : Int32)).toInt ∧ (if (((p2.toUInt32 >>> ((0 : Int32) &&& 31).toUInt32).toInt32) &&& (1 : Int32)) = (0 : Int32) then (0 : Int32) else (1 : Int32)).toInt ≤ 1); omega) (by have q0 := (by split <;> decide : 0 ≤ (if (((p2.toUInt32 >>> ((1 : Int32) &&& 31).toUInt32).toInt32) &&& (1 : Int32)) = (0 : Int32) then (0 : Int32) else (1 : Int32)).toInt ∧ (if (((p2.toUInt32 >>> ((1 : Int32) &&& 31).toUInt32).toInt32) &&& (1 : Int32)) = (0 : Int32) then (0 : Int32) else (1 : Int32)).toInt ≤ 1); omega) (by have q0 := (by split <;> decide : 0 ≤ (if (((p2.toUInt32 >>> ((2 : Int32) &&& 31).toUInt32).toInt32) &&& (1 : Int32)) = (0 : Int32) then (0 : Int32) else (1 : Int32)).toInt ∧ (if (((p2.toUInt32 >>> ((2 : Int32) &&& 31).toUInt32).toInt32) &&& (1 : Int32)) = (0 : Int32) then (0 : Int32) else (1 : Int32)).toInt ≤ 1); omega) (by have q0 := (by split <;> decide : 0 ≤ (if (((p2.toUInt32 >>> ((3 : Int32) &&& 31).toUInt32).toInt32) &&& (1 : Int32)) = (0 : Int32) then (0 : Int32) else (1 : Int32)).toInt ∧ (if (((p2.toUInt32 >>> ((3 : Int32) &&& 31).toUInt32).toInt32) &&& (1 : Int32)) = (0 : Int32) then (0 : Int32) else (1 : Int32)).toInt ≤ 1); omega) (by have q0 := (by split <;> decide : 0 ≤ (if (((p2.toUInt32 >>> ((0 : Int32) &&& 31).toUInt32).toInt32) &&& (1 : Int32)) = (0 : Int32) then (0 : Int32) else (1 : Int32)).toInt ∧ (if (((p2.toUInt32 >>> ((0 : Int32) &&& 31).toUInt32).toInt32) &&& (1 : Int32)) = (0 : Int32) then (0 : Int32) else (1 : Int32)).toInt ≤ 1); omega) (by have q0 := (by split <;> decide : 0 ≤ (if (((p2.toUInt32 >>> ((1 : Int32) &&& 31).toUInt32).toInt32) &&& (1 : Int32)) = (0 : Int32) then (0 : Int32) else (1 : Int32)).toInt ∧ (if (((p2.toUInt32 >>> ((1 : Int32) &&& 31).toUInt32).toInt32) &&& (1 : Int32)) = (0 : Int32) then (0 : Int32) else (1 : Int32)).toInt ≤ 1); omega) (by have q0 := (by split <;> decide : 0 ≤ (if (((p2.toUInt32 >>> ((2 : Int32) &&& 31).toUInt32).toInt32) &&& (1 : Int32)) = (0 : Int32) then (0 : Int32) else (1 : Int32)).toInt ∧ (if (((p2.toUInt32 >>> ((2 : Int32) &&& 31).toUInt32).toInt32) &&& (1 : Int32)) = (0 : Int32) then (0 : Int32) else (1 : Int32)).toInt ≤ 1); omega) (by have q0 := (by split <;> decide : 0 ≤ (if (((p2.toUInt32 >>> ((3 : Int32) &&& 31).toUInt32).toInt32) &&& (1 : Int32)) = (0 : Int32) then (0 : Int32) else (1 : Int32)).toInt ∧ (if (((p2.toUInt32 >>> ((3 : Int32) &&& 31).toUInt32).toInt32) &&& (1 : Int32)) = (0 : Int32) then (0 : Int32) else (1 : Int32)).toInt ≤ 1); omega) f252 f263 f260 f261) hZ (own_w hw 23 rfl) (own_w hw 22 rfl) (by decide) (by decide)) (g := (mkF m 124 #[.val (.int p1), .val (.int p2), .val (.int (4 : Int32)), .val (.ref b217), .val (.ref b243)] [(.int (3 : Int32)), (.int p2), (.int (4 : Int32)), (.ref b217), (.ref b243)])) rfl (by rw [hml]; rfl) (argsL := [(.ref b243), (.ref b217), (.int (4 : Int32)), (.int p2), (.int (3 : Int32))]) (rest := []) (lenOf pd2 rfl) rfl (by show 2 * 0 + _ ≤ _; exact Nat.le_of_eq rfl) (hb hby at_124) (fun _ _ => ⟨rfl, e295, (by decide : 4 + 0 ≤ _), (by decide : 64 + 0 ≤ _)⟩)
                dsimp only [Pt.U, Pt.locs, Pt.cells, Pt.slots] at X303 l303 y303 z303 st303 hQ303
                subst l303 y303 z303
                have pre304 : ∀ t, Steps p.tables e below (T290.setTop (mkF m 124 #[.val (.int p1), .val (.int p2), .val (.int (4 : Int32)), .val (.ref b217), .val (.ref b243)] [(.int (3 : Int32)), (.int p2), (.int (4 : Int32)), (.ref b217), (.ref b243)])) t → Steps p.tables e below (s₁.setTop (entryFrame m #[(.int p1), (.int p2)] maxLocals)) t := fun t k => by
                  refine pre291 _ ?_
                  show Steps p.tables e below (T277.setTop (mkF m 112 #[.val (.int p1), .val (.int p2), .val (.int (4 : Int32)), .val (.ref b217), .val (.ref b243)] [(.int (2 : Int32)), (.int p2), (.int (4 : Int32)), (.ref b217), (.ref b243)])) _
                  refine st290 _ ?_
                  refine XS.ifNo X290.here hx rfl (hb hby at_115) rfl ((if0 _ _).trans (feq (by decide : ¬ ((1 : Int32) = (0 : Int32)))).1) ?_
                  refine XS.aload X290.here hx rfl (hb hby at_118) rfl rfl ?_
                  refine XS.aloadN X290.here hx rfl (hb hby at_120) rfl rfl ?_
                  refine XS.iloadN X290.here hx rfl (hb hby at_121) rfl ?_
                  refine XS.iloadN X290.here hx rfl (hb hby at_122) rfl ?_
                  refine XS.iconst X290.here hx rfl (hb hby at_123) ?_
                  exact k
                have X303 : Stand p l e room_1 (s.setVm T242.vm) m #[(.int p1), (.int p2)] below meth c T303 _ 4 64 := X303
                rcases hQ303 with ⟨hc305, hc306, rfl, Nq307, e308⟩ | ⟨hc309, hc310, rfl, Nq311, e312⟩ | ⟨hc313, rfl, Nq314, e315⟩
                ·
                  have N303 := Fr.app N290 Nq307
                  obtain ⟨fs, hr, hrun, hended, hRE⟩ := X303.leaveW hS242 (by rw [e308]; exact (Nat.le_refl _)) (v := some (.int (1 : Int32))) (fun h => by rw [hret] at h; cases h)
                  refine ⟨_, _, pre304 _ ?_, hrun, hended, _, _, rfl, ?_, hRE.1, hRE.2.1, hRE.2.2.1, hRE.2.2.2.mono (by decide) (by decide)⟩
                  ·
                    show Steps p.tables e below (T290.setTop (mkF m 124 #[.val (.int p1), .val (.int p2), .val (.int (4 : Int32)), .val (.ref b217), .val (.ref b243)] [(.int (3 : Int32)), (.int p2), (.int (4 : Int32)), (.ref b217), (.ref b243)])) _
                    refine st303 _ ?_
                    show Steps p.tables e below (T303.setTop (mkF m 127 #[.val (.int p1), .val (.int p2), .val (.int (4 : Int32)), .val (.ref b217), .val (.ref b243)] [(.int (1 : Int32))])) _
                    refine XS.ifNo X303.here hx rfl (hb hby at_127) rfl ((if0 _ _).trans (feq (by decide : ¬ ((1 : Int32) = (0 : Int32)))).1) ?_
                    refine XS.iconst X303.here hx rfl (hb hby at_130) ?_
                    refine XS.goto X303.here hx rfl (pc0 := 131) (pc' := 135) rfl (hb hby at_131) (by decide) (by decide) ?_
                    show Steps p.tables e below (T303.setTop (mkF m 135 #[.val (.int p1), .val (.int p2), .val (.int (4 : Int32)), .val (.ref b217), .val (.ref b243)] [(.int (1 : Int32))])) _
                    exact retN X303 hx (t := .boolean) hret (by simp) (hb hby at_135) hr
                  ·
                    show Q0 n0 _ T303.heap _
                    rw [e308]
                    exact ⟨rfl, N303⟩
                ·
                  exact absurd (rfl : (if (((p2.toUInt32 >>> ((3 : Int32) &&& 31).toUInt32).toInt32) &&& (1 : Int32)) = (0 : Int32) then (0 : Int32) else (1 : Int32)) = (if (((p2.toUInt32 >>> ((3 : Int32) &&& 31).toUInt32).toInt32) &&& (1 : Int32)) = (0 : Int32) then (0 : Int32) else (1 : Int32))) hc310
                ·
                  exact absurd (rfl : (if (((p2.toUInt32 >>> ((3 : Int32) &&& 31).toUInt32).toInt32) &&& (1 : Int32)) = (0 : Int32) then (0 : Int32) else (1 : Int32)) = (if (((p2.toUInt32 >>> ((3 : Int32) &&& 31).toUInt32).toInt32) &&& (1 : Int32)) = (0 : Int32) then (0 : Int32) else (1 : Int32))) hc313
              ·
                exact absurd (rfl : (if (((p2.toUInt32 >>> ((2 : Int32) &&& 31).toUInt32).toInt32) &&& (1 : Int32)) = (0 : Int32) then (0 : Int32) else (1 : Int32)) = (if (((p2.toUInt32 >>> ((2 : Int32) &&& 31).toUInt32).toInt32) &&& (1 : Int32)) = (0 : Int32) then (0 : Int32) else (1 : Int32))) hc297
              ·
                exact absurd (rfl : (if (((p2.toUInt32 >>> ((2 : Int32) &&& 31).toUInt32).toInt32) &&& (1 : Int32)) = (0 : Int32) then (0 : Int32) else (1 : Int32)) = (if (((p2.toUInt32 >>> ((2 : Int32) &&& 31).toUInt32).toInt32) &&& (1 : Int32)) = (0 : Int32) then (0 : Int32) else (1 : Int32))) hc300
            ·
              exact absurd (rfl : (if (((p2.toUInt32 >>> ((1 : Int32) &&& 31).toUInt32).toInt32) &&& (1 : Int32)) = (0 : Int32) then (0 : Int32) else (1 : Int32)) = (if (((p2.toUInt32 >>> ((1 : Int32) &&& 31).toUInt32).toInt32) &&& (1 : Int32)) = (0 : Int32) then (0 : Int32) else (1 : Int32))) hc284
            ·
              exact absurd (rfl : (if (((p2.toUInt32 >>> ((1 : Int32) &&& 31).toUInt32).toInt32) &&& (1 : Int32)) = (0 : Int32) then (0 : Int32) else (1 : Int32)) = (if (((p2.toUInt32 >>> ((1 : Int32) &&& 31).toUInt32).toInt32) &&& (1 : Int32)) = (0 : Int32) then (0 : Int32) else (1 : Int32))) hc287
          ·
            exact absurd (rfl : (if (((p2.toUInt32 >>> ((0 : Int32) &&& 31).toUInt32).toInt32) &&& (1 : Int32)) = (0 : Int32) then (0 : Int32) else (1 : Int32)) = (if (((p2.toUInt32 >>> ((0 : Int32) &&& 31).toUInt32).toInt32) &&& (1 : Int32)) = (0 : Int32) then (0 : Int32) else (1 : Int32))) hc271
          ·
            exact absurd (rfl : (if (((p2.toUInt32 >>> ((0 : Int32) &&& 31).toUInt32).toInt32) &&& (1 : Int32)) = (0 : Int32) then (0 : Int32) else (1 : Int32)) = (if (((p2.toUInt32 >>> ((0 : Int32) &&& 31).toUInt32).toInt32) &&& (1 : Int32)) = (0 : Int32) then (0 : Int32) else (1 : Int32))) hc274
set_option maxRecDepth 65536 in
set_option maxHeartbeats 40000000 in
theorem comes_1 {Post : Tables → Env → Array Value → State → Outcome → State → Prop} (hpost : ∀ tb e args s v u, (limb_1_1.after args s (.returned v) u = true ∧ limb_1_2.after args s (.returned v) u = true ∧ True) → ReturnedEndW s (.returned v) u (Jvm.fieldLocs frame_1_writes args s ++ Jvm.arrayLocs frame_1_arrays args s ++ Jvm.staticLocs frame_1_statics s) 16 1152 → Post tb e args s (.returned v) u) :
    ArmFor flags0 classFile x code maxLocals ret World_1 tables_1 room_1 Calls_1 rest_1 Pre_1 Post := by
  intro l hfl _ _ p e ha hc hk s m args below hf hA hF happ hP
  obtain ⟨hcalls, hrest, hpre⟩ := hP
  obtain ⟨-, -, -, hnamed, -, -, -, hat⟩ := (Spec.applies_iff hf).mp happ
  obtain ⟨hg, hn⟩ := and_e (Cond.before_iff.mp (show (Jvm.Cond.and given_1 narrow_1).before args s = true from hpre))
  obtain ⟨hcount, hk0⟩ := and_e hg
  obtain ⟨hi0, hk1⟩ := and_e hk0
  have hi1 := hk1
  obtain ⟨w_a0, w_a1, rfl⟩ : ∃ w_a0 w_a1 : Value, args = #[w_a0, w_a1] := by
    have hs : args.size = 2 := by simpa [Cond.value, given_1] using hcount
    obtain ⟨L⟩ := args
    match L, hs with
    | [w_a0, w_a1], _ => exact ⟨w_a0, w_a1, rfl⟩
  have hw := fun d (hd : d ∈ tables_1) => atoms_spec (ws := Jvm.Cond.code x code maxLocals ret :: tables_1) hat d (List.mem_cons_of_mem _ hd)
  have hfit : Fit s := fun {y c} hc i hi => by
    obtain ⟨ha, rfl⟩ := Array.getElem?_eq_some_iff.mp hc
    have q := List.all_eq_true.mp ((Array.all_eq_true_iff_forall_mem.mp hF) _ (Array.getElem_mem ha)) i (List.mem_range.mpr hi)
    simpa [Array.getElem?_eq_getElem hi] using q
  obtain ⟨hsets, hown0⟩ := atoms_of _ (rest_1_c_eq ▸ (show rest_1_c.before _ s = true from hrest))
  obtain ⟨i0, ei0⟩ := is_v hi0
  obtain rfl : w_a0 = (.int i0) := Option.some.inj ei0
  obtain ⟨i1, ei1⟩ := is_v hi1
  obtain rfl : w_a1 = (.int i1) := Option.some.inj ei1
  obtain ⟨w1, ev_w1⟩ := exa_v (Cond.before_iff.mp (hsets _ (List.mem_of_getElem? (i := 2) rfl)))
  have S_w1 : Sta s s.heap "java/lang/Boolean" "TRUE" "Ljava/lang/Boolean;" (.ref w1) := Sta.start ev_w1 (Or.inl (hsets _ (List.mem_of_getElem? (i := 1) rfl)))
  have E_w1 : Exa s s.heap w1 "java/lang/Boolean" := Exa.start ev_w1 (Cond.before_iff.mp (hsets _ (List.mem_of_getElem? (i := 2) rfl)))
  obtain ⟨w2, ev_w2⟩ := exa_v (Cond.before_iff.mp (hsets _ (List.mem_of_getElem? (i := 6) rfl)))
  have S_w2 : Sta s s.heap "java/lang/Boolean" "FALSE" "Ljava/lang/Boolean;" (.ref w2) := Sta.start ev_w2 (Or.inl (hsets _ (List.mem_of_getElem? (i := 5) rfl)))
  have E_w2 : Exa s s.heap w2 "java/lang/Boolean" := Exa.start ev_w2 (Cond.before_iff.mp (hsets _ (List.mem_of_getElem? (i := 6) rfl)))
  have F_w1_value : Fld s s.heap w1 "java/lang/Boolean" "value" "Z" (.int (1 : Int32)) := Fld.start ((fld_at ev_w1).symm.trans (eqv_i rfl (Cond.before_iff.mp (hsets _ (List.mem_of_getElem? (i := 3) rfl)))))
  have F_w2_value : Fld s s.heap w2 "java/lang/Boolean" "value" "Z" (.int (0 : Int32)) := Fld.start ((fld_at ev_w2).symm.trans (eqv_i rfl (Cond.before_iff.mp (hsets _ (List.mem_of_getElem? (i := 7) rfl)))))
  have G : GW s w1 w2 := ⟨S_w1, E_w1, S_w2, E_w2, F_w1_value, F_w2_value⟩
  obtain ⟨n, o, h1, h2, h3, _, L, rfl, ⟨rfl, N⟩, hq⟩ := rm0 l s _ hw w1 w2 G tables_1 i0 i1 s.heap s.heap.size (Old.start s) p e ha hc hk s m _ below hf ((Spec.applies_iff_loose hf).mp happ).1 ⟨rfl, State.Warmed39.refl s, rfl⟩ trivial
  refine ⟨n, _, h1, h2, h3, hpost _ _ _ _ _ _ ⟨Cond.after_iff.mpr rfl, Cond.after_iff.mpr (eq_i res_at (Term.int_eval (1)) rfl), trivial⟩ ⟨hq.1, hq.2.1, hq.2.2.1, (hq.2.2.2.sift fun y hy => Or.inr (N y hy)).mono (by decide) (by decide)⟩⟩
theorem main_1_1 : Claimed_1_1 := comes_1 fun _ _ _ _ _ _ h hF => ⟨h.1, hF⟩
theorem main_1_2 : Claimed_1_2 := comes_1 fun _ _ _ _ _ _ h hF => ⟨h.2.1, hF⟩
end Jvm.Pilot.@@N@@
namespace Jvm.Pilot.@@N@@
open Jvm Jvm.ClassFile Sem Op Lib Jvm.Free Jvm.Stand Jvm.Pilot.@@N@@.Jvm.D
/-! MADE BY PROGRAM (witnessworld.py) out of the Statement's table words and the real class files: 19 classes; the members and pool entries that the words name. The judged class is class 1, her method 1. -/
namespace start1
open Jvm.ClassFile
def u (s : String) : CpInfo := .utf8 (stringToUtf16 s)
/-- a pool by its gaps: so many unusable entries, then the entry; so many at the end -/
def gap : Nat → List CpInfo → List CpInfo
  | 0, r => r
  | n + 1, r => .unusable :: gap n r
def poolList (es : List (Nat × CpInfo)) (last : Nat) : List CpInfo := es.foldr (fun e r => gap e.1 (e.2 :: r)) (gap last [])
def pool (es : List (Nat × CpInfo)) (last : Nat) : Array CpInfo := ⟨poolList es last⟩
def fileOf (pool : Array CpInfo) (this : Nat) (attrs : Array Attribute := #[]) (ms : Array MethodInfo := #[]) (fl : Nat := 33) (sup : Nat := 0) (ifs : Array Nat := #[]) (fds : Array FieldInfo := #[]) : ClassFile where
  minorVersion := 0
  majorVersion := 65
  constantPool := pool
  accessFlags := fl
  thisClass := this
  superClass := sup
  interfaces := ifs
  fields := fds
  methods := ms
  attributes := attrs
def plain (name : String) (sup : Option ClassId) : Class where
  name := name
  kind := .ordinary
  loader := none
  accessFlags := 33
  super := sup
  interfaces := #[]
  cf := none
  fields := #[]
  methods := #[]
  instanceTypes := #[]
  staticTypes := #[]
  resolved := #[]
  callSites := []
  init := .initialized
  statics := none
  mirror := none

def pool0 : Array CpInfo := pool [(5, u "<init>"), (0, u "()V"), (1, .class_ 10), (1, u "java/lang/Object")] 113

def k0m0 : Method := { name := "<init>", desc := "()V", sig := { parameters := [], returnType := none }, accessFlags := 1, code := none }
/-- java/lang/Object -/
def k0 : Class := { plain "java/lang/Object" none with
  accessFlags := 33
  interfaces := #[]
  cf := some (fileOf pool0 8 #[] #[{ accessFlags := 1, nameIndex := 5, descriptorIndex := 6, attributes := #[] }] 33 0 #[] #[])
  fields := #[]
  methods := #[k0m0]
  instanceTypes := #[]
  staticTypes := #[]
  resolved := Array.replicate 124 none
  statics := none }

def pool1 : Array CpInfo := pool [(2, .class_ 4), (1, u "java/lang/Object"), (0, u "<init>"), (0, u "()V"), (0, .integer 2147483647), (0, .methodref 9 10), (0, .class_ 11), (0, .nameAndType 12 13), (0, u "com/example/castless/castless/PrimitiveArraysBox334PinLaw"), (0, u "bit"), (0, u "(II)Z"), (0, .methodref 15 16), (0, .class_ 17), (0, .nameAndType 18 19), (0, u "com/example/castless/castless/PrimitiveArrays"), (0, u "box"), (0, u "([Z)[Ljava/lang/Boolean;"), (0, .methodref 9 21), (0, .nameAndType 22 23), (0, u "at"), (0, u "([Ljava/lang/Boolean;[ZIII)Z"), (0, .methodref 25 26), (0, .class_ 27), (0, .nameAndType 28 29), (0, u "java/lang/Boolean"), (0, u "booleanValue"), (0, u "()Z"), (2, u "law")] 7

def k1m0 : Method := { name := "<init>", desc := "()V", sig := { parameters := [], returnType := none }, accessFlags := 1, code := none }
def k1c1 : Code := { maxStack := 5, maxLocals := 5, code := code, exceptionTable := #[], attributes := #[] }
def k1m1 : Method := { name := "law", desc := "(II)Z", sig := { parameters := [.int, .int], returnType := some .boolean }, accessFlags := 9, code := some k1c1 }
def k1c2 : Code := { maxStack := 2, maxLocals := 2, code := method_3_code, exceptionTable := #[], attributes := #[] }
def k1m2 : Method := { name := "bit", desc := "(II)Z", sig := { parameters := [.int, .int], returnType := some .boolean }, accessFlags := 10, code := some k1c2 }
def k1c3 : Code := { maxStack := 2, maxLocals := 8, code := method_4_code, exceptionTable := #[], attributes := #[] }
def k1m3 : Method := { name := "at", desc := "([Ljava/lang/Boolean;[ZIII)Z", sig := { parameters := [(.array (.object "java/lang/Boolean")), (.array .boolean), .int, .int, .int], returnType := some .boolean }, accessFlags := 10, code := some k1c3 }
/-- com/example/castless/castless/PrimitiveArraysBox334PinLaw -/
def k1 : Class := { plain "com/example/castless/castless/PrimitiveArraysBox334PinLaw" (some 0) with
  accessFlags := 49
  interfaces := #[]
  cf := some (fileOf pool1 9 #[] #[{ accessFlags := 1, nameIndex := 5, descriptorIndex := 6, attributes := #[] }, { accessFlags := 9, nameIndex := 32, descriptorIndex := 13, attributes := #[] }, { accessFlags := 10, nameIndex := 12, descriptorIndex := 13, attributes := #[] }, { accessFlags := 10, nameIndex := 22, descriptorIndex := 23, attributes := #[] }] 49 2 #[] #[])
  fields := #[]
  methods := #[k1m0, k1m1, k1m2, k1m3]
  instanceTypes := #[]
  staticTypes := #[]
  resolved := Array.replicate 40 none
  statics := none }

def pool2 : Array CpInfo := pool [(2, .class_ 4), (1, u "java/lang/Object"), (0, u "<init>"), (0, u "()V"), (0, .class_ 8), (0, u "com/example/castless/castless/PrimitiveArrays"), (0, .string 10), (0, u "array is null"), (0, .methodref 12 13), (0, .class_ 14), (0, .nameAndType 15 16), (0, u "java/util/Objects"), (0, u "requireNonNull"), (0, u "(Ljava/lang/Object;Ljava/lang/String;)Ljava/lang/Object;"), (0, .class_ 18), (0, u "java/lang/Boolean"), (0, .methodref 17 20), (0, .nameAndType 21 22), (0, u "valueOf"), (0, u "(Z)Ljava/lang/Boolean;"), (77, u "NULL_ARRAY"), (0, u "Ljava/lang/String;"), (3, u "box"), (0, u "([Z)[Ljava/lang/Boolean;")] 61

def k2m0 : Method := { name := "<init>", desc := "()V", sig := { parameters := [], returnType := none }, accessFlags := 2, code := none }
def k2c1 : Code := { maxStack := 4, maxLocals := 3, code := prog_11_method_2_code, exceptionTable := #[], attributes := #[] }
def k2m1 : Method := { name := "box", desc := "([Z)[Ljava/lang/Boolean;", sig := { parameters := [(.array .boolean)], returnType := some (.array (.object "java/lang/Boolean")) }, accessFlags := 9, code := some k2c1 }
/-- com/example/castless/castless/PrimitiveArrays -/
def k2 : Class := { plain "com/example/castless/castless/PrimitiveArrays" (some 0) with
  accessFlags := 49
  interfaces := #[]
  cf := some (fileOf pool2 7 #[] #[{ accessFlags := 2, nameIndex := 5, descriptorIndex := 6, attributes := #[] }, { accessFlags := 9, nameIndex := 105, descriptorIndex := 106, attributes := #[] }] 49 2 #[] #[{ accessFlags := 26, nameIndex := 100, descriptorIndex := 101, attributes := #[] }])
  fields := #[{ name := "NULL_ARRAY", type := (.object "java/lang/String"), accessFlags := 26, slot := 0, constantValue := 0 }]
  methods := #[k2m0, k2m1]
  instanceTypes := #[]
  staticTypes := #[(.object "java/lang/String")]
  resolved := Array.replicate 168 none
  statics := none }

def pool3 : Array CpInfo := pool [(1, .class_ 2), (0, u "java/io/Serializable"), (0, .class_ 4), (0, u "java/lang/Object")] 2

/-- java/io/Serializable -/
def k3 : Class := { plain "java/io/Serializable" (some 0) with
  accessFlags := 1537
  interfaces := #[]
  cf := some (fileOf pool3 1 #[] #[] 1537 3 #[] #[])
  fields := #[]
  methods := #[]
  instanceTypes := #[]
  staticTypes := #[]
  resolved := Array.replicate 7 none
  statics := none }

def pool4 : Array CpInfo := pool [(1, .class_ 2), (0, u "java/lang/Comparable"), (0, .class_ 4), (0, u "java/lang/Object")] 7

/-- java/lang/Comparable -/
def k4 : Class := { plain "java/lang/Comparable" (some 0) with
  accessFlags := 1537
  interfaces := #[]
  cf := some (fileOf pool4 1 #[] #[] 1537 3 #[] #[])
  fields := #[]
  methods := #[]
  instanceTypes := #[]
  staticTypes := #[]
  resolved := Array.replicate 12 none
  statics := none }

def pool5 : Array CpInfo := pool [(2, .class_ 4), (1, u "java/lang/CharSequence"), (42, .class_ 48), (0, u "java/lang/CharSequence$1CodePointIterator"), (10, .class_ 60), (0, u "java/lang/CharSequence$1CharIterator"), (5, .class_ 67), (0, u "java/lang/Object")] 63

/-- java/lang/CharSequence -/
def k5 : Class := { plain "java/lang/CharSequence" (some 0) with
  accessFlags := 1537
  interfaces := #[]
  cf := some (fileOf pool5 2 #[.nestMembers #[47, 59]] #[] 1537 66 #[] #[])
  fields := #[]
  methods := #[]
  instanceTypes := #[]
  staticTypes := #[]
  resolved := Array.replicate 131 none
  statics := none }

def pool6 : Array CpInfo := pool [(1, .class_ 2), (0, u "java/lang/constant/Constable"), (0, .class_ 4), (0, u "java/lang/Object")] 6

/-- java/lang/constant/Constable -/
def k6 : Class := { plain "java/lang/constant/Constable" (some 0) with
  accessFlags := 1537
  interfaces := #[]
  cf := some (fileOf pool6 1 #[] #[] 1537 3 #[] #[])
  fields := #[]
  methods := #[]
  instanceTypes := #[]
  staticTypes := #[]
  resolved := Array.replicate 11 none
  statics := none }

def pool7 : Array CpInfo := pool [(1, .class_ 2), (0, u "java/lang/constant/ConstantDesc"), (0, .class_ 4), (0, u "java/lang/Object")] 32

/-- java/lang/constant/ConstantDesc -/
def k7 : Class := { plain "java/lang/constant/ConstantDesc" (some 0) with
  accessFlags := 1537
  interfaces := #[]
  cf := some (fileOf pool7 1 #[] #[] 1537 3 #[] #[])
  fields := #[]
  methods := #[]
  instanceTypes := #[]
  staticTypes := #[]
  resolved := Array.replicate 37 none
  statics := none }

def pool8 : Array CpInfo := pool [(2, .class_ 4), (1, u "java/lang/Object"), (0, u "<init>"), (0, u "()V"), (3, .class_ 12), (1, u "java/lang/String"), (0, u "value"), (0, u "[B"), (2, u "coder"), (0, u "B"), (2, u "hash"), (0, u "I"), (2, u "hashIsZero"), (0, u "Z"), (13, u "COMPACT_STRINGS"), (534, .class_ 576), (0, u "java/lang/CharSequence"), (22, u "CASE_INSENSITIVE_ORDER"), (0, u "Ljava/util/Comparator;"), (500, u "serialPersistentFields"), (0, u "[Ljava/io/ObjectStreamField;"), (0, .class_ 1104), (0, u "java/lang/String$CaseInsensitiveComparator"), (1, .class_ 1107), (0, u "java/io/Serializable"), (0, .class_ 1109), (0, u "java/lang/Comparable"), (0, .class_ 1111), (0, u "java/lang/constant/Constable"), (0, .class_ 1113), (0, u "java/lang/constant/ConstantDesc"), (2, u "serialVersionUID"), (0, u "J"), (3, u "REPL"), (0, u "C"), (2, u "LATIN1"), (1, u "UTF16")] 323

def k8m0 : Method := { name := "<init>", desc := "()V", sig := { parameters := [], returnType := none }, accessFlags := 1, code := none }
/-- java/lang/String -/
def k8 : Class := { plain "java/lang/String" (some 0) with
  accessFlags := 49
  interfaces := #[3, 4, 5, 6, 7]
  cf := some (fileOf pool8 10 #[.nestMembers #[1103]] #[{ accessFlags := 1, nameIndex := 5, descriptorIndex := 6, attributes := #[] }] 49 2 #[1106, 1108, 575, 1110, 1112] #[{ accessFlags := 18, nameIndex := 13, descriptorIndex := 14, attributes := #[] }, { accessFlags := 18, nameIndex := 17, descriptorIndex := 18, attributes := #[] }, { accessFlags := 2, nameIndex := 21, descriptorIndex := 22, attributes := #[] }, { accessFlags := 2, nameIndex := 25, descriptorIndex := 26, attributes := #[] }, { accessFlags := 26, nameIndex := 1116, descriptorIndex := 1117, attributes := #[] }, { accessFlags := 24, nameIndex := 40, descriptorIndex := 26, attributes := #[] }, { accessFlags := 26, nameIndex := 1101, descriptorIndex := 1102, attributes := #[] }, { accessFlags := 26, nameIndex := 1121, descriptorIndex := 1122, attributes := #[] }, { accessFlags := 25, nameIndex := 599, descriptorIndex := 600, attributes := #[] }, { accessFlags := 24, nameIndex := 1125, descriptorIndex := 18, attributes := #[] }, { accessFlags := 24, nameIndex := 1127, descriptorIndex := 18, attributes := #[] }])
  fields := #[{ name := "value", type := (.array .byte), accessFlags := 18, slot := 0, constantValue := 0 }, { name := "coder", type := .byte, accessFlags := 18, slot := 1, constantValue := 0 }, { name := "hash", type := .int, accessFlags := 2, slot := 2, constantValue := 0 }, { name := "hashIsZero", type := .boolean, accessFlags := 2, slot := 3, constantValue := 0 }, { name := "serialVersionUID", type := .long, accessFlags := 26, slot := 0, constantValue := 0 }, { name := "COMPACT_STRINGS", type := .boolean, accessFlags := 24, slot := 1, constantValue := 0 }, { name := "serialPersistentFields", type := (.array (.object "java/io/ObjectStreamField")), accessFlags := 26, slot := 2, constantValue := 0 }, { name := "REPL", type := .char, accessFlags := 26, slot := 3, constantValue := 0 }, { name := "CASE_INSENSITIVE_ORDER", type := (.object "java/util/Comparator"), accessFlags := 25, slot := 4, constantValue := 0 }, { name := "LATIN1", type := .byte, accessFlags := 24, slot := 5, constantValue := 0 }, { name := "UTF16", type := .byte, accessFlags := 24, slot := 6, constantValue := 0 }]
  methods := #[k8m0]
  instanceTypes := #[(.array .byte), .byte, .int, .boolean]
  staticTypes := #[.long, .boolean, (.array (.object "java/io/ObjectStreamField")), .char, (.object "java/util/Comparator"), .byte, .byte]
  resolved := Array.replicate 1451 none
  statics := none }

def pool9 : Array CpInfo := pool [(2, .class_ 4), (1, u "java/lang/Object"), (0, u "<init>"), (0, u "()V"), (35, .class_ 44), (1, u "java/util/Objects"), (0, u "requireNonNull"), (48, u "(Ljava/lang/Object;Ljava/lang/String;)Ljava/lang/Object;")] 89

def k9m0 : Method := { name := "<init>", desc := "()V", sig := { parameters := [], returnType := none }, accessFlags := 2, code := none }
def k9c1 : Code := { maxStack := 3, maxLocals := 2, code := jdk_31_method_11_code, exceptionTable := #[], attributes := #[] }
def k9m1 : Method := { name := "requireNonNull", desc := "(Ljava/lang/Object;Ljava/lang/String;)Ljava/lang/Object;", sig := { parameters := [(.object "java/lang/Object"), (.object "java/lang/String")], returnType := some (.object "java/lang/Object") }, accessFlags := 9, code := some k9c1 }
/-- java/util/Objects -/
def k9 : Class := { plain "java/util/Objects" (some 0) with
  accessFlags := 49
  interfaces := #[]
  cf := some (fileOf pool9 42 #[] #[{ accessFlags := 2, nameIndex := 5, descriptorIndex := 6, attributes := #[] }, { accessFlags := 9, nameIndex := 45, descriptorIndex := 94, attributes := #[] }] 49 2 #[] #[])
  fields := #[]
  methods := #[k9m0, k9m1]
  instanceTypes := #[]
  staticTypes := #[]
  resolved := Array.replicate 184 none
  statics := none }

def pool10 : Array CpInfo := pool [(2, .class_ 4), (1, u "java/lang/Object"), (2, .fieldref 8 9), (0, .class_ 10), (0, .nameAndType 11 12), (0, u "java/lang/Boolean"), (0, u "value"), (0, u "Z"), (14, .fieldref 8 28), (0, .nameAndType 29 30), (0, u "TRUE"), (0, u "Ljava/lang/Boolean;"), (0, .fieldref 8 32), (0, .nameAndType 33 30), (0, u "FALSE"), (2, u "valueOf"), (7, u "booleanValue"), (0, u "()Z"), (41, u "TYPE"), (0, u "Ljava/lang/Class;"), (0, .class_ 90), (0, u "java/io/Serializable"), (0, .class_ 92), (0, u "java/lang/Comparable"), (0, .class_ 94), (0, u "java/lang/constant/Constable"), (2, u "serialVersionUID"), (0, u "J"), (18, u "(Z)Ljava/lang/Boolean;")] 34

def k10c0 : Code := { maxStack := 1, maxLocals := 1, code := jdk_2055_method_4_code, exceptionTable := #[], attributes := #[] }
def k10m0 : Method := { name := "booleanValue", desc := "()Z", sig := { parameters := [], returnType := some .boolean }, accessFlags := 1, code := some k10c0 }
def k10c1 : Code := { maxStack := 1, maxLocals := 1, code := jdk_2055_method_5_code, exceptionTable := #[], attributes := #[] }
def k10m1 : Method := { name := "valueOf", desc := "(Z)Ljava/lang/Boolean;", sig := { parameters := [.boolean], returnType := some (.object "java/lang/Boolean") }, accessFlags := 9, code := some k10c1 }
/-- java/lang/Boolean -/
def k10 : Class := { plain "java/lang/Boolean" (some 0) with
  accessFlags := 49
  interfaces := #[3, 4, 6]
  cf := some (fileOf pool10 8 #[] #[{ accessFlags := 1, nameIndex := 44, descriptorIndex := 45, attributes := #[] }, { accessFlags := 9, nameIndex := 36, descriptorIndex := 117, attributes := #[] }] 49 2 #[89, 91, 93] #[{ accessFlags := 25, nameIndex := 29, descriptorIndex := 30, attributes := #[] }, { accessFlags := 25, nameIndex := 33, descriptorIndex := 30, attributes := #[] }, { accessFlags := 25, nameIndex := 87, descriptorIndex := 88, attributes := #[] }, { accessFlags := 18, nameIndex := 11, descriptorIndex := 12, attributes := #[] }, { accessFlags := 26, nameIndex := 97, descriptorIndex := 98, attributes := #[] }])
  fields := #[{ name := "TRUE", type := (.object "java/lang/Boolean"), accessFlags := 25, slot := 0, constantValue := 0 }, { name := "FALSE", type := (.object "java/lang/Boolean"), accessFlags := 25, slot := 1, constantValue := 0 }, { name := "TYPE", type := (.object "java/lang/Class"), accessFlags := 25, slot := 2, constantValue := 0 }, { name := "value", type := .boolean, accessFlags := 18, slot := 0, constantValue := 0 }, { name := "serialVersionUID", type := .long, accessFlags := 26, slot := 3, constantValue := 0 }]
  methods := #[k10m0, k10m1]
  instanceTypes := #[.boolean]
  staticTypes := #[(.object "java/lang/Boolean"), (.object "java/lang/Boolean"), (.object "java/lang/Class"), .long]
  resolved := Array.replicate 152 none
  statics := some 0 }

def pool11 : Array CpInfo := pool [(1, u "java/lang/Cloneable"), (0, .class_ 1), (0, u "java/lang/Object"), (0, .class_ 3)] 3

/-- java/lang/Cloneable -/
def k11 : Class := { plain "java/lang/Cloneable" (some 0) with
  accessFlags := 1537
  interfaces := #[]
  cf := some (fileOf pool11 2 #[] #[] 1537 4 #[] #[])
  fields := #[]
  methods := #[]
  instanceTypes := #[]
  staticTypes := #[]
  resolved := Array.replicate 8 none
  statics := none }

/-- the primitive boolean -/
def k12 : Class := { plain "boolean" none with kind := .primitive 'Z', accessFlags := 0x411 }
/-- [Z -/
def k13 : Class := { plain "[Z" (some 0) with kind := .array 12 .boolean, interfaces := #[11, 3], accessFlags := 1041 }

/-- the primitive byte -/
def k14 : Class := { plain "byte" none with kind := .primitive 'B', accessFlags := 0x411 }
/-- [B -/
def k15 : Class := { plain "[B" (some 0) with kind := .array 14 .byte, interfaces := #[11, 3], accessFlags := 1041 }

/-- the primitive int -/
def k16 : Class := { plain "int" none with kind := .primitive 'I', accessFlags := 0x411 }
/-- [I -/
def k17 : Class := { plain "[I" (some 0) with kind := .array 16 .int, interfaces := #[11, 3], accessFlags := 1041 }

/-- [Ljava/lang/Boolean; -/
def k18 : Class := { plain "[Ljava/lang/Boolean;" (some 0) with kind := .array 10 (.object "java/lang/Boolean"), interfaces := #[11, 3], accessFlags := 1041 }

def heap : Heap := #[{ cls := 10, slots := #[.ref 1, .ref 2, .null, .long 0], vm := .statics 10 },
  { cls := 10, slots := #[.int 1], vm := .none },
  { cls := 10, slots := #[.int 0], vm := .none }]
def classes : Array Class := #[k0, k1, k2, k3, k4, k5, k6, k7, k8, k9, k10, k11, k12, k13, k14, k15, k16, k17, k18]
def interned : List (Array UInt16 × Addr) := []
def slotsUsed : Nat := 6
def theMethod : MethodId := ⟨1, 1⟩
def args0 : Array Value := #[.int 5, .int 5]
def aboutOver (below : List Frame) : State where
  vm := { classes := classes, interned := interned.toArray }
  heap := heap
  slotsUsed := slotsUsed
  threads := #[{ frames := .invoking theMethod args0 :: below }]
def below0 : List Frame := [.native { method := ⟨0, 0⟩, args := #[] }]
def about1 : State := aboutOver below0
def p0 : Program := .bare "" "" ""
def e0 : Env := launch0.env 0 0 0
theorem w_frames : about1.frames = Frame.invoking theMethod args0 :: below0 := rfl
set_option maxRecDepth 65536 in
theorem w_args : argsFit about1.vm theMethod args0 = true := by decide +kernel
set_option maxRecDepth 65536 in
theorem w_heap : heapFits about1 = true := by decide +kernel
set_option maxRecDepth 65536 in
theorem w_runnable : about1.curStatus? = some .runnable := by decide +kernel
set_option maxRecDepth 65536 in
theorem w_alone : about1.alone = true := by decide +kernel
set_option maxRecDepth 65536 in
theorem w_named : about1.methodNamed? x = some theMethod := by decide +kernel
set_option maxRecDepth 65536 in
theorem w_hears : about1.hears theMethod below0 = true := by decide +kernel
set_option maxRecDepth 65536 in
theorem w_ripe : about1.ripe theMethod args0 below0 = true := by decide +kernel
theorem w_running : about1.status = .running := rfl
set_option maxRecDepth 65536 in
theorem w_room : about1.hasRoom e0.platform room_1 = true :=
  launch0.hasRoom_least _ room_1 (by decide +kernel) (by decide +kernel) (by decide +kernel) (by decide +kernel) (by decide +kernel) (by decide +kernel)
theorem allAtoms_all (ts : List Jvm.Cond) (a : Array Jvm.Value) (st : Jvm.State) : (allAtoms ts).before a st = ts.all (fun c => c.before a st) := by
  induction ts with
  | nil => rfl
  | cons c t ih =>
    show (Jvm.Cond.and c (allAtoms t)).before a st = _
    rw [Jvm.Cond.before_and, ih, List.all_cons]
def words1 : List Jvm.Cond := Jvm.Cond.code x code maxLocals ret :: tables_1
/-- a 'code' word, met by the world's own term for the bytes: nothing is compared byte by byte -/
theorem code_word {y : MethodName} {bytes : ByteArray} {mx : Nat} {rt : Option FieldType} {a : Array Value} {s : State} {m : MethodId} {meth : Method} {c : Code} (h1 : s.methodNamed? y = some m) (h2 : s.vm.method? m = some meth) (h3 : meth.code = some c) (h4 : c.code = bytes)
    (h5 : (c.maxLocals == mx && c.exceptionTable.isEmpty && decide (c.maxStack ≤ mostOperands) && decide (meth.sig.returnType = rt) && !meth.locks && decide (parseMethodDescriptor y.desc = some meth.sig)) = true) : (Jvm.Cond.code y bytes mx rt).before a s = true := by
  simp only [Bool.and_eq_true, beq_iff_eq, Bool.not_eq_true', decide_eq_true_eq] at h5
  obtain ⟨⟨⟨⟨⟨g1, g2⟩, g3⟩, g4⟩, g5⟩, g6⟩ := h5
  simp [Cond.before, Cond.holds, Cond.value, h1, h2, h3, h4, g1, g2, g3, g4, g5, g6]
def isCode : Jvm.Cond → Bool
  | .code _ _ _ _ => true
  | _ => false
theorem all_split {L : List Jvm.Cond} {P : Jvm.Cond → Bool} (h1 : L.all (fun c => isCode c || P c) = true) (h2 : ∀ c ∈ L.filter isCode, P c = true) : L.all P = true := by
  refine List.all_eq_true.mpr fun c hc => ?_
  have h := List.all_eq_true.mp h1 c hc
  rcases Bool.eq_false_or_eq_true (isCode c) with hi | hi
  · exact h2 c (List.mem_filter.mpr ⟨hc, hi⟩)
  · simpa [hi] using h
set_option maxRecDepth 65536 in
theorem w_c0 : (Jvm.Cond.code x code maxLocals ret).before args0 about1 = true := code_word (m := ⟨1, 1⟩) (meth := k1m1) (c := k1c1) (by decide +kernel) rfl rfl rfl (by decide +kernel)
set_option maxRecDepth 65536 in
theorem w_c1 : (Jvm.Cond.code ({ cls := "com/example/castless/castless/PrimitiveArrays", name := "box", desc := "([Z)[Ljava/lang/Boolean;" } : Jvm.MethodName) prog_11_method_2_code (3 : Nat) (Option.some (Jvm.ClassFile.FieldType.array (Jvm.ClassFile.FieldType.object "java/lang/Boolean")))).before args0 about1 = true := code_word (m := ⟨2, 1⟩) (meth := k2m1) (c := k2c1) (by decide +kernel) rfl rfl rfl (by decide +kernel)
set_option maxRecDepth 65536 in
theorem w_c2 : (Jvm.Cond.code ({ cls := "java/util/Objects", name := "requireNonNull", desc := "(Ljava/lang/Object;Ljava/lang/String;)Ljava/lang/Object;" } : Jvm.MethodName) jdk_31_method_11_code (2 : Nat) (Option.some (Jvm.ClassFile.FieldType.object "java/lang/Object"))).before args0 about1 = true := code_word (m := ⟨9, 1⟩) (meth := k9m1) (c := k9c1) (by decide +kernel) rfl rfl rfl (by decide +kernel)
set_option maxRecDepth 65536 in
theorem w_c3 : (Jvm.Cond.code ({ cls := "com/example/castless/castless/PrimitiveArraysBox334PinLaw", name := "at", desc := "([Ljava/lang/Boolean;[ZIII)Z" } : Jvm.MethodName) method_4_code (8 : Nat) (Option.some Jvm.ClassFile.FieldType.boolean)).before args0 about1 = true := code_word (m := ⟨1, 3⟩) (meth := k1m3) (c := k1c3) (by decide +kernel) rfl rfl rfl (by decide +kernel)
set_option maxRecDepth 65536 in
theorem w_c4 : (Jvm.Cond.code ({ cls := "com/example/castless/castless/PrimitiveArraysBox334PinLaw", name := "bit", desc := "(II)Z" } : Jvm.MethodName) method_3_code (2 : Nat) (Option.some Jvm.ClassFile.FieldType.boolean)).before args0 about1 = true := code_word (m := ⟨1, 2⟩) (meth := k1m2) (c := k1c2) (by decide +kernel) rfl rfl rfl (by decide +kernel)
set_option maxRecDepth 65536 in
theorem w_c5 : (Jvm.Cond.code ({ cls := "java/lang/Boolean", name := "valueOf", desc := "(Z)Ljava/lang/Boolean;" } : Jvm.MethodName) jdk_2055_method_5_code (1 : Nat) (Option.some (Jvm.ClassFile.FieldType.object "java/lang/Boolean"))).before args0 about1 = true := code_word (m := ⟨10, 1⟩) (meth := k10m1) (c := k10c1) (by decide +kernel) rfl rfl rfl (by decide +kernel)
set_option maxRecDepth 65536 in
theorem w_c6 : (Jvm.Cond.code ({ cls := "java/lang/Boolean", name := "booleanValue", desc := "()Z" } : Jvm.MethodName) jdk_2055_method_4_code (1 : Nat) (Option.some Jvm.ClassFile.FieldType.boolean)).before args0 about1 = true := code_word (m := ⟨10, 0⟩) (meth := k10m0) (c := k10c0) (by decide +kernel) rfl rfl rfl (by decide +kernel)
def codes1 : List Jvm.Cond := [Jvm.Cond.code x code maxLocals ret, Jvm.Cond.code ({ cls := "com/example/castless/castless/PrimitiveArrays", name := "box", desc := "([Z)[Ljava/lang/Boolean;" } : Jvm.MethodName) prog_11_method_2_code (3 : Nat) (Option.some (Jvm.ClassFile.FieldType.array (Jvm.ClassFile.FieldType.object "java/lang/Boolean"))), Jvm.Cond.code ({ cls := "java/util/Objects", name := "requireNonNull", desc := "(Ljava/lang/Object;Ljava/lang/String;)Ljava/lang/Object;" } : Jvm.MethodName) jdk_31_method_11_code (2 : Nat) (Option.some (Jvm.ClassFile.FieldType.object "java/lang/Object")), Jvm.Cond.code ({ cls := "com/example/castless/castless/PrimitiveArraysBox334PinLaw", name := "at", desc := "([Ljava/lang/Boolean;[ZIII)Z" } : Jvm.MethodName) method_4_code (8 : Nat) (Option.some Jvm.ClassFile.FieldType.boolean), Jvm.Cond.code ({ cls := "com/example/castless/castless/PrimitiveArraysBox334PinLaw", name := "bit", desc := "(II)Z" } : Jvm.MethodName) method_3_code (2 : Nat) (Option.some Jvm.ClassFile.FieldType.boolean), Jvm.Cond.code ({ cls := "java/lang/Boolean", name := "valueOf", desc := "(Z)Ljava/lang/Boolean;" } : Jvm.MethodName) jdk_2055_method_5_code (1 : Nat) (Option.some (Jvm.ClassFile.FieldType.object "java/lang/Boolean")), Jvm.Cond.code ({ cls := "java/lang/Boolean", name := "booleanValue", desc := "()Z" } : Jvm.MethodName) jdk_2055_method_4_code (1 : Nat) (Option.some Jvm.ClassFile.FieldType.boolean)]
set_option maxRecDepth 65536 in
theorem codes_eq : words1.filter isCode = codes1 := rfl
theorem w_codes : ∀ c ∈ words1.filter isCode, c.before args0 about1 = true := by
  rw [codes_eq]
  intro c hc
  simp only [codes1, List.mem_cons, List.not_mem_nil, or_false] at hc
  rcases hc with rfl | rfl | rfl | rfl | rfl | rfl | rfl
  · exact w_c0
  · exact w_c1
  · exact w_c2
  · exact w_c3
  · exact w_c4
  · exact w_c5
  · exact w_c6
set_option maxRecDepth 65536 in
theorem w_t1 : (words1.take 24).all (fun c => isCode c || c.before args0 about1) = true := by decide +kernel
set_option maxRecDepth 65536 in
theorem w_t2 : (words1.drop 24).all (fun c => isCode c || c.before args0 about1) = true := by decide +kernel
theorem w_tables : (allAtoms (Jvm.Cond.code x code maxLocals ret :: tables_1)).before args0 about1 = true := by
  rw [allAtoms_all]
  show words1.all (fun c => c.before args0 about1) = true
  refine all_split ?_ w_codes
  rw [← List.take_append_drop 24 words1, List.all_append, w_t1, w_t2]
  rfl
set_option maxRecDepth 65536 in
theorem w_rest : rest_1_c.before args0 about1 = true := by decide +kernel
set_option maxRecDepth 65536 in
theorem w_case : (Jvm.Cond.and given_1 narrow_1).before args0 about1 = true := by decide +kernel
theorem w_applies : (headSpec (Jvm.Cond.code x code maxLocals ret :: tables_1) room_1).applies x e0.platform about1 = true :=
  (Spec.applies_iff w_frames).mpr ⟨w_running, w_runnable, w_alone, w_named, w_hears, w_ripe, w_room, w_tables⟩
theorem atStart : AtStart classFile x code maxLocals ret World_1 tables_1 room_1 Calls_1 rest_1 Pre_1 launch0 p0 e0 about1 theMethod args0 below0 :=
  ⟨lists_1, trivial, launch0.admits_env _ _ _, launch0.least_env, fairChoices_fair.cas, fairChoices_fair.clock, w_frames, w_args, w_heap, w_applies, trivial, w_rest, w_case⟩
end start1
theorem witness_1 : WitnessClaimed_1 := ⟨start1.p0, start1.e0, start1.about1, start1.theMethod, start1.args0, start1.below0, start1.atStart⟩
end Jvm.Pilot.@@N@@
