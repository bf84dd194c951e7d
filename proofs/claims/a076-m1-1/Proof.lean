import JvmDerived
import JvmDerived.Pilot.@@N@@Statement
import JvmDerived.Pilot.@@N@@Code
set_option linter.unusedVariables false
set_option linter.unusedSimpArgs false
namespace Jvm.RoadKit
open Sem ClassFile Op Lib Jvm.Stand Jvm.Free Jvm.LawKit
section New
variable {p : Program} {l : Launch} {e : Env} {R : Room} {s : State} {m : MethodId} {args : Array Value} {below : List Frame} {meth : Method} {c : Code} {T : State} {locs : List Loc} {cells slots : Nat}
theorem retI (X : Stand p l e R s m args below meth c T locs cells slots) (hx : p.tables.exec = Jvm.exec) {pc : Nat} {Ls : Array Slot} {z : Int32} {rest : List Value} (hret : meth.sig.returnType = some .int) (hd : decode c.code pc = .ok (.ireturn, 1)) {fs : List Frame}
    (hl : ∀ (f : JFrame) (acts : List Action), f.method = m → f.locked = none → f.entered = [] → (doReturn e (T.setTop f) acts (some (.int z))).1 = T.setFrames fs) : Steps p.tables e below (T.setTop (mkF m pc Ls (.int z :: rest))) (T.setFrames fs) := by
  have hm' : T.vm.method? m = some meth := X.method'
  have hn : narrow .int (.int z) = .int z := rfl
  show Steps p.tables e below (T.setTop { method := m, pc := pc, locals := Ls, stack := _ :: rest, locked := none }) _
  jvm_step X.here [X.here.top, hx, hd, hm', hret, hn]
  first | (intro acts; rw [hl _ acts rfl rfl rfl]) | rw [hl _ _ rfl rfl rfl]
  exact Steps.refl _
end New
end Jvm.RoadKit
namespace Jvm.Pilot.@@N@@
open Jvm Jvm.ClassFile Sem Op Lib Jvm.Free Jvm.Stand Jvm.LawKit Jvm.RoadKit Bundle Jvm.Pilot.@@N@@.Jvm.D
theorem own_oz {Z : State} {n0 : Nat} {h : Heap} (O : Old Z n0 h) : n0 ≤ h.size := by
  rw [← O.1]; exact O.2.1
theorem own_lsw {tb : Tables} [Ours tb] {e : Env} {below : List Frame} {T target : State} {m : MethodId} {c : Code} {g : JFrame} (h : At T m c below) (hx : tb.exec = Jvm.exec) (hg : g.method = m) {dflt : Int} {prs : Array (Int × Int)} {len : Nat} {o : Int} {pc0 pc' : Nat} (hpc : g.pc = pc0) (hd : decode c.code g.pc = .ok (.lookupswitch dflt prs, len)) {i : Int32} {rest : List Value} (hs : g.stack = .int i :: rest)
    (hsort : (prs.toList.zip (prs.toList.drop 1)).all (fun (a, next) => a.1 < next.1) = true) (hoff : lookupswitch.offset prs.toList dflt i.toInt = o) (ho : 0 ≤ (pc0 : Int) + o) (hp : ((pc0 : Int) + o).toNat = pc')
    (hr : Steps tb e below (T.setTop { g with pc := pc', stack := rest }) target) : Steps tb e below (T.setTop g) target := by
  subst hg hpc hp
  jvm_step h [h.top, hx, hd, hs, hoff, ho, lookupswitch.wp_chain]
  exact ⟨by simpa using hsort, hr⟩
section Nums
variable {x k : Int32} {n : Int}
theorem own_lt1 (hk : k.toInt = n) (h : x < k) : x.toInt < n := by rw [← hk]; exact Int32.lt_iff_toInt_lt.mp h
theorem own_lt2 (hk : k.toInt = n) (h : k < x) : n < x.toInt := by rw [← hk]; exact Int32.lt_iff_toInt_lt.mp h
theorem own_nlt1 (hk : k.toInt = n) (h : ¬ x < k) : n ≤ x.toInt := by rw [Int32.lt_iff_toInt_lt, hk] at h; omega
theorem own_nlt2 (hk : k.toInt = n) (h : ¬ k < x) : x.toInt ≤ n := by rw [Int32.lt_iff_toInt_lt, hk] at h; omega
theorem own_eq (hk : k.toInt = n) (h : x = k) : x.toInt = n := by rw [← hk, h]
theorem own_neq (hk : k.toInt = n) (h : ¬ x = k) : x.toInt ≠ n := fun q => h (Int32.toInt_inj.mp (by rw [hk, q]))
theorem own_glt1 (hk : k.toInt = n) (h : x.toInt < n) : x < k := Int32.lt_iff_toInt_lt.mpr (by rw [hk]; exact h)
theorem own_glt2 (hk : k.toInt = n) (h : n < x.toInt) : k < x := Int32.lt_iff_toInt_lt.mpr (by rw [hk]; exact h)
theorem own_gnlt1 (hk : k.toInt = n) (h : n ≤ x.toInt) : ¬ x < k := fun q => by have := own_lt1 hk q; omega
theorem own_gnlt2 (hk : k.toInt = n) (h : x.toInt ≤ n) : ¬ k < x := fun q => by have := own_lt2 hk q; omega
theorem own_geq (hk : k.toInt = n) (h : x.toInt = n) : x = k := Int32.toInt_inj.mp (by rw [hk, h])
theorem own_gneq (hk : k.toInt = n) (h : x.toInt ≠ n) : ¬ x = k := fun q => h (own_eq hk q)
theorem own_and (hk : k.toInt = n) (h0 : 0 ≤ n) : 0 ≤ (x &&& k).toInt ∧ (x &&& k).toInt ≤ n := by have := c_and x k (by rw [hk]; exact h0); rw [hk] at this; exact this
theorem own_and2 (hk : k.toInt = n) (h0 : 0 ≤ n) : 0 ≤ (k &&& x).toInt ∧ (k &&& x).toInt ≤ n := by have := c_and' k x (by rw [hk]; exact h0); rw [hk] at this; exact this
theorem own_rem (hk : k.toInt = n) (h0 : 0 < n) (hx : 0 ≤ x.toInt) : 0 ≤ (x % k).toInt ∧ (x % k).toInt < n ∧ (x % k).toInt ≤ x.toInt := by
  have := (c_iremV x k).1 hx (by rw [hk]; exact h0); rw [hk] at this; exact ⟨this.1, this.2.1, this.2.2.1⟩
theorem own_add {lo hi : Int} (hk : k.toInt = n) (hx : lo ≤ x.toInt ∧ x.toInt ≤ hi) (h1 : -2147483648 ≤ lo + n) (h2 : hi + n < 2147483648) : lo + n ≤ (x + k).toInt ∧ (x + k).toInt ≤ hi + n := by
  have := c_iadd x k; have := rng32 (x + k); rw [hk] at *; omega
theorem own_add2 {lo hi : Int} (hk : k.toInt = n) (hx : lo ≤ x.toInt ∧ x.toInt ≤ hi) (h1 : -2147483648 ≤ lo + n) (h2 : hi + n < 2147483648) : lo + n ≤ (k + x).toInt ∧ (k + x).toInt ≤ hi + n := by
  have := c_iadd k x; have := rng32 (k + x); rw [hk] at *; omega
end Nums
theorem own_len {Z : State} {args : Array Value} {t : Term} {a : Addr} {c : Cell} {ty : FieldType} {n : Int32} (A : Arr Z Z.heap a c ty) (ev : t.eval args Z none [] Z = some (.ref a)) (h : (Term.length t).eval args Z none [] Z = some (.int n)) : c.slots.size < 2 ^ 31 ∧ c.slots.size.toInt32 = n := by
  have q := A.fin (Vm.Alike.refl _)
  by_cases z : c.slots.size < 2 ^ 31
  · rw [len_f ev q z] at h; exact ⟨z, Value.int.inj (Option.some.inj h)⟩
  · simp [Term.eval, ev, q, z] at h
theorem own_selp {s : State} {args : Array Value} {y z : MethodName} {C : String} (w : (Cond.selects C z z).before args s = true) (hc : z.cls = y.cls) (hp : s.PrivateAt y) (hi : (Cond.instanceMethod y).before args s = true) (hy : y.cls ≠ "java/lang/invoke/MethodHandle" ∧ y.cls ≠ "java/lang/invoke/VarHandle") : (Cond.selects y.cls y y).before args s = true := by
  obtain ⟨c2, r2, m2, -, -, q3, -, kP, hkP, hkPi⟩ := Cond.selects_spec w
  exact selects_self_of_private (by rw [← hc]; exact findClass_of_methodNamed q3) hkP hkPi hp hi hy
theorem own_max64 (x : Int64) : ¬ (9223372036854775807 : Int64) < x := fun h => by have := rng64 x; rw [Int64.lt_iff_toInt_lt, show (9223372036854775807 : Int64).toInt = 9223372036854775807 by decide] at h; omega
theorem own_min64 (x : Int64) : ¬ x < (-9223372036854775808 : Int64) := fun h => by have := rng64 x; rw [Int64.lt_iff_toInt_lt, show (-9223372036854775808 : Int64).toInt = -9223372036854775808 by decide] at h; omega
theorem own_root {Z : State} {a0 : Array Value} {O K : String} {n : Nat} (w : (Cond.noSuperclass O).before a0 Z = true) (wk : (Cond.instantiable K n).before a0 Z = true) (hn : O ≠ K) : NS Z O K := by
  obtain ⟨c, k, h1, h2, h3, -, -⟩ := Cond.noSuperclass_spec w
  obtain ⟨t, kt, g1, -⟩ := Cond.instantiable_spec wk
  have ne := ids_ne h1 g1 hn
  refine ⟨c, t, h1, g1, fun fuel => ?_⟩
  cases fuel with
  | zero => rfl
  | succ f => simp [Vm.isSubclassAux, ne, h2, h3]
theorem own_no {Z : State} {a0 : Array Value} {C S K : String} {n : Nat} (w : (Cond.superclass C S).before a0 Z = true) (wk : (Cond.instantiable K n).before a0 Z = true) (q : NS Z C K) (hn : C ≠ K) : ∃ c t, Z.vm.findClass C = some c ∧ Z.vm.findClass K = some t ∧ Z.vm.assignable c t = false := by
  obtain ⟨c, t, h0, g0, n3⟩ := q
  obtain ⟨p, k, kp, h1, h2, h3, h4, h5, -, h7⟩ := Cond.superclass_spec h0 w
  obtain ⟨t', k', g1, g2, g3, g4, -⟩ := Cond.instantiable_spec wk
  cases g0.symm.trans g1
  have ne := ids_ne h0 g0 hn
  have g5 : k'.isInterface = false := by simp only [Bool.or_eq_false_iff] at g4; exact g4.1
  refine ⟨c, t, h0, g0, ?_⟩
  show Z.vm.assignableAux (255 + 1) c t = false
  simp [Vm.assignableAux, ne, h2, g2, h5, g3, g5, Vm.isSubclass, n3]
theorem own_eqR {Z : State} {args : Array Value} {a b : Term} {idx : List Nat} {w : Addr} (hb : b.eval args Z none idx Z = some (.ref w)) (h : (Cond.eq a b).value args Z none Z idx = some true) : a.eval args Z none idx Z = some (.ref w) := by
  simp only [Cond.value, hb] at h
  cases ht : a.eval args Z none idx Z with
  | none => simp [ht] at h
  | some x => cases x <;> simp [ht] at h ⊢; exact h
def GW (Z : State) (w1 : Addr) (w2 : Addr) (w3 : Addr) : Prop :=
  (Sta Z Z.heap "com/example/vorgang/vorgang/QueryTimeoutScope$Kept" "NOT_KNOWN" "Lcom/example/vorgang/vorgang/QueryTimeoutScope$Kept;" (.ref w1))
  ∧ (Exa Z Z.heap w1 "com/example/vorgang/vorgang/QueryTimeoutScope$Kept")
  ∧ (Sta Z Z.heap "com/example/vorgang/vorgang/QueryTimeoutScope$Kept" "STATEMENT" "Lcom/example/vorgang/vorgang/QueryTimeoutScope$Kept;" (.ref w2))
  ∧ (Exa Z Z.heap w2 "com/example/vorgang/vorgang/QueryTimeoutScope$Kept")
  ∧ (Sta Z Z.heap "com/example/vorgang/vorgang/QueryTimeoutScope$Kept" "SESSION" "Lcom/example/vorgang/vorgang/QueryTimeoutScope$Kept;" (.ref w3))
  ∧ (Exa Z Z.heap w3 "com/example/vorgang/vorgang/QueryTimeoutScope$Kept")
  ∧ (Fld Z Z.heap w2 "java/lang/Enum" "ordinal" "I" (.int (1 : Int32)))
  ∧ (Fld Z Z.heap w1 "java/lang/Enum" "ordinal" "I" (.int (0 : Int32)))
  ∧ (Fld Z Z.heap w3 "java/lang/Enum" "ordinal" "I" (.int (2 : Int32)))
def Q0 (n0 : Nat) (v : Option Value) (h : Heap) (L : List Loc) : Prop := v = some (.int (1 : Int32)) ∧ Fr n0 L
theorem d0_0 : decode prog_14_method_1_code 0 = .ok (.aload_n 0, 1) := by decide +kernel
theorem d0_1 : decode prog_14_method_1_code 1 = .ok (.invokespecial 1, 3) := by decide +kernel
theorem d0_4 : decode prog_14_method_1_code 4 = .ok (.aload_n 0, 1) := by decide +kernel
theorem d0_5 : decode prog_14_method_1_code 5 = .ok (.getstatic 7, 3) := by decide +kernel
theorem d0_8 : decode prog_14_method_1_code 8 = .ok (.putfield 13, 3) := by decide +kernel
theorem d0_11 : decode prog_14_method_1_code 11 = .ok (.return_, 1) := by decide +kernel
theorem pn0 : plainName "com/example/vorgang/vorgang/QueryTimeoutScope" = true := by first | (simp [plainName, overriddenIn]; done) | decide +kernel
theorem ef1 (m : MethodId) (x0 : Addr) : entryFrame m #[(.ref x0)] 1 = mkF m 0 #[.val (.ref x0)] [] := by first | (simp [entryFrame, mkF, argsToLocals, Value.category]; done) | rfl
def Q1 (Z : State) (w1 : Addr) (w2 : Addr) (w3 : Addr) (o1 : Addr) (h0 : Heap) (n0 : Nat) (v : Option Value) (h : Heap) (L : List Loc) : Prop :=
  (v = none ∧ Fr n0 L ∧ Keep h0 h [o1] ∧ (Exa Z h o1 "com/example/vorgang/vorgang/QueryTimeoutScope") ∧ (Fld Z h o1 "com/example/vorgang/vorgang/QueryTimeoutScope" "kept" "Lcom/example/vorgang/vorgang/QueryTimeoutScope$Kept;" (.ref w1)))
set_option maxRecDepth 65536 in
set_option maxHeartbeats 40000000 in
theorem rm1 (l : Launch) (Z : State) (a0 : Array Value) (hw : ∀ d ∈ tables_1, d.before a0 Z = true) (w1 : Addr) (w2 : Addr) (w3 : Addr) (G : GW Z w1 w2 w3) (ws : List Jvm.Cond) (o1 : Addr) (h0 : Heap) (n0 : Nat) (O0 : Old Z n0 h0) (g_o1 : n0 ≤ o1) (P0 : Exa Z h0 o1 "com/example/vorgang/vorgang/QueryTimeoutScope") (P1 : Fld Z h0 o1 "com/example/vorgang/vorgang/QueryTimeoutScope" "kept" "Lcom/example/vorgang/vorgang/QueryTimeoutScope$Kept;" .null) :
    MetFree l (⟨"com/example/vorgang/vorgang/QueryTimeoutScope", "<init>", "()V"⟩ : MethodName) (head1 (Jvm.Cond.code (⟨"com/example/vorgang/vorgang/QueryTimeoutScope", "<init>", "()V"⟩ : MethodName) prog_14_method_1_code 1 none :: ws) ({ frames := 1, cells := 0, slots := 0, locals := 12 } : Room)) (fun a U => a = #[(.ref o1)] ∧ Z.Warmed39 U.vm ∧ U.heap = h0) (fun _ _ _ _ _ => True) (fun _ U o U' => ∃ v L, o = .returned v ∧ Q1 Z w1 w2 w3 o1 h0 n0 v U'.heap L ∧ FrameEnd U o U' L ({ frames := 1, cells := 0, slots := 0, locals := 12 } : Room).cells ({ frames := 1, cells := 0, slots := 0, locals := 12 } : Room).slots) := by
  obtain ⟨S_w1, E_w1, S_w2, E_w2, S_w3, E_w3, F_w2_ordinal, F_w1_ordinal, F_w3_ordinal⟩ := id G
  refine MetFree.of_bodySF (plainFor_of_name pn0) hisR ?_
  intro p e s m args below meth c s₁ Bd hml0 hP hK
  obtain ⟨rfl, hZ, hh⟩ := hP
  have hx := Bd.exec
  have hby := Bd.bytes
  have hml : c.maxLocals = 1 := hml0
  have hown : s.vm.findClass "com/example/vorgang/vorgang/QueryTimeoutScope" = some m.cls := findClass_of_methodNamed Bd.named
  have hnm := (name_of_methodNamed Bd.named Bd.method).1
  have hret := Bd.returns
  have hlk : meth.locks = false := BodyLoose.notSynchronized Bd
  have X0 : Stand p l e ({ frames := 1, cells := 0, slots := 0, locals := 12 } : Room) s m #[(.ref o1)] below meth c s₁ [] 0 0 := Stand.of_body Bd
  have e0 : s₁.heap = h0 := by rw [← hh, Bd.state]; rfl
  have N0 := Fr.nil n0
  have pre0 : ∀ t, Steps p.tables e below (s₁.setTop (mkF m 0 #[.val (.ref o1)] [])) t → Steps p.tables e below (s₁.setTop (entryFrame m #[(.ref o1)] 1)) t := fun t k => castTop (ef1 m o1) k
  obtain ⟨T1, X1, e1, st1⟩ := initO X0 hx hZ hown (hw _ (List.mem_of_getElem? (i := 6) rfl)) (hw _ (List.mem_of_getElem? (i := 7) rfl)) (hw _ (List.mem_of_getElem? (i := 8) rfl)) e0 (g := (mkF m 1 #[.val (.ref o1)] [(.ref o1)])) rfl (by rw [hml]; rfl) rfl (hb hby d0_1) (by decide) (W := 0) (by show 2 * 0 + _ ≤ _; exact Nat.le_of_eq rfl) (by decide)
  obtain ⟨T2, X2, e2, st2⟩ := getS2 X1 hx hZ hown (host := "") (Or.inl (hw _ (List.mem_of_getElem? (i := 9) rfl))) Via.refl e1 (S_w1.ext O0.2) (g := (mkF m 5 #[.val (.ref o1)] [(.ref o1)])) rfl (hb hby d0_5)
  obtain ⟨T3, h3, X3, e3, W3, st3⟩ := putF X2 hx hZ hown (host := "") (Or.inl (hw _ (List.mem_of_getElem? (i := 12) rfl))) Via.refl e2 P1 P0 (Or.inl (hw _ (List.mem_of_getElem? (i := 13) rfl))) (hw _ (List.mem_of_getElem? (i := 1) rfl)) (ty := (.object "com/example/vorgang/vorgang/QueryTimeoutScope$Kept")) (by decide) rfl rfl (g := (mkF m 8 #[.val (.ref o1)] [(.ref w1), (.ref o1)])) rfl rfl (hb hby d0_8)
  have N3 := Fr.snoc X3 N0 g_o1
  have Fw3 := P1.same W3
  have M3 : h0.size ≤ h3.size := Nat.le_trans (Nat.le_refl _) (Nat.le_of_eq W3.size.symm)
  have O3 := Old.wr O0 W3 g_o1
  obtain ⟨fs, hr, hrun, hended, hW, hsame⟩ := X3.leave (v := none) (fun _ => rfl)
  have KL : Keep h0 h3 [o1] := ((Keep.refl h0 [o1]).wr W3 (Or.inl (List.mem_of_getElem? (i := 0) rfl)))
  have f4 := (P0.wr W3)
  refine ⟨_, _, pre0 _ ?_, hrun, hended, _, _, rfl, ?_, ⟨_, rfl⟩, hW, hsame.mono (by decide) (by decide)⟩
  ·
    show Steps p.tables e below (s₁.setTop (mkF m 0 #[.val (.ref o1)] [])) _
    refine XS.aloadN X0.here hx rfl (hb hby d0_0) rfl rfl ?_
    show Steps p.tables e below (s₁.setTop (mkF m 1 #[.val (.ref o1)] [(.ref o1)])) _
    refine st1 _ ?_
    show Steps p.tables e below (T1.setTop (mkF m 4 #[.val (.ref o1)] [])) _
    refine XS.aloadN X1.here hx rfl (hb hby d0_4) rfl rfl ?_
    show Steps p.tables e below (T1.setTop (mkF m 5 #[.val (.ref o1)] [(.ref o1)])) _
    refine st2 _ ?_
    show Steps p.tables e below (T2.setTop (mkF m 8 #[.val (.ref o1)] [(.ref w1), (.ref o1)])) _
    refine st3 _ ?_
    show Steps p.tables e below (T3.setTop (mkF m 11 #[.val (.ref o1)] [])) _
    exact X3.returnOut hx hret (hb hby d0_11) hr
  ·
    show Q1 Z w1 w2 w3 o1 h0 n0 _ T3.heap _
    rw [e3]
    exact ⟨rfl, N3, KL, f4, Fw3⟩
theorem pd0 : parseMethodDescriptor "()V" = some ⟨[], none⟩ := by decide +kernel
theorem d1_0 : decode prog_14_method_4_code 0 = .ok (.aload_n 0, 1) := by decide +kernel
theorem d1_1 : decode prog_14_method_4_code 1 = .ok (.getfield 13, 3) := by decide +kernel
theorem d1_4 : decode prog_14_method_4_code 4 = .ok (.getstatic 7, 3) := by decide +kernel
theorem d1_7 : decode prog_14_method_4_code 7 = .ok (.if_acmp .eq 7, 3) := by decide +kernel
theorem d1_14 : decode prog_14_method_4_code 14 = .ok (.iconst 0, 1) := by decide +kernel
theorem d1_15 : decode prog_14_method_4_code 15 = .ok (.ireturn, 1) := by decide +kernel
theorem ef2 (m : MethodId) (x0 : Addr) : entryFrame m #[(.ref x0)] 1 = mkF m 0 #[.val (.ref x0)] [] := by first | (simp [entryFrame, mkF, argsToLocals, Value.category]; done) | rfl
def Q2 (Z : State) (w1 : Addr) (w2 : Addr) (w3 : Addr) (o1 : Addr) (h0 : Heap) (n0 : Nat) (v : Option Value) (h : Heap) (L : List Loc) : Prop :=
  (v = some (.int (0 : Int32)) ∧ Fr n0 L ∧ h = h0)
set_option maxRecDepth 65536 in
set_option maxHeartbeats 40000000 in
theorem rm2 (l : Launch) (Z : State) (a0 : Array Value) (hw : ∀ d ∈ tables_1, d.before a0 Z = true) (w1 : Addr) (w2 : Addr) (w3 : Addr) (G : GW Z w1 w2 w3) (ws : List Jvm.Cond) (o1 : Addr) (h0 : Heap) (n0 : Nat) (O0 : Old Z n0 h0) (g_o1 : n0 ≤ o1) (P1 : Fld Z h0 o1 "com/example/vorgang/vorgang/QueryTimeoutScope" "kept" "Lcom/example/vorgang/vorgang/QueryTimeoutScope$Kept;" (.ref w1)) :
    MetFree l (⟨"com/example/vorgang/vorgang/QueryTimeoutScope", "isKnown", "()Z"⟩ : MethodName) (head1 (Jvm.Cond.code (⟨"com/example/vorgang/vorgang/QueryTimeoutScope", "isKnown", "()Z"⟩ : MethodName) prog_14_method_4_code 1 (some .boolean) :: ws) ({ frames := 0, cells := 0, slots := 0, locals := 0 } : Room)) (fun a U => a = #[(.ref o1)] ∧ Z.Warmed39 U.vm ∧ U.heap = h0) (fun _ _ _ _ _ => True) (fun _ U o U' => ∃ v L, o = .returned v ∧ Q2 Z w1 w2 w3 o1 h0 n0 v U'.heap L ∧ FrameEnd U o U' L ({ frames := 0, cells := 0, slots := 0, locals := 0 } : Room).cells ({ frames := 0, cells := 0, slots := 0, locals := 0 } : Room).slots) := by
  obtain ⟨S_w1, E_w1, S_w2, E_w2, S_w3, E_w3, F_w2_ordinal, F_w1_ordinal, F_w3_ordinal⟩ := id G
  refine MetFree.of_bodySF (plainFor_of_name pn0) hisR ?_
  intro p e s m args below meth c s₁ Bd hml0 hP hK
  obtain ⟨rfl, hZ, hh⟩ := hP
  have hx := Bd.exec
  have hby := Bd.bytes
  have hml : c.maxLocals = 1 := hml0
  have hown : s.vm.findClass "com/example/vorgang/vorgang/QueryTimeoutScope" = some m.cls := findClass_of_methodNamed Bd.named
  have hnm := (name_of_methodNamed Bd.named Bd.method).1
  have hret := Bd.returns
  have hlk : meth.locks = false := BodyLoose.notSynchronized Bd
  have X0 : Stand p l e ({ frames := 0, cells := 0, slots := 0, locals := 0 } : Room) s m #[(.ref o1)] below meth c s₁ [] 0 0 := Stand.of_body Bd
  have e0 : s₁.heap = h0 := by rw [← hh, Bd.state]; rfl
  have N0 := Fr.nil n0
  have pre0 : ∀ t, Steps p.tables e below (s₁.setTop (mkF m 0 #[.val (.ref o1)] [])) t → Steps p.tables e below (s₁.setTop (entryFrame m #[(.ref o1)] 1)) t := fun t k => castTop (ef2 m o1) k
  obtain ⟨T1, X1, e1, st1⟩ := getF X0 hx hZ hown (host := "") (Or.inl (hw _ (List.mem_of_getElem? (i := 12) rfl))) Via.refl e0 P1 (g := (mkF m 1 #[.val (.ref o1)] [(.ref o1)])) rfl rfl (hb hby d1_1)
  obtain ⟨T2, X2, e2, st2⟩ := getS2 X1 hx hZ hown (host := "") (Or.inl (hw _ (List.mem_of_getElem? (i := 9) rfl))) Via.refl e1 (S_w1.ext O0.2) (g := (mkF m 4 #[.val (.ref o1)] [(.ref w1)])) rfl (hb hby d1_4)
  obtain ⟨fs, hr, hrun, hended, hW, hsame⟩ := X2.leave (v := some (.int (0 : Int32))) (fun h => by rw [hret] at h; cases h)
  refine ⟨_, _, pre0 _ ?_, hrun, hended, _, _, rfl, ?_, ⟨_, rfl⟩, hW, hsame.mono (by decide) (by decide)⟩
  ·
    show Steps p.tables e below (s₁.setTop (mkF m 0 #[.val (.ref o1)] [])) _
    refine XS.aloadN X0.here hx rfl (hb hby d1_0) rfl rfl ?_
    show Steps p.tables e below (s₁.setTop (mkF m 1 #[.val (.ref o1)] [(.ref o1)])) _
    refine st1 _ ?_
    show Steps p.tables e below (T1.setTop (mkF m 4 #[.val (.ref o1)] [(.ref w1)])) _
    refine st2 _ ?_
    show Steps p.tables e below (T2.setTop (mkF m 7 #[.val (.ref o1)] [(.ref w1), (.ref w1)])) _
    refine Jvm.RoadKit.acmp (g := (mkF m 7 #[.val (.ref o1)] [(.ref w1), (.ref w1)])) X2 hx rfl rfl rfl (pc0 := 7) (pc' := 14) (same := true) rfl (hb hby d1_7) rfl (decide_eq_true rfl) (by decide) (by decide) ?_
    show Steps p.tables e below (T2.setTop (mkF m 14 #[.val (.ref o1)] [])) _
    refine XS.iconst X2.here hx rfl (hb hby d1_14) ?_
    show Steps p.tables e below (T2.setTop (mkF m 15 #[.val (.ref o1)] [(.int (0 : Int32))])) _
    exact retN X2 hx (t := .boolean) hret (by simp) (hb hby d1_15) hr
  ·
    show Q2 Z w1 w2 w3 o1 h0 n0 _ T2.heap _
    rw [e2]
    exact ⟨rfl, N0, rfl⟩
theorem pd1 : parseMethodDescriptor "()Z" = some ⟨[], some .boolean⟩ := by decide +kernel
theorem d2_0 : decode prog_14_method_5_code 0 = .ok (.aload_n 0, 1) := by decide +kernel
theorem d2_1 : decode prog_14_method_5_code 1 = .ok (.iload_n 1, 1) := by decide +kernel
theorem d2_2 : decode prog_14_method_5_code 2 = .ok (.ifCond .eq 9, 3) := by decide +kernel
theorem d2_11 : decode prog_14_method_5_code 11 = .ok (.getstatic 21, 3) := by decide +kernel
theorem d2_14 : decode prog_14_method_5_code 14 = .ok (.putfield 13, 3) := by decide +kernel
theorem d2_17 : decode prog_14_method_5_code 17 = .ok (.return_, 1) := by decide +kernel
theorem d2_5 : decode prog_14_method_5_code 5 = .ok (.getstatic 18, 3) := by decide +kernel
theorem d2_8 : decode prog_14_method_5_code 8 = .ok (.goto 6, 3) := by decide +kernel
theorem ef3 (m : MethodId) (x0 : Addr) (x1 : Int32) : entryFrame m #[(.ref x0), (.int x1)] 2 = mkF m 0 #[.val (.ref x0), .val (.int x1)] [] := by first | (simp [entryFrame, mkF, argsToLocals, Value.category]; done) | rfl
def Q3 (Z : State) (w1 : Addr) (w2 : Addr) (w3 : Addr) (o1 : Addr) (p2 : Int32) (h0 : Heap) (n0 : Nat) (v : Option Value) (h : Heap) (L : List Loc) : Prop :=
  ((p2 = (0 : Int32)) ∧ v = none ∧ Fr n0 L ∧ Keep h0 h [o1] ∧ (Exa Z h o1 "com/example/vorgang/vorgang/QueryTimeoutScope") ∧ (Fld Z h o1 "com/example/vorgang/vorgang/QueryTimeoutScope" "kept" "Lcom/example/vorgang/vorgang/QueryTimeoutScope$Kept;" (.ref w2)))
  ∨ ((¬ (p2 = (0 : Int32))) ∧ v = none ∧ Fr n0 L ∧ Keep h0 h [o1] ∧ (Exa Z h o1 "com/example/vorgang/vorgang/QueryTimeoutScope") ∧ (Fld Z h o1 "com/example/vorgang/vorgang/QueryTimeoutScope" "kept" "Lcom/example/vorgang/vorgang/QueryTimeoutScope$Kept;" (.ref w3)))
set_option maxRecDepth 65536 in
set_option maxHeartbeats 40000000 in
theorem rm3 (l : Launch) (Z : State) (a0 : Array Value) (hw : ∀ d ∈ tables_1, d.before a0 Z = true) (w1 : Addr) (w2 : Addr) (w3 : Addr) (G : GW Z w1 w2 w3) (ws : List Jvm.Cond) (o1 : Addr) (p2 : Int32) (h0 : Heap) (n0 : Nat) (O0 : Old Z n0 h0) (g_o1 : n0 ≤ o1) (P0 : Exa Z h0 o1 "com/example/vorgang/vorgang/QueryTimeoutScope") (P1 : Fld Z h0 o1 "com/example/vorgang/vorgang/QueryTimeoutScope" "kept" "Lcom/example/vorgang/vorgang/QueryTimeoutScope$Kept;" (.ref w1)) :
    MetFree l (⟨"com/example/vorgang/vorgang/QueryTimeoutScope", "found", "(Z)V"⟩ : MethodName) (head1 (Jvm.Cond.code (⟨"com/example/vorgang/vorgang/QueryTimeoutScope", "found", "(Z)V"⟩ : MethodName) prog_14_method_5_code 2 none :: ws) ({ frames := 0, cells := 0, slots := 0, locals := 0 } : Room)) (fun a U => a = #[(.ref o1), (.int p2)] ∧ Z.Warmed39 U.vm ∧ U.heap = h0) (fun _ _ _ _ _ => True) (fun _ U o U' => ∃ v L, o = .returned v ∧ Q3 Z w1 w2 w3 o1 p2 h0 n0 v U'.heap L ∧ FrameEnd U o U' L ({ frames := 0, cells := 0, slots := 0, locals := 0 } : Room).cells ({ frames := 0, cells := 0, slots := 0, locals := 0 } : Room).slots) := by
  obtain ⟨S_w1, E_w1, S_w2, E_w2, S_w3, E_w3, F_w2_ordinal, F_w1_ordinal, F_w3_ordinal⟩ := id G
  refine MetFree.of_bodySF (plainFor_of_name pn0) hisR ?_
  intro p e s m args below meth c s₁ Bd hml0 hP hK
  obtain ⟨rfl, hZ, hh⟩ := hP
  have hx := Bd.exec
  have hby := Bd.bytes
  have hml : c.maxLocals = 2 := hml0
  have hown : s.vm.findClass "com/example/vorgang/vorgang/QueryTimeoutScope" = some m.cls := findClass_of_methodNamed Bd.named
  have hnm := (name_of_methodNamed Bd.named Bd.method).1
  have hret := Bd.returns
  have hlk : meth.locks = false := BodyLoose.notSynchronized Bd
  have X0 : Stand p l e ({ frames := 0, cells := 0, slots := 0, locals := 0 } : Room) s m #[(.ref o1), (.int p2)] below meth c s₁ [] 0 0 := Stand.of_body Bd
  have e0 : s₁.heap = h0 := by rw [← hh, Bd.state]; rfl
  have N0 := Fr.nil n0
  have pre0 : ∀ t, Steps p.tables e below (s₁.setTop (mkF m 0 #[.val (.ref o1), .val (.int p2)] [])) t → Steps p.tables e below (s₁.setTop (entryFrame m #[(.ref o1), (.int p2)] 2)) t := fun t k => castTop (ef3 m o1 p2) k
  have pre1 : ∀ t, Steps p.tables e below (s₁.setTop (mkF m 2 #[.val (.ref o1), .val (.int p2)] [(.int p2), (.ref o1)])) t → Steps p.tables e below (s₁.setTop (entryFrame m #[(.ref o1), (.int p2)] 2)) t := fun t k => by
    refine pre0 _ ?_
    show Steps p.tables e below (s₁.setTop (mkF m 0 #[.val (.ref o1), .val (.int p2)] [])) _
    refine XS.aloadN X0.here hx rfl (hb hby d2_0) rfl rfl ?_
    show Steps p.tables e below (s₁.setTop (mkF m 1 #[.val (.ref o1), .val (.int p2)] [(.ref o1)])) _
    refine XS.iloadN X0.here hx rfl (hb hby d2_1) rfl ?_
    exact k
  by_cases hc2 : p2 = (0 : Int32)
  ·
    have pre3 : ∀ t, Steps p.tables e below (s₁.setTop (mkF m 2 #[.val (.ref o1), .val (.int (0 : Int32))] [(.int (0 : Int32)), (.ref o1)])) t → Steps p.tables e below (s₁.setTop (entryFrame m #[(.ref o1), (.int p2)] 2)) t := fun t k => pre1 t (by rw [hc2]; exact k)
    obtain ⟨T4, X4, e4, st4⟩ := getS2 X0 hx hZ hown (host := "") (Or.inl (hw _ (List.mem_of_getElem? (i := 24) rfl))) Via.refl e0 (S_w2.ext O0.2) (g := (mkF m 11 #[.val (.ref o1), .val (.int (0 : Int32))] [(.ref o1)])) rfl (hb hby d2_11)
    obtain ⟨T5, h5, X5, e5, W5, st5⟩ := putF X4 hx hZ hown (host := "") (Or.inl (hw _ (List.mem_of_getElem? (i := 12) rfl))) Via.refl e4 P1 P0 (Or.inl (hw _ (List.mem_of_getElem? (i := 13) rfl))) (hw _ (List.mem_of_getElem? (i := 1) rfl)) (ty := (.object "com/example/vorgang/vorgang/QueryTimeoutScope$Kept")) (by decide) rfl rfl (g := (mkF m 14 #[.val (.ref o1), .val (.int (0 : Int32))] [(.ref w2), (.ref o1)])) rfl rfl (hb hby d2_14)
    have N5 := Fr.snoc X5 N0 g_o1
    have Fw5 := P1.same W5
    have M5 : h0.size ≤ h5.size := Nat.le_trans (Nat.le_refl _) (Nat.le_of_eq W5.size.symm)
    have O5 := Old.wr O0 W5 g_o1
    obtain ⟨fs, hr, hrun, hended, hW, hsame⟩ := X5.leave (v := none) (fun _ => rfl)
    have KL : Keep h0 h5 [o1] := ((Keep.refl h0 [o1]).wr W5 (Or.inl (List.mem_of_getElem? (i := 0) rfl)))
    have f6 := (P0.wr W5)
    refine ⟨_, _, pre3 _ ?_, hrun, hended, _, _, rfl, ?_, ⟨_, rfl⟩, hW, hsame.mono (by decide) (by decide)⟩
    ·
      show Steps p.tables e below (s₁.setTop (mkF m 2 #[.val (.ref o1), .val (.int (0 : Int32))] [(.int (0 : Int32)), (.ref o1)])) _
      refine XS.ifYes X0.here hx rfl (pc0 := 2) (pc' := 11) rfl (hb hby d2_2) rfl ((if0 _ _).trans (teq (by decide : (0 : Int32) = (0 : Int32))).1) (by decide) (by decide) ?_
      show Steps p.tables e below (s₁.setTop (mkF m 11 #[.val (.ref o1), .val (.int (0 : Int32))] [(.ref o1)])) _
      refine st4 _ ?_
      show Steps p.tables e below (T4.setTop (mkF m 14 #[.val (.ref o1), .val (.int (0 : Int32))] [(.ref w2), (.ref o1)])) _
      refine st5 _ ?_
      show Steps p.tables e below (T5.setTop (mkF m 17 #[.val (.ref o1), .val (.int (0 : Int32))] [])) _
      exact X5.returnOut hx hret (hb hby d2_17) hr
    ·
      show Q3 Z w1 w2 w3 o1 p2 h0 n0 _ T5.heap _
      rw [e5]
      exact (Or.inl ⟨hc2, rfl, N5, KL, f6, Fw5⟩)
  ·
    obtain ⟨T7, X7, e7, st7⟩ := getS2 X0 hx hZ hown (host := "") (Or.inl (hw _ (List.mem_of_getElem? (i := 31) rfl))) Via.refl e0 (S_w3.ext O0.2) (g := (mkF m 5 #[.val (.ref o1), .val (.int p2)] [(.ref o1)])) rfl (hb hby d2_5)
    obtain ⟨T8, h8, X8, e8, W8, st8⟩ := putF X7 hx hZ hown (host := "") (Or.inl (hw _ (List.mem_of_getElem? (i := 12) rfl))) Via.refl e7 P1 P0 (Or.inl (hw _ (List.mem_of_getElem? (i := 13) rfl))) (hw _ (List.mem_of_getElem? (i := 1) rfl)) (ty := (.object "com/example/vorgang/vorgang/QueryTimeoutScope$Kept")) (by decide) rfl rfl (g := (mkF m 14 #[.val (.ref o1), .val (.int p2)] [(.ref w3), (.ref o1)])) rfl rfl (hb hby d2_14)
    have N8 := Fr.snoc X8 N0 g_o1
    have Fw8 := P1.same W8
    have M8 : h0.size ≤ h8.size := Nat.le_trans (Nat.le_refl _) (Nat.le_of_eq W8.size.symm)
    have O8 := Old.wr O0 W8 g_o1
    obtain ⟨fs, hr, hrun, hended, hW, hsame⟩ := X8.leave (v := none) (fun _ => rfl)
    have KL : Keep h0 h8 [o1] := ((Keep.refl h0 [o1]).wr W8 (Or.inl (List.mem_of_getElem? (i := 0) rfl)))
    have f9 := (P0.wr W8)
    refine ⟨_, _, pre1 _ ?_, hrun, hended, _, _, rfl, ?_, ⟨_, rfl⟩, hW, hsame.mono (by decide) (by decide)⟩
    ·
      show Steps p.tables e below (s₁.setTop (mkF m 2 #[.val (.ref o1), .val (.int p2)] [(.int p2), (.ref o1)])) _
      refine XS.ifNo X0.here hx rfl (hb hby d2_2) rfl ((if0 _ _).trans (feq hc2).1) ?_
      show Steps p.tables e below (s₁.setTop (mkF m 5 #[.val (.ref o1), .val (.int p2)] [(.ref o1)])) _
      refine st7 _ ?_
      show Steps p.tables e below (T7.setTop (mkF m 8 #[.val (.ref o1), .val (.int p2)] [(.ref w3), (.ref o1)])) _
      refine XS.goto X7.here hx rfl (pc0 := 8) (pc' := 14) rfl (hb hby d2_8) (by decide) (by decide) ?_
      show Steps p.tables e below (T7.setTop (mkF m 14 #[.val (.ref o1), .val (.int p2)] [(.ref w3), (.ref o1)])) _
      refine st8 _ ?_
      show Steps p.tables e below (T8.setTop (mkF m 17 #[.val (.ref o1), .val (.int p2)] [])) _
      exact X8.returnOut hx hret (hb hby d2_17) hr
    ·
      show Q3 Z w1 w2 w3 o1 p2 h0 n0 _ T8.heap _
      rw [e8]
      exact (Or.inr ⟨hc2, rfl, N8, KL, f9, Fw8⟩)
theorem pd2 : parseMethodDescriptor "(Z)V" = some ⟨[.boolean], none⟩ := by decide +kernel
theorem d1_10 : decode prog_14_method_4_code 10 = .ok (.iconst 1, 1) := by decide +kernel
theorem d1_11 : decode prog_14_method_4_code 11 = .ok (.goto 4, 3) := by decide +kernel
theorem ef4 (m : MethodId) (x0 : Addr) : entryFrame m #[(.ref x0)] 1 = mkF m 0 #[.val (.ref x0)] [] := by first | (simp [entryFrame, mkF, argsToLocals, Value.category]; done) | rfl
def Q4 (Z : State) (w1 : Addr) (w2 : Addr) (w3 : Addr) (o1 : Addr) (h0 : Heap) (n0 : Nat) (v : Option Value) (h : Heap) (L : List Loc) : Prop :=
  (v = some (.int (1 : Int32)) ∧ Fr n0 L ∧ h = h0)
set_option maxRecDepth 65536 in
set_option maxHeartbeats 40000000 in
theorem rm4 (l : Launch) (Z : State) (a0 : Array Value) (hw : ∀ d ∈ tables_1, d.before a0 Z = true) (w1 : Addr) (w2 : Addr) (w3 : Addr) (G : GW Z w1 w2 w3) (ws : List Jvm.Cond) (o1 : Addr) (h0 : Heap) (n0 : Nat) (O0 : Old Z n0 h0) (g_o1 : n0 ≤ o1) (P1 : Fld Z h0 o1 "com/example/vorgang/vorgang/QueryTimeoutScope" "kept" "Lcom/example/vorgang/vorgang/QueryTimeoutScope$Kept;" (.ref w2)) :
    MetFree l (⟨"com/example/vorgang/vorgang/QueryTimeoutScope", "isKnown", "()Z"⟩ : MethodName) (head1 (Jvm.Cond.code (⟨"com/example/vorgang/vorgang/QueryTimeoutScope", "isKnown", "()Z"⟩ : MethodName) prog_14_method_4_code 1 (some .boolean) :: ws) ({ frames := 0, cells := 0, slots := 0, locals := 0 } : Room)) (fun a U => a = #[(.ref o1)] ∧ Z.Warmed39 U.vm ∧ U.heap = h0) (fun _ _ _ _ _ => True) (fun _ U o U' => ∃ v L, o = .returned v ∧ Q4 Z w1 w2 w3 o1 h0 n0 v U'.heap L ∧ FrameEnd U o U' L ({ frames := 0, cells := 0, slots := 0, locals := 0 } : Room).cells ({ frames := 0, cells := 0, slots := 0, locals := 0 } : Room).slots) := by
  obtain ⟨S_w1, E_w1, S_w2, E_w2, S_w3, E_w3, F_w2_ordinal, F_w1_ordinal, F_w3_ordinal⟩ := id G
  refine MetFree.of_bodySF (plainFor_of_name pn0) hisR ?_
  intro p e s m args below meth c s₁ Bd hml0 hP hK
  obtain ⟨rfl, hZ, hh⟩ := hP
  have hx := Bd.exec
  have hby := Bd.bytes
  have hml : c.maxLocals = 1 := hml0
  have hown : s.vm.findClass "com/example/vorgang/vorgang/QueryTimeoutScope" = some m.cls := findClass_of_methodNamed Bd.named
  have hnm := (name_of_methodNamed Bd.named Bd.method).1
  have hret := Bd.returns
  have hlk : meth.locks = false := BodyLoose.notSynchronized Bd
  have X0 : Stand p l e ({ frames := 0, cells := 0, slots := 0, locals := 0 } : Room) s m #[(.ref o1)] below meth c s₁ [] 0 0 := Stand.of_body Bd
  have e0 : s₁.heap = h0 := by rw [← hh, Bd.state]; rfl
  have N0 := Fr.nil n0
  have pre0 : ∀ t, Steps p.tables e below (s₁.setTop (mkF m 0 #[.val (.ref o1)] [])) t → Steps p.tables e below (s₁.setTop (entryFrame m #[(.ref o1)] 1)) t := fun t k => castTop (ef4 m o1) k
  obtain ⟨T1, X1, e1, st1⟩ := getF X0 hx hZ hown (host := "") (Or.inl (hw _ (List.mem_of_getElem? (i := 12) rfl))) Via.refl e0 P1 (g := (mkF m 1 #[.val (.ref o1)] [(.ref o1)])) rfl rfl (hb hby d1_1)
  obtain ⟨T2, X2, e2, st2⟩ := getS2 X1 hx hZ hown (host := "") (Or.inl (hw _ (List.mem_of_getElem? (i := 9) rfl))) Via.refl e1 (S_w1.ext O0.2) (g := (mkF m 4 #[.val (.ref o1)] [(.ref w2)])) rfl (hb hby d1_4)
  obtain ⟨fs, hr, hrun, hended, hW, hsame⟩ := X2.leave (v := some (.int (1 : Int32))) (fun h => by rw [hret] at h; cases h)
  refine ⟨_, _, pre0 _ ?_, hrun, hended, _, _, rfl, ?_, ⟨_, rfl⟩, hW, hsame.mono (by decide) (by decide)⟩
  ·
    show Steps p.tables e below (s₁.setTop (mkF m 0 #[.val (.ref o1)] [])) _
    refine XS.aloadN X0.here hx rfl (hb hby d1_0) rfl rfl ?_
    show Steps p.tables e below (s₁.setTop (mkF m 1 #[.val (.ref o1)] [(.ref o1)])) _
    refine st1 _ ?_
    show Steps p.tables e below (T1.setTop (mkF m 4 #[.val (.ref o1)] [(.ref w2)])) _
    refine st2 _ ?_
    show Steps p.tables e below (T2.setTop (mkF m 7 #[.val (.ref o1)] [(.ref w1), (.ref w2)])) _
    refine Jvm.RoadKit.acmp (g := (mkF m 7 #[.val (.ref o1)] [(.ref w1), (.ref w2)])) X2 hx rfl rfl rfl (pc0 := 7) (pc' := 10) (same := false) rfl (hb hby d1_7) rfl (decide_eq_false fun q => (Fld.ne F_w2_ordinal F_w1_ordinal (by decide)) (Value.ref.inj q)) (by decide) (by decide) ?_
    show Steps p.tables e below (T2.setTop (mkF m 10 #[.val (.ref o1)] [])) _
    refine XS.iconst X2.here hx rfl (hb hby d1_10) ?_
    show Steps p.tables e below (T2.setTop (mkF m 11 #[.val (.ref o1)] [(.int (1 : Int32))])) _
    refine XS.goto X2.here hx rfl (pc0 := 11) (pc' := 15) rfl (hb hby d1_11) (by decide) (by decide) ?_
    show Steps p.tables e below (T2.setTop (mkF m 15 #[.val (.ref o1)] [(.int (1 : Int32))])) _
    exact retN X2 hx (t := .boolean) hret (by simp) (hb hby d1_15) hr
  ·
    show Q4 Z w1 w2 w3 o1 h0 n0 _ T2.heap _
    rw [e2]
    exact ⟨rfl, N0, rfl⟩
theorem d3_0 : decode prog_14_method_2_code 0 = .ok (.aload_n 0, 1) := by decide +kernel
theorem d3_1 : decode prog_14_method_2_code 1 = .ok (.getfield 13, 3) := by decide +kernel
theorem d3_4 : decode prog_14_method_2_code 4 = .ok (.getstatic 18, 3) := by decide +kernel
theorem d3_7 : decode prog_14_method_2_code 7 = .ok (.if_acmp .ne 7, 3) := by decide +kernel
theorem d3_14 : decode prog_14_method_2_code 14 = .ok (.iconst 0, 1) := by decide +kernel
theorem d3_15 : decode prog_14_method_2_code 15 = .ok (.ireturn, 1) := by decide +kernel
theorem ef5 (m : MethodId) (x0 : Addr) : entryFrame m #[(.ref x0)] 1 = mkF m 0 #[.val (.ref x0)] [] := by first | (simp [entryFrame, mkF, argsToLocals, Value.category]; done) | rfl
def Q5 (Z : State) (w1 : Addr) (w2 : Addr) (w3 : Addr) (o1 : Addr) (h0 : Heap) (n0 : Nat) (v : Option Value) (h : Heap) (L : List Loc) : Prop :=
  (v = some (.int (0 : Int32)) ∧ Fr n0 L ∧ h = h0)
set_option maxRecDepth 65536 in
set_option maxHeartbeats 40000000 in
theorem rm5 (l : Launch) (Z : State) (a0 : Array Value) (hw : ∀ d ∈ tables_1, d.before a0 Z = true) (w1 : Addr) (w2 : Addr) (w3 : Addr) (G : GW Z w1 w2 w3) (ws : List Jvm.Cond) (o1 : Addr) (h0 : Heap) (n0 : Nat) (O0 : Old Z n0 h0) (g_o1 : n0 ≤ o1) (P1 : Fld Z h0 o1 "com/example/vorgang/vorgang/QueryTimeoutScope" "kept" "Lcom/example/vorgang/vorgang/QueryTimeoutScope$Kept;" (.ref w2)) :
    MetFree l (⟨"com/example/vorgang/vorgang/QueryTimeoutScope", "isSession", "()Z"⟩ : MethodName) (head1 (Jvm.Cond.code (⟨"com/example/vorgang/vorgang/QueryTimeoutScope", "isSession", "()Z"⟩ : MethodName) prog_14_method_2_code 1 (some .boolean) :: ws) ({ frames := 0, cells := 0, slots := 0, locals := 0 } : Room)) (fun a U => a = #[(.ref o1)] ∧ Z.Warmed39 U.vm ∧ U.heap = h0) (fun _ _ _ _ _ => True) (fun _ U o U' => ∃ v L, o = .returned v ∧ Q5 Z w1 w2 w3 o1 h0 n0 v U'.heap L ∧ FrameEnd U o U' L ({ frames := 0, cells := 0, slots := 0, locals := 0 } : Room).cells ({ frames := 0, cells := 0, slots := 0, locals := 0 } : Room).slots) := by
  obtain ⟨S_w1, E_w1, S_w2, E_w2, S_w3, E_w3, F_w2_ordinal, F_w1_ordinal, F_w3_ordinal⟩ := id G
  refine MetFree.of_bodySF (plainFor_of_name pn0) hisR ?_
  intro p e s m args below meth c s₁ Bd hml0 hP hK
  obtain ⟨rfl, hZ, hh⟩ := hP
  have hx := Bd.exec
  have hby := Bd.bytes
  have hml : c.maxLocals = 1 := hml0
  have hown : s.vm.findClass "com/example/vorgang/vorgang/QueryTimeoutScope" = some m.cls := findClass_of_methodNamed Bd.named
  have hnm := (name_of_methodNamed Bd.named Bd.method).1
  have hret := Bd.returns
  have hlk : meth.locks = false := BodyLoose.notSynchronized Bd
  have X0 : Stand p l e ({ frames := 0, cells := 0, slots := 0, locals := 0 } : Room) s m #[(.ref o1)] below meth c s₁ [] 0 0 := Stand.of_body Bd
  have e0 : s₁.heap = h0 := by rw [← hh, Bd.state]; rfl
  have N0 := Fr.nil n0
  have pre0 : ∀ t, Steps p.tables e below (s₁.setTop (mkF m 0 #[.val (.ref o1)] [])) t → Steps p.tables e below (s₁.setTop (entryFrame m #[(.ref o1)] 1)) t := fun t k => castTop (ef5 m o1) k
  obtain ⟨T1, X1, e1, st1⟩ := getF X0 hx hZ hown (host := "") (Or.inl (hw _ (List.mem_of_getElem? (i := 12) rfl))) Via.refl e0 P1 (g := (mkF m 1 #[.val (.ref o1)] [(.ref o1)])) rfl rfl (hb hby d3_1)
  obtain ⟨T2, X2, e2, st2⟩ := getS2 X1 hx hZ hown (host := "") (Or.inl (hw _ (List.mem_of_getElem? (i := 31) rfl))) Via.refl e1 (S_w3.ext O0.2) (g := (mkF m 4 #[.val (.ref o1)] [(.ref w2)])) rfl (hb hby d3_4)
  obtain ⟨fs, hr, hrun, hended, hW, hsame⟩ := X2.leave (v := some (.int (0 : Int32))) (fun h => by rw [hret] at h; cases h)
  refine ⟨_, _, pre0 _ ?_, hrun, hended, _, _, rfl, ?_, ⟨_, rfl⟩, hW, hsame.mono (by decide) (by decide)⟩
  ·
    show Steps p.tables e below (s₁.setTop (mkF m 0 #[.val (.ref o1)] [])) _
    refine XS.aloadN X0.here hx rfl (hb hby d3_0) rfl rfl ?_
    show Steps p.tables e below (s₁.setTop (mkF m 1 #[.val (.ref o1)] [(.ref o1)])) _
    refine st1 _ ?_
    show Steps p.tables e below (T1.setTop (mkF m 4 #[.val (.ref o1)] [(.ref w2)])) _
    refine st2 _ ?_
    show Steps p.tables e below (T2.setTop (mkF m 7 #[.val (.ref o1)] [(.ref w3), (.ref w2)])) _
    refine Jvm.RoadKit.acmp (g := (mkF m 7 #[.val (.ref o1)] [(.ref w3), (.ref w2)])) X2 hx rfl rfl rfl (pc0 := 7) (pc' := 14) (same := false) rfl (hb hby d3_7) rfl (decide_eq_false fun q => (Fld.ne F_w2_ordinal F_w3_ordinal (by decide)) (Value.ref.inj q)) (by decide) (by decide) ?_
    show Steps p.tables e below (T2.setTop (mkF m 14 #[.val (.ref o1)] [])) _
    refine XS.iconst X2.here hx rfl (hb hby d3_14) ?_
    show Steps p.tables e below (T2.setTop (mkF m 15 #[.val (.ref o1)] [(.int (0 : Int32))])) _
    exact retN X2 hx (t := .boolean) hret (by simp) (hb hby d3_15) hr
  ·
    show Q5 Z w1 w2 w3 o1 h0 n0 _ T2.heap _
    rw [e2]
    exact ⟨rfl, N0, rfl⟩
theorem d4_0 : decode prog_14_method_3_code 0 = .ok (.aload_n 0, 1) := by decide +kernel
theorem d4_1 : decode prog_14_method_3_code 1 = .ok (.getfield 13, 3) := by decide +kernel
theorem d4_4 : decode prog_14_method_3_code 4 = .ok (.getstatic 21, 3) := by decide +kernel
theorem d4_7 : decode prog_14_method_3_code 7 = .ok (.if_acmp .ne 7, 3) := by decide +kernel
theorem d4_10 : decode prog_14_method_3_code 10 = .ok (.iconst 1, 1) := by decide +kernel
theorem d4_11 : decode prog_14_method_3_code 11 = .ok (.goto 4, 3) := by decide +kernel
theorem d4_15 : decode prog_14_method_3_code 15 = .ok (.ireturn, 1) := by decide +kernel
theorem ef6 (m : MethodId) (x0 : Addr) : entryFrame m #[(.ref x0)] 1 = mkF m 0 #[.val (.ref x0)] [] := by first | (simp [entryFrame, mkF, argsToLocals, Value.category]; done) | rfl
def Q6 (Z : State) (w1 : Addr) (w2 : Addr) (w3 : Addr) (o1 : Addr) (h0 : Heap) (n0 : Nat) (v : Option Value) (h : Heap) (L : List Loc) : Prop :=
  (v = some (.int (1 : Int32)) ∧ Fr n0 L ∧ h = h0)
set_option maxRecDepth 65536 in
set_option maxHeartbeats 40000000 in
theorem rm6 (l : Launch) (Z : State) (a0 : Array Value) (hw : ∀ d ∈ tables_1, d.before a0 Z = true) (w1 : Addr) (w2 : Addr) (w3 : Addr) (G : GW Z w1 w2 w3) (ws : List Jvm.Cond) (o1 : Addr) (h0 : Heap) (n0 : Nat) (O0 : Old Z n0 h0) (g_o1 : n0 ≤ o1) (P1 : Fld Z h0 o1 "com/example/vorgang/vorgang/QueryTimeoutScope" "kept" "Lcom/example/vorgang/vorgang/QueryTimeoutScope$Kept;" (.ref w2)) :
    MetFree l (⟨"com/example/vorgang/vorgang/QueryTimeoutScope", "isStatement", "()Z"⟩ : MethodName) (head1 (Jvm.Cond.code (⟨"com/example/vorgang/vorgang/QueryTimeoutScope", "isStatement", "()Z"⟩ : MethodName) prog_14_method_3_code 1 (some .boolean) :: ws) ({ frames := 0, cells := 0, slots := 0, locals := 0 } : Room)) (fun a U => a = #[(.ref o1)] ∧ Z.Warmed39 U.vm ∧ U.heap = h0) (fun _ _ _ _ _ => True) (fun _ U o U' => ∃ v L, o = .returned v ∧ Q6 Z w1 w2 w3 o1 h0 n0 v U'.heap L ∧ FrameEnd U o U' L ({ frames := 0, cells := 0, slots := 0, locals := 0 } : Room).cells ({ frames := 0, cells := 0, slots := 0, locals := 0 } : Room).slots) := by
  obtain ⟨S_w1, E_w1, S_w2, E_w2, S_w3, E_w3, F_w2_ordinal, F_w1_ordinal, F_w3_ordinal⟩ := id G
  refine MetFree.of_bodySF (plainFor_of_name pn0) hisR ?_
  intro p e s m args below meth c s₁ Bd hml0 hP hK
  obtain ⟨rfl, hZ, hh⟩ := hP
  have hx := Bd.exec
  have hby := Bd.bytes
  have hml : c.maxLocals = 1 := hml0
  have hown : s.vm.findClass "com/example/vorgang/vorgang/QueryTimeoutScope" = some m.cls := findClass_of_methodNamed Bd.named
  have hnm := (name_of_methodNamed Bd.named Bd.method).1
  have hret := Bd.returns
  have hlk : meth.locks = false := BodyLoose.notSynchronized Bd
  have X0 : Stand p l e ({ frames := 0, cells := 0, slots := 0, locals := 0 } : Room) s m #[(.ref o1)] below meth c s₁ [] 0 0 := Stand.of_body Bd
  have e0 : s₁.heap = h0 := by rw [← hh, Bd.state]; rfl
  have N0 := Fr.nil n0
  have pre0 : ∀ t, Steps p.tables e below (s₁.setTop (mkF m 0 #[.val (.ref o1)] [])) t → Steps p.tables e below (s₁.setTop (entryFrame m #[(.ref o1)] 1)) t := fun t k => castTop (ef6 m o1) k
  obtain ⟨T1, X1, e1, st1⟩ := getF X0 hx hZ hown (host := "") (Or.inl (hw _ (List.mem_of_getElem? (i := 12) rfl))) Via.refl e0 P1 (g := (mkF m 1 #[.val (.ref o1)] [(.ref o1)])) rfl rfl (hb hby d4_1)
  obtain ⟨T2, X2, e2, st2⟩ := getS2 X1 hx hZ hown (host := "") (Or.inl (hw _ (List.mem_of_getElem? (i := 24) rfl))) Via.refl e1 (S_w2.ext O0.2) (g := (mkF m 4 #[.val (.ref o1)] [(.ref w2)])) rfl (hb hby d4_4)
  obtain ⟨fs, hr, hrun, hended, hW, hsame⟩ := X2.leave (v := some (.int (1 : Int32))) (fun h => by rw [hret] at h; cases h)
  refine ⟨_, _, pre0 _ ?_, hrun, hended, _, _, rfl, ?_, ⟨_, rfl⟩, hW, hsame.mono (by decide) (by decide)⟩
  ·
    show Steps p.tables e below (s₁.setTop (mkF m 0 #[.val (.ref o1)] [])) _
    refine XS.aloadN X0.here hx rfl (hb hby d4_0) rfl rfl ?_
    show Steps p.tables e below (s₁.setTop (mkF m 1 #[.val (.ref o1)] [(.ref o1)])) _
    refine st1 _ ?_
    show Steps p.tables e below (T1.setTop (mkF m 4 #[.val (.ref o1)] [(.ref w2)])) _
    refine st2 _ ?_
    show Steps p.tables e below (T2.setTop (mkF m 7 #[.val (.ref o1)] [(.ref w2), (.ref w2)])) _
    refine Jvm.RoadKit.acmp (g := (mkF m 7 #[.val (.ref o1)] [(.ref w2), (.ref w2)])) X2 hx rfl rfl rfl (pc0 := 7) (pc' := 10) (same := true) rfl (hb hby d4_7) rfl (decide_eq_true rfl) (by decide) (by decide) ?_
    show Steps p.tables e below (T2.setTop (mkF m 10 #[.val (.ref o1)] [])) _
    refine XS.iconst X2.here hx rfl (hb hby d4_10) ?_
    show Steps p.tables e below (T2.setTop (mkF m 11 #[.val (.ref o1)] [(.int (1 : Int32))])) _
    refine XS.goto X2.here hx rfl (pc0 := 11) (pc' := 15) rfl (hb hby d4_11) (by decide) (by decide) ?_
    show Steps p.tables e below (T2.setTop (mkF m 15 #[.val (.ref o1)] [(.int (1 : Int32))])) _
    exact retN X2 hx (t := .boolean) hret (by simp) (hb hby d4_15) hr
  ·
    show Q6 Z w1 w2 w3 o1 h0 n0 _ T2.heap _
    rw [e2]
    exact ⟨rfl, N0, rfl⟩
theorem ef7 (m : MethodId) (x0 : Addr) (x1 : Int32) : entryFrame m #[(.ref x0), (.int x1)] 2 = mkF m 0 #[.val (.ref x0), .val (.int x1)] [] := by first | (simp [entryFrame, mkF, argsToLocals, Value.category]; done) | rfl
def Q7 (Z : State) (w1 : Addr) (w2 : Addr) (w3 : Addr) (o1 : Addr) (p2 : Int32) (h0 : Heap) (n0 : Nat) (v : Option Value) (h : Heap) (L : List Loc) : Prop :=
  ((p2 = (0 : Int32)) ∧ v = none ∧ Fr n0 L ∧ Keep h0 h [o1] ∧ (Exa Z h o1 "com/example/vorgang/vorgang/QueryTimeoutScope") ∧ (Fld Z h o1 "com/example/vorgang/vorgang/QueryTimeoutScope" "kept" "Lcom/example/vorgang/vorgang/QueryTimeoutScope$Kept;" (.ref w2)))
  ∨ ((¬ (p2 = (0 : Int32))) ∧ v = none ∧ Fr n0 L ∧ Keep h0 h [o1] ∧ (Exa Z h o1 "com/example/vorgang/vorgang/QueryTimeoutScope") ∧ (Fld Z h o1 "com/example/vorgang/vorgang/QueryTimeoutScope" "kept" "Lcom/example/vorgang/vorgang/QueryTimeoutScope$Kept;" (.ref w3)))
set_option maxRecDepth 65536 in
set_option maxHeartbeats 40000000 in
theorem rm7 (l : Launch) (Z : State) (a0 : Array Value) (hw : ∀ d ∈ tables_1, d.before a0 Z = true) (w1 : Addr) (w2 : Addr) (w3 : Addr) (G : GW Z w1 w2 w3) (ws : List Jvm.Cond) (o1 : Addr) (p2 : Int32) (h0 : Heap) (n0 : Nat) (O0 : Old Z n0 h0) (g_o1 : n0 ≤ o1) (P0 : Exa Z h0 o1 "com/example/vorgang/vorgang/QueryTimeoutScope") (P1 : Fld Z h0 o1 "com/example/vorgang/vorgang/QueryTimeoutScope" "kept" "Lcom/example/vorgang/vorgang/QueryTimeoutScope$Kept;" (.ref w2)) :
    MetFree l (⟨"com/example/vorgang/vorgang/QueryTimeoutScope", "found", "(Z)V"⟩ : MethodName) (head1 (Jvm.Cond.code (⟨"com/example/vorgang/vorgang/QueryTimeoutScope", "found", "(Z)V"⟩ : MethodName) prog_14_method_5_code 2 none :: ws) ({ frames := 0, cells := 0, slots := 0, locals := 0 } : Room)) (fun a U => a = #[(.ref o1), (.int p2)] ∧ Z.Warmed39 U.vm ∧ U.heap = h0) (fun _ _ _ _ _ => True) (fun _ U o U' => ∃ v L, o = .returned v ∧ Q7 Z w1 w2 w3 o1 p2 h0 n0 v U'.heap L ∧ FrameEnd U o U' L ({ frames := 0, cells := 0, slots := 0, locals := 0 } : Room).cells ({ frames := 0, cells := 0, slots := 0, locals := 0 } : Room).slots) := by
  obtain ⟨S_w1, E_w1, S_w2, E_w2, S_w3, E_w3, F_w2_ordinal, F_w1_ordinal, F_w3_ordinal⟩ := id G
  refine MetFree.of_bodySF (plainFor_of_name pn0) hisR ?_
  intro p e s m args below meth c s₁ Bd hml0 hP hK
  obtain ⟨rfl, hZ, hh⟩ := hP
  have hx := Bd.exec
  have hby := Bd.bytes
  have hml : c.maxLocals = 2 := hml0
  have hown : s.vm.findClass "com/example/vorgang/vorgang/QueryTimeoutScope" = some m.cls := findClass_of_methodNamed Bd.named
  have hnm := (name_of_methodNamed Bd.named Bd.method).1
  have hret := Bd.returns
  have hlk : meth.locks = false := BodyLoose.notSynchronized Bd
  have X0 : Stand p l e ({ frames := 0, cells := 0, slots := 0, locals := 0 } : Room) s m #[(.ref o1), (.int p2)] below meth c s₁ [] 0 0 := Stand.of_body Bd
  have e0 : s₁.heap = h0 := by rw [← hh, Bd.state]; rfl
  have N0 := Fr.nil n0
  have pre0 : ∀ t, Steps p.tables e below (s₁.setTop (mkF m 0 #[.val (.ref o1), .val (.int p2)] [])) t → Steps p.tables e below (s₁.setTop (entryFrame m #[(.ref o1), (.int p2)] 2)) t := fun t k => castTop (ef7 m o1 p2) k
  have pre1 : ∀ t, Steps p.tables e below (s₁.setTop (mkF m 2 #[.val (.ref o1), .val (.int p2)] [(.int p2), (.ref o1)])) t → Steps p.tables e below (s₁.setTop (entryFrame m #[(.ref o1), (.int p2)] 2)) t := fun t k => by
    refine pre0 _ ?_
    show Steps p.tables e below (s₁.setTop (mkF m 0 #[.val (.ref o1), .val (.int p2)] [])) _
    refine XS.aloadN X0.here hx rfl (hb hby d2_0) rfl rfl ?_
    show Steps p.tables e below (s₁.setTop (mkF m 1 #[.val (.ref o1), .val (.int p2)] [(.ref o1)])) _
    refine XS.iloadN X0.here hx rfl (hb hby d2_1) rfl ?_
    exact k
  by_cases hc2 : p2 = (0 : Int32)
  ·
    have pre3 : ∀ t, Steps p.tables e below (s₁.setTop (mkF m 2 #[.val (.ref o1), .val (.int (0 : Int32))] [(.int (0 : Int32)), (.ref o1)])) t → Steps p.tables e below (s₁.setTop (entryFrame m #[(.ref o1), (.int p2)] 2)) t := fun t k => pre1 t (by rw [hc2]; exact k)
    obtain ⟨T4, X4, e4, st4⟩ := getS2 X0 hx hZ hown (host := "") (Or.inl (hw _ (List.mem_of_getElem? (i := 24) rfl))) Via.refl e0 (S_w2.ext O0.2) (g := (mkF m 11 #[.val (.ref o1), .val (.int (0 : Int32))] [(.ref o1)])) rfl (hb hby d2_11)
    obtain ⟨T5, h5, X5, e5, W5, st5⟩ := putF X4 hx hZ hown (host := "") (Or.inl (hw _ (List.mem_of_getElem? (i := 12) rfl))) Via.refl e4 P1 P0 (Or.inl (hw _ (List.mem_of_getElem? (i := 13) rfl))) (hw _ (List.mem_of_getElem? (i := 1) rfl)) (ty := (.object "com/example/vorgang/vorgang/QueryTimeoutScope$Kept")) (by decide) rfl rfl (g := (mkF m 14 #[.val (.ref o1), .val (.int (0 : Int32))] [(.ref w2), (.ref o1)])) rfl rfl (hb hby d2_14)
    have N5 := Fr.snoc X5 N0 g_o1
    have Fw5 := P1.same W5
    have M5 : h0.size ≤ h5.size := Nat.le_trans (Nat.le_refl _) (Nat.le_of_eq W5.size.symm)
    have O5 := Old.wr O0 W5 g_o1
    obtain ⟨fs, hr, hrun, hended, hW, hsame⟩ := X5.leave (v := none) (fun _ => rfl)
    have KL : Keep h0 h5 [o1] := ((Keep.refl h0 [o1]).wr W5 (Or.inl (List.mem_of_getElem? (i := 0) rfl)))
    have f6 := (P0.wr W5)
    refine ⟨_, _, pre3 _ ?_, hrun, hended, _, _, rfl, ?_, ⟨_, rfl⟩, hW, hsame.mono (by decide) (by decide)⟩
    ·
      show Steps p.tables e below (s₁.setTop (mkF m 2 #[.val (.ref o1), .val (.int (0 : Int32))] [(.int (0 : Int32)), (.ref o1)])) _
      refine XS.ifYes X0.here hx rfl (pc0 := 2) (pc' := 11) rfl (hb hby d2_2) rfl ((if0 _ _).trans (teq (by decide : (0 : Int32) = (0 : Int32))).1) (by decide) (by decide) ?_
      show Steps p.tables e below (s₁.setTop (mkF m 11 #[.val (.ref o1), .val (.int (0 : Int32))] [(.ref o1)])) _
      refine st4 _ ?_
      show Steps p.tables e below (T4.setTop (mkF m 14 #[.val (.ref o1), .val (.int (0 : Int32))] [(.ref w2), (.ref o1)])) _
      refine st5 _ ?_
      show Steps p.tables e below (T5.setTop (mkF m 17 #[.val (.ref o1), .val (.int (0 : Int32))] [])) _
      exact X5.returnOut hx hret (hb hby d2_17) hr
    ·
      show Q7 Z w1 w2 w3 o1 p2 h0 n0 _ T5.heap _
      rw [e5]
      exact (Or.inl ⟨hc2, rfl, N5, KL, f6, Fw5⟩)
  ·
    obtain ⟨T7, X7, e7, st7⟩ := getS2 X0 hx hZ hown (host := "") (Or.inl (hw _ (List.mem_of_getElem? (i := 31) rfl))) Via.refl e0 (S_w3.ext O0.2) (g := (mkF m 5 #[.val (.ref o1), .val (.int p2)] [(.ref o1)])) rfl (hb hby d2_5)
    obtain ⟨T8, h8, X8, e8, W8, st8⟩ := putF X7 hx hZ hown (host := "") (Or.inl (hw _ (List.mem_of_getElem? (i := 12) rfl))) Via.refl e7 P1 P0 (Or.inl (hw _ (List.mem_of_getElem? (i := 13) rfl))) (hw _ (List.mem_of_getElem? (i := 1) rfl)) (ty := (.object "com/example/vorgang/vorgang/QueryTimeoutScope$Kept")) (by decide) rfl rfl (g := (mkF m 14 #[.val (.ref o1), .val (.int p2)] [(.ref w3), (.ref o1)])) rfl rfl (hb hby d2_14)
    have N8 := Fr.snoc X8 N0 g_o1
    have Fw8 := P1.same W8
    have M8 : h0.size ≤ h8.size := Nat.le_trans (Nat.le_refl _) (Nat.le_of_eq W8.size.symm)
    have O8 := Old.wr O0 W8 g_o1
    obtain ⟨fs, hr, hrun, hended, hW, hsame⟩ := X8.leave (v := none) (fun _ => rfl)
    have KL : Keep h0 h8 [o1] := ((Keep.refl h0 [o1]).wr W8 (Or.inl (List.mem_of_getElem? (i := 0) rfl)))
    have f9 := (P0.wr W8)
    refine ⟨_, _, pre1 _ ?_, hrun, hended, _, _, rfl, ?_, ⟨_, rfl⟩, hW, hsame.mono (by decide) (by decide)⟩
    ·
      show Steps p.tables e below (s₁.setTop (mkF m 2 #[.val (.ref o1), .val (.int p2)] [(.int p2), (.ref o1)])) _
      refine XS.ifNo X0.here hx rfl (hb hby d2_2) rfl ((if0 _ _).trans (feq hc2).1) ?_
      show Steps p.tables e below (s₁.setTop (mkF m 5 #[.val (.ref o1), .val (.int p2)] [(.ref o1)])) _
      refine st7 _ ?_
      show Steps p.tables e below (T7.setTop (mkF m 8 #[.val (.ref o1), .val (.int p2)] [(.ref w3), (.ref o1)])) _
      refine XS.goto X7.here hx rfl (pc0 := 8) (pc' := 14) rfl (hb hby d2_8) (by decide) (by decide) ?_
      show Steps p.tables e below (T7.setTop (mkF m 14 #[.val (.ref o1), .val (.int p2)] [(.ref w3), (.ref o1)])) _
      refine st8 _ ?_
      show Steps p.tables e below (T8.setTop (mkF m 17 #[.val (.ref o1), .val (.int p2)] [])) _
      exact X8.returnOut hx hret (hb hby d2_17) hr
    ·
      show Q7 Z w1 w2 w3 o1 p2 h0 n0 _ T8.heap _
      rw [e8]
      exact (Or.inr ⟨hc2, rfl, N8, KL, f9, Fw8⟩)
theorem ef8 (m : MethodId) (x0 : Addr) : entryFrame m #[(.ref x0)] 1 = mkF m 0 #[.val (.ref x0)] [] := by first | (simp [entryFrame, mkF, argsToLocals, Value.category]; done) | rfl
def Q8 (Z : State) (w1 : Addr) (w2 : Addr) (w3 : Addr) (o1 : Addr) (h0 : Heap) (n0 : Nat) (v : Option Value) (h : Heap) (L : List Loc) : Prop :=
  (v = some (.int (1 : Int32)) ∧ Fr n0 L ∧ h = h0)
set_option maxRecDepth 65536 in
set_option maxHeartbeats 40000000 in
theorem rm8 (l : Launch) (Z : State) (a0 : Array Value) (hw : ∀ d ∈ tables_1, d.before a0 Z = true) (w1 : Addr) (w2 : Addr) (w3 : Addr) (G : GW Z w1 w2 w3) (ws : List Jvm.Cond) (o1 : Addr) (h0 : Heap) (n0 : Nat) (O0 : Old Z n0 h0) (g_o1 : n0 ≤ o1) (P1 : Fld Z h0 o1 "com/example/vorgang/vorgang/QueryTimeoutScope" "kept" "Lcom/example/vorgang/vorgang/QueryTimeoutScope$Kept;" (.ref w3)) :
    MetFree l (⟨"com/example/vorgang/vorgang/QueryTimeoutScope", "isKnown", "()Z"⟩ : MethodName) (head1 (Jvm.Cond.code (⟨"com/example/vorgang/vorgang/QueryTimeoutScope", "isKnown", "()Z"⟩ : MethodName) prog_14_method_4_code 1 (some .boolean) :: ws) ({ frames := 0, cells := 0, slots := 0, locals := 0 } : Room)) (fun a U => a = #[(.ref o1)] ∧ Z.Warmed39 U.vm ∧ U.heap = h0) (fun _ _ _ _ _ => True) (fun _ U o U' => ∃ v L, o = .returned v ∧ Q8 Z w1 w2 w3 o1 h0 n0 v U'.heap L ∧ FrameEnd U o U' L ({ frames := 0, cells := 0, slots := 0, locals := 0 } : Room).cells ({ frames := 0, cells := 0, slots := 0, locals := 0 } : Room).slots) := by
  obtain ⟨S_w1, E_w1, S_w2, E_w2, S_w3, E_w3, F_w2_ordinal, F_w1_ordinal, F_w3_ordinal⟩ := id G
  refine MetFree.of_bodySF (plainFor_of_name pn0) hisR ?_
  intro p e s m args below meth c s₁ Bd hml0 hP hK
  obtain ⟨rfl, hZ, hh⟩ := hP
  have hx := Bd.exec
  have hby := Bd.bytes
  have hml : c.maxLocals = 1 := hml0
  have hown : s.vm.findClass "com/example/vorgang/vorgang/QueryTimeoutScope" = some m.cls := findClass_of_methodNamed Bd.named
  have hnm := (name_of_methodNamed Bd.named Bd.method).1
  have hret := Bd.returns
  have hlk : meth.locks = false := BodyLoose.notSynchronized Bd
  have X0 : Stand p l e ({ frames := 0, cells := 0, slots := 0, locals := 0 } : Room) s m #[(.ref o1)] below meth c s₁ [] 0 0 := Stand.of_body Bd
  have e0 : s₁.heap = h0 := by rw [← hh, Bd.state]; rfl
  have N0 := Fr.nil n0
  have pre0 : ∀ t, Steps p.tables e below (s₁.setTop (mkF m 0 #[.val (.ref o1)] [])) t → Steps p.tables e below (s₁.setTop (entryFrame m #[(.ref o1)] 1)) t := fun t k => castTop (ef8 m o1) k
  obtain ⟨T1, X1, e1, st1⟩ := getF X0 hx hZ hown (host := "") (Or.inl (hw _ (List.mem_of_getElem? (i := 12) rfl))) Via.refl e0 P1 (g := (mkF m 1 #[.val (.ref o1)] [(.ref o1)])) rfl rfl (hb hby d1_1)
  obtain ⟨T2, X2, e2, st2⟩ := getS2 X1 hx hZ hown (host := "") (Or.inl (hw _ (List.mem_of_getElem? (i := 9) rfl))) Via.refl e1 (S_w1.ext O0.2) (g := (mkF m 4 #[.val (.ref o1)] [(.ref w3)])) rfl (hb hby d1_4)
  obtain ⟨fs, hr, hrun, hended, hW, hsame⟩ := X2.leave (v := some (.int (1 : Int32))) (fun h => by rw [hret] at h; cases h)
  refine ⟨_, _, pre0 _ ?_, hrun, hended, _, _, rfl, ?_, ⟨_, rfl⟩, hW, hsame.mono (by decide) (by decide)⟩
  ·
    show Steps p.tables e below (s₁.setTop (mkF m 0 #[.val (.ref o1)] [])) _
    refine XS.aloadN X0.here hx rfl (hb hby d1_0) rfl rfl ?_
    show Steps p.tables e below (s₁.setTop (mkF m 1 #[.val (.ref o1)] [(.ref o1)])) _
    refine st1 _ ?_
    show Steps p.tables e below (T1.setTop (mkF m 4 #[.val (.ref o1)] [(.ref w3)])) _
    refine st2 _ ?_
    show Steps p.tables e below (T2.setTop (mkF m 7 #[.val (.ref o1)] [(.ref w1), (.ref w3)])) _
    refine Jvm.RoadKit.acmp (g := (mkF m 7 #[.val (.ref o1)] [(.ref w1), (.ref w3)])) X2 hx rfl rfl rfl (pc0 := 7) (pc' := 10) (same := false) rfl (hb hby d1_7) rfl (decide_eq_false fun q => (Fld.ne F_w3_ordinal F_w1_ordinal (by decide)) (Value.ref.inj q)) (by decide) (by decide) ?_
    show Steps p.tables e below (T2.setTop (mkF m 10 #[.val (.ref o1)] [])) _
    refine XS.iconst X2.here hx rfl (hb hby d1_10) ?_
    show Steps p.tables e below (T2.setTop (mkF m 11 #[.val (.ref o1)] [(.int (1 : Int32))])) _
    refine XS.goto X2.here hx rfl (pc0 := 11) (pc' := 15) rfl (hb hby d1_11) (by decide) (by decide) ?_
    show Steps p.tables e below (T2.setTop (mkF m 15 #[.val (.ref o1)] [(.int (1 : Int32))])) _
    exact retN X2 hx (t := .boolean) hret (by simp) (hb hby d1_15) hr
  ·
    show Q8 Z w1 w2 w3 o1 h0 n0 _ T2.heap _
    rw [e2]
    exact ⟨rfl, N0, rfl⟩
theorem d3_10 : decode prog_14_method_2_code 10 = .ok (.iconst 1, 1) := by decide +kernel
theorem d3_11 : decode prog_14_method_2_code 11 = .ok (.goto 4, 3) := by decide +kernel
theorem ef9 (m : MethodId) (x0 : Addr) : entryFrame m #[(.ref x0)] 1 = mkF m 0 #[.val (.ref x0)] [] := by first | (simp [entryFrame, mkF, argsToLocals, Value.category]; done) | rfl
def Q9 (Z : State) (w1 : Addr) (w2 : Addr) (w3 : Addr) (o1 : Addr) (h0 : Heap) (n0 : Nat) (v : Option Value) (h : Heap) (L : List Loc) : Prop :=
  (v = some (.int (1 : Int32)) ∧ Fr n0 L ∧ h = h0)
set_option maxRecDepth 65536 in
set_option maxHeartbeats 40000000 in
theorem rm9 (l : Launch) (Z : State) (a0 : Array Value) (hw : ∀ d ∈ tables_1, d.before a0 Z = true) (w1 : Addr) (w2 : Addr) (w3 : Addr) (G : GW Z w1 w2 w3) (ws : List Jvm.Cond) (o1 : Addr) (h0 : Heap) (n0 : Nat) (O0 : Old Z n0 h0) (g_o1 : n0 ≤ o1) (P1 : Fld Z h0 o1 "com/example/vorgang/vorgang/QueryTimeoutScope" "kept" "Lcom/example/vorgang/vorgang/QueryTimeoutScope$Kept;" (.ref w3)) :
    MetFree l (⟨"com/example/vorgang/vorgang/QueryTimeoutScope", "isSession", "()Z"⟩ : MethodName) (head1 (Jvm.Cond.code (⟨"com/example/vorgang/vorgang/QueryTimeoutScope", "isSession", "()Z"⟩ : MethodName) prog_14_method_2_code 1 (some .boolean) :: ws) ({ frames := 0, cells := 0, slots := 0, locals := 0 } : Room)) (fun a U => a = #[(.ref o1)] ∧ Z.Warmed39 U.vm ∧ U.heap = h0) (fun _ _ _ _ _ => True) (fun _ U o U' => ∃ v L, o = .returned v ∧ Q9 Z w1 w2 w3 o1 h0 n0 v U'.heap L ∧ FrameEnd U o U' L ({ frames := 0, cells := 0, slots := 0, locals := 0 } : Room).cells ({ frames := 0, cells := 0, slots := 0, locals := 0 } : Room).slots) := by
  obtain ⟨S_w1, E_w1, S_w2, E_w2, S_w3, E_w3, F_w2_ordinal, F_w1_ordinal, F_w3_ordinal⟩ := id G
  refine MetFree.of_bodySF (plainFor_of_name pn0) hisR ?_
  intro p e s m args below meth c s₁ Bd hml0 hP hK
  obtain ⟨rfl, hZ, hh⟩ := hP
  have hx := Bd.exec
  have hby := Bd.bytes
  have hml : c.maxLocals = 1 := hml0
  have hown : s.vm.findClass "com/example/vorgang/vorgang/QueryTimeoutScope" = some m.cls := findClass_of_methodNamed Bd.named
  have hnm := (name_of_methodNamed Bd.named Bd.method).1
  have hret := Bd.returns
  have hlk : meth.locks = false := BodyLoose.notSynchronized Bd
  have X0 : Stand p l e ({ frames := 0, cells := 0, slots := 0, locals := 0 } : Room) s m #[(.ref o1)] below meth c s₁ [] 0 0 := Stand.of_body Bd
  have e0 : s₁.heap = h0 := by rw [← hh, Bd.state]; rfl
  have N0 := Fr.nil n0
  have pre0 : ∀ t, Steps p.tables e below (s₁.setTop (mkF m 0 #[.val (.ref o1)] [])) t → Steps p.tables e below (s₁.setTop (entryFrame m #[(.ref o1)] 1)) t := fun t k => castTop (ef9 m o1) k
  obtain ⟨T1, X1, e1, st1⟩ := getF X0 hx hZ hown (host := "") (Or.inl (hw _ (List.mem_of_getElem? (i := 12) rfl))) Via.refl e0 P1 (g := (mkF m 1 #[.val (.ref o1)] [(.ref o1)])) rfl rfl (hb hby d3_1)
  obtain ⟨T2, X2, e2, st2⟩ := getS2 X1 hx hZ hown (host := "") (Or.inl (hw _ (List.mem_of_getElem? (i := 31) rfl))) Via.refl e1 (S_w3.ext O0.2) (g := (mkF m 4 #[.val (.ref o1)] [(.ref w3)])) rfl (hb hby d3_4)
  obtain ⟨fs, hr, hrun, hended, hW, hsame⟩ := X2.leave (v := some (.int (1 : Int32))) (fun h => by rw [hret] at h; cases h)
  refine ⟨_, _, pre0 _ ?_, hrun, hended, _, _, rfl, ?_, ⟨_, rfl⟩, hW, hsame.mono (by decide) (by decide)⟩
  ·
    show Steps p.tables e below (s₁.setTop (mkF m 0 #[.val (.ref o1)] [])) _
    refine XS.aloadN X0.here hx rfl (hb hby d3_0) rfl rfl ?_
    show Steps p.tables e below (s₁.setTop (mkF m 1 #[.val (.ref o1)] [(.ref o1)])) _
    refine st1 _ ?_
    show Steps p.tables e below (T1.setTop (mkF m 4 #[.val (.ref o1)] [(.ref w3)])) _
    refine st2 _ ?_
    show Steps p.tables e below (T2.setTop (mkF m 7 #[.val (.ref o1)] [(.ref w3), (.ref w3)])) _
    refine Jvm.RoadKit.acmp (g := (mkF m 7 #[.val (.ref o1)] [(.ref w3), (.ref w3)])) X2 hx rfl rfl rfl (pc0 := 7) (pc' := 10) (same := true) rfl (hb hby d3_7) rfl (decide_eq_true rfl) (by decide) (by decide) ?_
    show Steps p.tables e below (T2.setTop (mkF m 10 #[.val (.ref o1)] [])) _
    refine XS.iconst X2.here hx rfl (hb hby d3_10) ?_
    show Steps p.tables e below (T2.setTop (mkF m 11 #[.val (.ref o1)] [(.int (1 : Int32))])) _
    refine XS.goto X2.here hx rfl (pc0 := 11) (pc' := 15) rfl (hb hby d3_11) (by decide) (by decide) ?_
    show Steps p.tables e below (T2.setTop (mkF m 15 #[.val (.ref o1)] [(.int (1 : Int32))])) _
    exact retN X2 hx (t := .boolean) hret (by simp) (hb hby d3_15) hr
  ·
    show Q9 Z w1 w2 w3 o1 h0 n0 _ T2.heap _
    rw [e2]
    exact ⟨rfl, N0, rfl⟩
theorem d4_14 : decode prog_14_method_3_code 14 = .ok (.iconst 0, 1) := by decide +kernel
theorem ef10 (m : MethodId) (x0 : Addr) : entryFrame m #[(.ref x0)] 1 = mkF m 0 #[.val (.ref x0)] [] := by first | (simp [entryFrame, mkF, argsToLocals, Value.category]; done) | rfl
def Q10 (Z : State) (w1 : Addr) (w2 : Addr) (w3 : Addr) (o1 : Addr) (h0 : Heap) (n0 : Nat) (v : Option Value) (h : Heap) (L : List Loc) : Prop :=
  (v = some (.int (0 : Int32)) ∧ Fr n0 L ∧ h = h0)
set_option maxRecDepth 65536 in
set_option maxHeartbeats 40000000 in
theorem rm10 (l : Launch) (Z : State) (a0 : Array Value) (hw : ∀ d ∈ tables_1, d.before a0 Z = true) (w1 : Addr) (w2 : Addr) (w3 : Addr) (G : GW Z w1 w2 w3) (ws : List Jvm.Cond) (o1 : Addr) (h0 : Heap) (n0 : Nat) (O0 : Old Z n0 h0) (g_o1 : n0 ≤ o1) (P1 : Fld Z h0 o1 "com/example/vorgang/vorgang/QueryTimeoutScope" "kept" "Lcom/example/vorgang/vorgang/QueryTimeoutScope$Kept;" (.ref w3)) :
    MetFree l (⟨"com/example/vorgang/vorgang/QueryTimeoutScope", "isStatement", "()Z"⟩ : MethodName) (head1 (Jvm.Cond.code (⟨"com/example/vorgang/vorgang/QueryTimeoutScope", "isStatement", "()Z"⟩ : MethodName) prog_14_method_3_code 1 (some .boolean) :: ws) ({ frames := 0, cells := 0, slots := 0, locals := 0 } : Room)) (fun a U => a = #[(.ref o1)] ∧ Z.Warmed39 U.vm ∧ U.heap = h0) (fun _ _ _ _ _ => True) (fun _ U o U' => ∃ v L, o = .returned v ∧ Q10 Z w1 w2 w3 o1 h0 n0 v U'.heap L ∧ FrameEnd U o U' L ({ frames := 0, cells := 0, slots := 0, locals := 0 } : Room).cells ({ frames := 0, cells := 0, slots := 0, locals := 0 } : Room).slots) := by
  obtain ⟨S_w1, E_w1, S_w2, E_w2, S_w3, E_w3, F_w2_ordinal, F_w1_ordinal, F_w3_ordinal⟩ := id G
  refine MetFree.of_bodySF (plainFor_of_name pn0) hisR ?_
  intro p e s m args below meth c s₁ Bd hml0 hP hK
  obtain ⟨rfl, hZ, hh⟩ := hP
  have hx := Bd.exec
  have hby := Bd.bytes
  have hml : c.maxLocals = 1 := hml0
  have hown : s.vm.findClass "com/example/vorgang/vorgang/QueryTimeoutScope" = some m.cls := findClass_of_methodNamed Bd.named
  have hnm := (name_of_methodNamed Bd.named Bd.method).1
  have hret := Bd.returns
  have hlk : meth.locks = false := BodyLoose.notSynchronized Bd
  have X0 : Stand p l e ({ frames := 0, cells := 0, slots := 0, locals := 0 } : Room) s m #[(.ref o1)] below meth c s₁ [] 0 0 := Stand.of_body Bd
  have e0 : s₁.heap = h0 := by rw [← hh, Bd.state]; rfl
  have N0 := Fr.nil n0
  have pre0 : ∀ t, Steps p.tables e below (s₁.setTop (mkF m 0 #[.val (.ref o1)] [])) t → Steps p.tables e below (s₁.setTop (entryFrame m #[(.ref o1)] 1)) t := fun t k => castTop (ef10 m o1) k
  obtain ⟨T1, X1, e1, st1⟩ := getF X0 hx hZ hown (host := "") (Or.inl (hw _ (List.mem_of_getElem? (i := 12) rfl))) Via.refl e0 P1 (g := (mkF m 1 #[.val (.ref o1)] [(.ref o1)])) rfl rfl (hb hby d4_1)
  obtain ⟨T2, X2, e2, st2⟩ := getS2 X1 hx hZ hown (host := "") (Or.inl (hw _ (List.mem_of_getElem? (i := 24) rfl))) Via.refl e1 (S_w2.ext O0.2) (g := (mkF m 4 #[.val (.ref o1)] [(.ref w3)])) rfl (hb hby d4_4)
  obtain ⟨fs, hr, hrun, hended, hW, hsame⟩ := X2.leave (v := some (.int (0 : Int32))) (fun h => by rw [hret] at h; cases h)
  refine ⟨_, _, pre0 _ ?_, hrun, hended, _, _, rfl, ?_, ⟨_, rfl⟩, hW, hsame.mono (by decide) (by decide)⟩
  ·
    show Steps p.tables e below (s₁.setTop (mkF m 0 #[.val (.ref o1)] [])) _
    refine XS.aloadN X0.here hx rfl (hb hby d4_0) rfl rfl ?_
    show Steps p.tables e below (s₁.setTop (mkF m 1 #[.val (.ref o1)] [(.ref o1)])) _
    refine st1 _ ?_
    show Steps p.tables e below (T1.setTop (mkF m 4 #[.val (.ref o1)] [(.ref w3)])) _
    refine st2 _ ?_
    show Steps p.tables e below (T2.setTop (mkF m 7 #[.val (.ref o1)] [(.ref w2), (.ref w3)])) _
    refine Jvm.RoadKit.acmp (g := (mkF m 7 #[.val (.ref o1)] [(.ref w2), (.ref w3)])) X2 hx rfl rfl rfl (pc0 := 7) (pc' := 14) (same := false) rfl (hb hby d4_7) rfl (decide_eq_false fun q => (Fld.ne F_w3_ordinal F_w2_ordinal (by decide)) (Value.ref.inj q)) (by decide) (by decide) ?_
    show Steps p.tables e below (T2.setTop (mkF m 14 #[.val (.ref o1)] [])) _
    refine XS.iconst X2.here hx rfl (hb hby d4_14) ?_
    show Steps p.tables e below (T2.setTop (mkF m 15 #[.val (.ref o1)] [(.int (0 : Int32))])) _
    exact retN X2 hx (t := .boolean) hret (by simp) (hb hby d4_15) hr
  ·
    show Q10 Z w1 w2 w3 o1 h0 n0 _ T2.heap _
    rw [e2]
    exact ⟨rfl, N0, rfl⟩
theorem ef11 (m : MethodId) (x0 : Addr) (x1 : Int32) : entryFrame m #[(.ref x0), (.int x1)] 2 = mkF m 0 #[.val (.ref x0), .val (.int x1)] [] := by first | (simp [entryFrame, mkF, argsToLocals, Value.category]; done) | rfl
def Q11 (Z : State) (w1 : Addr) (w2 : Addr) (w3 : Addr) (o1 : Addr) (p2 : Int32) (h0 : Heap) (n0 : Nat) (v : Option Value) (h : Heap) (L : List Loc) : Prop :=
  ((p2 = (0 : Int32)) ∧ v = none ∧ Fr n0 L ∧ Keep h0 h [o1] ∧ (Exa Z h o1 "com/example/vorgang/vorgang/QueryTimeoutScope") ∧ (Fld Z h o1 "com/example/vorgang/vorgang/QueryTimeoutScope" "kept" "Lcom/example/vorgang/vorgang/QueryTimeoutScope$Kept;" (.ref w2)))
  ∨ ((¬ (p2 = (0 : Int32))) ∧ v = none ∧ Fr n0 L ∧ Keep h0 h [o1] ∧ (Exa Z h o1 "com/example/vorgang/vorgang/QueryTimeoutScope") ∧ (Fld Z h o1 "com/example/vorgang/vorgang/QueryTimeoutScope" "kept" "Lcom/example/vorgang/vorgang/QueryTimeoutScope$Kept;" (.ref w3)))
set_option maxRecDepth 65536 in
set_option maxHeartbeats 40000000 in
theorem rm11 (l : Launch) (Z : State) (a0 : Array Value) (hw : ∀ d ∈ tables_1, d.before a0 Z = true) (w1 : Addr) (w2 : Addr) (w3 : Addr) (G : GW Z w1 w2 w3) (ws : List Jvm.Cond) (o1 : Addr) (p2 : Int32) (h0 : Heap) (n0 : Nat) (O0 : Old Z n0 h0) (g_o1 : n0 ≤ o1) (P0 : Exa Z h0 o1 "com/example/vorgang/vorgang/QueryTimeoutScope") (P1 : Fld Z h0 o1 "com/example/vorgang/vorgang/QueryTimeoutScope" "kept" "Lcom/example/vorgang/vorgang/QueryTimeoutScope$Kept;" (.ref w3)) :
    MetFree l (⟨"com/example/vorgang/vorgang/QueryTimeoutScope", "found", "(Z)V"⟩ : MethodName) (head1 (Jvm.Cond.code (⟨"com/example/vorgang/vorgang/QueryTimeoutScope", "found", "(Z)V"⟩ : MethodName) prog_14_method_5_code 2 none :: ws) ({ frames := 0, cells := 0, slots := 0, locals := 0 } : Room)) (fun a U => a = #[(.ref o1), (.int p2)] ∧ Z.Warmed39 U.vm ∧ U.heap = h0) (fun _ _ _ _ _ => True) (fun _ U o U' => ∃ v L, o = .returned v ∧ Q11 Z w1 w2 w3 o1 p2 h0 n0 v U'.heap L ∧ FrameEnd U o U' L ({ frames := 0, cells := 0, slots := 0, locals := 0 } : Room).cells ({ frames := 0, cells := 0, slots := 0, locals := 0 } : Room).slots) := by
  obtain ⟨S_w1, E_w1, S_w2, E_w2, S_w3, E_w3, F_w2_ordinal, F_w1_ordinal, F_w3_ordinal⟩ := id G
  refine MetFree.of_bodySF (plainFor_of_name pn0) hisR ?_
  intro p e s m args below meth c s₁ Bd hml0 hP hK
  obtain ⟨rfl, hZ, hh⟩ := hP
  have hx := Bd.exec
  have hby := Bd.bytes
  have hml : c.maxLocals = 2 := hml0
  have hown : s.vm.findClass "com/example/vorgang/vorgang/QueryTimeoutScope" = some m.cls := findClass_of_methodNamed Bd.named
  have hnm := (name_of_methodNamed Bd.named Bd.method).1
  have hret := Bd.returns
  have hlk : meth.locks = false := BodyLoose.notSynchronized Bd
  have X0 : Stand p l e ({ frames := 0, cells := 0, slots := 0, locals := 0 } : Room) s m #[(.ref o1), (.int p2)] below meth c s₁ [] 0 0 := Stand.of_body Bd
  have e0 : s₁.heap = h0 := by rw [← hh, Bd.state]; rfl
  have N0 := Fr.nil n0
  have pre0 : ∀ t, Steps p.tables e below (s₁.setTop (mkF m 0 #[.val (.ref o1), .val (.int p2)] [])) t → Steps p.tables e below (s₁.setTop (entryFrame m #[(.ref o1), (.int p2)] 2)) t := fun t k => castTop (ef11 m o1 p2) k
  have pre1 : ∀ t, Steps p.tables e below (s₁.setTop (mkF m 2 #[.val (.ref o1), .val (.int p2)] [(.int p2), (.ref o1)])) t → Steps p.tables e below (s₁.setTop (entryFrame m #[(.ref o1), (.int p2)] 2)) t := fun t k => by
    refine pre0 _ ?_
    show Steps p.tables e below (s₁.setTop (mkF m 0 #[.val (.ref o1), .val (.int p2)] [])) _
    refine XS.aloadN X0.here hx rfl (hb hby d2_0) rfl rfl ?_
    show Steps p.tables e below (s₁.setTop (mkF m 1 #[.val (.ref o1), .val (.int p2)] [(.ref o1)])) _
    refine XS.iloadN X0.here hx rfl (hb hby d2_1) rfl ?_
    exact k
  by_cases hc2 : p2 = (0 : Int32)
  ·
    have pre3 : ∀ t, Steps p.tables e below (s₁.setTop (mkF m 2 #[.val (.ref o1), .val (.int (0 : Int32))] [(.int (0 : Int32)), (.ref o1)])) t → Steps p.tables e below (s₁.setTop (entryFrame m #[(.ref o1), (.int p2)] 2)) t := fun t k => pre1 t (by rw [hc2]; exact k)
    obtain ⟨T4, X4, e4, st4⟩ := getS2 X0 hx hZ hown (host := "") (Or.inl (hw _ (List.mem_of_getElem? (i := 24) rfl))) Via.refl e0 (S_w2.ext O0.2) (g := (mkF m 11 #[.val (.ref o1), .val (.int (0 : Int32))] [(.ref o1)])) rfl (hb hby d2_11)
    obtain ⟨T5, h5, X5, e5, W5, st5⟩ := putF X4 hx hZ hown (host := "") (Or.inl (hw _ (List.mem_of_getElem? (i := 12) rfl))) Via.refl e4 P1 P0 (Or.inl (hw _ (List.mem_of_getElem? (i := 13) rfl))) (hw _ (List.mem_of_getElem? (i := 1) rfl)) (ty := (.object "com/example/vorgang/vorgang/QueryTimeoutScope$Kept")) (by decide) rfl rfl (g := (mkF m 14 #[.val (.ref o1), .val (.int (0 : Int32))] [(.ref w2), (.ref o1)])) rfl rfl (hb hby d2_14)
    have N5 := Fr.snoc X5 N0 g_o1
    have Fw5 := P1.same W5
    have M5 : h0.size ≤ h5.size := Nat.le_trans (Nat.le_refl _) (Nat.le_of_eq W5.size.symm)
    have O5 := Old.wr O0 W5 g_o1
    obtain ⟨fs, hr, hrun, hended, hW, hsame⟩ := X5.leave (v := none) (fun _ => rfl)
    have KL : Keep h0 h5 [o1] := ((Keep.refl h0 [o1]).wr W5 (Or.inl (List.mem_of_getElem? (i := 0) rfl)))
    have f6 := (P0.wr W5)
    refine ⟨_, _, pre3 _ ?_, hrun, hended, _, _, rfl, ?_, ⟨_, rfl⟩, hW, hsame.mono (by decide) (by decide)⟩
    ·
      show Steps p.tables e below (s₁.setTop (mkF m 2 #[.val (.ref o1), .val (.int (0 : Int32))] [(.int (0 : Int32)), (.ref o1)])) _
      refine XS.ifYes X0.here hx rfl (pc0 := 2) (pc' := 11) rfl (hb hby d2_2) rfl ((if0 _ _).trans (teq (by decide : (0 : Int32) = (0 : Int32))).1) (by decide) (by decide) ?_
      show Steps p.tables e below (s₁.setTop (mkF m 11 #[.val (.ref o1), .val (.int (0 : Int32))] [(.ref o1)])) _
      refine st4 _ ?_
      show Steps p.tables e below (T4.setTop (mkF m 14 #[.val (.ref o1), .val (.int (0 : Int32))] [(.ref w2), (.ref o1)])) _
      refine st5 _ ?_
      show Steps p.tables e below (T5.setTop (mkF m 17 #[.val (.ref o1), .val (.int (0 : Int32))] [])) _
      exact X5.returnOut hx hret (hb hby d2_17) hr
    ·
      show Q11 Z w1 w2 w3 o1 p2 h0 n0 _ T5.heap _
      rw [e5]
      exact (Or.inl ⟨hc2, rfl, N5, KL, f6, Fw5⟩)
  ·
    obtain ⟨T7, X7, e7, st7⟩ := getS2 X0 hx hZ hown (host := "") (Or.inl (hw _ (List.mem_of_getElem? (i := 31) rfl))) Via.refl e0 (S_w3.ext O0.2) (g := (mkF m 5 #[.val (.ref o1), .val (.int p2)] [(.ref o1)])) rfl (hb hby d2_5)
    obtain ⟨T8, h8, X8, e8, W8, st8⟩ := putF X7 hx hZ hown (host := "") (Or.inl (hw _ (List.mem_of_getElem? (i := 12) rfl))) Via.refl e7 P1 P0 (Or.inl (hw _ (List.mem_of_getElem? (i := 13) rfl))) (hw _ (List.mem_of_getElem? (i := 1) rfl)) (ty := (.object "com/example/vorgang/vorgang/QueryTimeoutScope$Kept")) (by decide) rfl rfl (g := (mkF m 14 #[.val (.ref o1), .val (.int p2)] [(.ref w3), (.ref o1)])) rfl rfl (hb hby d2_14)
    have N8 := Fr.snoc X8 N0 g_o1
    have Fw8 := P1.same W8
    have M8 : h0.size ≤ h8.size := Nat.le_trans (Nat.le_refl _) (Nat.le_of_eq W8.size.symm)
    have O8 := Old.wr O0 W8 g_o1
    obtain ⟨fs, hr, hrun, hended, hW, hsame⟩ := X8.leave (v := none) (fun _ => rfl)
    have KL : Keep h0 h8 [o1] := ((Keep.refl h0 [o1]).wr W8 (Or.inl (List.mem_of_getElem? (i := 0) rfl)))
    have f9 := (P0.wr W8)
    refine ⟨_, _, pre1 _ ?_, hrun, hended, _, _, rfl, ?_, ⟨_, rfl⟩, hW, hsame.mono (by decide) (by decide)⟩
    ·
      show Steps p.tables e below (s₁.setTop (mkF m 2 #[.val (.ref o1), .val (.int p2)] [(.int p2), (.ref o1)])) _
      refine XS.ifNo X0.here hx rfl (hb hby d2_2) rfl ((if0 _ _).trans (feq hc2).1) ?_
      show Steps p.tables e below (s₁.setTop (mkF m 5 #[.val (.ref o1), .val (.int p2)] [(.ref o1)])) _
      refine st7 _ ?_
      show Steps p.tables e below (T7.setTop (mkF m 8 #[.val (.ref o1), .val (.int p2)] [(.ref w3), (.ref o1)])) _
      refine XS.goto X7.here hx rfl (pc0 := 8) (pc' := 14) rfl (hb hby d2_8) (by decide) (by decide) ?_
      show Steps p.tables e below (T7.setTop (mkF m 14 #[.val (.ref o1), .val (.int p2)] [(.ref w3), (.ref o1)])) _
      refine st8 _ ?_
      show Steps p.tables e below (T8.setTop (mkF m 17 #[.val (.ref o1), .val (.int p2)] [])) _
      exact X8.returnOut hx hret (hb hby d2_17) hr
    ·
      show Q11 Z w1 w2 w3 o1 p2 h0 n0 _ T8.heap _
      rw [e8]
      exact (Or.inr ⟨hc2, rfl, N8, KL, f9, Fw8⟩)
theorem pn1 : plainName "com/example/vorgang/vorgang/QueryTimeoutScopeFoundPinLaw" = true := by first | (simp [plainName, overriddenIn]; done) | decide +kernel
theorem ef0 (m : MethodId) (x0 : Int32) (x1 : Int32) : entryFrame m #[(.int x0), (.int x1)] maxLocals = mkF m 0 #[.val (.int x0), .val (.int x1), .unset, .unset, .unset, .unset, .unset, .unset, .unset] [] := by first | (simp [entryFrame, mkF, argsToLocals, Value.category, maxLocals]; done) | rfl
set_option maxRecDepth 65536 in
set_option maxHeartbeats 40000000 in
theorem rm0 (l : Launch) (Z : State) (a0 : Array Value) (hw : ∀ d ∈ tables_1, d.before a0 Z = true) (w1 : Addr) (w2 : Addr) (w3 : Addr) (G : GW Z w1 w2 w3) (ws : List Jvm.Cond) (p1 : Int32) (p2 : Int32) (h0 : Heap) (n0 : Nat) (O0 : Old Z n0 h0) :
    MetFree l x (head1 (Jvm.Cond.code x code maxLocals ret :: ws) room_1) (fun a U => a = #[(.int p1), (.int p2)] ∧ Z.Warmed39 U.vm ∧ U.heap = h0) (fun _ _ _ _ _ => True) (fun _ U o U' => ∃ v L, o = .returned v ∧ Q0 n0 v U'.heap L ∧ FrameEnd U o U' L 16 128) := by
  obtain ⟨S_w1, E_w1, S_w2, E_w2, S_w3, E_w3, F_w2_ordinal, F_w1_ordinal, F_w3_ordinal⟩ := id G
  refine MetFree.of_bodySF (plainFor_of_name pn1) hisR ?_
  intro p e s m args below meth c s₁ Bd hml0 hP hK
  obtain ⟨rfl, hZ, hh⟩ := hP
  have hx := Bd.exec
  have hby := Bd.bytes
  have hml : c.maxLocals = 9 := hml0
  have hown : s.vm.findClass "com/example/vorgang/vorgang/QueryTimeoutScopeFoundPinLaw" = some m.cls := findClass_of_methodNamed Bd.named
  have hnm := (name_of_methodNamed Bd.named Bd.method).1
  have hret := Bd.returns
  have hlk : meth.locks = false := BodyLoose.notSynchronized Bd
  have X0 : Stand p l e room_1 s m #[(.int p1), (.int p2)] below meth c s₁ [] 0 0 := Stand.of_body Bd
  have e0 : s₁.heap = h0 := by rw [← hh, Bd.state]; rfl
  have N0 := Fr.nil n0
  have pre0 : ∀ t, Steps p.tables e below (s₁.setTop (mkF m 0 #[.val (.int p1), .val (.int p2), .unset, .unset, .unset, .unset, .unset, .unset, .unset] [])) t → Steps p.tables e below (s₁.setTop (entryFrame m #[(.int p1), (.int p2)] maxLocals)) t := fun t k => castTop (ef0 m p1 p2) k
  have pre1 : ∀ t, Steps p.tables e below (s₁.setTop (mkF m 3 #[.val (.int p1), .val (.int p2), .unset, .unset, .unset, .unset, .unset, .unset, .unset] [(.int (p1 &&& (1 : Int32)))])) t → Steps p.tables e below (s₁.setTop (entryFrame m #[(.int p1), (.int p2)] maxLocals)) t := fun t k => by
    refine pre0 _ ?_
    show Steps p.tables e below (s₁.setTop (mkF m 0 #[.val (.int p1), .val (.int p2), .unset, .unset, .unset, .unset, .unset, .unset, .unset] [])) _
    refine XS.iloadN X0.here hx rfl (hb hby at_0) rfl ?_
    show Steps p.tables e below (s₁.setTop (mkF m 1 #[.val (.int p1), .val (.int p2), .unset, .unset, .unset, .unset, .unset, .unset, .unset] [(.int p1)])) _
    refine XS.iconst X0.here hx rfl (hb hby at_1) ?_
    show Steps p.tables e below (s₁.setTop (mkF m 2 #[.val (.int p1), .val (.int p2), .unset, .unset, .unset, .unset, .unset, .unset, .unset] [(.int (1 : Int32)), (.int p1)])) _
    refine XS.iand X0.here hx rfl (hb hby at_2) rfl ?_
    exact k
  obtain ⟨z2, hz2⟩ : ∃ z : Int32, z = if (p1 &&& (1 : Int32)) = (0 : Int32) then (0 : Int32) else (1 : Int32) := ⟨_, rfl⟩
  have bz2 : 0 ≤ z2.toInt ∧ z2.toInt ≤ 1 := by rw [hz2]; split <;> decide
  have nz2 : nar .boolean z2 = z2 := by rw [hz2]; split <;> decide
  have pre2 : ∀ t, Steps p.tables e below (s₁.setTop (mkF m 11 #[.val (.int p1), .val (.int p2), .unset, .unset, .unset, .unset, .unset, .unset, .unset] [(.int z2)])) t → Steps p.tables e below (s₁.setTop (entryFrame m #[(.int p1), (.int p2)] maxLocals)) t := fun t k => by
    by_cases hc2 : (p1 &&& (1 : Int32)) = (0 : Int32)
    ·
      rw [hz2, if_pos hc2] at k
      refine pre1 _ ?_
      show Steps p.tables e below (s₁.setTop (mkF m 3 #[.val (.int p1), .val (.int p2), .unset, .unset, .unset, .unset, .unset, .unset, .unset] [(.int (p1 &&& (1 : Int32)))])) _
      refine XS.ifYes X0.here hx rfl (pc0 := 3) (pc' := 10) rfl (hb hby at_3) rfl ((if0 _ _).trans (teq hc2).1) (by decide) (by decide) ?_
      show Steps p.tables e below (s₁.setTop (mkF m 10 #[.val (.int p1), .val (.int p2), .unset, .unset, .unset, .unset, .unset, .unset, .unset] [])) _
      refine XS.iconst X0.here hx rfl (hb hby at_10) ?_
      exact k
    ·
      rw [hz2, if_neg hc2] at k
      refine pre1 _ ?_
      show Steps p.tables e below (s₁.setTop (mkF m 3 #[.val (.int p1), .val (.int p2), .unset, .unset, .unset, .unset, .unset, .unset, .unset] [(.int (p1 &&& (1 : Int32)))])) _
      refine XS.ifNo X0.here hx rfl (hb hby at_3) rfl ((if0 _ _).trans (feq hc2).1) ?_
      show Steps p.tables e below (s₁.setTop (mkF m 6 #[.val (.int p1), .val (.int p2), .unset, .unset, .unset, .unset, .unset, .unset, .unset] [])) _
      refine XS.iconst X0.here hx rfl (hb hby at_6) ?_
      show Steps p.tables e below (s₁.setTop (mkF m 7 #[.val (.int p1), .val (.int p2), .unset, .unset, .unset, .unset, .unset, .unset, .unset] [(.int (1 : Int32))])) _
      refine XS.goto X0.here hx rfl (pc0 := 7) (pc' := 11) rfl (hb hby at_7) (by decide) (by decide) ?_
      exact k
  have pre3 : ∀ t, Steps p.tables e below (s₁.setTop (mkF m 15 #[.val (.int p1), .val (.int p2), .val (.int z2), .unset, .unset, .unset, .unset, .unset, .unset] [(.int (p2 &&& (2 : Int32)))])) t → Steps p.tables e below (s₁.setTop (entryFrame m #[(.int p1), (.int p2)] maxLocals)) t := fun t k => by
    refine pre2 _ ?_
    show Steps p.tables e below (s₁.setTop (mkF m 11 #[.val (.int p1), .val (.int p2), .unset, .unset, .unset, .unset, .unset, .unset, .unset] [(.int z2)])) _
    refine XS.istoreN X0.here hx rfl (hb hby at_11) rfl (l' := #[.val (.int p1), .val (.int p2), .val (.int z2), .unset, .unset, .unset, .unset, .unset, .unset]) rfl ?_
    show Steps p.tables e below (s₁.setTop (mkF m 12 #[.val (.int p1), .val (.int p2), .val (.int z2), .unset, .unset, .unset, .unset, .unset, .unset] [])) _
    refine XS.iloadN X0.here hx rfl (hb hby at_12) rfl ?_
    show Steps p.tables e below (s₁.setTop (mkF m 13 #[.val (.int p1), .val (.int p2), .val (.int z2), .unset, .unset, .unset, .unset, .unset, .unset] [(.int p2)])) _
    refine XS.iconst X0.here hx rfl (hb hby at_13) ?_
    show Steps p.tables e below (s₁.setTop (mkF m 14 #[.val (.int p1), .val (.int p2), .val (.int z2), .unset, .unset, .unset, .unset, .unset, .unset] [(.int (2 : Int32)), (.int p2)])) _
    refine XS.iand X0.here hx rfl (hb hby at_14) rfl ?_
    exact k
  obtain ⟨z4, hz4⟩ : ∃ z : Int32, z = if (p2 &&& (2 : Int32)) = (0 : Int32) then (0 : Int32) else (1 : Int32) := ⟨_, rfl⟩
  have bz4 : 0 ≤ z4.toInt ∧ z4.toInt ≤ 1 := by rw [hz4]; split <;> decide
  have nz4 : nar .boolean z4 = z4 := by rw [hz4]; split <;> decide
  have pre4 : ∀ t, Steps p.tables e below (s₁.setTop (mkF m 23 #[.val (.int p1), .val (.int p2), .val (.int z2), .unset, .unset, .unset, .unset, .unset, .unset] [(.int z4)])) t → Steps p.tables e below (s₁.setTop (entryFrame m #[(.int p1), (.int p2)] maxLocals)) t := fun t k => by
    by_cases hc4 : (p2 &&& (2 : Int32)) = (0 : Int32)
    ·
      rw [hz4, if_pos hc4] at k
      refine pre3 _ ?_
      show Steps p.tables e below (s₁.setTop (mkF m 15 #[.val (.int p1), .val (.int p2), .val (.int z2), .unset, .unset, .unset, .unset, .unset, .unset] [(.int (p2 &&& (2 : Int32)))])) _
      refine XS.ifYes X0.here hx rfl (pc0 := 15) (pc' := 22) rfl (hb hby at_15) rfl ((if0 _ _).trans (teq hc4).1) (by decide) (by decide) ?_
      show Steps p.tables e below (s₁.setTop (mkF m 22 #[.val (.int p1), .val (.int p2), .val (.int z2), .unset, .unset, .unset, .unset, .unset, .unset] [])) _
      refine XS.iconst X0.here hx rfl (hb hby at_22) ?_
      exact k
    ·
      rw [hz4, if_neg hc4] at k
      refine pre3 _ ?_
      show Steps p.tables e below (s₁.setTop (mkF m 15 #[.val (.int p1), .val (.int p2), .val (.int z2), .unset, .unset, .unset, .unset, .unset, .unset] [(.int (p2 &&& (2 : Int32)))])) _
      refine XS.ifNo X0.here hx rfl (hb hby at_15) rfl ((if0 _ _).trans (feq hc4).1) ?_
      show Steps p.tables e below (s₁.setTop (mkF m 18 #[.val (.int p1), .val (.int p2), .val (.int z2), .unset, .unset, .unset, .unset, .unset, .unset] [])) _
      refine XS.iconst X0.here hx rfl (hb hby at_18) ?_
      show Steps p.tables e below (s₁.setTop (mkF m 19 #[.val (.int p1), .val (.int p2), .val (.int z2), .unset, .unset, .unset, .unset, .unset, .unset] [(.int (1 : Int32))])) _
      refine XS.goto X0.here hx rfl (pc0 := 19) (pc' := 23) rfl (hb hby at_19) (by decide) (by decide) ?_
      exact k
  have pre5 : ∀ t, Steps p.tables e below (s₁.setTop (mkF m 27 #[.val (.int p1), .val (.int p2), .val (.int z2), .val (.int z4), .unset, .unset, .unset, .unset, .unset] [(.int (p2 &&& (1 : Int32)))])) t → Steps p.tables e below (s₁.setTop (entryFrame m #[(.int p1), (.int p2)] maxLocals)) t := fun t k => by
    refine pre4 _ ?_
    show Steps p.tables e below (s₁.setTop (mkF m 23 #[.val (.int p1), .val (.int p2), .val (.int z2), .unset, .unset, .unset, .unset, .unset, .unset] [(.int z4)])) _
    refine XS.istoreN X0.here hx rfl (hb hby at_23) rfl (l' := #[.val (.int p1), .val (.int p2), .val (.int z2), .val (.int z4), .unset, .unset, .unset, .unset, .unset]) rfl ?_
    show Steps p.tables e below (s₁.setTop (mkF m 24 #[.val (.int p1), .val (.int p2), .val (.int z2), .val (.int z4), .unset, .unset, .unset, .unset, .unset] [])) _
    refine XS.iloadN X0.here hx rfl (hb hby at_24) rfl ?_
    show Steps p.tables e below (s₁.setTop (mkF m 25 #[.val (.int p1), .val (.int p2), .val (.int z2), .val (.int z4), .unset, .unset, .unset, .unset, .unset] [(.int p2)])) _
    refine XS.iconst X0.here hx rfl (hb hby at_25) ?_
    show Steps p.tables e below (s₁.setTop (mkF m 26 #[.val (.int p1), .val (.int p2), .val (.int z2), .val (.int z4), .unset, .unset, .unset, .unset, .unset] [(.int (1 : Int32)), (.int p2)])) _
    refine XS.iand X0.here hx rfl (hb hby at_26) rfl ?_
    exact k
  obtain ⟨z6, hz6⟩ : ∃ z : Int32, z = if (p2 &&& (1 : Int32)) = (0 : Int32) then (0 : Int32) else (1 : Int32) := ⟨_, rfl⟩
  have bz6 : 0 ≤ z6.toInt ∧ z6.toInt ≤ 1 := by rw [hz6]; split <;> decide
  have nz6 : nar .boolean z6 = z6 := by rw [hz6]; split <;> decide
  have pre6 : ∀ t, Steps p.tables e below (s₁.setTop (mkF m 35 #[.val (.int p1), .val (.int p2), .val (.int z2), .val (.int z4), .unset, .unset, .unset, .unset, .unset] [(.int z6)])) t → Steps p.tables e below (s₁.setTop (entryFrame m #[(.int p1), (.int p2)] maxLocals)) t := fun t k => by
    by_cases hc6 : (p2 &&& (1 : Int32)) = (0 : Int32)
    ·
      rw [hz6, if_pos hc6] at k
      refine pre5 _ ?_
      show Steps p.tables e below (s₁.setTop (mkF m 27 #[.val (.int p1), .val (.int p2), .val (.int z2), .val (.int z4), .unset, .unset, .unset, .unset, .unset] [(.int (p2 &&& (1 : Int32)))])) _
      refine XS.ifYes X0.here hx rfl (pc0 := 27) (pc' := 34) rfl (hb hby at_27) rfl ((if0 _ _).trans (teq hc6).1) (by decide) (by decide) ?_
      show Steps p.tables e below (s₁.setTop (mkF m 34 #[.val (.int p1), .val (.int p2), .val (.int z2), .val (.int z4), .unset, .unset, .unset, .unset, .unset] [])) _
      refine XS.iconst X0.here hx rfl (hb hby at_34) ?_
      exact k
    ·
      rw [hz6, if_neg hc6] at k
      refine pre5 _ ?_
      show Steps p.tables e below (s₁.setTop (mkF m 27 #[.val (.int p1), .val (.int p2), .val (.int z2), .val (.int z4), .unset, .unset, .unset, .unset, .unset] [(.int (p2 &&& (1 : Int32)))])) _
      refine XS.ifNo X0.here hx rfl (hb hby at_27) rfl ((if0 _ _).trans (feq hc6).1) ?_
      show Steps p.tables e below (s₁.setTop (mkF m 30 #[.val (.int p1), .val (.int p2), .val (.int z2), .val (.int z4), .unset, .unset, .unset, .unset, .unset] [])) _
      refine XS.iconst X0.here hx rfl (hb hby at_30) ?_
      show Steps p.tables e below (s₁.setTop (mkF m 31 #[.val (.int p1), .val (.int p2), .val (.int z2), .val (.int z4), .unset, .unset, .unset, .unset, .unset] [(.int (1 : Int32))])) _
      refine XS.goto X0.here hx rfl (pc0 := 31) (pc' := 35) rfl (hb hby at_31) (by decide) (by decide) ?_
      exact k
  obtain ⟨T7, h7, X7, e7, E7, A7, D7, -, st7⟩ := newO X0 hx hZ hown (hw _ (List.mem_of_getElem? (i := 0) rfl)) (hw _ (List.mem_of_getElem? (i := 1) rfl)) (hw _ (List.mem_of_getElem? (i := 2) rfl)) e0 (g := (mkF m 37 #[.val (.int p1), .val (.int p2), .val (.int z2), .val (.int z4), .val (.int z6), .unset, .unset, .unset, .unset] [])) rfl (hb hby at_37) (by decide) (by decide)
  obtain ⟨b7, g7⟩ : ∃ z, z = h0.size := ⟨_, rfl⟩
  rw [← g7] at A7 D7 st7
  have M7 : h0.size ≤ h7.size := Nat.le_trans (Nat.le_refl _) E7.1
  have O7 := Old.ext O0 E7
  have sz_b7 : h0.size ≤ b7 := Nat.le_of_eq g7.symm
  have g_b7 : n0 ≤ b7 := Nat.le_trans (own_oz O0) (Nat.le_trans (Nat.le_refl _) sz_b7)
  have F7_13 : Fld Z h7 b7 "com/example/vorgang/vorgang/QueryTimeoutScope" "kept" "Lcom/example/vorgang/vorgang/QueryTimeoutScope$Kept;" .null := D7 (Or.inl (hw _ (List.mem_of_getElem? (i := 13) rfl))) (ty := (.object "com/example/vorgang/vorgang/QueryTimeoutScope$Kept")) (by decide)
  obtain ⟨_, _, ⟨T8, L8, c8, n8⟩, -, X8, ⟨Lc8, hQ8, l8, y8, z8⟩, st8⟩ := X7.specialBack hx (y := (⟨"com/example/vorgang/vorgang/QueryTimeoutScope", "<init>", "()V"⟩ : MethodName)) rfl hown (mvT hZ (hw _ (List.mem_of_getElem? (i := 3) rfl))) (mvT hZ (hw _ (List.mem_of_getElem? (i := 4) rfl))) (mvT hZ (hw _ (List.mem_of_getElem? (i := 5) rfl))) (by decide) (backOf (W := 1) (rm1 l Z a0 hw w1 w2 w3 G [] b7 h7 n0 O7 g_b7 A7 F7_13) hZ (hw _ (List.mem_of_getElem? (i := 5) rfl)) (hw _ (List.mem_of_getElem? (i := 2) rfl)) (by decide) (by decide)) (g := (mkF m 41 #[.val (.int p1), .val (.int p2), .val (.int z2), .val (.int z4), .val (.int z6), .unset, .unset, .unset, .unset] [(.ref b7), (.ref b7)])) rfl (by rw [hml]; rfl) (Steps.refl _) (a := b7) (argsL := []) (rest := [(.ref b7)]) (lenOf pd0 rfl) rfl (by show 2 * 0 + _ ≤ _; exact Nat.le_of_eq rfl) (hb hby at_41) (fun _ _ => ⟨rfl, e7, (by decide : 1 + 0 ≤ _), (by decide : 1 + 0 ≤ _)⟩)
  dsimp only [Pt.U, Pt.locs, Pt.cells, Pt.slots] at X8 l8 y8 z8 st8 hQ8
  subst l8 y8 z8
  have X8 : Stand p l e room_1 s m #[(.int p1), (.int p2)] below meth c T8 _ 1 1 := X8
  obtain ⟨rfl, Nq9, K10, f11, f12⟩ := hQ8
  have N8 := Fr.app N0 Nq9
  have M8 : h0.size ≤ T8.heap.size := Nat.le_trans M7 K10.1
  have O8 := Old.keep O7 K10 (allS g_b7 all0)
  obtain ⟨cq13, kq13, q13a, q13b, q13c⟩ := isOf hZ rfl f11
  obtain ⟨_, _, ⟨T14, L14, c14, n14⟩, -, X14, ⟨Lc14, hQ14, l14, y14, z14⟩, st14⟩ := X8.virtualBack hx (y := (⟨"com/example/vorgang/vorgang/QueryTimeoutScope", "isKnown", "()Z"⟩ : MethodName)) (z := (⟨"com/example/vorgang/vorgang/QueryTimeoutScope", "isKnown", "()Z"⟩ : MethodName)) hown (mvT hZ (hw _ (List.mem_of_getElem? (i := 14) rfl))) (mvT hZ (hw _ (List.mem_of_getElem? (i := 15) rfl))) (notFace_of_selects (args := #[]) (mvT hZ (hw _ (List.mem_of_getElem? (i := 17) rfl)))) (mvT hZ (hw _ (List.mem_of_getElem? (i := 17) rfl))) (mvT hZ (hw _ (List.mem_of_getElem? (i := 16) rfl))) (by decide) (backOf (W := 0) (rm2 l Z a0 hw w1 w2 w3 G [] b7 T8.heap n0 O8 g_b7 f12) hZ (hw _ (List.mem_of_getElem? (i := 18) rfl)) (hw _ (List.mem_of_getElem? (i := 2) rfl)) (by decide) (by decide)) q13a q13c (g := (mkF m 48 #[.val (.int p1), .val (.int p2), .val (.int z2), .val (.int z4), .val (.int z6), .val (.ref b7), .unset, .unset, .unset] [(.ref b7)])) rfl (by rw [hml]; rfl) (Steps.refl _) (argsL := []) (rest := []) (lenOf pd1 rfl) rfl (by show 2 * 0 + _ ≤ _; exact Nat.le_of_eq rfl) (hb hby at_48) (fun _ _ => ⟨rfl, rfl, (by decide : 1 + 0 ≤ _), (by decide : 1 + 0 ≤ _)⟩)
  dsimp only [Pt.U, Pt.locs, Pt.cells, Pt.slots] at X14 l14 y14 z14 st14 hQ14
  subst l14 y14 z14
  have X14 : Stand p l e room_1 s m #[(.int p1), (.int p2)] below meth c T14 _ 1 1 := X14
  obtain ⟨rfl, Nq15, e16⟩ := hQ14
  have N14 := Fr.app N8 Nq15
  obtain ⟨cq17, kq17, q17a, q17b, q17c⟩ := isOf hZ e16 f11
  obtain ⟨_, _, ⟨T18, L18, c18, n18⟩, -, X18, ⟨Lc18, hQ18, l18, y18, z18⟩, st18⟩ := X14.virtualBack hx (y := (⟨"com/example/vorgang/vorgang/QueryTimeoutScope", "found", "(Z)V"⟩ : MethodName)) (z := (⟨"com/example/vorgang/vorgang/QueryTimeoutScope", "found", "(Z)V"⟩ : MethodName)) hown (mvT hZ (hw _ (List.mem_of_getElem? (i := 19) rfl))) (mvT hZ (hw _ (List.mem_of_getElem? (i := 20) rfl))) (notFace_of_selects (args := #[]) (mvT hZ (hw _ (List.mem_of_getElem? (i := 22) rfl)))) (mvT hZ (hw _ (List.mem_of_getElem? (i := 22) rfl))) (mvT hZ (hw _ (List.mem_of_getElem? (i := 21) rfl))) (by decide) (backOf (W := 0) (rm3 l Z a0 hw w1 w2 w3 G [] b7 z2 T8.heap n0 O8 g_b7 f11 f12) hZ (hw _ (List.mem_of_getElem? (i := 23) rfl)) (hw _ (List.mem_of_getElem? (i := 2) rfl)) (by decide) (by decide)) q17a q17c (g := (mkF m 64 #[.val (.int p1), .val (.int p2), .val (.int z2), .val (.int z4), .val (.int z6), .val (.ref b7), .val (.int (1 : Int32)), .unset, .unset] [(.int z2), (.ref b7)])) rfl (by rw [hml]; rfl) (Steps.refl _) (argsL := [(.int z2)]) (rest := []) (lenOf pd2 rfl) rfl (by show 2 * 0 + _ ≤ _; exact Nat.le_of_eq rfl) (hb hby at_64) (fun _ _ => ⟨rfl, e16, (by decide : 1 + 0 ≤ _), (by decide : 1 + 0 ≤ _)⟩)
  dsimp only [Pt.U, Pt.locs, Pt.cells, Pt.slots] at X18 l18 y18 z18 st18 hQ18
  subst l18 y18 z18
  have pre19 : ∀ t, Steps p.tables e below (T14.setTop (mkF m 64 #[.val (.int p1), .val (.int p2), .val (.int z2), .val (.int z4), .val (.int z6), .val (.ref b7), .val (.int (1 : Int32)), .unset, .unset] [(.int z2), (.ref b7)])) t → Steps p.tables e below (s₁.setTop (entryFrame m #[(.int p1), (.int p2)] maxLocals)) t := fun t k => by
    refine pre6 _ ?_
    show Steps p.tables e below (s₁.setTop (mkF m 35 #[.val (.int p1), .val (.int p2), .val (.int z2), .val (.int z4), .unset, .unset, .unset, .unset, .unset] [(.int z6)])) _
    refine XS.istore X0.here hx rfl (hb hby at_35) rfl (l' := #[.val (.int p1), .val (.int p2), .val (.int z2), .val (.int z4), .val (.int z6), .unset, .unset, .unset, .unset]) rfl ?_
    show Steps p.tables e below (s₁.setTop (mkF m 37 #[.val (.int p1), .val (.int p2), .val (.int z2), .val (.int z4), .val (.int z6), .unset, .unset, .unset, .unset] [])) _
    refine st7 _ ?_
    show Steps p.tables e below (T7.setTop (mkF m 40 #[.val (.int p1), .val (.int p2), .val (.int z2), .val (.int z4), .val (.int z6), .unset, .unset, .unset, .unset] [(.ref b7)])) _
    refine XS.dup X7.here hx rfl (hb hby at_40) rfl rfl ?_
    show Steps p.tables e below (T7.setTop (mkF m 41 #[.val (.int p1), .val (.int p2), .val (.int z2), .val (.int z4), .val (.int z6), .unset, .unset, .unset, .unset] [(.ref b7), (.ref b7)])) _
    refine st8.trans ?_
    show Steps p.tables e below (T8.setTop (mkF m 44 #[.val (.int p1), .val (.int p2), .val (.int z2), .val (.int z4), .val (.int z6), .unset, .unset, .unset, .unset] [(.ref b7)])) _
    refine XS.astore X8.here hx rfl (hb hby at_44) rfl rfl (l' := #[.val (.int p1), .val (.int p2), .val (.int z2), .val (.int z4), .val (.int z6), .val (.ref b7), .unset, .unset, .unset]) rfl ?_
    show Steps p.tables e below (T8.setTop (mkF m 46 #[.val (.int p1), .val (.int p2), .val (.int z2), .val (.int z4), .val (.int z6), .val (.ref b7), .unset, .unset, .unset] [])) _
    refine XS.aload X8.here hx rfl (hb hby at_46) rfl rfl ?_
    show Steps p.tables e below (T8.setTop (mkF m 48 #[.val (.int p1), .val (.int p2), .val (.int z2), .val (.int z4), .val (.int z6), .val (.ref b7), .unset, .unset, .unset] [(.ref b7)])) _
    refine st14.trans ?_
    show Steps p.tables e below (T14.setTop (mkF m 51 #[.val (.int p1), .val (.int p2), .val (.int z2), .val (.int z4), .val (.int z6), .val (.ref b7), .unset, .unset, .unset] [(.int (0 : Int32))])) _
    refine XS.ifNo X14.here hx rfl (hb hby at_51) rfl ((if0 _ _).trans (teq (by decide : (0 : Int32) = (0 : Int32))).2) ?_
    show Steps p.tables e below (T14.setTop (mkF m 54 #[.val (.int p1), .val (.int p2), .val (.int z2), .val (.int z4), .val (.int z6), .val (.ref b7), .unset, .unset, .unset] [])) _
    refine XS.iconst X14.here hx rfl (hb hby at_54) ?_
    show Steps p.tables e below (T14.setTop (mkF m 55 #[.val (.int p1), .val (.int p2), .val (.int z2), .val (.int z4), .val (.int z6), .val (.ref b7), .unset, .unset, .unset] [(.int (1 : Int32))])) _
    refine XS.goto X14.here hx rfl (pc0 := 55) (pc' := 59) rfl (hb hby at_55) (by decide) (by decide) ?_
    show Steps p.tables e below (T14.setTop (mkF m 59 #[.val (.int p1), .val (.int p2), .val (.int z2), .val (.int z4), .val (.int z6), .val (.ref b7), .unset, .unset, .unset] [(.int (1 : Int32))])) _
    refine XS.istore X14.here hx rfl (hb hby at_59) rfl (l' := #[.val (.int p1), .val (.int p2), .val (.int z2), .val (.int z4), .val (.int z6), .val (.ref b7), .val (.int (1 : Int32)), .unset, .unset]) rfl ?_
    show Steps p.tables e below (T14.setTop (mkF m 61 #[.val (.int p1), .val (.int p2), .val (.int z2), .val (.int z4), .val (.int z6), .val (.ref b7), .val (.int (1 : Int32)), .unset, .unset] [])) _
    refine XS.aload X14.here hx rfl (hb hby at_61) rfl rfl ?_
    show Steps p.tables e below (T14.setTop (mkF m 63 #[.val (.int p1), .val (.int p2), .val (.int z2), .val (.int z4), .val (.int z6), .val (.ref b7), .val (.int (1 : Int32)), .unset, .unset] [(.ref b7)])) _
    refine XS.iloadN X14.here hx rfl (hb hby at_63) rfl ?_
    exact k
  have X18 : Stand p l e room_1 s m #[(.int p1), (.int p2)] below meth c T18 _ 1 1 := X18
  rcases hQ18 with ⟨hc20, rfl, Nq21, K22, f23, f24⟩ | ⟨hc25, rfl, Nq26, K27, f28, f29⟩
  ·
    have N18 := Fr.app N14 Nq21
    have M18 : h0.size ≤ T18.heap.size := Nat.le_trans M8 K22.1
    have O18 := Old.keep O8 K22 (allS g_b7 all0)
    obtain ⟨cq30, kq30, q30a, q30b, q30c⟩ := isOf hZ rfl f23
    obtain ⟨_, _, ⟨T31, L31, c31, n31⟩, -, X31, ⟨Lc31, hQ31, l31, y31, z31⟩, st31⟩ := X18.virtualBack hx (y := (⟨"com/example/vorgang/vorgang/QueryTimeoutScope", "isKnown", "()Z"⟩ : MethodName)) (z := (⟨"com/example/vorgang/vorgang/QueryTimeoutScope", "isKnown", "()Z"⟩ : MethodName)) hown (mvT hZ (hw _ (List.mem_of_getElem? (i := 14) rfl))) (mvT hZ (hw _ (List.mem_of_getElem? (i := 15) rfl))) (notFace_of_selects (args := #[]) (mvT hZ (hw _ (List.mem_of_getElem? (i := 17) rfl)))) (mvT hZ (hw _ (List.mem_of_getElem? (i := 17) rfl))) (mvT hZ (hw _ (List.mem_of_getElem? (i := 16) rfl))) (by decide) (backOf (W := 0) (rm4 l Z a0 hw w1 w2 w3 G [] b7 T18.heap n0 O18 g_b7 f24) hZ (hw _ (List.mem_of_getElem? (i := 18) rfl)) (hw _ (List.mem_of_getElem? (i := 2) rfl)) (by decide) (by decide)) q30a q30c (g := (mkF m 69 #[.val (.int p1), .val (.int p2), .val (.int z2), .val (.int z4), .val (.int z6), .val (.ref b7), .val (.int (1 : Int32)), .unset, .unset] [(.ref b7)])) rfl (by rw [hml]; rfl) (Steps.refl _) (argsL := []) (rest := []) (lenOf pd1 rfl) rfl (by show 2 * 0 + _ ≤ _; exact Nat.le_of_eq rfl) (hb hby at_69) (fun _ _ => ⟨rfl, rfl, (by decide : 1 + 0 ≤ _), (by decide : 1 + 0 ≤ _)⟩)
    dsimp only [Pt.U, Pt.locs, Pt.cells, Pt.slots] at X31 l31 y31 z31 st31 hQ31
    subst l31 y31 z31
    have X31 : Stand p l e room_1 s m #[(.int p1), (.int p2)] below meth c T31 _ 1 1 := X31
    obtain ⟨rfl, Nq32, e33⟩ := hQ31
    have N31 := Fr.app N18 Nq32
    obtain ⟨cq34, kq34, q34a, q34b, q34c⟩ := isOf hZ e33 f23
    obtain ⟨_, _, ⟨T35, L35, c35, n35⟩, -, X35, ⟨Lc35, hQ35, l35, y35, z35⟩, st35⟩ := X31.virtualBack hx (y := (⟨"com/example/vorgang/vorgang/QueryTimeoutScope", "isSession", "()Z"⟩ : MethodName)) (z := (⟨"com/example/vorgang/vorgang/QueryTimeoutScope", "isSession", "()Z"⟩ : MethodName)) hown (mvT hZ (hw _ (List.mem_of_getElem? (i := 26) rfl))) (mvT hZ (hw _ (List.mem_of_getElem? (i := 27) rfl))) (notFace_of_selects (args := #[]) (mvT hZ (hw _ (List.mem_of_getElem? (i := 29) rfl)))) (mvT hZ (hw _ (List.mem_of_getElem? (i := 29) rfl))) (mvT hZ (hw _ (List.mem_of_getElem? (i := 28) rfl))) (by decide) (backOf (W := 0) (rm5 l Z a0 hw w1 w2 w3 G [] b7 T18.heap n0 O18 g_b7 f24) hZ (hw _ (List.mem_of_getElem? (i := 30) rfl)) (hw _ (List.mem_of_getElem? (i := 2) rfl)) (by decide) (by decide)) q34a q34c (g := (mkF m 77 #[.val (.int p1), .val (.int p2), .val (.int z2), .val (.int z4), .val (.int z6), .val (.ref b7), .val (.int (1 : Int32)), .unset, .unset] [(.ref b7)])) rfl (by rw [hml]; rfl) (Steps.refl _) (argsL := []) (rest := []) (lenOf pd1 rfl) rfl (by show 2 * 0 + _ ≤ _; exact Nat.le_of_eq rfl) (hb hby at_77) (fun _ _ => ⟨rfl, e33, (by decide : 1 + 0 ≤ _), (by decide : 1 + 0 ≤ _)⟩)
    dsimp only [Pt.U, Pt.locs, Pt.cells, Pt.slots] at X35 l35 y35 z35 st35 hQ35
    subst l35 y35 z35
    have X35 : Stand p l e room_1 s m #[(.int p1), (.int p2)] below meth c T35 _ 1 1 := X35
    obtain ⟨rfl, Nq36, e37⟩ := hQ35
    have N35 := Fr.app N31 Nq36
    obtain ⟨cq38, kq38, q38a, q38b, q38c⟩ := isOf hZ e37 f23
    obtain ⟨_, _, ⟨T39, L39, c39, n39⟩, -, X39, ⟨Lc39, hQ39, l39, y39, z39⟩, st39⟩ := X35.virtualBack hx (y := (⟨"com/example/vorgang/vorgang/QueryTimeoutScope", "isStatement", "()Z"⟩ : MethodName)) (z := (⟨"com/example/vorgang/vorgang/QueryTimeoutScope", "isStatement", "()Z"⟩ : MethodName)) hown (mvT hZ (hw _ (List.mem_of_getElem? (i := 33) rfl))) (mvT hZ (hw _ (List.mem_of_getElem? (i := 34) rfl))) (notFace_of_selects (args := #[]) (mvT hZ (hw _ (List.mem_of_getElem? (i := 36) rfl)))) (mvT hZ (hw _ (List.mem_of_getElem? (i := 36) rfl))) (mvT hZ (hw _ (List.mem_of_getElem? (i := 35) rfl))) (by decide) (backOf (W := 0) (rm6 l Z a0 hw w1 w2 w3 G [] b7 T18.heap n0 O18 g_b7 f24) hZ (hw _ (List.mem_of_getElem? (i := 37) rfl)) (hw _ (List.mem_of_getElem? (i := 2) rfl)) (by decide) (by decide)) q38a q38c (g := (mkF m 86 #[.val (.int p1), .val (.int p2), .val (.int z2), .val (.int z4), .val (.int z6), .val (.ref b7), .val (.int (1 : Int32)), .unset, .unset] [(.ref b7)])) rfl (by rw [hml]; rfl) (Steps.refl _) (argsL := []) (rest := []) (lenOf pd1 rfl) rfl (by show 2 * 0 + _ ≤ _; exact Nat.le_of_eq rfl) (hb hby at_86) (fun _ _ => ⟨rfl, e37, (by decide : 1 + 0 ≤ _), (by decide : 1 + 0 ≤ _)⟩)
    dsimp only [Pt.U, Pt.locs, Pt.cells, Pt.slots] at X39 l39 y39 z39 st39 hQ39
    subst l39 y39 z39
    have X39 : Stand p l e room_1 s m #[(.int p1), (.int p2)] below meth c T39 _ 1 1 := X39
    obtain ⟨rfl, Nq40, e41⟩ := hQ39
    have N39 := Fr.app N35 Nq40
    have pre42 : ∀ t, Steps p.tables e below (T39.setTop (mkF m 109 #[.val (.int p1), .val (.int p2), .val (.int z2), .val (.int z4), .val (.int z6), .val (.ref b7), .val (.int (1 : Int32)), .val (.int (1 : Int32)), .unset] [(.int z4)])) t → Steps p.tables e below (s₁.setTop (entryFrame m #[(.int p1), (.int p2)] maxLocals)) t := fun t k => by
      refine pre19 _ ?_
      show Steps p.tables e below (T14.setTop (mkF m 64 #[.val (.int p1), .val (.int p2), .val (.int z2), .val (.int z4), .val (.int z6), .val (.ref b7), .val (.int (1 : Int32)), .unset, .unset] [(.int z2), (.ref b7)])) _
      refine st18.trans ?_
      show Steps p.tables e below (T18.setTop (mkF m 67 #[.val (.int p1), .val (.int p2), .val (.int z2), .val (.int z4), .val (.int z6), .val (.ref b7), .val (.int (1 : Int32)), .unset, .unset] [])) _
      refine XS.aload X18.here hx rfl (hb hby at_67) rfl rfl ?_
      show Steps p.tables e below (T18.setTop (mkF m 69 #[.val (.int p1), .val (.int p2), .val (.int z2), .val (.int z4), .val (.int z6), .val (.ref b7), .val (.int (1 : Int32)), .unset, .unset] [(.ref b7)])) _
      refine st31.trans ?_
      show Steps p.tables e below (T31.setTop (mkF m 72 #[.val (.int p1), .val (.int p2), .val (.int z2), .val (.int z4), .val (.int z6), .val (.ref b7), .val (.int (1 : Int32)), .unset, .unset] [(.int (1 : Int32))])) _
      refine XS.ifNo X31.here hx rfl (hb hby at_72) rfl ((if0 _ _).trans (feq (by decide : ¬ ((1 : Int32) = (0 : Int32)))).1) ?_
      show Steps p.tables e below (T31.setTop (mkF m 75 #[.val (.int p1), .val (.int p2), .val (.int z2), .val (.int z4), .val (.int z6), .val (.ref b7), .val (.int (1 : Int32)), .unset, .unset] [])) _
      refine XS.aload X31.here hx rfl (hb hby at_75) rfl rfl ?_
      show Steps p.tables e below (T31.setTop (mkF m 77 #[.val (.int p1), .val (.int p2), .val (.int z2), .val (.int z4), .val (.int z6), .val (.ref b7), .val (.int (1 : Int32)), .unset, .unset] [(.ref b7)])) _
      refine st35.trans ?_
      show Steps p.tables e below (T35.setTop (mkF m 80 #[.val (.int p1), .val (.int p2), .val (.int z2), .val (.int z4), .val (.int z6), .val (.ref b7), .val (.int (1 : Int32)), .unset, .unset] [(.int (0 : Int32))])) _
      refine XS.iloadN X35.here hx rfl (hb hby at_80) rfl ?_
      show Steps p.tables e below (T35.setTop (mkF m 81 #[.val (.int p1), .val (.int p2), .val (.int z2), .val (.int z4), .val (.int z6), .val (.ref b7), .val (.int (1 : Int32)), .unset, .unset] [(.int z2), (.int (0 : Int32))])) _
      refine XS.icmpNo X35.here hx rfl (hb hby at_81) rfl (teq (hc20).symm).2 ?_
      show Steps p.tables e below (T35.setTop (mkF m 84 #[.val (.int p1), .val (.int p2), .val (.int z2), .val (.int z4), .val (.int z6), .val (.ref b7), .val (.int (1 : Int32)), .unset, .unset] [])) _
      refine XS.aload X35.here hx rfl (hb hby at_84) rfl rfl ?_
      show Steps p.tables e below (T35.setTop (mkF m 86 #[.val (.int p1), .val (.int p2), .val (.int z2), .val (.int z4), .val (.int z6), .val (.ref b7), .val (.int (1 : Int32)), .unset, .unset] [(.ref b7)])) _
      refine st39.trans ?_
      show Steps p.tables e below (T39.setTop (mkF m 89 #[.val (.int p1), .val (.int p2), .val (.int z2), .val (.int z4), .val (.int z6), .val (.ref b7), .val (.int (1 : Int32)), .unset, .unset] [(.int (1 : Int32))])) _
      refine XS.iloadN X39.here hx rfl (hb hby at_89) rfl ?_
      show Steps p.tables e below (T39.setTop (mkF m 90 #[.val (.int p1), .val (.int p2), .val (.int z2), .val (.int z4), .val (.int z6), .val (.ref b7), .val (.int (1 : Int32)), .unset, .unset] [(.int z2), (.int (1 : Int32))])) _
      refine XS.ifNo X39.here hx rfl (hb hby at_90) rfl ((if0 _ _).trans (teq hc20).2) ?_
      show Steps p.tables e below (T39.setTop (mkF m 93 #[.val (.int p1), .val (.int p2), .val (.int z2), .val (.int z4), .val (.int z6), .val (.ref b7), .val (.int (1 : Int32)), .unset, .unset] [(.int (1 : Int32))])) _
      refine XS.iconst X39.here hx rfl (hb hby at_93) ?_
      show Steps p.tables e below (T39.setTop (mkF m 94 #[.val (.int p1), .val (.int p2), .val (.int z2), .val (.int z4), .val (.int z6), .val (.ref b7), .val (.int (1 : Int32)), .unset, .unset] [(.int (1 : Int32)), (.int (1 : Int32))])) _
      refine XS.goto X39.here hx rfl (pc0 := 94) (pc' := 98) rfl (hb hby at_94) (by decide) (by decide) ?_
      show Steps p.tables e below (T39.setTop (mkF m 98 #[.val (.int p1), .val (.int p2), .val (.int z2), .val (.int z4), .val (.int z6), .val (.ref b7), .val (.int (1 : Int32)), .unset, .unset] [(.int (1 : Int32)), (.int (1 : Int32))])) _
      refine XS.icmpNo X39.here hx rfl (hb hby at_98) rfl (teq (by decide : (1 : Int32) = (1 : Int32))).2 ?_
      show Steps p.tables e below (T39.setTop (mkF m 101 #[.val (.int p1), .val (.int p2), .val (.int z2), .val (.int z4), .val (.int z6), .val (.ref b7), .val (.int (1 : Int32)), .unset, .unset] [])) _
      refine XS.iconst X39.here hx rfl (hb hby at_101) ?_
      show Steps p.tables e below (T39.setTop (mkF m 102 #[.val (.int p1), .val (.int p2), .val (.int z2), .val (.int z4), .val (.int z6), .val (.ref b7), .val (.int (1 : Int32)), .unset, .unset] [(.int (1 : Int32))])) _
      refine XS.goto X39.here hx rfl (pc0 := 102) (pc' := 106) rfl (hb hby at_102) (by decide) (by decide) ?_
      show Steps p.tables e below (T39.setTop (mkF m 106 #[.val (.int p1), .val (.int p2), .val (.int z2), .val (.int z4), .val (.int z6), .val (.ref b7), .val (.int (1 : Int32)), .unset, .unset] [(.int (1 : Int32))])) _
      refine XS.istore X39.here hx rfl (hb hby at_106) rfl (l' := #[.val (.int p1), .val (.int p2), .val (.int z2), .val (.int z4), .val (.int z6), .val (.ref b7), .val (.int (1 : Int32)), .val (.int (1 : Int32)), .unset]) rfl ?_
      show Steps p.tables e below (T39.setTop (mkF m 108 #[.val (.int p1), .val (.int p2), .val (.int z2), .val (.int z4), .val (.int z6), .val (.ref b7), .val (.int (1 : Int32)), .val (.int (1 : Int32)), .unset] [])) _
      refine XS.iloadN X39.here hx rfl (hb hby at_108) rfl ?_
      exact k
    by_cases hc43 : z4 = (0 : Int32)
    ·
      have pre44 : ∀ t, Steps p.tables e below (T39.setTop (mkF m 109 #[.val (.int p1), .val (.int p2), .val (.int z2), .val (.int (0 : Int32)), .val (.int z6), .val (.ref b7), .val (.int (1 : Int32)), .val (.int (1 : Int32)), .unset] [(.int (0 : Int32))])) t → Steps p.tables e below (s₁.setTop (entryFrame m #[(.int p1), (.int p2)] maxLocals)) t := fun t k => pre42 t (by rw [hc43]; exact k)
      obtain ⟨fs, hr, hrun, hended, hW, hsame⟩ := X39.leave (v := some (.int (1 : Int32))) (fun h => by rw [hret] at h; cases h)
      refine ⟨_, _, pre44 _ ?_, hrun, hended, _, _, rfl, ?_, ⟨_, rfl⟩, hW, hsame.mono (by decide) (by decide)⟩
      ·
        show Steps p.tables e below (T39.setTop (mkF m 109 #[.val (.int p1), .val (.int p2), .val (.int z2), .val (.int (0 : Int32)), .val (.int z6), .val (.ref b7), .val (.int (1 : Int32)), .val (.int (1 : Int32)), .unset] [(.int (0 : Int32))])) _
        refine XS.ifNo X39.here hx rfl (hb hby at_109) rfl ((if0 _ _).trans (teq (by decide : (0 : Int32) = (0 : Int32))).2) ?_
        show Steps p.tables e below (T39.setTop (mkF m 112 #[.val (.int p1), .val (.int p2), .val (.int z2), .val (.int (0 : Int32)), .val (.int z6), .val (.ref b7), .val (.int (1 : Int32)), .val (.int (1 : Int32)), .unset] [])) _
        refine XS.iload X39.here hx rfl (hb hby at_112) rfl ?_
        show Steps p.tables e below (T39.setTop (mkF m 114 #[.val (.int p1), .val (.int p2), .val (.int z2), .val (.int (0 : Int32)), .val (.int z6), .val (.ref b7), .val (.int (1 : Int32)), .val (.int (1 : Int32)), .unset] [(.int (1 : Int32))])) _
        refine XS.ifNo X39.here hx rfl (hb hby at_114) rfl ((if0 _ _).trans (feq (by decide : ¬ ((1 : Int32) = (0 : Int32)))).1) ?_
        show Steps p.tables e below (T39.setTop (mkF m 117 #[.val (.int p1), .val (.int p2), .val (.int z2), .val (.int (0 : Int32)), .val (.int z6), .val (.ref b7), .val (.int (1 : Int32)), .val (.int (1 : Int32)), .unset] [])) _
        refine XS.iload X39.here hx rfl (hb hby at_117) rfl ?_
        show Steps p.tables e below (T39.setTop (mkF m 119 #[.val (.int p1), .val (.int p2), .val (.int z2), .val (.int (0 : Int32)), .val (.int z6), .val (.ref b7), .val (.int (1 : Int32)), .val (.int (1 : Int32)), .unset] [(.int (1 : Int32))])) _
        refine XS.ifNo X39.here hx rfl (hb hby at_119) rfl ((if0 _ _).trans (feq (by decide : ¬ ((1 : Int32) = (0 : Int32)))).1) ?_
        show Steps p.tables e below (T39.setTop (mkF m 122 #[.val (.int p1), .val (.int p2), .val (.int z2), .val (.int (0 : Int32)), .val (.int z6), .val (.ref b7), .val (.int (1 : Int32)), .val (.int (1 : Int32)), .unset] [])) _
        refine XS.iconst X39.here hx rfl (hb hby at_122) ?_
        show Steps p.tables e below (T39.setTop (mkF m 123 #[.val (.int p1), .val (.int p2), .val (.int z2), .val (.int (0 : Int32)), .val (.int z6), .val (.ref b7), .val (.int (1 : Int32)), .val (.int (1 : Int32)), .unset] [(.int (1 : Int32))])) _
        refine XS.goto X39.here hx rfl (pc0 := 123) (pc' := 127) rfl (hb hby at_123) (by decide) (by decide) ?_
        show Steps p.tables e below (T39.setTop (mkF m 127 #[.val (.int p1), .val (.int p2), .val (.int z2), .val (.int (0 : Int32)), .val (.int z6), .val (.ref b7), .val (.int (1 : Int32)), .val (.int (1 : Int32)), .unset] [(.int (1 : Int32))])) _
        exact retN X39 hx (t := .boolean) hret (by simp) (hb hby at_127) hr
      ·
        show Q0 n0 _ T39.heap _
        rw [e41]
        exact ⟨rfl, N39⟩
    ·
      have hq45 : z4 = (1 : Int32) := (own_geq (n := 1) (k := (1 : Int32)) (by decide) (by have q0 := bz4; have q1 := own_neq (n := 0) (k := (0 : Int32)) (by decide) hc43; omega))
      have pre46 : ∀ t, Steps p.tables e below (T39.setTop (mkF m 109 #[.val (.int p1), .val (.int p2), .val (.int z2), .val (.int (1 : Int32)), .val (.int z6), .val (.ref b7), .val (.int (1 : Int32)), .val (.int (1 : Int32)), .unset] [(.int (1 : Int32))])) t → Steps p.tables e below (s₁.setTop (entryFrame m #[(.int p1), (.int p2)] maxLocals)) t := fun t k => pre42 t (by rw [hq45]; exact k)
      obtain ⟨cq47, kq47, q47a, q47b, q47c⟩ := isOf hZ e41 f23
      obtain ⟨_, _, ⟨T48, L48, c48, n48⟩, -, X48, ⟨Lc48, hQ48, l48, y48, z48⟩, st48⟩ := X39.virtualBack hx (y := (⟨"com/example/vorgang/vorgang/QueryTimeoutScope", "found", "(Z)V"⟩ : MethodName)) (z := (⟨"com/example/vorgang/vorgang/QueryTimeoutScope", "found", "(Z)V"⟩ : MethodName)) hown (mvT hZ (hw _ (List.mem_of_getElem? (i := 19) rfl))) (mvT hZ (hw _ (List.mem_of_getElem? (i := 20) rfl))) (notFace_of_selects (args := #[]) (mvT hZ (hw _ (List.mem_of_getElem? (i := 22) rfl)))) (mvT hZ (hw _ (List.mem_of_getElem? (i := 22) rfl))) (mvT hZ (hw _ (List.mem_of_getElem? (i := 21) rfl))) (by decide) (backOf (W := 0) (rm7 l Z a0 hw w1 w2 w3 G [] b7 z6 T18.heap n0 O18 g_b7 f23 f24) hZ (hw _ (List.mem_of_getElem? (i := 23) rfl)) (hw _ (List.mem_of_getElem? (i := 2) rfl)) (by decide) (by decide)) q47a q47c (g := (mkF m 132 #[.val (.int p1), .val (.int p2), .val (.int z2), .val (.int (1 : Int32)), .val (.int z6), .val (.ref b7), .val (.int (1 : Int32)), .val (.int (1 : Int32)), .unset] [(.int z6), (.ref b7)])) rfl (by rw [hml]; rfl) (Steps.refl _) (argsL := [(.int z6)]) (rest := []) (lenOf pd2 rfl) rfl (by show 2 * 0 + _ ≤ _; exact Nat.le_of_eq rfl) (hb hby at_132) (fun _ _ => ⟨rfl, e41, (by decide : 1 + 0 ≤ _), (by decide : 1 + 0 ≤ _)⟩)
      dsimp only [Pt.U, Pt.locs, Pt.cells, Pt.slots] at X48 l48 y48 z48 st48 hQ48
      subst l48 y48 z48
      have pre49 : ∀ t, Steps p.tables e below (T39.setTop (mkF m 132 #[.val (.int p1), .val (.int p2), .val (.int z2), .val (.int (1 : Int32)), .val (.int z6), .val (.ref b7), .val (.int (1 : Int32)), .val (.int (1 : Int32)), .unset] [(.int z6), (.ref b7)])) t → Steps p.tables e below (s₁.setTop (entryFrame m #[(.int p1), (.int p2)] maxLocals)) t := fun t k => by
        refine pre46 _ ?_
        show Steps p.tables e below (T39.setTop (mkF m 109 #[.val (.int p1), .val (.int p2), .val (.int z2), .val (.int (1 : Int32)), .val (.int z6), .val (.ref b7), .val (.int (1 : Int32)), .val (.int (1 : Int32)), .unset] [(.int (1 : Int32))])) _
        refine XS.ifYes X39.here hx rfl (pc0 := 109) (pc' := 128) rfl (hb hby at_109) rfl ((if0 _ _).trans (feq (by decide : ¬ ((1 : Int32) = (0 : Int32)))).2) (by decide) (by decide) ?_
        show Steps p.tables e below (T39.setTop (mkF m 128 #[.val (.int p1), .val (.int p2), .val (.int z2), .val (.int (1 : Int32)), .val (.int z6), .val (.ref b7), .val (.int (1 : Int32)), .val (.int (1 : Int32)), .unset] [])) _
        refine XS.aload X39.here hx rfl (hb hby at_128) rfl rfl ?_
        show Steps p.tables e below (T39.setTop (mkF m 130 #[.val (.int p1), .val (.int p2), .val (.int z2), .val (.int (1 : Int32)), .val (.int z6), .val (.ref b7), .val (.int (1 : Int32)), .val (.int (1 : Int32)), .unset] [(.ref b7)])) _
        refine XS.iload X39.here hx rfl (hb hby at_130) rfl ?_
        exact k
      have X48 : Stand p l e room_1 s m #[(.int p1), (.int p2)] below meth c T48 _ 1 1 := X48
      rcases hQ48 with ⟨hc50, rfl, Nq51, K52, f53, f54⟩ | ⟨hc55, rfl, Nq56, K57, f58, f59⟩
      ·
        have N48 := Fr.app N39 Nq51
        have M48 : h0.size ≤ T48.heap.size := Nat.le_trans M18 K52.1
        have O48 := Old.keep O18 K52 (allS g_b7 all0)
        obtain ⟨cq60, kq60, q60a, q60b, q60c⟩ := isOf hZ rfl f53
        obtain ⟨_, _, ⟨T61, L61, c61, n61⟩, -, X61, ⟨Lc61, hQ61, l61, y61, z61⟩, st61⟩ := X48.virtualBack hx (y := (⟨"com/example/vorgang/vorgang/QueryTimeoutScope", "isKnown", "()Z"⟩ : MethodName)) (z := (⟨"com/example/vorgang/vorgang/QueryTimeoutScope", "isKnown", "()Z"⟩ : MethodName)) hown (mvT hZ (hw _ (List.mem_of_getElem? (i := 14) rfl))) (mvT hZ (hw _ (List.mem_of_getElem? (i := 15) rfl))) (notFace_of_selects (args := #[]) (mvT hZ (hw _ (List.mem_of_getElem? (i := 17) rfl)))) (mvT hZ (hw _ (List.mem_of_getElem? (i := 17) rfl))) (mvT hZ (hw _ (List.mem_of_getElem? (i := 16) rfl))) (by decide) (backOf (W := 0) (rm4 l Z a0 hw w1 w2 w3 G [] b7 T48.heap n0 O48 g_b7 f54) hZ (hw _ (List.mem_of_getElem? (i := 18) rfl)) (hw _ (List.mem_of_getElem? (i := 2) rfl)) (by decide) (by decide)) q60a q60c (g := (mkF m 137 #[.val (.int p1), .val (.int p2), .val (.int z2), .val (.int (1 : Int32)), .val (.int z6), .val (.ref b7), .val (.int (1 : Int32)), .val (.int (1 : Int32)), .unset] [(.ref b7)])) rfl (by rw [hml]; rfl) (Steps.refl _) (argsL := []) (rest := []) (lenOf pd1 rfl) rfl (by show 2 * 0 + _ ≤ _; exact Nat.le_of_eq rfl) (hb hby at_137) (fun _ _ => ⟨rfl, rfl, (by decide : 1 + 0 ≤ _), (by decide : 1 + 0 ≤ _)⟩)
        dsimp only [Pt.U, Pt.locs, Pt.cells, Pt.slots] at X61 l61 y61 z61 st61 hQ61
        subst l61 y61 z61
        have X61 : Stand p l e room_1 s m #[(.int p1), (.int p2)] below meth c T61 _ 1 1 := X61
        obtain ⟨rfl, Nq62, e63⟩ := hQ61
        have N61 := Fr.app N48 Nq62
        obtain ⟨cq64, kq64, q64a, q64b, q64c⟩ := isOf hZ e63 f53
        obtain ⟨_, _, ⟨T65, L65, c65, n65⟩, -, X65, ⟨Lc65, hQ65, l65, y65, z65⟩, st65⟩ := X61.virtualBack hx (y := (⟨"com/example/vorgang/vorgang/QueryTimeoutScope", "isSession", "()Z"⟩ : MethodName)) (z := (⟨"com/example/vorgang/vorgang/QueryTimeoutScope", "isSession", "()Z"⟩ : MethodName)) hown (mvT hZ (hw _ (List.mem_of_getElem? (i := 26) rfl))) (mvT hZ (hw _ (List.mem_of_getElem? (i := 27) rfl))) (notFace_of_selects (args := #[]) (mvT hZ (hw _ (List.mem_of_getElem? (i := 29) rfl)))) (mvT hZ (hw _ (List.mem_of_getElem? (i := 29) rfl))) (mvT hZ (hw _ (List.mem_of_getElem? (i := 28) rfl))) (by decide) (backOf (W := 0) (rm5 l Z a0 hw w1 w2 w3 G [] b7 T48.heap n0 O48 g_b7 f54) hZ (hw _ (List.mem_of_getElem? (i := 30) rfl)) (hw _ (List.mem_of_getElem? (i := 2) rfl)) (by decide) (by decide)) q64a q64c (g := (mkF m 145 #[.val (.int p1), .val (.int p2), .val (.int z2), .val (.int (1 : Int32)), .val (.int z6), .val (.ref b7), .val (.int (1 : Int32)), .val (.int (1 : Int32)), .unset] [(.ref b7)])) rfl (by rw [hml]; rfl) (Steps.refl _) (argsL := []) (rest := []) (lenOf pd1 rfl) rfl (by show 2 * 0 + _ ≤ _; exact Nat.le_of_eq rfl) (hb hby at_145) (fun _ _ => ⟨rfl, e63, (by decide : 1 + 0 ≤ _), (by decide : 1 + 0 ≤ _)⟩)
        dsimp only [Pt.U, Pt.locs, Pt.cells, Pt.slots] at X65 l65 y65 z65 st65 hQ65
        subst l65 y65 z65
        have X65 : Stand p l e room_1 s m #[(.int p1), (.int p2)] below meth c T65 _ 1 1 := X65
        obtain ⟨rfl, Nq66, e67⟩ := hQ65
        have N65 := Fr.app N61 Nq66
        obtain ⟨cq68, kq68, q68a, q68b, q68c⟩ := isOf hZ e67 f53
        obtain ⟨_, _, ⟨T69, L69, c69, n69⟩, -, X69, ⟨Lc69, hQ69, l69, y69, z69⟩, st69⟩ := X65.virtualBack hx (y := (⟨"com/example/vorgang/vorgang/QueryTimeoutScope", "isStatement", "()Z"⟩ : MethodName)) (z := (⟨"com/example/vorgang/vorgang/QueryTimeoutScope", "isStatement", "()Z"⟩ : MethodName)) hown (mvT hZ (hw _ (List.mem_of_getElem? (i := 33) rfl))) (mvT hZ (hw _ (List.mem_of_getElem? (i := 34) rfl))) (notFace_of_selects (args := #[]) (mvT hZ (hw _ (List.mem_of_getElem? (i := 36) rfl)))) (mvT hZ (hw _ (List.mem_of_getElem? (i := 36) rfl))) (mvT hZ (hw _ (List.mem_of_getElem? (i := 35) rfl))) (by decide) (backOf (W := 0) (rm6 l Z a0 hw w1 w2 w3 G [] b7 T48.heap n0 O48 g_b7 f54) hZ (hw _ (List.mem_of_getElem? (i := 37) rfl)) (hw _ (List.mem_of_getElem? (i := 2) rfl)) (by decide) (by decide)) q68a q68c (g := (mkF m 155 #[.val (.int p1), .val (.int p2), .val (.int z2), .val (.int (1 : Int32)), .val (.int z6), .val (.ref b7), .val (.int (1 : Int32)), .val (.int (1 : Int32)), .unset] [(.ref b7)])) rfl (by rw [hml]; rfl) (Steps.refl _) (argsL := []) (rest := []) (lenOf pd1 rfl) rfl (by show 2 * 0 + _ ≤ _; exact Nat.le_of_eq rfl) (hb hby at_155) (fun _ _ => ⟨rfl, e67, (by decide : 1 + 0 ≤ _), (by decide : 1 + 0 ≤ _)⟩)
        dsimp only [Pt.U, Pt.locs, Pt.cells, Pt.slots] at X69 l69 y69 z69 st69 hQ69
        subst l69 y69 z69
        have X69 : Stand p l e room_1 s m #[(.int p1), (.int p2)] below meth c T69 _ 1 1 := X69
        obtain ⟨rfl, Nq70, e71⟩ := hQ69
        have N69 := Fr.app N65 Nq70
        obtain ⟨fs, hr, hrun, hended, hW, hsame⟩ := X69.leave (v := some (.int (1 : Int32))) (fun h => by rw [hret] at h; cases h)
        refine ⟨_, _, pre49 _ ?_, hrun, hended, _, _, rfl, ?_, ⟨_, rfl⟩, hW, hsame.mono (by decide) (by decide)⟩
        ·
          show Steps p.tables e below (T39.setTop (mkF m 132 #[.val (.int p1), .val (.int p2), .val (.int z2), .val (.int (1 : Int32)), .val (.int z6), .val (.ref b7), .val (.int (1 : Int32)), .val (.int (1 : Int32)), .unset] [(.int z6), (.ref b7)])) _
          refine st48.trans ?_
          show Steps p.tables e below (T48.setTop (mkF m 135 #[.val (.int p1), .val (.int p2), .val (.int z2), .val (.int (1 : Int32)), .val (.int z6), .val (.ref b7), .val (.int (1 : Int32)), .val (.int (1 : Int32)), .unset] [])) _
          refine XS.aload X48.here hx rfl (hb hby at_135) rfl rfl ?_
          show Steps p.tables e below (T48.setTop (mkF m 137 #[.val (.int p1), .val (.int p2), .val (.int z2), .val (.int (1 : Int32)), .val (.int z6), .val (.ref b7), .val (.int (1 : Int32)), .val (.int (1 : Int32)), .unset] [(.ref b7)])) _
          refine st61.trans ?_
          show Steps p.tables e below (T61.setTop (mkF m 140 #[.val (.int p1), .val (.int p2), .val (.int z2), .val (.int (1 : Int32)), .val (.int z6), .val (.ref b7), .val (.int (1 : Int32)), .val (.int (1 : Int32)), .unset] [(.int (1 : Int32))])) _
          refine XS.ifNo X61.here hx rfl (hb hby at_140) rfl ((if0 _ _).trans (feq (by decide : ¬ ((1 : Int32) = (0 : Int32)))).1) ?_
          show Steps p.tables e below (T61.setTop (mkF m 143 #[.val (.int p1), .val (.int p2), .val (.int z2), .val (.int (1 : Int32)), .val (.int z6), .val (.ref b7), .val (.int (1 : Int32)), .val (.int (1 : Int32)), .unset] [])) _
          refine XS.aload X61.here hx rfl (hb hby at_143) rfl rfl ?_
          show Steps p.tables e below (T61.setTop (mkF m 145 #[.val (.int p1), .val (.int p2), .val (.int z2), .val (.int (1 : Int32)), .val (.int z6), .val (.ref b7), .val (.int (1 : Int32)), .val (.int (1 : Int32)), .unset] [(.ref b7)])) _
          refine st65.trans ?_
          show Steps p.tables e below (T65.setTop (mkF m 148 #[.val (.int p1), .val (.int p2), .val (.int z2), .val (.int (1 : Int32)), .val (.int z6), .val (.ref b7), .val (.int (1 : Int32)), .val (.int (1 : Int32)), .unset] [(.int (0 : Int32))])) _
          refine XS.iload X65.here hx rfl (hb hby at_148) rfl ?_
          show Steps p.tables e below (T65.setTop (mkF m 150 #[.val (.int p1), .val (.int p2), .val (.int z2), .val (.int (1 : Int32)), .val (.int z6), .val (.ref b7), .val (.int (1 : Int32)), .val (.int (1 : Int32)), .unset] [(.int z6), (.int (0 : Int32))])) _
          refine XS.icmpNo X65.here hx rfl (hb hby at_150) rfl (teq (hc50).symm).2 ?_
          show Steps p.tables e below (T65.setTop (mkF m 153 #[.val (.int p1), .val (.int p2), .val (.int z2), .val (.int (1 : Int32)), .val (.int z6), .val (.ref b7), .val (.int (1 : Int32)), .val (.int (1 : Int32)), .unset] [])) _
          refine XS.aload X65.here hx rfl (hb hby at_153) rfl rfl ?_
          show Steps p.tables e below (T65.setTop (mkF m 155 #[.val (.int p1), .val (.int p2), .val (.int z2), .val (.int (1 : Int32)), .val (.int z6), .val (.ref b7), .val (.int (1 : Int32)), .val (.int (1 : Int32)), .unset] [(.ref b7)])) _
          refine st69.trans ?_
          show Steps p.tables e below (T69.setTop (mkF m 158 #[.val (.int p1), .val (.int p2), .val (.int z2), .val (.int (1 : Int32)), .val (.int z6), .val (.ref b7), .val (.int (1 : Int32)), .val (.int (1 : Int32)), .unset] [(.int (1 : Int32))])) _
          refine XS.iload X69.here hx rfl (hb hby at_158) rfl ?_
          show Steps p.tables e below (T69.setTop (mkF m 160 #[.val (.int p1), .val (.int p2), .val (.int z2), .val (.int (1 : Int32)), .val (.int z6), .val (.ref b7), .val (.int (1 : Int32)), .val (.int (1 : Int32)), .unset] [(.int z6), (.int (1 : Int32))])) _
          refine XS.ifNo X69.here hx rfl (hb hby at_160) rfl ((if0 _ _).trans (teq hc50).2) ?_
          show Steps p.tables e below (T69.setTop (mkF m 163 #[.val (.int p1), .val (.int p2), .val (.int z2), .val (.int (1 : Int32)), .val (.int z6), .val (.ref b7), .val (.int (1 : Int32)), .val (.int (1 : Int32)), .unset] [(.int (1 : Int32))])) _
          refine XS.iconst X69.here hx rfl (hb hby at_163) ?_
          show Steps p.tables e below (T69.setTop (mkF m 164 #[.val (.int p1), .val (.int p2), .val (.int z2), .val (.int (1 : Int32)), .val (.int z6), .val (.ref b7), .val (.int (1 : Int32)), .val (.int (1 : Int32)), .unset] [(.int (1 : Int32)), (.int (1 : Int32))])) _
          refine XS.goto X69.here hx rfl (pc0 := 164) (pc' := 168) rfl (hb hby at_164) (by decide) (by decide) ?_
          show Steps p.tables e below (T69.setTop (mkF m 168 #[.val (.int p1), .val (.int p2), .val (.int z2), .val (.int (1 : Int32)), .val (.int z6), .val (.ref b7), .val (.int (1 : Int32)), .val (.int (1 : Int32)), .unset] [(.int (1 : Int32)), (.int (1 : Int32))])) _
          refine XS.icmpNo X69.here hx rfl (hb hby at_168) rfl (teq (by decide : (1 : Int32) = (1 : Int32))).2 ?_
          show Steps p.tables e below (T69.setTop (mkF m 171 #[.val (.int p1), .val (.int p2), .val (.int z2), .val (.int (1 : Int32)), .val (.int z6), .val (.ref b7), .val (.int (1 : Int32)), .val (.int (1 : Int32)), .unset] [])) _
          refine XS.iconst X69.here hx rfl (hb hby at_171) ?_
          show Steps p.tables e below (T69.setTop (mkF m 172 #[.val (.int p1), .val (.int p2), .val (.int z2), .val (.int (1 : Int32)), .val (.int z6), .val (.ref b7), .val (.int (1 : Int32)), .val (.int (1 : Int32)), .unset] [(.int (1 : Int32))])) _
          refine XS.goto X69.here hx rfl (pc0 := 172) (pc' := 176) rfl (hb hby at_172) (by decide) (by decide) ?_
          show Steps p.tables e below (T69.setTop (mkF m 176 #[.val (.int p1), .val (.int p2), .val (.int z2), .val (.int (1 : Int32)), .val (.int z6), .val (.ref b7), .val (.int (1 : Int32)), .val (.int (1 : Int32)), .unset] [(.int (1 : Int32))])) _
          refine XS.istore X69.here hx rfl (hb hby at_176) rfl (l' := #[.val (.int p1), .val (.int p2), .val (.int z2), .val (.int (1 : Int32)), .val (.int z6), .val (.ref b7), .val (.int (1 : Int32)), .val (.int (1 : Int32)), .val (.int (1 : Int32))]) rfl ?_
          show Steps p.tables e below (T69.setTop (mkF m 178 #[.val (.int p1), .val (.int p2), .val (.int z2), .val (.int (1 : Int32)), .val (.int z6), .val (.ref b7), .val (.int (1 : Int32)), .val (.int (1 : Int32)), .val (.int (1 : Int32))] [])) _
          refine XS.iload X69.here hx rfl (hb hby at_178) rfl ?_
          show Steps p.tables e below (T69.setTop (mkF m 180 #[.val (.int p1), .val (.int p2), .val (.int z2), .val (.int (1 : Int32)), .val (.int z6), .val (.ref b7), .val (.int (1 : Int32)), .val (.int (1 : Int32)), .val (.int (1 : Int32))] [(.int (1 : Int32))])) _
          refine XS.ifNo X69.here hx rfl (hb hby at_180) rfl ((if0 _ _).trans (feq (by decide : ¬ ((1 : Int32) = (0 : Int32)))).1) ?_
          show Steps p.tables e below (T69.setTop (mkF m 183 #[.val (.int p1), .val (.int p2), .val (.int z2), .val (.int (1 : Int32)), .val (.int z6), .val (.ref b7), .val (.int (1 : Int32)), .val (.int (1 : Int32)), .val (.int (1 : Int32))] [])) _
          refine XS.iload X69.here hx rfl (hb hby at_183) rfl ?_
          show Steps p.tables e below (T69.setTop (mkF m 185 #[.val (.int p1), .val (.int p2), .val (.int z2), .val (.int (1 : Int32)), .val (.int z6), .val (.ref b7), .val (.int (1 : Int32)), .val (.int (1 : Int32)), .val (.int (1 : Int32))] [(.int (1 : Int32))])) _
          refine XS.ifNo X69.here hx rfl (hb hby at_185) rfl ((if0 _ _).trans (feq (by decide : ¬ ((1 : Int32) = (0 : Int32)))).1) ?_
          show Steps p.tables e below (T69.setTop (mkF m 188 #[.val (.int p1), .val (.int p2), .val (.int z2), .val (.int (1 : Int32)), .val (.int z6), .val (.ref b7), .val (.int (1 : Int32)), .val (.int (1 : Int32)), .val (.int (1 : Int32))] [])) _
          refine XS.iload X69.here hx rfl (hb hby at_188) rfl ?_
          show Steps p.tables e below (T69.setTop (mkF m 190 #[.val (.int p1), .val (.int p2), .val (.int z2), .val (.int (1 : Int32)), .val (.int z6), .val (.ref b7), .val (.int (1 : Int32)), .val (.int (1 : Int32)), .val (.int (1 : Int32))] [(.int (1 : Int32))])) _
          refine XS.ifNo X69.here hx rfl (hb hby at_190) rfl ((if0 _ _).trans (feq (by decide : ¬ ((1 : Int32) = (0 : Int32)))).1) ?_
          show Steps p.tables e below (T69.setTop (mkF m 193 #[.val (.int p1), .val (.int p2), .val (.int z2), .val (.int (1 : Int32)), .val (.int z6), .val (.ref b7), .val (.int (1 : Int32)), .val (.int (1 : Int32)), .val (.int (1 : Int32))] [])) _
          refine XS.iconst X69.here hx rfl (hb hby at_193) ?_
          show Steps p.tables e below (T69.setTop (mkF m 194 #[.val (.int p1), .val (.int p2), .val (.int z2), .val (.int (1 : Int32)), .val (.int z6), .val (.ref b7), .val (.int (1 : Int32)), .val (.int (1 : Int32)), .val (.int (1 : Int32))] [(.int (1 : Int32))])) _
          refine XS.goto X69.here hx rfl (pc0 := 194) (pc' := 198) rfl (hb hby at_194) (by decide) (by decide) ?_
          show Steps p.tables e below (T69.setTop (mkF m 198 #[.val (.int p1), .val (.int p2), .val (.int z2), .val (.int (1 : Int32)), .val (.int z6), .val (.ref b7), .val (.int (1 : Int32)), .val (.int (1 : Int32)), .val (.int (1 : Int32))] [(.int (1 : Int32))])) _
          exact retN X69 hx (t := .boolean) hret (by simp) (hb hby at_198) hr
        ·
          show Q0 n0 _ T69.heap _
          rw [e71]
          exact ⟨rfl, N69⟩
      ·
        have N48 := Fr.app N39 Nq56
        have M48 : h0.size ≤ T48.heap.size := Nat.le_trans M18 K57.1
        have O48 := Old.keep O18 K57 (allS g_b7 all0)
        obtain ⟨cq72, kq72, q72a, q72b, q72c⟩ := isOf hZ rfl f58
        obtain ⟨_, _, ⟨T73, L73, c73, n73⟩, -, X73, ⟨Lc73, hQ73, l73, y73, z73⟩, st73⟩ := X48.virtualBack hx (y := (⟨"com/example/vorgang/vorgang/QueryTimeoutScope", "isKnown", "()Z"⟩ : MethodName)) (z := (⟨"com/example/vorgang/vorgang/QueryTimeoutScope", "isKnown", "()Z"⟩ : MethodName)) hown (mvT hZ (hw _ (List.mem_of_getElem? (i := 14) rfl))) (mvT hZ (hw _ (List.mem_of_getElem? (i := 15) rfl))) (notFace_of_selects (args := #[]) (mvT hZ (hw _ (List.mem_of_getElem? (i := 17) rfl)))) (mvT hZ (hw _ (List.mem_of_getElem? (i := 17) rfl))) (mvT hZ (hw _ (List.mem_of_getElem? (i := 16) rfl))) (by decide) (backOf (W := 0) (rm8 l Z a0 hw w1 w2 w3 G [] b7 T48.heap n0 O48 g_b7 f59) hZ (hw _ (List.mem_of_getElem? (i := 18) rfl)) (hw _ (List.mem_of_getElem? (i := 2) rfl)) (by decide) (by decide)) q72a q72c (g := (mkF m 137 #[.val (.int p1), .val (.int p2), .val (.int z2), .val (.int (1 : Int32)), .val (.int z6), .val (.ref b7), .val (.int (1 : Int32)), .val (.int (1 : Int32)), .unset] [(.ref b7)])) rfl (by rw [hml]; rfl) (Steps.refl _) (argsL := []) (rest := []) (lenOf pd1 rfl) rfl (by show 2 * 0 + _ ≤ _; exact Nat.le_of_eq rfl) (hb hby at_137) (fun _ _ => ⟨rfl, rfl, (by decide : 1 + 0 ≤ _), (by decide : 1 + 0 ≤ _)⟩)
        dsimp only [Pt.U, Pt.locs, Pt.cells, Pt.slots] at X73 l73 y73 z73 st73 hQ73
        subst l73 y73 z73
        have X73 : Stand p l e room_1 s m #[(.int p1), (.int p2)] below meth c T73 _ 1 1 := X73
        obtain ⟨rfl, Nq74, e75⟩ := hQ73
        have N73 := Fr.app N48 Nq74
        obtain ⟨cq76, kq76, q76a, q76b, q76c⟩ := isOf hZ e75 f58
        obtain ⟨_, _, ⟨T77, L77, c77, n77⟩, -, X77, ⟨Lc77, hQ77, l77, y77, z77⟩, st77⟩ := X73.virtualBack hx (y := (⟨"com/example/vorgang/vorgang/QueryTimeoutScope", "isSession", "()Z"⟩ : MethodName)) (z := (⟨"com/example/vorgang/vorgang/QueryTimeoutScope", "isSession", "()Z"⟩ : MethodName)) hown (mvT hZ (hw _ (List.mem_of_getElem? (i := 26) rfl))) (mvT hZ (hw _ (List.mem_of_getElem? (i := 27) rfl))) (notFace_of_selects (args := #[]) (mvT hZ (hw _ (List.mem_of_getElem? (i := 29) rfl)))) (mvT hZ (hw _ (List.mem_of_getElem? (i := 29) rfl))) (mvT hZ (hw _ (List.mem_of_getElem? (i := 28) rfl))) (by decide) (backOf (W := 0) (rm9 l Z a0 hw w1 w2 w3 G [] b7 T48.heap n0 O48 g_b7 f59) hZ (hw _ (List.mem_of_getElem? (i := 30) rfl)) (hw _ (List.mem_of_getElem? (i := 2) rfl)) (by decide) (by decide)) q76a q76c (g := (mkF m 145 #[.val (.int p1), .val (.int p2), .val (.int z2), .val (.int (1 : Int32)), .val (.int z6), .val (.ref b7), .val (.int (1 : Int32)), .val (.int (1 : Int32)), .unset] [(.ref b7)])) rfl (by rw [hml]; rfl) (Steps.refl _) (argsL := []) (rest := []) (lenOf pd1 rfl) rfl (by show 2 * 0 + _ ≤ _; exact Nat.le_of_eq rfl) (hb hby at_145) (fun _ _ => ⟨rfl, e75, (by decide : 1 + 0 ≤ _), (by decide : 1 + 0 ≤ _)⟩)
        dsimp only [Pt.U, Pt.locs, Pt.cells, Pt.slots] at X77 l77 y77 z77 st77 hQ77
        subst l77 y77 z77
        have X77 : Stand p l e room_1 s m #[(.int p1), (.int p2)] below meth c T77 _ 1 1 := X77
        obtain ⟨rfl, Nq78, e79⟩ := hQ77
        have N77 := Fr.app N73 Nq78
        obtain ⟨cq80, kq80, q80a, q80b, q80c⟩ := isOf hZ e79 f58
        obtain ⟨_, _, ⟨T81, L81, c81, n81⟩, -, X81, ⟨Lc81, hQ81, l81, y81, z81⟩, st81⟩ := X77.virtualBack hx (y := (⟨"com/example/vorgang/vorgang/QueryTimeoutScope", "isStatement", "()Z"⟩ : MethodName)) (z := (⟨"com/example/vorgang/vorgang/QueryTimeoutScope", "isStatement", "()Z"⟩ : MethodName)) hown (mvT hZ (hw _ (List.mem_of_getElem? (i := 33) rfl))) (mvT hZ (hw _ (List.mem_of_getElem? (i := 34) rfl))) (notFace_of_selects (args := #[]) (mvT hZ (hw _ (List.mem_of_getElem? (i := 36) rfl)))) (mvT hZ (hw _ (List.mem_of_getElem? (i := 36) rfl))) (mvT hZ (hw _ (List.mem_of_getElem? (i := 35) rfl))) (by decide) (backOf (W := 0) (rm10 l Z a0 hw w1 w2 w3 G [] b7 T48.heap n0 O48 g_b7 f59) hZ (hw _ (List.mem_of_getElem? (i := 37) rfl)) (hw _ (List.mem_of_getElem? (i := 2) rfl)) (by decide) (by decide)) q80a q80c (g := (mkF m 155 #[.val (.int p1), .val (.int p2), .val (.int z2), .val (.int (1 : Int32)), .val (.int z6), .val (.ref b7), .val (.int (1 : Int32)), .val (.int (1 : Int32)), .unset] [(.ref b7)])) rfl (by rw [hml]; rfl) (Steps.refl _) (argsL := []) (rest := []) (lenOf pd1 rfl) rfl (by show 2 * 0 + _ ≤ _; exact Nat.le_of_eq rfl) (hb hby at_155) (fun _ _ => ⟨rfl, e79, (by decide : 1 + 0 ≤ _), (by decide : 1 + 0 ≤ _)⟩)
        dsimp only [Pt.U, Pt.locs, Pt.cells, Pt.slots] at X81 l81 y81 z81 st81 hQ81
        subst l81 y81 z81
        have X81 : Stand p l e room_1 s m #[(.int p1), (.int p2)] below meth c T81 _ 1 1 := X81
        obtain ⟨rfl, Nq82, e83⟩ := hQ81
        have N81 := Fr.app N77 Nq82
        obtain ⟨fs, hr, hrun, hended, hW, hsame⟩ := X81.leave (v := some (.int (1 : Int32))) (fun h => by rw [hret] at h; cases h)
        refine ⟨_, _, pre49 _ ?_, hrun, hended, _, _, rfl, ?_, ⟨_, rfl⟩, hW, hsame.mono (by decide) (by decide)⟩
        ·
          show Steps p.tables e below (T39.setTop (mkF m 132 #[.val (.int p1), .val (.int p2), .val (.int z2), .val (.int (1 : Int32)), .val (.int z6), .val (.ref b7), .val (.int (1 : Int32)), .val (.int (1 : Int32)), .unset] [(.int z6), (.ref b7)])) _
          refine st48.trans ?_
          show Steps p.tables e below (T48.setTop (mkF m 135 #[.val (.int p1), .val (.int p2), .val (.int z2), .val (.int (1 : Int32)), .val (.int z6), .val (.ref b7), .val (.int (1 : Int32)), .val (.int (1 : Int32)), .unset] [])) _
          refine XS.aload X48.here hx rfl (hb hby at_135) rfl rfl ?_
          show Steps p.tables e below (T48.setTop (mkF m 137 #[.val (.int p1), .val (.int p2), .val (.int z2), .val (.int (1 : Int32)), .val (.int z6), .val (.ref b7), .val (.int (1 : Int32)), .val (.int (1 : Int32)), .unset] [(.ref b7)])) _
          refine st73.trans ?_
          show Steps p.tables e below (T73.setTop (mkF m 140 #[.val (.int p1), .val (.int p2), .val (.int z2), .val (.int (1 : Int32)), .val (.int z6), .val (.ref b7), .val (.int (1 : Int32)), .val (.int (1 : Int32)), .unset] [(.int (1 : Int32))])) _
          refine XS.ifNo X73.here hx rfl (hb hby at_140) rfl ((if0 _ _).trans (feq (by decide : ¬ ((1 : Int32) = (0 : Int32)))).1) ?_
          show Steps p.tables e below (T73.setTop (mkF m 143 #[.val (.int p1), .val (.int p2), .val (.int z2), .val (.int (1 : Int32)), .val (.int z6), .val (.ref b7), .val (.int (1 : Int32)), .val (.int (1 : Int32)), .unset] [])) _
          refine XS.aload X73.here hx rfl (hb hby at_143) rfl rfl ?_
          show Steps p.tables e below (T73.setTop (mkF m 145 #[.val (.int p1), .val (.int p2), .val (.int z2), .val (.int (1 : Int32)), .val (.int z6), .val (.ref b7), .val (.int (1 : Int32)), .val (.int (1 : Int32)), .unset] [(.ref b7)])) _
          refine st77.trans ?_
          show Steps p.tables e below (T77.setTop (mkF m 148 #[.val (.int p1), .val (.int p2), .val (.int z2), .val (.int (1 : Int32)), .val (.int z6), .val (.ref b7), .val (.int (1 : Int32)), .val (.int (1 : Int32)), .unset] [(.int (1 : Int32))])) _
          refine XS.iload X77.here hx rfl (hb hby at_148) rfl ?_
          show Steps p.tables e below (T77.setTop (mkF m 150 #[.val (.int p1), .val (.int p2), .val (.int z2), .val (.int (1 : Int32)), .val (.int z6), .val (.ref b7), .val (.int (1 : Int32)), .val (.int (1 : Int32)), .unset] [(.int z6), (.int (1 : Int32))])) _
          refine XS.icmpNo X77.here hx rfl (hb hby at_150) rfl (teq ((own_geq (n := 1) (k := (1 : Int32)) (by decide) (by have q0 := bz6; have q1 := own_neq (n := 0) (k := (0 : Int32)) (by decide) hc55; omega))).symm).2 ?_
          show Steps p.tables e below (T77.setTop (mkF m 153 #[.val (.int p1), .val (.int p2), .val (.int z2), .val (.int (1 : Int32)), .val (.int z6), .val (.ref b7), .val (.int (1 : Int32)), .val (.int (1 : Int32)), .unset] [])) _
          refine XS.aload X77.here hx rfl (hb hby at_153) rfl rfl ?_
          show Steps p.tables e below (T77.setTop (mkF m 155 #[.val (.int p1), .val (.int p2), .val (.int z2), .val (.int (1 : Int32)), .val (.int z6), .val (.ref b7), .val (.int (1 : Int32)), .val (.int (1 : Int32)), .unset] [(.ref b7)])) _
          refine st81.trans ?_
          show Steps p.tables e below (T81.setTop (mkF m 158 #[.val (.int p1), .val (.int p2), .val (.int z2), .val (.int (1 : Int32)), .val (.int z6), .val (.ref b7), .val (.int (1 : Int32)), .val (.int (1 : Int32)), .unset] [(.int (0 : Int32))])) _
          refine XS.iload X81.here hx rfl (hb hby at_158) rfl ?_
          show Steps p.tables e below (T81.setTop (mkF m 160 #[.val (.int p1), .val (.int p2), .val (.int z2), .val (.int (1 : Int32)), .val (.int z6), .val (.ref b7), .val (.int (1 : Int32)), .val (.int (1 : Int32)), .unset] [(.int z6), (.int (0 : Int32))])) _
          refine XS.ifYes X81.here hx rfl (pc0 := 160) (pc' := 167) rfl (hb hby at_160) rfl ((if0 _ _).trans (feq hc55).2) (by decide) (by decide) ?_
          show Steps p.tables e below (T81.setTop (mkF m 167 #[.val (.int p1), .val (.int p2), .val (.int z2), .val (.int (1 : Int32)), .val (.int z6), .val (.ref b7), .val (.int (1 : Int32)), .val (.int (1 : Int32)), .unset] [(.int (0 : Int32))])) _
          refine XS.iconst X81.here hx rfl (hb hby at_167) ?_
          show Steps p.tables e below (T81.setTop (mkF m 168 #[.val (.int p1), .val (.int p2), .val (.int z2), .val (.int (1 : Int32)), .val (.int z6), .val (.ref b7), .val (.int (1 : Int32)), .val (.int (1 : Int32)), .unset] [(.int (0 : Int32)), (.int (0 : Int32))])) _
          refine XS.icmpNo X81.here hx rfl (hb hby at_168) rfl (teq (by decide : (0 : Int32) = (0 : Int32))).2 ?_
          show Steps p.tables e below (T81.setTop (mkF m 171 #[.val (.int p1), .val (.int p2), .val (.int z2), .val (.int (1 : Int32)), .val (.int z6), .val (.ref b7), .val (.int (1 : Int32)), .val (.int (1 : Int32)), .unset] [])) _
          refine XS.iconst X81.here hx rfl (hb hby at_171) ?_
          show Steps p.tables e below (T81.setTop (mkF m 172 #[.val (.int p1), .val (.int p2), .val (.int z2), .val (.int (1 : Int32)), .val (.int z6), .val (.ref b7), .val (.int (1 : Int32)), .val (.int (1 : Int32)), .unset] [(.int (1 : Int32))])) _
          refine XS.goto X81.here hx rfl (pc0 := 172) (pc' := 176) rfl (hb hby at_172) (by decide) (by decide) ?_
          show Steps p.tables e below (T81.setTop (mkF m 176 #[.val (.int p1), .val (.int p2), .val (.int z2), .val (.int (1 : Int32)), .val (.int z6), .val (.ref b7), .val (.int (1 : Int32)), .val (.int (1 : Int32)), .unset] [(.int (1 : Int32))])) _
          refine XS.istore X81.here hx rfl (hb hby at_176) rfl (l' := #[.val (.int p1), .val (.int p2), .val (.int z2), .val (.int (1 : Int32)), .val (.int z6), .val (.ref b7), .val (.int (1 : Int32)), .val (.int (1 : Int32)), .val (.int (1 : Int32))]) rfl ?_
          show Steps p.tables e below (T81.setTop (mkF m 178 #[.val (.int p1), .val (.int p2), .val (.int z2), .val (.int (1 : Int32)), .val (.int z6), .val (.ref b7), .val (.int (1 : Int32)), .val (.int (1 : Int32)), .val (.int (1 : Int32))] [])) _
          refine XS.iload X81.here hx rfl (hb hby at_178) rfl ?_
          show Steps p.tables e below (T81.setTop (mkF m 180 #[.val (.int p1), .val (.int p2), .val (.int z2), .val (.int (1 : Int32)), .val (.int z6), .val (.ref b7), .val (.int (1 : Int32)), .val (.int (1 : Int32)), .val (.int (1 : Int32))] [(.int (1 : Int32))])) _
          refine XS.ifNo X81.here hx rfl (hb hby at_180) rfl ((if0 _ _).trans (feq (by decide : ¬ ((1 : Int32) = (0 : Int32)))).1) ?_
          show Steps p.tables e below (T81.setTop (mkF m 183 #[.val (.int p1), .val (.int p2), .val (.int z2), .val (.int (1 : Int32)), .val (.int z6), .val (.ref b7), .val (.int (1 : Int32)), .val (.int (1 : Int32)), .val (.int (1 : Int32))] [])) _
          refine XS.iload X81.here hx rfl (hb hby at_183) rfl ?_
          show Steps p.tables e below (T81.setTop (mkF m 185 #[.val (.int p1), .val (.int p2), .val (.int z2), .val (.int (1 : Int32)), .val (.int z6), .val (.ref b7), .val (.int (1 : Int32)), .val (.int (1 : Int32)), .val (.int (1 : Int32))] [(.int (1 : Int32))])) _
          refine XS.ifNo X81.here hx rfl (hb hby at_185) rfl ((if0 _ _).trans (feq (by decide : ¬ ((1 : Int32) = (0 : Int32)))).1) ?_
          show Steps p.tables e below (T81.setTop (mkF m 188 #[.val (.int p1), .val (.int p2), .val (.int z2), .val (.int (1 : Int32)), .val (.int z6), .val (.ref b7), .val (.int (1 : Int32)), .val (.int (1 : Int32)), .val (.int (1 : Int32))] [])) _
          refine XS.iload X81.here hx rfl (hb hby at_188) rfl ?_
          show Steps p.tables e below (T81.setTop (mkF m 190 #[.val (.int p1), .val (.int p2), .val (.int z2), .val (.int (1 : Int32)), .val (.int z6), .val (.ref b7), .val (.int (1 : Int32)), .val (.int (1 : Int32)), .val (.int (1 : Int32))] [(.int (1 : Int32))])) _
          refine XS.ifNo X81.here hx rfl (hb hby at_190) rfl ((if0 _ _).trans (feq (by decide : ¬ ((1 : Int32) = (0 : Int32)))).1) ?_
          show Steps p.tables e below (T81.setTop (mkF m 193 #[.val (.int p1), .val (.int p2), .val (.int z2), .val (.int (1 : Int32)), .val (.int z6), .val (.ref b7), .val (.int (1 : Int32)), .val (.int (1 : Int32)), .val (.int (1 : Int32))] [])) _
          refine XS.iconst X81.here hx rfl (hb hby at_193) ?_
          show Steps p.tables e below (T81.setTop (mkF m 194 #[.val (.int p1), .val (.int p2), .val (.int z2), .val (.int (1 : Int32)), .val (.int z6), .val (.ref b7), .val (.int (1 : Int32)), .val (.int (1 : Int32)), .val (.int (1 : Int32))] [(.int (1 : Int32))])) _
          refine XS.goto X81.here hx rfl (pc0 := 194) (pc' := 198) rfl (hb hby at_194) (by decide) (by decide) ?_
          show Steps p.tables e below (T81.setTop (mkF m 198 #[.val (.int p1), .val (.int p2), .val (.int z2), .val (.int (1 : Int32)), .val (.int z6), .val (.ref b7), .val (.int (1 : Int32)), .val (.int (1 : Int32)), .val (.int (1 : Int32))] [(.int (1 : Int32))])) _
          exact retN X81 hx (t := .boolean) hret (by simp) (hb hby at_198) hr
        ·
          show Q0 n0 _ T81.heap _
          rw [e83]
          exact ⟨rfl, N81⟩
  ·
    have N18 := Fr.app N14 Nq26
    have M18 : h0.size ≤ T18.heap.size := Nat.le_trans M8 K27.1
    have O18 := Old.keep O8 K27 (allS g_b7 all0)
    obtain ⟨cq84, kq84, q84a, q84b, q84c⟩ := isOf hZ rfl f28
    obtain ⟨_, _, ⟨T85, L85, c85, n85⟩, -, X85, ⟨Lc85, hQ85, l85, y85, z85⟩, st85⟩ := X18.virtualBack hx (y := (⟨"com/example/vorgang/vorgang/QueryTimeoutScope", "isKnown", "()Z"⟩ : MethodName)) (z := (⟨"com/example/vorgang/vorgang/QueryTimeoutScope", "isKnown", "()Z"⟩ : MethodName)) hown (mvT hZ (hw _ (List.mem_of_getElem? (i := 14) rfl))) (mvT hZ (hw _ (List.mem_of_getElem? (i := 15) rfl))) (notFace_of_selects (args := #[]) (mvT hZ (hw _ (List.mem_of_getElem? (i := 17) rfl)))) (mvT hZ (hw _ (List.mem_of_getElem? (i := 17) rfl))) (mvT hZ (hw _ (List.mem_of_getElem? (i := 16) rfl))) (by decide) (backOf (W := 0) (rm8 l Z a0 hw w1 w2 w3 G [] b7 T18.heap n0 O18 g_b7 f29) hZ (hw _ (List.mem_of_getElem? (i := 18) rfl)) (hw _ (List.mem_of_getElem? (i := 2) rfl)) (by decide) (by decide)) q84a q84c (g := (mkF m 69 #[.val (.int p1), .val (.int p2), .val (.int z2), .val (.int z4), .val (.int z6), .val (.ref b7), .val (.int (1 : Int32)), .unset, .unset] [(.ref b7)])) rfl (by rw [hml]; rfl) (Steps.refl _) (argsL := []) (rest := []) (lenOf pd1 rfl) rfl (by show 2 * 0 + _ ≤ _; exact Nat.le_of_eq rfl) (hb hby at_69) (fun _ _ => ⟨rfl, rfl, (by decide : 1 + 0 ≤ _), (by decide : 1 + 0 ≤ _)⟩)
    dsimp only [Pt.U, Pt.locs, Pt.cells, Pt.slots] at X85 l85 y85 z85 st85 hQ85
    subst l85 y85 z85
    have X85 : Stand p l e room_1 s m #[(.int p1), (.int p2)] below meth c T85 _ 1 1 := X85
    obtain ⟨rfl, Nq86, e87⟩ := hQ85
    have N85 := Fr.app N18 Nq86
    obtain ⟨cq88, kq88, q88a, q88b, q88c⟩ := isOf hZ e87 f28
    obtain ⟨_, _, ⟨T89, L89, c89, n89⟩, -, X89, ⟨Lc89, hQ89, l89, y89, z89⟩, st89⟩ := X85.virtualBack hx (y := (⟨"com/example/vorgang/vorgang/QueryTimeoutScope", "isSession", "()Z"⟩ : MethodName)) (z := (⟨"com/example/vorgang/vorgang/QueryTimeoutScope", "isSession", "()Z"⟩ : MethodName)) hown (mvT hZ (hw _ (List.mem_of_getElem? (i := 26) rfl))) (mvT hZ (hw _ (List.mem_of_getElem? (i := 27) rfl))) (notFace_of_selects (args := #[]) (mvT hZ (hw _ (List.mem_of_getElem? (i := 29) rfl)))) (mvT hZ (hw _ (List.mem_of_getElem? (i := 29) rfl))) (mvT hZ (hw _ (List.mem_of_getElem? (i := 28) rfl))) (by decide) (backOf (W := 0) (rm9 l Z a0 hw w1 w2 w3 G [] b7 T18.heap n0 O18 g_b7 f29) hZ (hw _ (List.mem_of_getElem? (i := 30) rfl)) (hw _ (List.mem_of_getElem? (i := 2) rfl)) (by decide) (by decide)) q88a q88c (g := (mkF m 77 #[.val (.int p1), .val (.int p2), .val (.int z2), .val (.int z4), .val (.int z6), .val (.ref b7), .val (.int (1 : Int32)), .unset, .unset] [(.ref b7)])) rfl (by rw [hml]; rfl) (Steps.refl _) (argsL := []) (rest := []) (lenOf pd1 rfl) rfl (by show 2 * 0 + _ ≤ _; exact Nat.le_of_eq rfl) (hb hby at_77) (fun _ _ => ⟨rfl, e87, (by decide : 1 + 0 ≤ _), (by decide : 1 + 0 ≤ _)⟩)
    dsimp only [Pt.U, Pt.locs, Pt.cells, Pt.slots] at X89 l89 y89 z89 st89 hQ89
    subst l89 y89 z89
    have X89 : Stand p l e room_1 s m #[(.int p1), (.int p2)] below meth c T89 _ 1 1 := X89
    obtain ⟨rfl, Nq90, e91⟩ := hQ89
    have N89 := Fr.app N85 Nq90
    obtain ⟨cq92, kq92, q92a, q92b, q92c⟩ := isOf hZ e91 f28
    obtain ⟨_, _, ⟨T93, L93, c93, n93⟩, -, X93, ⟨Lc93, hQ93, l93, y93, z93⟩, st93⟩ := X89.virtualBack hx (y := (⟨"com/example/vorgang/vorgang/QueryTimeoutScope", "isStatement", "()Z"⟩ : MethodName)) (z := (⟨"com/example/vorgang/vorgang/QueryTimeoutScope", "isStatement", "()Z"⟩ : MethodName)) hown (mvT hZ (hw _ (List.mem_of_getElem? (i := 33) rfl))) (mvT hZ (hw _ (List.mem_of_getElem? (i := 34) rfl))) (notFace_of_selects (args := #[]) (mvT hZ (hw _ (List.mem_of_getElem? (i := 36) rfl)))) (mvT hZ (hw _ (List.mem_of_getElem? (i := 36) rfl))) (mvT hZ (hw _ (List.mem_of_getElem? (i := 35) rfl))) (by decide) (backOf (W := 0) (rm10 l Z a0 hw w1 w2 w3 G [] b7 T18.heap n0 O18 g_b7 f29) hZ (hw _ (List.mem_of_getElem? (i := 37) rfl)) (hw _ (List.mem_of_getElem? (i := 2) rfl)) (by decide) (by decide)) q92a q92c (g := (mkF m 86 #[.val (.int p1), .val (.int p2), .val (.int z2), .val (.int z4), .val (.int z6), .val (.ref b7), .val (.int (1 : Int32)), .unset, .unset] [(.ref b7)])) rfl (by rw [hml]; rfl) (Steps.refl _) (argsL := []) (rest := []) (lenOf pd1 rfl) rfl (by show 2 * 0 + _ ≤ _; exact Nat.le_of_eq rfl) (hb hby at_86) (fun _ _ => ⟨rfl, e91, (by decide : 1 + 0 ≤ _), (by decide : 1 + 0 ≤ _)⟩)
    dsimp only [Pt.U, Pt.locs, Pt.cells, Pt.slots] at X93 l93 y93 z93 st93 hQ93
    subst l93 y93 z93
    have X93 : Stand p l e room_1 s m #[(.int p1), (.int p2)] below meth c T93 _ 1 1 := X93
    obtain ⟨rfl, Nq94, e95⟩ := hQ93
    have N93 := Fr.app N89 Nq94
    have pre96 : ∀ t, Steps p.tables e below (T93.setTop (mkF m 109 #[.val (.int p1), .val (.int p2), .val (.int z2), .val (.int z4), .val (.int z6), .val (.ref b7), .val (.int (1 : Int32)), .val (.int (1 : Int32)), .unset] [(.int z4)])) t → Steps p.tables e below (s₁.setTop (entryFrame m #[(.int p1), (.int p2)] maxLocals)) t := fun t k => by
      refine pre19 _ ?_
      show Steps p.tables e below (T14.setTop (mkF m 64 #[.val (.int p1), .val (.int p2), .val (.int z2), .val (.int z4), .val (.int z6), .val (.ref b7), .val (.int (1 : Int32)), .unset, .unset] [(.int z2), (.ref b7)])) _
      refine st18.trans ?_
      show Steps p.tables e below (T18.setTop (mkF m 67 #[.val (.int p1), .val (.int p2), .val (.int z2), .val (.int z4), .val (.int z6), .val (.ref b7), .val (.int (1 : Int32)), .unset, .unset] [])) _
      refine XS.aload X18.here hx rfl (hb hby at_67) rfl rfl ?_
      show Steps p.tables e below (T18.setTop (mkF m 69 #[.val (.int p1), .val (.int p2), .val (.int z2), .val (.int z4), .val (.int z6), .val (.ref b7), .val (.int (1 : Int32)), .unset, .unset] [(.ref b7)])) _
      refine st85.trans ?_
      show Steps p.tables e below (T85.setTop (mkF m 72 #[.val (.int p1), .val (.int p2), .val (.int z2), .val (.int z4), .val (.int z6), .val (.ref b7), .val (.int (1 : Int32)), .unset, .unset] [(.int (1 : Int32))])) _
      refine XS.ifNo X85.here hx rfl (hb hby at_72) rfl ((if0 _ _).trans (feq (by decide : ¬ ((1 : Int32) = (0 : Int32)))).1) ?_
      show Steps p.tables e below (T85.setTop (mkF m 75 #[.val (.int p1), .val (.int p2), .val (.int z2), .val (.int z4), .val (.int z6), .val (.ref b7), .val (.int (1 : Int32)), .unset, .unset] [])) _
      refine XS.aload X85.here hx rfl (hb hby at_75) rfl rfl ?_
      show Steps p.tables e below (T85.setTop (mkF m 77 #[.val (.int p1), .val (.int p2), .val (.int z2), .val (.int z4), .val (.int z6), .val (.ref b7), .val (.int (1 : Int32)), .unset, .unset] [(.ref b7)])) _
      refine st89.trans ?_
      show Steps p.tables e below (T89.setTop (mkF m 80 #[.val (.int p1), .val (.int p2), .val (.int z2), .val (.int z4), .val (.int z6), .val (.ref b7), .val (.int (1 : Int32)), .unset, .unset] [(.int (1 : Int32))])) _
      refine XS.iloadN X89.here hx rfl (hb hby at_80) rfl ?_
      show Steps p.tables e below (T89.setTop (mkF m 81 #[.val (.int p1), .val (.int p2), .val (.int z2), .val (.int z4), .val (.int z6), .val (.ref b7), .val (.int (1 : Int32)), .unset, .unset] [(.int z2), (.int (1 : Int32))])) _
      refine XS.icmpNo X89.here hx rfl (hb hby at_81) rfl (teq ((own_geq (n := 1) (k := (1 : Int32)) (by decide) (by have q0 := bz2; have q1 := own_neq (n := 0) (k := (0 : Int32)) (by decide) hc25; omega))).symm).2 ?_
      show Steps p.tables e below (T89.setTop (mkF m 84 #[.val (.int p1), .val (.int p2), .val (.int z2), .val (.int z4), .val (.int z6), .val (.ref b7), .val (.int (1 : Int32)), .unset, .unset] [])) _
      refine XS.aload X89.here hx rfl (hb hby at_84) rfl rfl ?_
      show Steps p.tables e below (T89.setTop (mkF m 86 #[.val (.int p1), .val (.int p2), .val (.int z2), .val (.int z4), .val (.int z6), .val (.ref b7), .val (.int (1 : Int32)), .unset, .unset] [(.ref b7)])) _
      refine st93.trans ?_
      show Steps p.tables e below (T93.setTop (mkF m 89 #[.val (.int p1), .val (.int p2), .val (.int z2), .val (.int z4), .val (.int z6), .val (.ref b7), .val (.int (1 : Int32)), .unset, .unset] [(.int (0 : Int32))])) _
      refine XS.iloadN X93.here hx rfl (hb hby at_89) rfl ?_
      show Steps p.tables e below (T93.setTop (mkF m 90 #[.val (.int p1), .val (.int p2), .val (.int z2), .val (.int z4), .val (.int z6), .val (.ref b7), .val (.int (1 : Int32)), .unset, .unset] [(.int z2), (.int (0 : Int32))])) _
      refine XS.ifYes X93.here hx rfl (pc0 := 90) (pc' := 97) rfl (hb hby at_90) rfl ((if0 _ _).trans (feq hc25).2) (by decide) (by decide) ?_
      show Steps p.tables e below (T93.setTop (mkF m 97 #[.val (.int p1), .val (.int p2), .val (.int z2), .val (.int z4), .val (.int z6), .val (.ref b7), .val (.int (1 : Int32)), .unset, .unset] [(.int (0 : Int32))])) _
      refine XS.iconst X93.here hx rfl (hb hby at_97) ?_
      show Steps p.tables e below (T93.setTop (mkF m 98 #[.val (.int p1), .val (.int p2), .val (.int z2), .val (.int z4), .val (.int z6), .val (.ref b7), .val (.int (1 : Int32)), .unset, .unset] [(.int (0 : Int32)), (.int (0 : Int32))])) _
      refine XS.icmpNo X93.here hx rfl (hb hby at_98) rfl (teq (by decide : (0 : Int32) = (0 : Int32))).2 ?_
      show Steps p.tables e below (T93.setTop (mkF m 101 #[.val (.int p1), .val (.int p2), .val (.int z2), .val (.int z4), .val (.int z6), .val (.ref b7), .val (.int (1 : Int32)), .unset, .unset] [])) _
      refine XS.iconst X93.here hx rfl (hb hby at_101) ?_
      show Steps p.tables e below (T93.setTop (mkF m 102 #[.val (.int p1), .val (.int p2), .val (.int z2), .val (.int z4), .val (.int z6), .val (.ref b7), .val (.int (1 : Int32)), .unset, .unset] [(.int (1 : Int32))])) _
      refine XS.goto X93.here hx rfl (pc0 := 102) (pc' := 106) rfl (hb hby at_102) (by decide) (by decide) ?_
      show Steps p.tables e below (T93.setTop (mkF m 106 #[.val (.int p1), .val (.int p2), .val (.int z2), .val (.int z4), .val (.int z6), .val (.ref b7), .val (.int (1 : Int32)), .unset, .unset] [(.int (1 : Int32))])) _
      refine XS.istore X93.here hx rfl (hb hby at_106) rfl (l' := #[.val (.int p1), .val (.int p2), .val (.int z2), .val (.int z4), .val (.int z6), .val (.ref b7), .val (.int (1 : Int32)), .val (.int (1 : Int32)), .unset]) rfl ?_
      show Steps p.tables e below (T93.setTop (mkF m 108 #[.val (.int p1), .val (.int p2), .val (.int z2), .val (.int z4), .val (.int z6), .val (.ref b7), .val (.int (1 : Int32)), .val (.int (1 : Int32)), .unset] [])) _
      refine XS.iloadN X93.here hx rfl (hb hby at_108) rfl ?_
      exact k
    by_cases hc97 : z4 = (0 : Int32)
    ·
      have pre98 : ∀ t, Steps p.tables e below (T93.setTop (mkF m 109 #[.val (.int p1), .val (.int p2), .val (.int z2), .val (.int (0 : Int32)), .val (.int z6), .val (.ref b7), .val (.int (1 : Int32)), .val (.int (1 : Int32)), .unset] [(.int (0 : Int32))])) t → Steps p.tables e below (s₁.setTop (entryFrame m #[(.int p1), (.int p2)] maxLocals)) t := fun t k => pre96 t (by rw [hc97]; exact k)
      obtain ⟨fs, hr, hrun, hended, hW, hsame⟩ := X93.leave (v := some (.int (1 : Int32))) (fun h => by rw [hret] at h; cases h)
      refine ⟨_, _, pre98 _ ?_, hrun, hended, _, _, rfl, ?_, ⟨_, rfl⟩, hW, hsame.mono (by decide) (by decide)⟩
      ·
        show Steps p.tables e below (T93.setTop (mkF m 109 #[.val (.int p1), .val (.int p2), .val (.int z2), .val (.int (0 : Int32)), .val (.int z6), .val (.ref b7), .val (.int (1 : Int32)), .val (.int (1 : Int32)), .unset] [(.int (0 : Int32))])) _
        refine XS.ifNo X93.here hx rfl (hb hby at_109) rfl ((if0 _ _).trans (teq (by decide : (0 : Int32) = (0 : Int32))).2) ?_
        show Steps p.tables e below (T93.setTop (mkF m 112 #[.val (.int p1), .val (.int p2), .val (.int z2), .val (.int (0 : Int32)), .val (.int z6), .val (.ref b7), .val (.int (1 : Int32)), .val (.int (1 : Int32)), .unset] [])) _
        refine XS.iload X93.here hx rfl (hb hby at_112) rfl ?_
        show Steps p.tables e below (T93.setTop (mkF m 114 #[.val (.int p1), .val (.int p2), .val (.int z2), .val (.int (0 : Int32)), .val (.int z6), .val (.ref b7), .val (.int (1 : Int32)), .val (.int (1 : Int32)), .unset] [(.int (1 : Int32))])) _
        refine XS.ifNo X93.here hx rfl (hb hby at_114) rfl ((if0 _ _).trans (feq (by decide : ¬ ((1 : Int32) = (0 : Int32)))).1) ?_
        show Steps p.tables e below (T93.setTop (mkF m 117 #[.val (.int p1), .val (.int p2), .val (.int z2), .val (.int (0 : Int32)), .val (.int z6), .val (.ref b7), .val (.int (1 : Int32)), .val (.int (1 : Int32)), .unset] [])) _
        refine XS.iload X93.here hx rfl (hb hby at_117) rfl ?_
        show Steps p.tables e below (T93.setTop (mkF m 119 #[.val (.int p1), .val (.int p2), .val (.int z2), .val (.int (0 : Int32)), .val (.int z6), .val (.ref b7), .val (.int (1 : Int32)), .val (.int (1 : Int32)), .unset] [(.int (1 : Int32))])) _
        refine XS.ifNo X93.here hx rfl (hb hby at_119) rfl ((if0 _ _).trans (feq (by decide : ¬ ((1 : Int32) = (0 : Int32)))).1) ?_
        show Steps p.tables e below (T93.setTop (mkF m 122 #[.val (.int p1), .val (.int p2), .val (.int z2), .val (.int (0 : Int32)), .val (.int z6), .val (.ref b7), .val (.int (1 : Int32)), .val (.int (1 : Int32)), .unset] [])) _
        refine XS.iconst X93.here hx rfl (hb hby at_122) ?_
        show Steps p.tables e below (T93.setTop (mkF m 123 #[.val (.int p1), .val (.int p2), .val (.int z2), .val (.int (0 : Int32)), .val (.int z6), .val (.ref b7), .val (.int (1 : Int32)), .val (.int (1 : Int32)), .unset] [(.int (1 : Int32))])) _
        refine XS.goto X93.here hx rfl (pc0 := 123) (pc' := 127) rfl (hb hby at_123) (by decide) (by decide) ?_
        show Steps p.tables e below (T93.setTop (mkF m 127 #[.val (.int p1), .val (.int p2), .val (.int z2), .val (.int (0 : Int32)), .val (.int z6), .val (.ref b7), .val (.int (1 : Int32)), .val (.int (1 : Int32)), .unset] [(.int (1 : Int32))])) _
        exact retN X93 hx (t := .boolean) hret (by simp) (hb hby at_127) hr
      ·
        show Q0 n0 _ T93.heap _
        rw [e95]
        exact ⟨rfl, N93⟩
    ·
      have hq99 : z4 = (1 : Int32) := (own_geq (n := 1) (k := (1 : Int32)) (by decide) (by have q0 := bz4; have q1 := own_neq (n := 0) (k := (0 : Int32)) (by decide) hc97; omega))
      have pre100 : ∀ t, Steps p.tables e below (T93.setTop (mkF m 109 #[.val (.int p1), .val (.int p2), .val (.int z2), .val (.int (1 : Int32)), .val (.int z6), .val (.ref b7), .val (.int (1 : Int32)), .val (.int (1 : Int32)), .unset] [(.int (1 : Int32))])) t → Steps p.tables e below (s₁.setTop (entryFrame m #[(.int p1), (.int p2)] maxLocals)) t := fun t k => pre96 t (by rw [hq99]; exact k)
      obtain ⟨cq101, kq101, q101a, q101b, q101c⟩ := isOf hZ e95 f28
      obtain ⟨_, _, ⟨T102, L102, c102, n102⟩, -, X102, ⟨Lc102, hQ102, l102, y102, z102⟩, st102⟩ := X93.virtualBack hx (y := (⟨"com/example/vorgang/vorgang/QueryTimeoutScope", "found", "(Z)V"⟩ : MethodName)) (z := (⟨"com/example/vorgang/vorgang/QueryTimeoutScope", "found", "(Z)V"⟩ : MethodName)) hown (mvT hZ (hw _ (List.mem_of_getElem? (i := 19) rfl))) (mvT hZ (hw _ (List.mem_of_getElem? (i := 20) rfl))) (notFace_of_selects (args := #[]) (mvT hZ (hw _ (List.mem_of_getElem? (i := 22) rfl)))) (mvT hZ (hw _ (List.mem_of_getElem? (i := 22) rfl))) (mvT hZ (hw _ (List.mem_of_getElem? (i := 21) rfl))) (by decide) (backOf (W := 0) (rm11 l Z a0 hw w1 w2 w3 G [] b7 z6 T18.heap n0 O18 g_b7 f28 f29) hZ (hw _ (List.mem_of_getElem? (i := 23) rfl)) (hw _ (List.mem_of_getElem? (i := 2) rfl)) (by decide) (by decide)) q101a q101c (g := (mkF m 132 #[.val (.int p1), .val (.int p2), .val (.int z2), .val (.int (1 : Int32)), .val (.int z6), .val (.ref b7), .val (.int (1 : Int32)), .val (.int (1 : Int32)), .unset] [(.int z6), (.ref b7)])) rfl (by rw [hml]; rfl) (Steps.refl _) (argsL := [(.int z6)]) (rest := []) (lenOf pd2 rfl) rfl (by show 2 * 0 + _ ≤ _; exact Nat.le_of_eq rfl) (hb hby at_132) (fun _ _ => ⟨rfl, e95, (by decide : 1 + 0 ≤ _), (by decide : 1 + 0 ≤ _)⟩)
      dsimp only [Pt.U, Pt.locs, Pt.cells, Pt.slots] at X102 l102 y102 z102 st102 hQ102
      subst l102 y102 z102
      have pre103 : ∀ t, Steps p.tables e below (T93.setTop (mkF m 132 #[.val (.int p1), .val (.int p2), .val (.int z2), .val (.int (1 : Int32)), .val (.int z6), .val (.ref b7), .val (.int (1 : Int32)), .val (.int (1 : Int32)), .unset] [(.int z6), (.ref b7)])) t → Steps p.tables e below (s₁.setTop (entryFrame m #[(.int p1), (.int p2)] maxLocals)) t := fun t k => by
        refine pre100 _ ?_
        show Steps p.tables e below (T93.setTop (mkF m 109 #[.val (.int p1), .val (.int p2), .val (.int z2), .val (.int (1 : Int32)), .val (.int z6), .val (.ref b7), .val (.int (1 : Int32)), .val (.int (1 : Int32)), .unset] [(.int (1 : Int32))])) _
        refine XS.ifYes X93.here hx rfl (pc0 := 109) (pc' := 128) rfl (hb hby at_109) rfl ((if0 _ _).trans (feq (by decide : ¬ ((1 : Int32) = (0 : Int32)))).2) (by decide) (by decide) ?_
        show Steps p.tables e below (T93.setTop (mkF m 128 #[.val (.int p1), .val (.int p2), .val (.int z2), .val (.int (1 : Int32)), .val (.int z6), .val (.ref b7), .val (.int (1 : Int32)), .val (.int (1 : Int32)), .unset] [])) _
        refine XS.aload X93.here hx rfl (hb hby at_128) rfl rfl ?_
        show Steps p.tables e below (T93.setTop (mkF m 130 #[.val (.int p1), .val (.int p2), .val (.int z2), .val (.int (1 : Int32)), .val (.int z6), .val (.ref b7), .val (.int (1 : Int32)), .val (.int (1 : Int32)), .unset] [(.ref b7)])) _
        refine XS.iload X93.here hx rfl (hb hby at_130) rfl ?_
        exact k
      have X102 : Stand p l e room_1 s m #[(.int p1), (.int p2)] below meth c T102 _ 1 1 := X102
      rcases hQ102 with ⟨hc104, rfl, Nq105, K106, f107, f108⟩ | ⟨hc109, rfl, Nq110, K111, f112, f113⟩
      ·
        have N102 := Fr.app N93 Nq105
        have M102 : h0.size ≤ T102.heap.size := Nat.le_trans M18 K106.1
        have O102 := Old.keep O18 K106 (allS g_b7 all0)
        obtain ⟨cq114, kq114, q114a, q114b, q114c⟩ := isOf hZ rfl f107
        obtain ⟨_, _, ⟨T115, L115, c115, n115⟩, -, X115, ⟨Lc115, hQ115, l115, y115, z115⟩, st115⟩ := X102.virtualBack hx (y := (⟨"com/example/vorgang/vorgang/QueryTimeoutScope", "isKnown", "()Z"⟩ : MethodName)) (z := (⟨"com/example/vorgang/vorgang/QueryTimeoutScope", "isKnown", "()Z"⟩ : MethodName)) hown (mvT hZ (hw _ (List.mem_of_getElem? (i := 14) rfl))) (mvT hZ (hw _ (List.mem_of_getElem? (i := 15) rfl))) (notFace_of_selects (args := #[]) (mvT hZ (hw _ (List.mem_of_getElem? (i := 17) rfl)))) (mvT hZ (hw _ (List.mem_of_getElem? (i := 17) rfl))) (mvT hZ (hw _ (List.mem_of_getElem? (i := 16) rfl))) (by decide) (backOf (W := 0) (rm4 l Z a0 hw w1 w2 w3 G [] b7 T102.heap n0 O102 g_b7 f108) hZ (hw _ (List.mem_of_getElem? (i := 18) rfl)) (hw _ (List.mem_of_getElem? (i := 2) rfl)) (by decide) (by decide)) q114a q114c (g := (mkF m 137 #[.val (.int p1), .val (.int p2), .val (.int z2), .val (.int (1 : Int32)), .val (.int z6), .val (.ref b7), .val (.int (1 : Int32)), .val (.int (1 : Int32)), .unset] [(.ref b7)])) rfl (by rw [hml]; rfl) (Steps.refl _) (argsL := []) (rest := []) (lenOf pd1 rfl) rfl (by show 2 * 0 + _ ≤ _; exact Nat.le_of_eq rfl) (hb hby at_137) (fun _ _ => ⟨rfl, rfl, (by decide : 1 + 0 ≤ _), (by decide : 1 + 0 ≤ _)⟩)
        dsimp only [Pt.U, Pt.locs, Pt.cells, Pt.slots] at X115 l115 y115 z115 st115 hQ115
        subst l115 y115 z115
        have X115 : Stand p l e room_1 s m #[(.int p1), (.int p2)] below meth c T115 _ 1 1 := X115
        obtain ⟨rfl, Nq116, e117⟩ := hQ115
        have N115 := Fr.app N102 Nq116
        obtain ⟨cq118, kq118, q118a, q118b, q118c⟩ := isOf hZ e117 f107
        obtain ⟨_, _, ⟨T119, L119, c119, n119⟩, -, X119, ⟨Lc119, hQ119, l119, y119, z119⟩, st119⟩ := X115.virtualBack hx (y := (⟨"com/example/vorgang/vorgang/QueryTimeoutScope", "isSession", "()Z"⟩ : MethodName)) (z := (⟨"com/example/vorgang/vorgang/QueryTimeoutScope", "isSession", "()Z"⟩ : MethodName)) hown (mvT hZ (hw _ (List.mem_of_getElem? (i := 26) rfl))) (mvT hZ (hw _ (List.mem_of_getElem? (i := 27) rfl))) (notFace_of_selects (args := #[]) (mvT hZ (hw _ (List.mem_of_getElem? (i := 29) rfl)))) (mvT hZ (hw _ (List.mem_of_getElem? (i := 29) rfl))) (mvT hZ (hw _ (List.mem_of_getElem? (i := 28) rfl))) (by decide) (backOf (W := 0) (rm5 l Z a0 hw w1 w2 w3 G [] b7 T102.heap n0 O102 g_b7 f108) hZ (hw _ (List.mem_of_getElem? (i := 30) rfl)) (hw _ (List.mem_of_getElem? (i := 2) rfl)) (by decide) (by decide)) q118a q118c (g := (mkF m 145 #[.val (.int p1), .val (.int p2), .val (.int z2), .val (.int (1 : Int32)), .val (.int z6), .val (.ref b7), .val (.int (1 : Int32)), .val (.int (1 : Int32)), .unset] [(.ref b7)])) rfl (by rw [hml]; rfl) (Steps.refl _) (argsL := []) (rest := []) (lenOf pd1 rfl) rfl (by show 2 * 0 + _ ≤ _; exact Nat.le_of_eq rfl) (hb hby at_145) (fun _ _ => ⟨rfl, e117, (by decide : 1 + 0 ≤ _), (by decide : 1 + 0 ≤ _)⟩)
        dsimp only [Pt.U, Pt.locs, Pt.cells, Pt.slots] at X119 l119 y119 z119 st119 hQ119
        subst l119 y119 z119
        have X119 : Stand p l e room_1 s m #[(.int p1), (.int p2)] below meth c T119 _ 1 1 := X119
        obtain ⟨rfl, Nq120, e121⟩ := hQ119
        have N119 := Fr.app N115 Nq120
        obtain ⟨cq122, kq122, q122a, q122b, q122c⟩ := isOf hZ e121 f107
        obtain ⟨_, _, ⟨T123, L123, c123, n123⟩, -, X123, ⟨Lc123, hQ123, l123, y123, z123⟩, st123⟩ := X119.virtualBack hx (y := (⟨"com/example/vorgang/vorgang/QueryTimeoutScope", "isStatement", "()Z"⟩ : MethodName)) (z := (⟨"com/example/vorgang/vorgang/QueryTimeoutScope", "isStatement", "()Z"⟩ : MethodName)) hown (mvT hZ (hw _ (List.mem_of_getElem? (i := 33) rfl))) (mvT hZ (hw _ (List.mem_of_getElem? (i := 34) rfl))) (notFace_of_selects (args := #[]) (mvT hZ (hw _ (List.mem_of_getElem? (i := 36) rfl)))) (mvT hZ (hw _ (List.mem_of_getElem? (i := 36) rfl))) (mvT hZ (hw _ (List.mem_of_getElem? (i := 35) rfl))) (by decide) (backOf (W := 0) (rm6 l Z a0 hw w1 w2 w3 G [] b7 T102.heap n0 O102 g_b7 f108) hZ (hw _ (List.mem_of_getElem? (i := 37) rfl)) (hw _ (List.mem_of_getElem? (i := 2) rfl)) (by decide) (by decide)) q122a q122c (g := (mkF m 155 #[.val (.int p1), .val (.int p2), .val (.int z2), .val (.int (1 : Int32)), .val (.int z6), .val (.ref b7), .val (.int (1 : Int32)), .val (.int (1 : Int32)), .unset] [(.ref b7)])) rfl (by rw [hml]; rfl) (Steps.refl _) (argsL := []) (rest := []) (lenOf pd1 rfl) rfl (by show 2 * 0 + _ ≤ _; exact Nat.le_of_eq rfl) (hb hby at_155) (fun _ _ => ⟨rfl, e121, (by decide : 1 + 0 ≤ _), (by decide : 1 + 0 ≤ _)⟩)
        dsimp only [Pt.U, Pt.locs, Pt.cells, Pt.slots] at X123 l123 y123 z123 st123 hQ123
        subst l123 y123 z123
        have X123 : Stand p l e room_1 s m #[(.int p1), (.int p2)] below meth c T123 _ 1 1 := X123
        obtain ⟨rfl, Nq124, e125⟩ := hQ123
        have N123 := Fr.app N119 Nq124
        obtain ⟨fs, hr, hrun, hended, hW, hsame⟩ := X123.leave (v := some (.int (1 : Int32))) (fun h => by rw [hret] at h; cases h)
        refine ⟨_, _, pre103 _ ?_, hrun, hended, _, _, rfl, ?_, ⟨_, rfl⟩, hW, hsame.mono (by decide) (by decide)⟩
        ·
          show Steps p.tables e below (T93.setTop (mkF m 132 #[.val (.int p1), .val (.int p2), .val (.int z2), .val (.int (1 : Int32)), .val (.int z6), .val (.ref b7), .val (.int (1 : Int32)), .val (.int (1 : Int32)), .unset] [(.int z6), (.ref b7)])) _
          refine st102.trans ?_
          show Steps p.tables e below (T102.setTop (mkF m 135 #[.val (.int p1), .val (.int p2), .val (.int z2), .val (.int (1 : Int32)), .val (.int z6), .val (.ref b7), .val (.int (1 : Int32)), .val (.int (1 : Int32)), .unset] [])) _
          refine XS.aload X102.here hx rfl (hb hby at_135) rfl rfl ?_
          show Steps p.tables e below (T102.setTop (mkF m 137 #[.val (.int p1), .val (.int p2), .val (.int z2), .val (.int (1 : Int32)), .val (.int z6), .val (.ref b7), .val (.int (1 : Int32)), .val (.int (1 : Int32)), .unset] [(.ref b7)])) _
          refine st115.trans ?_
          show Steps p.tables e below (T115.setTop (mkF m 140 #[.val (.int p1), .val (.int p2), .val (.int z2), .val (.int (1 : Int32)), .val (.int z6), .val (.ref b7), .val (.int (1 : Int32)), .val (.int (1 : Int32)), .unset] [(.int (1 : Int32))])) _
          refine XS.ifNo X115.here hx rfl (hb hby at_140) rfl ((if0 _ _).trans (feq (by decide : ¬ ((1 : Int32) = (0 : Int32)))).1) ?_
          show Steps p.tables e below (T115.setTop (mkF m 143 #[.val (.int p1), .val (.int p2), .val (.int z2), .val (.int (1 : Int32)), .val (.int z6), .val (.ref b7), .val (.int (1 : Int32)), .val (.int (1 : Int32)), .unset] [])) _
          refine XS.aload X115.here hx rfl (hb hby at_143) rfl rfl ?_
          show Steps p.tables e below (T115.setTop (mkF m 145 #[.val (.int p1), .val (.int p2), .val (.int z2), .val (.int (1 : Int32)), .val (.int z6), .val (.ref b7), .val (.int (1 : Int32)), .val (.int (1 : Int32)), .unset] [(.ref b7)])) _
          refine st119.trans ?_
          show Steps p.tables e below (T119.setTop (mkF m 148 #[.val (.int p1), .val (.int p2), .val (.int z2), .val (.int (1 : Int32)), .val (.int z6), .val (.ref b7), .val (.int (1 : Int32)), .val (.int (1 : Int32)), .unset] [(.int (0 : Int32))])) _
          refine XS.iload X119.here hx rfl (hb hby at_148) rfl ?_
          show Steps p.tables e below (T119.setTop (mkF m 150 #[.val (.int p1), .val (.int p2), .val (.int z2), .val (.int (1 : Int32)), .val (.int z6), .val (.ref b7), .val (.int (1 : Int32)), .val (.int (1 : Int32)), .unset] [(.int z6), (.int (0 : Int32))])) _
          refine XS.icmpNo X119.here hx rfl (hb hby at_150) rfl (teq (hc104).symm).2 ?_
          show Steps p.tables e below (T119.setTop (mkF m 153 #[.val (.int p1), .val (.int p2), .val (.int z2), .val (.int (1 : Int32)), .val (.int z6), .val (.ref b7), .val (.int (1 : Int32)), .val (.int (1 : Int32)), .unset] [])) _
          refine XS.aload X119.here hx rfl (hb hby at_153) rfl rfl ?_
          show Steps p.tables e below (T119.setTop (mkF m 155 #[.val (.int p1), .val (.int p2), .val (.int z2), .val (.int (1 : Int32)), .val (.int z6), .val (.ref b7), .val (.int (1 : Int32)), .val (.int (1 : Int32)), .unset] [(.ref b7)])) _
          refine st123.trans ?_
          show Steps p.tables e below (T123.setTop (mkF m 158 #[.val (.int p1), .val (.int p2), .val (.int z2), .val (.int (1 : Int32)), .val (.int z6), .val (.ref b7), .val (.int (1 : Int32)), .val (.int (1 : Int32)), .unset] [(.int (1 : Int32))])) _
          refine XS.iload X123.here hx rfl (hb hby at_158) rfl ?_
          show Steps p.tables e below (T123.setTop (mkF m 160 #[.val (.int p1), .val (.int p2), .val (.int z2), .val (.int (1 : Int32)), .val (.int z6), .val (.ref b7), .val (.int (1 : Int32)), .val (.int (1 : Int32)), .unset] [(.int z6), (.int (1 : Int32))])) _
          refine XS.ifNo X123.here hx rfl (hb hby at_160) rfl ((if0 _ _).trans (teq hc104).2) ?_
          show Steps p.tables e below (T123.setTop (mkF m 163 #[.val (.int p1), .val (.int p2), .val (.int z2), .val (.int (1 : Int32)), .val (.int z6), .val (.ref b7), .val (.int (1 : Int32)), .val (.int (1 : Int32)), .unset] [(.int (1 : Int32))])) _
          refine XS.iconst X123.here hx rfl (hb hby at_163) ?_
          show Steps p.tables e below (T123.setTop (mkF m 164 #[.val (.int p1), .val (.int p2), .val (.int z2), .val (.int (1 : Int32)), .val (.int z6), .val (.ref b7), .val (.int (1 : Int32)), .val (.int (1 : Int32)), .unset] [(.int (1 : Int32)), (.int (1 : Int32))])) _
          refine XS.goto X123.here hx rfl (pc0 := 164) (pc' := 168) rfl (hb hby at_164) (by decide) (by decide) ?_
          show Steps p.tables e below (T123.setTop (mkF m 168 #[.val (.int p1), .val (.int p2), .val (.int z2), .val (.int (1 : Int32)), .val (.int z6), .val (.ref b7), .val (.int (1 : Int32)), .val (.int (1 : Int32)), .unset] [(.int (1 : Int32)), (.int (1 : Int32))])) _
          refine XS.icmpNo X123.here hx rfl (hb hby at_168) rfl (teq (by decide : (1 : Int32) = (1 : Int32))).2 ?_
          show Steps p.tables e below (T123.setTop (mkF m 171 #[.val (.int p1), .val (.int p2), .val (.int z2), .val (.int (1 : Int32)), .val (.int z6), .val (.ref b7), .val (.int (1 : Int32)), .val (.int (1 : Int32)), .unset] [])) _
          refine XS.iconst X123.here hx rfl (hb hby at_171) ?_
          show Steps p.tables e below (T123.setTop (mkF m 172 #[.val (.int p1), .val (.int p2), .val (.int z2), .val (.int (1 : Int32)), .val (.int z6), .val (.ref b7), .val (.int (1 : Int32)), .val (.int (1 : Int32)), .unset] [(.int (1 : Int32))])) _
          refine XS.goto X123.here hx rfl (pc0 := 172) (pc' := 176) rfl (hb hby at_172) (by decide) (by decide) ?_
          show Steps p.tables e below (T123.setTop (mkF m 176 #[.val (.int p1), .val (.int p2), .val (.int z2), .val (.int (1 : Int32)), .val (.int z6), .val (.ref b7), .val (.int (1 : Int32)), .val (.int (1 : Int32)), .unset] [(.int (1 : Int32))])) _
          refine XS.istore X123.here hx rfl (hb hby at_176) rfl (l' := #[.val (.int p1), .val (.int p2), .val (.int z2), .val (.int (1 : Int32)), .val (.int z6), .val (.ref b7), .val (.int (1 : Int32)), .val (.int (1 : Int32)), .val (.int (1 : Int32))]) rfl ?_
          show Steps p.tables e below (T123.setTop (mkF m 178 #[.val (.int p1), .val (.int p2), .val (.int z2), .val (.int (1 : Int32)), .val (.int z6), .val (.ref b7), .val (.int (1 : Int32)), .val (.int (1 : Int32)), .val (.int (1 : Int32))] [])) _
          refine XS.iload X123.here hx rfl (hb hby at_178) rfl ?_
          show Steps p.tables e below (T123.setTop (mkF m 180 #[.val (.int p1), .val (.int p2), .val (.int z2), .val (.int (1 : Int32)), .val (.int z6), .val (.ref b7), .val (.int (1 : Int32)), .val (.int (1 : Int32)), .val (.int (1 : Int32))] [(.int (1 : Int32))])) _
          refine XS.ifNo X123.here hx rfl (hb hby at_180) rfl ((if0 _ _).trans (feq (by decide : ¬ ((1 : Int32) = (0 : Int32)))).1) ?_
          show Steps p.tables e below (T123.setTop (mkF m 183 #[.val (.int p1), .val (.int p2), .val (.int z2), .val (.int (1 : Int32)), .val (.int z6), .val (.ref b7), .val (.int (1 : Int32)), .val (.int (1 : Int32)), .val (.int (1 : Int32))] [])) _
          refine XS.iload X123.here hx rfl (hb hby at_183) rfl ?_
          show Steps p.tables e below (T123.setTop (mkF m 185 #[.val (.int p1), .val (.int p2), .val (.int z2), .val (.int (1 : Int32)), .val (.int z6), .val (.ref b7), .val (.int (1 : Int32)), .val (.int (1 : Int32)), .val (.int (1 : Int32))] [(.int (1 : Int32))])) _
          refine XS.ifNo X123.here hx rfl (hb hby at_185) rfl ((if0 _ _).trans (feq (by decide : ¬ ((1 : Int32) = (0 : Int32)))).1) ?_
          show Steps p.tables e below (T123.setTop (mkF m 188 #[.val (.int p1), .val (.int p2), .val (.int z2), .val (.int (1 : Int32)), .val (.int z6), .val (.ref b7), .val (.int (1 : Int32)), .val (.int (1 : Int32)), .val (.int (1 : Int32))] [])) _
          refine XS.iload X123.here hx rfl (hb hby at_188) rfl ?_
          show Steps p.tables e below (T123.setTop (mkF m 190 #[.val (.int p1), .val (.int p2), .val (.int z2), .val (.int (1 : Int32)), .val (.int z6), .val (.ref b7), .val (.int (1 : Int32)), .val (.int (1 : Int32)), .val (.int (1 : Int32))] [(.int (1 : Int32))])) _
          refine XS.ifNo X123.here hx rfl (hb hby at_190) rfl ((if0 _ _).trans (feq (by decide : ¬ ((1 : Int32) = (0 : Int32)))).1) ?_
          show Steps p.tables e below (T123.setTop (mkF m 193 #[.val (.int p1), .val (.int p2), .val (.int z2), .val (.int (1 : Int32)), .val (.int z6), .val (.ref b7), .val (.int (1 : Int32)), .val (.int (1 : Int32)), .val (.int (1 : Int32))] [])) _
          refine XS.iconst X123.here hx rfl (hb hby at_193) ?_
          show Steps p.tables e below (T123.setTop (mkF m 194 #[.val (.int p1), .val (.int p2), .val (.int z2), .val (.int (1 : Int32)), .val (.int z6), .val (.ref b7), .val (.int (1 : Int32)), .val (.int (1 : Int32)), .val (.int (1 : Int32))] [(.int (1 : Int32))])) _
          refine XS.goto X123.here hx rfl (pc0 := 194) (pc' := 198) rfl (hb hby at_194) (by decide) (by decide) ?_
          show Steps p.tables e below (T123.setTop (mkF m 198 #[.val (.int p1), .val (.int p2), .val (.int z2), .val (.int (1 : Int32)), .val (.int z6), .val (.ref b7), .val (.int (1 : Int32)), .val (.int (1 : Int32)), .val (.int (1 : Int32))] [(.int (1 : Int32))])) _
          exact retN X123 hx (t := .boolean) hret (by simp) (hb hby at_198) hr
        ·
          show Q0 n0 _ T123.heap _
          rw [e125]
          exact ⟨rfl, N123⟩
      ·
        have N102 := Fr.app N93 Nq110
        have M102 : h0.size ≤ T102.heap.size := Nat.le_trans M18 K111.1
        have O102 := Old.keep O18 K111 (allS g_b7 all0)
        obtain ⟨cq126, kq126, q126a, q126b, q126c⟩ := isOf hZ rfl f112
        obtain ⟨_, _, ⟨T127, L127, c127, n127⟩, -, X127, ⟨Lc127, hQ127, l127, y127, z127⟩, st127⟩ := X102.virtualBack hx (y := (⟨"com/example/vorgang/vorgang/QueryTimeoutScope", "isKnown", "()Z"⟩ : MethodName)) (z := (⟨"com/example/vorgang/vorgang/QueryTimeoutScope", "isKnown", "()Z"⟩ : MethodName)) hown (mvT hZ (hw _ (List.mem_of_getElem? (i := 14) rfl))) (mvT hZ (hw _ (List.mem_of_getElem? (i := 15) rfl))) (notFace_of_selects (args := #[]) (mvT hZ (hw _ (List.mem_of_getElem? (i := 17) rfl)))) (mvT hZ (hw _ (List.mem_of_getElem? (i := 17) rfl))) (mvT hZ (hw _ (List.mem_of_getElem? (i := 16) rfl))) (by decide) (backOf (W := 0) (rm8 l Z a0 hw w1 w2 w3 G [] b7 T102.heap n0 O102 g_b7 f113) hZ (hw _ (List.mem_of_getElem? (i := 18) rfl)) (hw _ (List.mem_of_getElem? (i := 2) rfl)) (by decide) (by decide)) q126a q126c (g := (mkF m 137 #[.val (.int p1), .val (.int p2), .val (.int z2), .val (.int (1 : Int32)), .val (.int z6), .val (.ref b7), .val (.int (1 : Int32)), .val (.int (1 : Int32)), .unset] [(.ref b7)])) rfl (by rw [hml]; rfl) (Steps.refl _) (argsL := []) (rest := []) (lenOf pd1 rfl) rfl (by show 2 * 0 + _ ≤ _; exact Nat.le_of_eq rfl) (hb hby at_137) (fun _ _ => ⟨rfl, rfl, (by decide : 1 + 0 ≤ _), (by decide : 1 + 0 ≤ _)⟩)
        dsimp only [Pt.U, Pt.locs, Pt.cells, Pt.slots] at X127 l127 y127 z127 st127 hQ127
        subst l127 y127 z127
        have X127 : Stand p l e room_1 s m #[(.int p1), (.int p2)] below meth c T127 _ 1 1 := X127
        obtain ⟨rfl, Nq128, e129⟩ := hQ127
        have N127 := Fr.app N102 Nq128
        obtain ⟨cq130, kq130, q130a, q130b, q130c⟩ := isOf hZ e129 f112
        obtain ⟨_, _, ⟨T131, L131, c131, n131⟩, -, X131, ⟨Lc131, hQ131, l131, y131, z131⟩, st131⟩ := X127.virtualBack hx (y := (⟨"com/example/vorgang/vorgang/QueryTimeoutScope", "isSession", "()Z"⟩ : MethodName)) (z := (⟨"com/example/vorgang/vorgang/QueryTimeoutScope", "isSession", "()Z"⟩ : MethodName)) hown (mvT hZ (hw _ (List.mem_of_getElem? (i := 26) rfl))) (mvT hZ (hw _ (List.mem_of_getElem? (i := 27) rfl))) (notFace_of_selects (args := #[]) (mvT hZ (hw _ (List.mem_of_getElem? (i := 29) rfl)))) (mvT hZ (hw _ (List.mem_of_getElem? (i := 29) rfl))) (mvT hZ (hw _ (List.mem_of_getElem? (i := 28) rfl))) (by decide) (backOf (W := 0) (rm9 l Z a0 hw w1 w2 w3 G [] b7 T102.heap n0 O102 g_b7 f113) hZ (hw _ (List.mem_of_getElem? (i := 30) rfl)) (hw _ (List.mem_of_getElem? (i := 2) rfl)) (by decide) (by decide)) q130a q130c (g := (mkF m 145 #[.val (.int p1), .val (.int p2), .val (.int z2), .val (.int (1 : Int32)), .val (.int z6), .val (.ref b7), .val (.int (1 : Int32)), .val (.int (1 : Int32)), .unset] [(.ref b7)])) rfl (by rw [hml]; rfl) (Steps.refl _) (argsL := []) (rest := []) (lenOf pd1 rfl) rfl (by show 2 * 0 + _ ≤ _; exact Nat.le_of_eq rfl) (hb hby at_145) (fun _ _ => ⟨rfl, e129, (by decide : 1 + 0 ≤ _), (by decide : 1 + 0 ≤ _)⟩)
        dsimp only [Pt.U, Pt.locs, Pt.cells, Pt.slots] at X131 l131 y131 z131 st131 hQ131
        subst l131 y131 z131
        have X131 : Stand p l e room_1 s m #[(.int p1), (.int p2)] below meth c T131 _ 1 1 := X131
        obtain ⟨rfl, Nq132, e133⟩ := hQ131
        have N131 := Fr.app N127 Nq132
        obtain ⟨cq134, kq134, q134a, q134b, q134c⟩ := isOf hZ e133 f112
        obtain ⟨_, _, ⟨T135, L135, c135, n135⟩, -, X135, ⟨Lc135, hQ135, l135, y135, z135⟩, st135⟩ := X131.virtualBack hx (y := (⟨"com/example/vorgang/vorgang/QueryTimeoutScope", "isStatement", "()Z"⟩ : MethodName)) (z := (⟨"com/example/vorgang/vorgang/QueryTimeoutScope", "isStatement", "()Z"⟩ : MethodName)) hown (mvT hZ (hw _ (List.mem_of_getElem? (i := 33) rfl))) (mvT hZ (hw _ (List.mem_of_getElem? (i := 34) rfl))) (notFace_of_selects (args := #[]) (mvT hZ (hw _ (List.mem_of_getElem? (i := 36) rfl)))) (mvT hZ (hw _ (List.mem_of_getElem? (i := 36) rfl))) (mvT hZ (hw _ (List.mem_of_getElem? (i := 35) rfl))) (by decide) (backOf (W := 0) (rm10 l Z a0 hw w1 w2 w3 G [] b7 T102.heap n0 O102 g_b7 f113) hZ (hw _ (List.mem_of_getElem? (i := 37) rfl)) (hw _ (List.mem_of_getElem? (i := 2) rfl)) (by decide) (by decide)) q134a q134c (g := (mkF m 155 #[.val (.int p1), .val (.int p2), .val (.int z2), .val (.int (1 : Int32)), .val (.int z6), .val (.ref b7), .val (.int (1 : Int32)), .val (.int (1 : Int32)), .unset] [(.ref b7)])) rfl (by rw [hml]; rfl) (Steps.refl _) (argsL := []) (rest := []) (lenOf pd1 rfl) rfl (by show 2 * 0 + _ ≤ _; exact Nat.le_of_eq rfl) (hb hby at_155) (fun _ _ => ⟨rfl, e133, (by decide : 1 + 0 ≤ _), (by decide : 1 + 0 ≤ _)⟩)
        dsimp only [Pt.U, Pt.locs, Pt.cells, Pt.slots] at X135 l135 y135 z135 st135 hQ135
        subst l135 y135 z135
        have X135 : Stand p l e room_1 s m #[(.int p1), (.int p2)] below meth c T135 _ 1 1 := X135
        obtain ⟨rfl, Nq136, e137⟩ := hQ135
        have N135 := Fr.app N131 Nq136
        obtain ⟨fs, hr, hrun, hended, hW, hsame⟩ := X135.leave (v := some (.int (1 : Int32))) (fun h => by rw [hret] at h; cases h)
        refine ⟨_, _, pre103 _ ?_, hrun, hended, _, _, rfl, ?_, ⟨_, rfl⟩, hW, hsame.mono (by decide) (by decide)⟩
        ·
          show Steps p.tables e below (T93.setTop (mkF m 132 #[.val (.int p1), .val (.int p2), .val (.int z2), .val (.int (1 : Int32)), .val (.int z6), .val (.ref b7), .val (.int (1 : Int32)), .val (.int (1 : Int32)), .unset] [(.int z6), (.ref b7)])) _
          refine st102.trans ?_
          show Steps p.tables e below (T102.setTop (mkF m 135 #[.val (.int p1), .val (.int p2), .val (.int z2), .val (.int (1 : Int32)), .val (.int z6), .val (.ref b7), .val (.int (1 : Int32)), .val (.int (1 : Int32)), .unset] [])) _
          refine XS.aload X102.here hx rfl (hb hby at_135) rfl rfl ?_
          show Steps p.tables e below (T102.setTop (mkF m 137 #[.val (.int p1), .val (.int p2), .val (.int z2), .val (.int (1 : Int32)), .val (.int z6), .val (.ref b7), .val (.int (1 : Int32)), .val (.int (1 : Int32)), .unset] [(.ref b7)])) _
          refine st127.trans ?_
          show Steps p.tables e below (T127.setTop (mkF m 140 #[.val (.int p1), .val (.int p2), .val (.int z2), .val (.int (1 : Int32)), .val (.int z6), .val (.ref b7), .val (.int (1 : Int32)), .val (.int (1 : Int32)), .unset] [(.int (1 : Int32))])) _
          refine XS.ifNo X127.here hx rfl (hb hby at_140) rfl ((if0 _ _).trans (feq (by decide : ¬ ((1 : Int32) = (0 : Int32)))).1) ?_
          show Steps p.tables e below (T127.setTop (mkF m 143 #[.val (.int p1), .val (.int p2), .val (.int z2), .val (.int (1 : Int32)), .val (.int z6), .val (.ref b7), .val (.int (1 : Int32)), .val (.int (1 : Int32)), .unset] [])) _
          refine XS.aload X127.here hx rfl (hb hby at_143) rfl rfl ?_
          show Steps p.tables e below (T127.setTop (mkF m 145 #[.val (.int p1), .val (.int p2), .val (.int z2), .val (.int (1 : Int32)), .val (.int z6), .val (.ref b7), .val (.int (1 : Int32)), .val (.int (1 : Int32)), .unset] [(.ref b7)])) _
          refine st131.trans ?_
          show Steps p.tables e below (T131.setTop (mkF m 148 #[.val (.int p1), .val (.int p2), .val (.int z2), .val (.int (1 : Int32)), .val (.int z6), .val (.ref b7), .val (.int (1 : Int32)), .val (.int (1 : Int32)), .unset] [(.int (1 : Int32))])) _
          refine XS.iload X131.here hx rfl (hb hby at_148) rfl ?_
          show Steps p.tables e below (T131.setTop (mkF m 150 #[.val (.int p1), .val (.int p2), .val (.int z2), .val (.int (1 : Int32)), .val (.int z6), .val (.ref b7), .val (.int (1 : Int32)), .val (.int (1 : Int32)), .unset] [(.int z6), (.int (1 : Int32))])) _
          refine XS.icmpNo X131.here hx rfl (hb hby at_150) rfl (teq ((own_geq (n := 1) (k := (1 : Int32)) (by decide) (by have q0 := bz6; have q1 := own_neq (n := 0) (k := (0 : Int32)) (by decide) hc109; omega))).symm).2 ?_
          show Steps p.tables e below (T131.setTop (mkF m 153 #[.val (.int p1), .val (.int p2), .val (.int z2), .val (.int (1 : Int32)), .val (.int z6), .val (.ref b7), .val (.int (1 : Int32)), .val (.int (1 : Int32)), .unset] [])) _
          refine XS.aload X131.here hx rfl (hb hby at_153) rfl rfl ?_
          show Steps p.tables e below (T131.setTop (mkF m 155 #[.val (.int p1), .val (.int p2), .val (.int z2), .val (.int (1 : Int32)), .val (.int z6), .val (.ref b7), .val (.int (1 : Int32)), .val (.int (1 : Int32)), .unset] [(.ref b7)])) _
          refine st135.trans ?_
          show Steps p.tables e below (T135.setTop (mkF m 158 #[.val (.int p1), .val (.int p2), .val (.int z2), .val (.int (1 : Int32)), .val (.int z6), .val (.ref b7), .val (.int (1 : Int32)), .val (.int (1 : Int32)), .unset] [(.int (0 : Int32))])) _
          refine XS.iload X135.here hx rfl (hb hby at_158) rfl ?_
          show Steps p.tables e below (T135.setTop (mkF m 160 #[.val (.int p1), .val (.int p2), .val (.int z2), .val (.int (1 : Int32)), .val (.int z6), .val (.ref b7), .val (.int (1 : Int32)), .val (.int (1 : Int32)), .unset] [(.int z6), (.int (0 : Int32))])) _
          refine XS.ifYes X135.here hx rfl (pc0 := 160) (pc' := 167) rfl (hb hby at_160) rfl ((if0 _ _).trans (feq hc109).2) (by decide) (by decide) ?_
          show Steps p.tables e below (T135.setTop (mkF m 167 #[.val (.int p1), .val (.int p2), .val (.int z2), .val (.int (1 : Int32)), .val (.int z6), .val (.ref b7), .val (.int (1 : Int32)), .val (.int (1 : Int32)), .unset] [(.int (0 : Int32))])) _
          refine XS.iconst X135.here hx rfl (hb hby at_167) ?_
          show Steps p.tables e below (T135.setTop (mkF m 168 #[.val (.int p1), .val (.int p2), .val (.int z2), .val (.int (1 : Int32)), .val (.int z6), .val (.ref b7), .val (.int (1 : Int32)), .val (.int (1 : Int32)), .unset] [(.int (0 : Int32)), (.int (0 : Int32))])) _
          refine XS.icmpNo X135.here hx rfl (hb hby at_168) rfl (teq (by decide : (0 : Int32) = (0 : Int32))).2 ?_
          show Steps p.tables e below (T135.setTop (mkF m 171 #[.val (.int p1), .val (.int p2), .val (.int z2), .val (.int (1 : Int32)), .val (.int z6), .val (.ref b7), .val (.int (1 : Int32)), .val (.int (1 : Int32)), .unset] [])) _
          refine XS.iconst X135.here hx rfl (hb hby at_171) ?_
          show Steps p.tables e below (T135.setTop (mkF m 172 #[.val (.int p1), .val (.int p2), .val (.int z2), .val (.int (1 : Int32)), .val (.int z6), .val (.ref b7), .val (.int (1 : Int32)), .val (.int (1 : Int32)), .unset] [(.int (1 : Int32))])) _
          refine XS.goto X135.here hx rfl (pc0 := 172) (pc' := 176) rfl (hb hby at_172) (by decide) (by decide) ?_
          show Steps p.tables e below (T135.setTop (mkF m 176 #[.val (.int p1), .val (.int p2), .val (.int z2), .val (.int (1 : Int32)), .val (.int z6), .val (.ref b7), .val (.int (1 : Int32)), .val (.int (1 : Int32)), .unset] [(.int (1 : Int32))])) _
          refine XS.istore X135.here hx rfl (hb hby at_176) rfl (l' := #[.val (.int p1), .val (.int p2), .val (.int z2), .val (.int (1 : Int32)), .val (.int z6), .val (.ref b7), .val (.int (1 : Int32)), .val (.int (1 : Int32)), .val (.int (1 : Int32))]) rfl ?_
          show Steps p.tables e below (T135.setTop (mkF m 178 #[.val (.int p1), .val (.int p2), .val (.int z2), .val (.int (1 : Int32)), .val (.int z6), .val (.ref b7), .val (.int (1 : Int32)), .val (.int (1 : Int32)), .val (.int (1 : Int32))] [])) _
          refine XS.iload X135.here hx rfl (hb hby at_178) rfl ?_
          show Steps p.tables e below (T135.setTop (mkF m 180 #[.val (.int p1), .val (.int p2), .val (.int z2), .val (.int (1 : Int32)), .val (.int z6), .val (.ref b7), .val (.int (1 : Int32)), .val (.int (1 : Int32)), .val (.int (1 : Int32))] [(.int (1 : Int32))])) _
          refine XS.ifNo X135.here hx rfl (hb hby at_180) rfl ((if0 _ _).trans (feq (by decide : ¬ ((1 : Int32) = (0 : Int32)))).1) ?_
          show Steps p.tables e below (T135.setTop (mkF m 183 #[.val (.int p1), .val (.int p2), .val (.int z2), .val (.int (1 : Int32)), .val (.int z6), .val (.ref b7), .val (.int (1 : Int32)), .val (.int (1 : Int32)), .val (.int (1 : Int32))] [])) _
          refine XS.iload X135.here hx rfl (hb hby at_183) rfl ?_
          show Steps p.tables e below (T135.setTop (mkF m 185 #[.val (.int p1), .val (.int p2), .val (.int z2), .val (.int (1 : Int32)), .val (.int z6), .val (.ref b7), .val (.int (1 : Int32)), .val (.int (1 : Int32)), .val (.int (1 : Int32))] [(.int (1 : Int32))])) _
          refine XS.ifNo X135.here hx rfl (hb hby at_185) rfl ((if0 _ _).trans (feq (by decide : ¬ ((1 : Int32) = (0 : Int32)))).1) ?_
          show Steps p.tables e below (T135.setTop (mkF m 188 #[.val (.int p1), .val (.int p2), .val (.int z2), .val (.int (1 : Int32)), .val (.int z6), .val (.ref b7), .val (.int (1 : Int32)), .val (.int (1 : Int32)), .val (.int (1 : Int32))] [])) _
          refine XS.iload X135.here hx rfl (hb hby at_188) rfl ?_
          show Steps p.tables e below (T135.setTop (mkF m 190 #[.val (.int p1), .val (.int p2), .val (.int z2), .val (.int (1 : Int32)), .val (.int z6), .val (.ref b7), .val (.int (1 : Int32)), .val (.int (1 : Int32)), .val (.int (1 : Int32))] [(.int (1 : Int32))])) _
          refine XS.ifNo X135.here hx rfl (hb hby at_190) rfl ((if0 _ _).trans (feq (by decide : ¬ ((1 : Int32) = (0 : Int32)))).1) ?_
          show Steps p.tables e below (T135.setTop (mkF m 193 #[.val (.int p1), .val (.int p2), .val (.int z2), .val (.int (1 : Int32)), .val (.int z6), .val (.ref b7), .val (.int (1 : Int32)), .val (.int (1 : Int32)), .val (.int (1 : Int32))] [])) _
          refine XS.iconst X135.here hx rfl (hb hby at_193) ?_
          show Steps p.tables e below (T135.setTop (mkF m 194 #[.val (.int p1), .val (.int p2), .val (.int z2), .val (.int (1 : Int32)), .val (.int z6), .val (.ref b7), .val (.int (1 : Int32)), .val (.int (1 : Int32)), .val (.int (1 : Int32))] [(.int (1 : Int32))])) _
          refine XS.goto X135.here hx rfl (pc0 := 194) (pc' := 198) rfl (hb hby at_194) (by decide) (by decide) ?_
          show Steps p.tables e below (T135.setTop (mkF m 198 #[.val (.int p1), .val (.int p2), .val (.int z2), .val (.int (1 : Int32)), .val (.int z6), .val (.ref b7), .val (.int (1 : Int32)), .val (.int (1 : Int32)), .val (.int (1 : Int32))] [(.int (1 : Int32))])) _
          exact retN X135 hx (t := .boolean) hret (by simp) (hb hby at_198) hr
        ·
          show Q0 n0 _ T135.heap _
          rw [e137]
          exact ⟨rfl, N135⟩
set_option maxRecDepth 65536 in
set_option maxHeartbeats 40000000 in
theorem comes_1 {Post : Tables → Env → Array Value → State → Outcome → State → Prop} (hpost : ∀ tb e args s v u, (limb_1_1.after args s (.returned v) u = true ∧ limb_1_2.after args s (.returned v) u = true ∧ True) → FrameEnd s (.returned v) u (Jvm.fieldLocs frame_1_writes args s ++ Jvm.arrayLocs frame_1_arrays args s ++ Jvm.staticLocs frame_1_statics s) 16 128 → Post tb e args s (.returned v) u) :
    ArmFor flags0 classFile x code maxLocals ret World_1 tables_1 room_1 Calls_1 rest_1 Pre_1 Post := by
  intro l hfl _ _ p e ha hc hk s m args below hf hA hF happ hP
  obtain ⟨hcalls, hrest, hpre⟩ := hP
  obtain ⟨-, -, -, hnamed, -, -, -, hat⟩ := (Spec.applies_iff hf).mp happ
  obtain ⟨hg, hn⟩ := and_e (Cond.before_iff.mp (show (Jvm.Cond.and given_1 narrow_1).before args s = true from hpre))
  obtain ⟨hcount, hk0⟩ := and_e hg
  obtain ⟨hi0, hk1⟩ := and_e hk0
  have hi1 := hk1
  obtain ⟨w_a0, w_a1, rfl⟩ : ∃ w_a0 w_a1 : Value, args = #[w_a0, w_a1] := by
    have hs : args.size = 2 := by simpa [Cond.value, given_1] using hcount
    obtain ⟨L⟩ := args
    match L, hs with
    | [w_a0, w_a1], _ => exact ⟨w_a0, w_a1, rfl⟩
  have hw := fun d (hd : d ∈ tables_1) => atoms_spec (ws := Jvm.Cond.code x code maxLocals ret :: tables_1) hat d (List.mem_cons_of_mem _ hd)
  have hfit : Fit s := fun {y c} hc i hi => by
    obtain ⟨ha, rfl⟩ := Array.getElem?_eq_some_iff.mp hc
    have q := List.all_eq_true.mp ((Array.all_eq_true_iff_forall_mem.mp hF) _ (Array.getElem_mem ha)) i (List.mem_range.mpr hi)
    simpa [Array.getElem?_eq_getElem hi] using q
  obtain ⟨i0, ei0⟩ := is_v hi0
  obtain rfl : w_a0 = (.int i0) := Option.some.inj ei0
  obtain ⟨i1, ei1⟩ := is_v hi1
  obtain rfl : w_a1 = (.int i1) := Option.some.inj ei1
  obtain ⟨gl0, gr0⟩ := and_e hn
  obtain ⟨gl1, gr1⟩ := and_e gr0
  obtain ⟨gl2, gr2⟩ := and_e gr1
  obtain ⟨gl3, gr3⟩ := and_e gr2
  obtain ⟨gl4, gr4⟩ := and_e gr3
  obtain ⟨w1, ev_w1⟩ := exa_v gl0
  have S_w1 : Sta s s.heap "com/example/vorgang/vorgang/QueryTimeoutScope$Kept" "NOT_KNOWN" "Lcom/example/vorgang/vorgang/QueryTimeoutScope$Kept;" (.ref w1) := Sta.start ev_w1 (Or.inr ⟨(hw _ (List.mem_of_getElem? (i := 10) rfl)), (hw _ (List.mem_of_getElem? (i := 11) rfl))⟩)
  have E_w1 : Exa s s.heap w1 "com/example/vorgang/vorgang/QueryTimeoutScope$Kept" := Exa.start ev_w1 gl0
  obtain ⟨w2, ev_w2⟩ := exa_v gl1
  have S_w2 : Sta s s.heap "com/example/vorgang/vorgang/QueryTimeoutScope$Kept" "STATEMENT" "Lcom/example/vorgang/vorgang/QueryTimeoutScope$Kept;" (.ref w2) := Sta.start ev_w2 (Or.inr ⟨(hw _ (List.mem_of_getElem? (i := 10) rfl)), (hw _ (List.mem_of_getElem? (i := 25) rfl))⟩)
  have E_w2 : Exa s s.heap w2 "com/example/vorgang/vorgang/QueryTimeoutScope$Kept" := Exa.start ev_w2 gl1
  obtain ⟨w3, ev_w3⟩ := exa_v gl4
  have S_w3 : Sta s s.heap "com/example/vorgang/vorgang/QueryTimeoutScope$Kept" "SESSION" "Lcom/example/vorgang/vorgang/QueryTimeoutScope$Kept;" (.ref w3) := Sta.start ev_w3 (Or.inr ⟨(hw _ (List.mem_of_getElem? (i := 10) rfl)), (hw _ (List.mem_of_getElem? (i := 32) rfl))⟩)
  have E_w3 : Exa s s.heap w3 "com/example/vorgang/vorgang/QueryTimeoutScope$Kept" := Exa.start ev_w3 gl4
  have F_w2_ordinal : Fld s s.heap w2 "java/lang/Enum" "ordinal" "I" (.int (1 : Int32)) := Fld.start ((fld_at ev_w2).symm.trans (eqv_i rfl gl2))
  have F_w1_ordinal : Fld s s.heap w1 "java/lang/Enum" "ordinal" "I" (.int (0 : Int32)) := Fld.start ((fld_at ev_w1).symm.trans (eqv_i rfl gl3))
  have F_w3_ordinal : Fld s s.heap w3 "java/lang/Enum" "ordinal" "I" (.int (2 : Int32)) := Fld.start ((fld_at ev_w3).symm.trans (eqv_i rfl gr4))
  have G : GW s w1 w2 w3 := ⟨S_w1, E_w1, S_w2, E_w2, S_w3, E_w3, F_w2_ordinal, F_w1_ordinal, F_w3_ordinal⟩
  obtain ⟨n, o, h1, h2, h3, _, L, rfl, ⟨rfl, N⟩, hq⟩ := rm0 l s _ hw w1 w2 w3 G tables_1 i0 i1 s.heap s.heap.size (Old.start s) p e ha hc hk s m _ below hf ((Spec.applies_iff_loose hf).mp happ).1 ⟨rfl, State.Warmed39.refl s, rfl⟩ trivial
  refine ⟨n, _, h1, h2, h3, hpost _ _ _ _ _ _ ⟨Cond.after_iff.mpr rfl, Cond.after_iff.mpr (eq_i res_at (Term.int_eval (1)) rfl), trivial⟩ ⟨hq.1, hq.2.1, (hq.2.2.sift fun y hy => Or.inr (N y hy)).mono (by decide) (by decide)⟩⟩
theorem main_1_1 : Claimed_1_1 := comes_1 fun _ _ _ _ _ _ h hF => ⟨h.1, hF⟩
theorem main_1_2 : Claimed_1_2 := comes_1 fun _ _ _ _ _ _ h hF => ⟨h.2.1, hF⟩
end Jvm.Pilot.@@N@@
namespace Jvm.Pilot.@@N@@
open Jvm Jvm.ClassFile Sem Op Lib Jvm.Free Jvm.Stand Jvm.Pilot.@@N@@.Jvm.D
/-! MADE BY PROGRAM (witnessworld.py) out of the Statement's table words and the real class files: 13 classes; the members and pool entries that the words name. The judged class is class 1, her method 1. -/
namespace start1
open Jvm.ClassFile
def u (s : String) : CpInfo := .utf8 (stringToUtf16 s)
/-- a pool by its gaps: so many unusable entries, then the entry; so many at the end -/
def gap : Nat → List CpInfo → List CpInfo
  | 0, r => r
  | n + 1, r => .unusable :: gap n r
def poolList (es : List (Nat × CpInfo)) (last : Nat) : List CpInfo := es.foldr (fun e r => gap e.1 (e.2 :: r)) (gap last [])
def pool (es : List (Nat × CpInfo)) (last : Nat) : Array CpInfo := ⟨poolList es last⟩
def fileOf (pool : Array CpInfo) (this : Nat) (attrs : Array Attribute := #[]) (ms : Array MethodInfo := #[]) (fl : Nat := 33) (sup : Nat := 0) (ifs : Array Nat := #[]) (fds : Array FieldInfo := #[]) : ClassFile where
  minorVersion := 0
  majorVersion := 65
  constantPool := pool
  accessFlags := fl
  thisClass := this
  superClass := sup
  interfaces := ifs
  fields := fds
  methods := ms
  attributes := attrs
def plain (name : String) (sup : Option ClassId) : Class where
  name := name
  kind := .ordinary
  loader := none
  accessFlags := 33
  super := sup
  interfaces := #[]
  cf := none
  fields := #[]
  methods := #[]
  instanceTypes := #[]
  staticTypes := #[]
  resolved := #[]
  callSites := []
  init := .initialized
  statics := none
  mirror := none

def pool0 : Array CpInfo := pool [(5, u "<init>"), (0, u "()V"), (1, .class_ 10), (1, u "java/lang/Object")] 113

def k0c0 : Code := { maxStack := 0, maxLocals := 1, code := object_method_1_code, exceptionTable := #[], attributes := #[] }
def k0m0 : Method := { name := "<init>", desc := "()V", sig := { parameters := [], returnType := none }, accessFlags := 1, code := some k0c0 }
/-- java/lang/Object -/
def k0 : Class := { plain "java/lang/Object" none with
  accessFlags := 33
  interfaces := #[]
  cf := some (fileOf pool0 8 #[] #[{ accessFlags := 1, nameIndex := 5, descriptorIndex := 6, attributes := #[] }] 33 0 #[] #[])
  fields := #[]
  methods := #[k0m0]
  instanceTypes := #[]
  staticTypes := #[]
  resolved := Array.replicate 124 none
  statics := none }

def pool1 : Array CpInfo := pool [(2, .class_ 4), (0, .nameAndType 5 6), (0, u "java/lang/Object"), (0, u "<init>"), (0, u "()V"), (0, .class_ 8), (0, u "com/example/vorgang/vorgang/QueryTimeoutScope"), (0, .methodref 7 3), (0, .methodref 7 11), (0, .nameAndType 12 13), (0, u "isKnown"), (0, u "()Z"), (0, .methodref 7 15), (0, .nameAndType 16 17), (0, u "found"), (0, u "(Z)V"), (0, .methodref 7 19), (0, .nameAndType 20 13), (0, u "isSession"), (0, .methodref 7 22), (0, .nameAndType 23 13), (0, u "isStatement"), (0, .class_ 25), (0, u "com/example/vorgang/vorgang/QueryTimeoutScopeFoundPinLaw"), (2, u "law"), (0, u "(II)Z")] 3

def k1m0 : Method := { name := "<init>", desc := "()V", sig := { parameters := [], returnType := none }, accessFlags := 1, code := none }
def k1c1 : Code := { maxStack := 2, maxLocals := 9, code := code, exceptionTable := #[], attributes := #[] }
def k1m1 : Method := { name := "law", desc := "(II)Z", sig := { parameters := [.int, .int], returnType := some .boolean }, accessFlags := 9, code := some k1c1 }
/-- com/example/vorgang/vorgang/QueryTimeoutScopeFoundPinLaw -/
def k1 : Class := { plain "com/example/vorgang/vorgang/QueryTimeoutScopeFoundPinLaw" (some 0) with
  accessFlags := 49
  interfaces := #[]
  cf := some (fileOf pool1 24 #[] #[{ accessFlags := 1, nameIndex := 5, descriptorIndex := 6, attributes := #[] }, { accessFlags := 9, nameIndex := 28, descriptorIndex := 29, attributes := #[] }] 49 2 #[] #[])
  fields := #[]
  methods := #[k1m0, k1m1]
  instanceTypes := #[]
  staticTypes := #[]
  resolved := Array.replicate 33 none
  statics := none }

def pool2 : Array CpInfo := pool [(1, .methodref 2 3), (0, .class_ 4), (0, .nameAndType 5 6), (0, u "java/lang/Object"), (0, u "<init>"), (0, u "()V"), (0, .fieldref 8 9), (0, .class_ 10), (0, .nameAndType 11 12), (0, u "com/example/vorgang/vorgang/QueryTimeoutScope$Kept"), (0, u "NOT_KNOWN"), (0, u "Lcom/example/vorgang/vorgang/QueryTimeoutScope$Kept;"), (0, .fieldref 14 15), (0, .class_ 16), (0, .nameAndType 17 12), (0, u "com/example/vorgang/vorgang/QueryTimeoutScope"), (0, u "kept"), (0, .fieldref 8 19), (0, .nameAndType 20 12), (0, u "SESSION"), (0, .fieldref 8 22), (0, .nameAndType 23 12), (0, u "STATEMENT"), (2, u "isSession"), (0, u "()Z"), (1, u "isStatement"), (0, u "isKnown"), (0, u "found"), (0, u "(Z)V")] 5

def k2c0 : Code := { maxStack := 2, maxLocals := 1, code := prog_14_method_1_code, exceptionTable := #[], attributes := #[] }
def k2m0 : Method := { name := "<init>", desc := "()V", sig := { parameters := [], returnType := none }, accessFlags := 0, code := some k2c0 }
def k2c1 : Code := { maxStack := 2, maxLocals := 1, code := prog_14_method_2_code, exceptionTable := #[], attributes := #[] }
def k2m1 : Method := { name := "isSession", desc := "()Z", sig := { parameters := [], returnType := some .boolean }, accessFlags := 0, code := some k2c1 }
def k2c2 : Code := { maxStack := 2, maxLocals := 1, code := prog_14_method_3_code, exceptionTable := #[], attributes := #[] }
def k2m2 : Method := { name := "isStatement", desc := "()Z", sig := { parameters := [], returnType := some .boolean }, accessFlags := 0, code := some k2c2 }
def k2c3 : Code := { maxStack := 2, maxLocals := 1, code := prog_14_method_4_code, exceptionTable := #[], attributes := #[] }
def k2m3 : Method := { name := "isKnown", desc := "()Z", sig := { parameters := [], returnType := some .boolean }, accessFlags := 0, code := some k2c3 }
def k2c4 : Code := { maxStack := 2, maxLocals := 2, code := prog_14_method_5_code, exceptionTable := #[], attributes := #[] }
def k2m4 : Method := { name := "found", desc := "(Z)V", sig := { parameters := [.boolean], returnType := none }, accessFlags := 0, code := some k2c4 }
/-- com/example/vorgang/vorgang/QueryTimeoutScope -/
def k2 : Class := { plain "com/example/vorgang/vorgang/QueryTimeoutScope" (some 0) with
  accessFlags := 48
  interfaces := #[]
  cf := some (fileOf pool2 14 #[.nestMembers #[8]] #[{ accessFlags := 0, nameIndex := 5, descriptorIndex := 6, attributes := #[] }, { accessFlags := 0, nameIndex := 26, descriptorIndex := 27, attributes := #[] }, { accessFlags := 0, nameIndex := 29, descriptorIndex := 27, attributes := #[] }, { accessFlags := 0, nameIndex := 30, descriptorIndex := 27, attributes := #[] }, { accessFlags := 0, nameIndex := 31, descriptorIndex := 32, attributes := #[] }] 48 2 #[] #[{ accessFlags := 66, nameIndex := 17, descriptorIndex := 12, attributes := #[] }])
  fields := #[{ name := "kept", type := (.object "com/example/vorgang/vorgang/QueryTimeoutScope$Kept"), accessFlags := 66, slot := 0, constantValue := 0 }]
  methods := #[k2m0, k2m1, k2m2, k2m3, k2m4]
  instanceTypes := #[(.object "com/example/vorgang/vorgang/QueryTimeoutScope$Kept")]
  staticTypes := #[]
  resolved := Array.replicate 38 none
  statics := none }

def pool3 : Array CpInfo := pool [(1, .class_ 2), (0, u "java/lang/constant/Constable"), (0, .class_ 4), (0, u "java/lang/Object")] 6

/-- java/lang/constant/Constable -/
def k3 : Class := { plain "java/lang/constant/Constable" (some 0) with
  accessFlags := 1537
  interfaces := #[]
  cf := some (fileOf pool3 1 #[] #[] 1537 3 #[] #[])
  fields := #[]
  methods := #[]
  instanceTypes := #[]
  staticTypes := #[]
  resolved := Array.replicate 11 none
  statics := none }

def pool4 : Array CpInfo := pool [(1, .class_ 2), (0, u "java/lang/Comparable"), (0, .class_ 4), (0, u "java/lang/Object")] 7

/-- java/lang/Comparable -/
def k4 : Class := { plain "java/lang/Comparable" (some 0) with
  accessFlags := 1537
  interfaces := #[]
  cf := some (fileOf pool4 1 #[] #[] 1537 3 #[] #[])
  fields := #[]
  methods := #[]
  instanceTypes := #[]
  staticTypes := #[]
  resolved := Array.replicate 12 none
  statics := none }

def pool5 : Array CpInfo := pool [(1, .class_ 2), (0, u "java/io/Serializable"), (0, .class_ 4), (0, u "java/lang/Object")] 2

/-- java/io/Serializable -/
def k5 : Class := { plain "java/io/Serializable" (some 0) with
  accessFlags := 1537
  interfaces := #[]
  cf := some (fileOf pool5 1 #[] #[] 1537 3 #[] #[])
  fields := #[]
  methods := #[]
  instanceTypes := #[]
  staticTypes := #[]
  resolved := Array.replicate 7 none
  statics := none }

def pool6 : Array CpInfo := pool [(2, .class_ 4), (1, u "java/lang/Enum"), (0, u "name"), (0, u "Ljava/lang/String;"), (2, u "ordinal"), (0, u "I"), (1, .class_ 14), (1, u "java/lang/Object"), (4, u "hash"), (86, .class_ 108), (1, u "java/lang/Enum$EnumDesc"), (2, .class_ 112), (0, u "java/lang/constant/Constable"), (0, .class_ 114), (0, u "java/lang/Comparable"), (0, .class_ 116), (0, u "java/io/Serializable")] 87

/-- java/lang/Enum -/
def k6 : Class := { plain "java/lang/Enum" (some 0) with
  accessFlags := 1057
  interfaces := #[3, 4, 5]
  cf := some (fileOf pool6 2 #[.nestMembers #[106]] #[] 1057 12 #[111, 113, 115] #[{ accessFlags := 18, nameIndex := 5, descriptorIndex := 6, attributes := #[] }, { accessFlags := 18, nameIndex := 9, descriptorIndex := 10, attributes := #[] }, { accessFlags := 2, nameIndex := 19, descriptorIndex := 10, attributes := #[] }])
  fields := #[{ name := "name", type := (.object "java/lang/String"), accessFlags := 18, slot := 0, constantValue := 0 }, { name := "ordinal", type := .int, accessFlags := 18, slot := 1, constantValue := 0 }, { name := "hash", type := .int, accessFlags := 2, slot := 2, constantValue := 0 }]
  methods := #[]
  instanceTypes := #[(.object "java/lang/String"), .int, .int]
  staticTypes := #[]
  resolved := Array.replicate 204 none
  statics := none }

def pool7 : Array CpInfo := pool [(1, .class_ 2), (0, u "com/example/vorgang/vorgang/QueryTimeoutScope$Kept"), (2, u "NOT_KNOWN"), (0, u "Lcom/example/vorgang/vorgang/QueryTimeoutScope$Kept;"), (2, u "STATEMENT"), (2, u "SESSION"), (2, u "$VALUES"), (0, u "[Lcom/example/vorgang/vorgang/QueryTimeoutScope$Kept;"), (6, .class_ 25), (1, u "java/lang/Enum"), (26, .class_ 53), (0, u "com/example/vorgang/vorgang/QueryTimeoutScope")] 2

/-- com/example/vorgang/vorgang/QueryTimeoutScope$Kept -/
def k7 : Class := { plain "com/example/vorgang/vorgang/QueryTimeoutScope$Kept" (some 6) with
  accessFlags := 16432
  interfaces := #[]
  cf := some (fileOf pool7 1 #[.nestHost 52] #[] 16432 23 #[] #[{ accessFlags := 16409, nameIndex := 5, descriptorIndex := 6, attributes := #[] }, { accessFlags := 16409, nameIndex := 9, descriptorIndex := 6, attributes := #[] }, { accessFlags := 16409, nameIndex := 12, descriptorIndex := 6, attributes := #[] }, { accessFlags := 4122, nameIndex := 15, descriptorIndex := 16, attributes := #[] }])
  fields := #[{ name := "NOT_KNOWN", type := (.object "com/example/vorgang/vorgang/QueryTimeoutScope$Kept"), accessFlags := 16409, slot := 0, constantValue := 0 }, { name := "STATEMENT", type := (.object "com/example/vorgang/vorgang/QueryTimeoutScope$Kept"), accessFlags := 16409, slot := 1, constantValue := 0 }, { name := "SESSION", type := (.object "com/example/vorgang/vorgang/QueryTimeoutScope$Kept"), accessFlags := 16409, slot := 2, constantValue := 0 }, { name := "$VALUES", type := (.array (.object "com/example/vorgang/vorgang/QueryTimeoutScope$Kept")), accessFlags := 4122, slot := 3, constantValue := 0 }]
  methods := #[]
  instanceTypes := #[(.object "java/lang/String"), .int, .int]
  staticTypes := #[(.object "com/example/vorgang/vorgang/QueryTimeoutScope$Kept"), (.object "com/example/vorgang/vorgang/QueryTimeoutScope$Kept"), (.object "com/example/vorgang/vorgang/QueryTimeoutScope$Kept"), (.array (.object "com/example/vorgang/vorgang/QueryTimeoutScope$Kept"))]
  resolved := Array.replicate 56 none
  statics := some 0 }

def pool8 : Array CpInfo := pool [(1, u "java/lang/Cloneable"), (0, .class_ 1), (0, u "java/lang/Object"), (0, .class_ 3)] 3

/-- java/lang/Cloneable -/
def k8 : Class := { plain "java/lang/Cloneable" (some 0) with
  accessFlags := 1537
  interfaces := #[]
  cf := some (fileOf pool8 2 #[] #[] 1537 4 #[] #[])
  fields := #[]
  methods := #[]
  instanceTypes := #[]
  staticTypes := #[]
  resolved := Array.replicate 8 none
  statics := none }

/-- the primitive byte -/
def k9 : Class := { plain "byte" none with kind := .primitive 'B', accessFlags := 0x411 }
/-- [B -/
def k10 : Class := { plain "[B" (some 0) with kind := .array 9 .byte, interfaces := #[8, 5], accessFlags := 1041 }

/-- the primitive int -/
def k11 : Class := { plain "int" none with kind := .primitive 'I', accessFlags := 0x411 }
/-- [I -/
def k12 : Class := { plain "[I" (some 0) with kind := .array 11 .int, interfaces := #[8, 5], accessFlags := 1041 }

def heap : Heap := #[{ cls := 7, slots := #[.ref 1, .ref 2, .ref 3, .null], vm := .statics 7 },
  { cls := 7, slots := #[.null, .int 0, .int 0], vm := .none },
  { cls := 7, slots := #[.null, .int 1, .int 0], vm := .none },
  { cls := 7, slots := #[.null, .int 2, .int 0], vm := .none }]
def classes : Array Class := #[k0, k1, k2, k3, k4, k5, k6, k7, k8, k9, k10, k11, k12]
def interned : List (Array UInt16 × Addr) := []
def slotsUsed : Nat := 13
def theMethod : MethodId := ⟨1, 1⟩
def args0 : Array Value := #[.int 5, .int 5]
def aboutOver (below : List Frame) : State where
  vm := { classes := classes, interned := interned.toArray }
  heap := heap
  slotsUsed := slotsUsed
  threads := #[{ frames := .invoking theMethod args0 :: below }]
def below0 : List Frame := [.native { method := ⟨0, 0⟩, args := #[] }]
def about1 : State := aboutOver below0
def p0 : Program := .bare "" "" ""
def e0 : Env := launch0.env 0 0 0
theorem w_frames : about1.frames = Frame.invoking theMethod args0 :: below0 := rfl
set_option maxRecDepth 65536 in
theorem w_args : argsFit about1.vm theMethod args0 = true := by decide +kernel
set_option maxRecDepth 65536 in
theorem w_heap : heapFits about1 = true := by decide +kernel
set_option maxRecDepth 65536 in
theorem w_runnable : about1.curStatus? = some .runnable := by decide +kernel
set_option maxRecDepth 65536 in
theorem w_alone : about1.alone = true := by decide +kernel
set_option maxRecDepth 65536 in
theorem w_named : about1.methodNamed? x = some theMethod := by decide +kernel
set_option maxRecDepth 65536 in
theorem w_hears : about1.hears theMethod below0 = true := by decide +kernel
set_option maxRecDepth 65536 in
theorem w_ripe : about1.ripe theMethod args0 below0 = true := by decide +kernel
theorem w_running : about1.status = .running := rfl
set_option maxRecDepth 65536 in
theorem w_room : about1.hasRoom e0.platform room_1 = true :=
  launch0.hasRoom_least _ room_1 (by decide +kernel) (by decide +kernel) (by decide +kernel) (by decide +kernel) (by decide +kernel) (by decide +kernel)
theorem allAtoms_all (ts : List Jvm.Cond) (a : Array Jvm.Value) (st : Jvm.State) : (allAtoms ts).before a st = ts.all (fun c => c.before a st) := by
  induction ts with
  | nil => rfl
  | cons c t ih =>
    show (Jvm.Cond.and c (allAtoms t)).before a st = _
    rw [Jvm.Cond.before_and, ih, List.all_cons]
def words1 : List Jvm.Cond := Jvm.Cond.code x code maxLocals ret :: tables_1
/-- a 'code' word, met by the world's own term for the bytes: nothing is compared byte by byte -/
theorem code_word {y : MethodName} {bytes : ByteArray} {mx : Nat} {rt : Option FieldType} {a : Array Value} {s : State} {m : MethodId} {meth : Method} {c : Code} (h1 : s.methodNamed? y = some m) (h2 : s.vm.method? m = some meth) (h3 : meth.code = some c) (h4 : c.code = bytes)
    (h5 : (c.maxLocals == mx && c.exceptionTable.isEmpty && decide (c.maxStack ≤ mostOperands) && decide (meth.sig.returnType = rt) && !meth.locks && decide (parseMethodDescriptor y.desc = some meth.sig)) = true) : (Jvm.Cond.code y bytes mx rt).before a s = true := by
  simp only [Bool.and_eq_true, beq_iff_eq, Bool.not_eq_true', decide_eq_true_eq] at h5
  obtain ⟨⟨⟨⟨⟨g1, g2⟩, g3⟩, g4⟩, g5⟩, g6⟩ := h5
  simp [Cond.before, Cond.holds, Cond.value, h1, h2, h3, h4, g1, g2, g3, g4, g5, g6]
def isCode : Jvm.Cond → Bool
  | .code _ _ _ _ => true
  | _ => false
theorem all_split {L : List Jvm.Cond} {P : Jvm.Cond → Bool} (h1 : L.all (fun c => isCode c || P c) = true) (h2 : ∀ c ∈ L.filter isCode, P c = true) : L.all P = true := by
  refine List.all_eq_true.mpr fun c hc => ?_
  have h := List.all_eq_true.mp h1 c hc
  rcases Bool.eq_false_or_eq_true (isCode c) with hi | hi
  · exact h2 c (List.mem_filter.mpr ⟨hc, hi⟩)
  · simpa [hi] using h
set_option maxRecDepth 65536 in
theorem w_c0 : (Jvm.Cond.code x code maxLocals ret).before args0 about1 = true := code_word (m := ⟨1, 1⟩) (meth := k1m1) (c := k1c1) (by decide +kernel) rfl rfl rfl (by decide +kernel)
set_option maxRecDepth 65536 in
theorem w_c1 : (Jvm.Cond.code ({ cls := "com/example/vorgang/vorgang/QueryTimeoutScope", name := "<init>", desc := "()V" } : Jvm.MethodName) prog_14_method_1_code (1 : Nat) (Option.none : Option Jvm.ClassFile.FieldType)).before args0 about1 = true := code_word (m := ⟨2, 0⟩) (meth := k2m0) (c := k2c0) (by decide +kernel) rfl rfl rfl (by decide +kernel)
set_option maxRecDepth 65536 in
theorem w_c2 : (Jvm.Cond.code ({ cls := "java/lang/Object", name := "<init>", desc := "()V" } : Jvm.MethodName) object_method_1_code (1 : Nat) (Option.none : Option Jvm.ClassFile.FieldType)).before args0 about1 = true := code_word (m := ⟨0, 0⟩) (meth := k0m0) (c := k0c0) (by decide +kernel) rfl rfl rfl (by decide +kernel)
set_option maxRecDepth 65536 in
theorem w_c3 : (Jvm.Cond.code ({ cls := "com/example/vorgang/vorgang/QueryTimeoutScope", name := "isKnown", desc := "()Z" } : Jvm.MethodName) prog_14_method_4_code (1 : Nat) (Option.some Jvm.ClassFile.FieldType.boolean)).before args0 about1 = true := code_word (m := ⟨2, 3⟩) (meth := k2m3) (c := k2c3) (by decide +kernel) rfl rfl rfl (by decide +kernel)
set_option maxRecDepth 65536 in
theorem w_c4 : (Jvm.Cond.code ({ cls := "com/example/vorgang/vorgang/QueryTimeoutScope", name := "found", desc := "(Z)V" } : Jvm.MethodName) prog_14_method_5_code (2 : Nat) (Option.none : Option Jvm.ClassFile.FieldType)).before args0 about1 = true := code_word (m := ⟨2, 4⟩) (meth := k2m4) (c := k2c4) (by decide +kernel) rfl rfl rfl (by decide +kernel)
set_option maxRecDepth 65536 in
theorem w_c5 : (Jvm.Cond.code ({ cls := "com/example/vorgang/vorgang/QueryTimeoutScope", name := "isSession", desc := "()Z" } : Jvm.MethodName) prog_14_method_2_code (1 : Nat) (Option.some Jvm.ClassFile.FieldType.boolean)).before args0 about1 = true := code_word (m := ⟨2, 1⟩) (meth := k2m1) (c := k2c1) (by decide +kernel) rfl rfl rfl (by decide +kernel)
set_option maxRecDepth 65536 in
theorem w_c6 : (Jvm.Cond.code ({ cls := "com/example/vorgang/vorgang/QueryTimeoutScope", name := "isStatement", desc := "()Z" } : Jvm.MethodName) prog_14_method_3_code (1 : Nat) (Option.some Jvm.ClassFile.FieldType.boolean)).before args0 about1 = true := code_word (m := ⟨2, 2⟩) (meth := k2m2) (c := k2c2) (by decide +kernel) rfl rfl rfl (by decide +kernel)
def codes1 : List Jvm.Cond := [Jvm.Cond.code x code maxLocals ret, Jvm.Cond.code ({ cls := "com/example/vorgang/vorgang/QueryTimeoutScope", name := "<init>", desc := "()V" } : Jvm.MethodName) prog_14_method_1_code (1 : Nat) (Option.none : Option Jvm.ClassFile.FieldType), Jvm.Cond.code ({ cls := "java/lang/Object", name := "<init>", desc := "()V" } : Jvm.MethodName) object_method_1_code (1 : Nat) (Option.none : Option Jvm.ClassFile.FieldType), Jvm.Cond.code ({ cls := "com/example/vorgang/vorgang/QueryTimeoutScope", name := "isKnown", desc := "()Z" } : Jvm.MethodName) prog_14_method_4_code (1 : Nat) (Option.some Jvm.ClassFile.FieldType.boolean), Jvm.Cond.code ({ cls := "com/example/vorgang/vorgang/QueryTimeoutScope", name := "found", desc := "(Z)V" } : Jvm.MethodName) prog_14_method_5_code (2 : Nat) (Option.none : Option Jvm.ClassFile.FieldType), Jvm.Cond.code ({ cls := "com/example/vorgang/vorgang/QueryTimeoutScope", name := "isSession", desc := "()Z" } : Jvm.MethodName) prog_14_method_2_code (1 : Nat) (Option.some Jvm.ClassFile.FieldType.boolean), Jvm.Cond.code ({ cls := "com/example/vorgang/vorgang/QueryTimeoutScope", name := "isStatement", desc := "()Z" } : Jvm.MethodName) prog_14_method_3_code (1 : Nat) (Option.some Jvm.ClassFile.FieldType.boolean)]
set_option maxRecDepth 65536 in
theorem codes_eq : words1.filter isCode = codes1 := rfl
theorem w_codes : ∀ c ∈ words1.filter isCode, c.before args0 about1 = true := by
  rw [codes_eq]
  intro c hc
  simp only [codes1, List.mem_cons, List.not_mem_nil, or_false] at hc
  rcases hc with rfl | rfl | rfl | rfl | rfl | rfl | rfl
  · exact w_c0
  · exact w_c1
  · exact w_c2
  · exact w_c3
  · exact w_c4
  · exact w_c5
  · exact w_c6
set_option maxRecDepth 65536 in
theorem w_t1 : (words1.take 24).all (fun c => isCode c || c.before args0 about1) = true := by decide +kernel
set_option maxRecDepth 65536 in
theorem w_t2 : (words1.drop 24).all (fun c => isCode c || c.before args0 about1) = true := by decide +kernel
theorem w_tables : (allAtoms (Jvm.Cond.code x code maxLocals ret :: tables_1)).before args0 about1 = true := by
  rw [allAtoms_all]
  show words1.all (fun c => c.before args0 about1) = true
  refine all_split ?_ w_codes
  rw [← List.take_append_drop 24 words1, List.all_append, w_t1, w_t2]
  rfl
set_option maxRecDepth 65536 in
theorem w_case : (Jvm.Cond.and given_1 narrow_1).before args0 about1 = true := by decide +kernel
theorem w_applies : (headSpec (Jvm.Cond.code x code maxLocals ret :: tables_1) room_1).applies x e0.platform about1 = true :=
  (Spec.applies_iff w_frames).mpr ⟨w_running, w_runnable, w_alone, w_named, w_hears, w_ripe, w_room, w_tables⟩
theorem atStart : AtStart classFile x code maxLocals ret World_1 tables_1 room_1 Calls_1 rest_1 Pre_1 launch0 p0 e0 about1 theMethod args0 below0 :=
  ⟨lists_1, trivial, launch0.admits_env _ _ _, launch0.least_env, fairChoices_fair.cas, fairChoices_fair.clock, w_frames, w_args, w_heap, w_applies, trivial, trivial, w_case⟩
end start1
theorem witness_1 : WitnessClaimed_1 := ⟨start1.p0, start1.e0, start1.about1, start1.theMethod, start1.args0, start1.below0, start1.atStart⟩
end Jvm.Pilot.@@N@@
