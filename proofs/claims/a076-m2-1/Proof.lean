import JvmDerived
import JvmDerived.Pilot.@@N@@Statement
import JvmDerived.Pilot.@@N@@Code
set_option linter.unusedVariables false
set_option linter.unusedSimpArgs false
namespace Jvm.RoadKit
open Sem ClassFile Op Lib Jvm.Stand Jvm.Free Jvm.LawKit
section New
variable {p : Program} {l : Launch} {e : Env} {R : Room} {s : State} {m : MethodId} {args : Array Value} {below : List Frame} {meth : Method} {c : Code} {T : State} {locs : List Loc} {cells slots : Nat}
theorem retI (X : Stand p l e R s m args below meth c T locs cells slots) (hx : p.tables.exec = Jvm.exec) {pc : Nat} {Ls : Array Slot} {z : Int32} {rest : List Value} (hret : meth.sig.returnType = some .int) (hd : decode c.code pc = .ok (.ireturn, 1)) {fs : List Frame}
    (hl : ∀ (f : JFrame) (acts : List Action), f.method = m → f.locked = none → f.entered = [] → (doReturn e (T.setTop f) acts (some (.int z))).1 = T.setFrames fs) : Steps p.tables e below (T.setTop (mkF m pc Ls (.int z :: rest))) (T.setFrames fs) := by
  have hm' : T.vm.method? m = some meth := X.method'
  have hn : narrow .int (.int z) = .int z := rfl
  show Steps p.tables e below (T.setTop { method := m, pc := pc, locals := Ls, stack := _ :: rest, locked := none }) _
  jvm_step X.here [X.here.top, hx, hd, hm', hret, hn]
  first | (intro acts; rw [hl _ acts rfl rfl rfl]) | rw [hl _ _ rfl rfl rfl]
  exact Steps.refl _
end New
end Jvm.RoadKit
namespace Jvm.Pilot.@@N@@
open Jvm Jvm.ClassFile Sem Op Lib Jvm.Free Jvm.Stand Jvm.LawKit Jvm.RoadKit Bundle Jvm.Pilot.@@N@@.Jvm.D
theorem own_oz {Z : State} {n0 : Nat} {h : Heap} (O : Old Z n0 h) : n0 ≤ h.size := by
  rw [← O.1]; exact O.2.1
theorem own_lsw {tb : Tables} [Ours tb] {e : Env} {below : List Frame} {T target : State} {m : MethodId} {c : Code} {g : JFrame} (h : At T m c below) (hx : tb.exec = Jvm.exec) (hg : g.method = m) {dflt : Int} {prs : Array (Int × Int)} {len : Nat} {o : Int} {pc0 pc' : Nat} (hpc : g.pc = pc0) (hd : decode c.code g.pc = .ok (.lookupswitch dflt prs, len)) {i : Int32} {rest : List Value} (hs : g.stack = .int i :: rest)
    (hsort : (prs.toList.zip (prs.toList.drop 1)).all (fun (a, next) => a.1 < next.1) = true) (hoff : lookupswitch.offset prs.toList dflt i.toInt = o) (ho : 0 ≤ (pc0 : Int) + o) (hp : ((pc0 : Int) + o).toNat = pc')
    (hr : Steps tb e below (T.setTop { g with pc := pc', stack := rest }) target) : Steps tb e below (T.setTop g) target := by
  subst hg hpc hp
  jvm_step h [h.top, hx, hd, hs, hoff, ho, lookupswitch.wp_chain]
  exact ⟨by simpa using hsort, hr⟩
section Nums
variable {x k : Int32} {n : Int}
theorem own_lt1 (hk : k.toInt = n) (h : x < k) : x.toInt < n := by rw [← hk]; exact Int32.lt_iff_toInt_lt.mp h
theorem own_lt2 (hk : k.toInt = n) (h : k < x) : n < x.toInt := by rw [← hk]; exact Int32.lt_iff_toInt_lt.mp h
theorem own_nlt1 (hk : k.toInt = n) (h : ¬ x < k) : n ≤ x.toInt := by rw [Int32.lt_iff_toInt_lt, hk] at h; omega
theorem own_nlt2 (hk : k.toInt = n) (h : ¬ k < x) : x.toInt ≤ n := by rw [Int32.lt_iff_toInt_lt, hk] at h; omega
theorem own_eq (hk : k.toInt = n) (h : x = k) : x.toInt = n := by rw [← hk, h]
theorem own_neq (hk : k.toInt = n) (h : ¬ x = k) : x.toInt ≠ n := fun q => h (Int32.toInt_inj.mp (by rw [hk, q]))
theorem own_glt1 (hk : k.toInt = n) (h : x.toInt < n) : x < k := Int32.lt_iff_toInt_lt.mpr (by rw [hk]; exact h)
theorem own_glt2 (hk : k.toInt = n) (h : n < x.toInt) : k < x := Int32.lt_iff_toInt_lt.mpr (by rw [hk]; exact h)
theorem own_gnlt1 (hk : k.toInt = n) (h : n ≤ x.toInt) : ¬ x < k := fun q => by have := own_lt1 hk q; omega
theorem own_gnlt2 (hk : k.toInt = n) (h : x.toInt ≤ n) : ¬ k < x := fun q => by have := own_lt2 hk q; omega
theorem own_geq (hk : k.toInt = n) (h : x.toInt = n) : x = k := Int32.toInt_inj.mp (by rw [hk, h])
theorem own_gneq (hk : k.toInt = n) (h : x.toInt ≠ n) : ¬ x = k := fun q => h (own_eq hk q)
theorem own_and (hk : k.toInt = n) (h0 : 0 ≤ n) : 0 ≤ (x &&& k).toInt ∧ (x &&& k).toInt ≤ n := by have := c_and x k (by rw [hk]; exact h0); rw [hk] at this; exact this
theorem own_and2 (hk : k.toInt = n) (h0 : 0 ≤ n) : 0 ≤ (k &&& x).toInt ∧ (k &&& x).toInt ≤ n := by have := c_and' k x (by rw [hk]; exact h0); rw [hk] at this; exact this
theorem own_rem (hk : k.toInt = n) (h0 : 0 < n) (hx : 0 ≤ x.toInt) : 0 ≤ (x % k).toInt ∧ (x % k).toInt < n ∧ (x % k).toInt ≤ x.toInt := by
  have := (c_iremV x k).1 hx (by rw [hk]; exact h0); rw [hk] at this; exact ⟨this.1, this.2.1, this.2.2.1⟩
theorem own_add {lo hi : Int} (hk : k.toInt = n) (hx : lo ≤ x.toInt ∧ x.toInt ≤ hi) (h1 : -2147483648 ≤ lo + n) (h2 : hi + n < 2147483648) : lo + n ≤ (x + k).toInt ∧ (x + k).toInt ≤ hi + n := by
  have := c_iadd x k; have := rng32 (x + k); rw [hk] at *; omega
theorem own_add2 {lo hi : Int} (hk : k.toInt = n) (hx : lo ≤ x.toInt ∧ x.toInt ≤ hi) (h1 : -2147483648 ≤ lo + n) (h2 : hi + n < 2147483648) : lo + n ≤ (k + x).toInt ∧ (k + x).toInt ≤ hi + n := by
  have := c_iadd k x; have := rng32 (k + x); rw [hk] at *; omega
end Nums
theorem own_len {Z : State} {args : Array Value} {t : Term} {a : Addr} {c : Cell} {ty : FieldType} {n : Int32} (A : Arr Z Z.heap a c ty) (ev : t.eval args Z none [] Z = some (.ref a)) (h : (Term.length t).eval args Z none [] Z = some (.int n)) : c.slots.size < 2 ^ 31 ∧ c.slots.size.toInt32 = n := by
  have q := A.fin (Vm.Alike.refl _)
  by_cases z : c.slots.size < 2 ^ 31
  · rw [len_f ev q z] at h; exact ⟨z, Value.int.inj (Option.some.inj h)⟩
  · simp [Term.eval, ev, q, z] at h
theorem own_selp {s : State} {args : Array Value} {y z : MethodName} {C : String} (w : (Cond.selects C z z).before args s = true) (hc : z.cls = y.cls) (hp : s.PrivateAt y) (hi : (Cond.instanceMethod y).before args s = true) (hy : y.cls ≠ "java/lang/invoke/MethodHandle" ∧ y.cls ≠ "java/lang/invoke/VarHandle") : (Cond.selects y.cls y y).before args s = true := by
  obtain ⟨c2, r2, m2, -, -, q3, -, kP, hkP, hkPi⟩ := Cond.selects_spec w
  exact selects_self_of_private (by rw [← hc]; exact findClass_of_methodNamed q3) hkP hkPi hp hi hy
theorem own_max64 (x : Int64) : ¬ (9223372036854775807 : Int64) < x := fun h => by have := rng64 x; rw [Int64.lt_iff_toInt_lt, show (9223372036854775807 : Int64).toInt = 9223372036854775807 by decide] at h; omega
theorem own_min64 (x : Int64) : ¬ x < (-9223372036854775808 : Int64) := fun h => by have := rng64 x; rw [Int64.lt_iff_toInt_lt, show (-9223372036854775808 : Int64).toInt = -9223372036854775808 by decide] at h; omega
theorem own_root {Z : State} {a0 : Array Value} {O K : String} {n : Nat} (w : (Cond.noSuperclass O).before a0 Z = true) (wk : (Cond.instantiable K n).before a0 Z = true) (hn : O ≠ K) : NS Z O K := by
  obtain ⟨c, k, h1, h2, h3, -, -⟩ := Cond.noSuperclass_spec w
  obtain ⟨t, kt, g1, -⟩ := Cond.instantiable_spec wk
  have ne := ids_ne h1 g1 hn
  refine ⟨c, t, h1, g1, fun fuel => ?_⟩
  cases fuel with
  | zero => rfl
  | succ f => simp [Vm.isSubclassAux, ne, h2, h3]
theorem own_no {Z : State} {a0 : Array Value} {C S K : String} {n : Nat} (w : (Cond.superclass C S).before a0 Z = true) (wk : (Cond.instantiable K n).before a0 Z = true) (q : NS Z C K) (hn : C ≠ K) : ∃ c t, Z.vm.findClass C = some c ∧ Z.vm.findClass K = some t ∧ Z.vm.assignable c t = false := by
  obtain ⟨c, t, h0, g0, n3⟩ := q
  obtain ⟨p, k, kp, h1, h2, h3, h4, h5, -, h7⟩ := Cond.superclass_spec h0 w
  obtain ⟨t', k', g1, g2, g3, g4, -⟩ := Cond.instantiable_spec wk
  cases g0.symm.trans g1
  have ne := ids_ne h0 g0 hn
  have g5 : k'.isInterface = false := by simp only [Bool.or_eq_false_iff] at g4; exact g4.1
  refine ⟨c, t, h0, g0, ?_⟩
  show Z.vm.assignableAux (255 + 1) c t = false
  simp [Vm.assignableAux, ne, h2, g2, h5, g3, g5, Vm.isSubclass, n3]
theorem own_eqR {Z : State} {args : Array Value} {a b : Term} {idx : List Nat} {w : Addr} (hb : b.eval args Z none idx Z = some (.ref w)) (h : (Cond.eq a b).value args Z none Z idx = some true) : a.eval args Z none idx Z = some (.ref w) := by
  simp only [Cond.value, hb] at h
  cases ht : a.eval args Z none idx Z with
  | none => simp [ht] at h
  | some x => cases x <;> simp [ht] at h ⊢; exact h
def GW (Z : State) (w1 : Addr) (w2 : Addr) (w3 : Addr) : Prop :=
  (Sta Z Z.heap "com/example/vorgang/vorgang/QueryTimeoutScope$Kept" "NOT_KNOWN" "Lcom/example/vorgang/vorgang/QueryTimeoutScope$Kept;" (.ref w1))
  ∧ (Exa Z Z.heap w1 "com/example/vorgang/vorgang/QueryTimeoutScope$Kept")
  ∧ (Sta Z Z.heap "com/example/vorgang/vorgang/QueryTimeoutScope$Kept" "SESSION" "Lcom/example/vorgang/vorgang/QueryTimeoutScope$Kept;" (.ref w2))
  ∧ (Exa Z Z.heap w2 "com/example/vorgang/vorgang/QueryTimeoutScope$Kept")
  ∧ (Sta Z Z.heap "com/example/vorgang/vorgang/QueryTimeoutScope$Kept" "STATEMENT" "Lcom/example/vorgang/vorgang/QueryTimeoutScope$Kept;" (.ref w3))
  ∧ (Exa Z Z.heap w3 "com/example/vorgang/vorgang/QueryTimeoutScope$Kept")
  ∧ (Fld Z Z.heap w1 "java/lang/Enum" "ordinal" "I" (.int (0 : Int32)))
  ∧ (Fld Z Z.heap w2 "java/lang/Enum" "ordinal" "I" (.int (2 : Int32)))
  ∧ (Fld Z Z.heap w3 "java/lang/Enum" "ordinal" "I" (.int (1 : Int32)))
def Q0 (n0 : Nat) (v : Option Value) (h : Heap) (L : List Loc) : Prop := v = some (.int (1 : Int32)) ∧ Fr n0 L
theorem d0_0 : decode prog_14_method_1_code 0 = .ok (.aload_n 0, 1) := by decide +kernel
theorem d0_1 : decode prog_14_method_1_code 1 = .ok (.invokespecial 1, 3) := by decide +kernel
theorem d0_4 : decode prog_14_method_1_code 4 = .ok (.aload_n 0, 1) := by decide +kernel
theorem d0_5 : decode prog_14_method_1_code 5 = .ok (.getstatic 7, 3) := by decide +kernel
theorem d0_8 : decode prog_14_method_1_code 8 = .ok (.putfield 13, 3) := by decide +kernel
theorem d0_11 : decode prog_14_method_1_code 11 = .ok (.return_, 1) := by decide +kernel
theorem pn0 : plainName "com/example/vorgang/vorgang/QueryTimeoutScope" = true := by first | (simp [plainName, overriddenIn]; done) | decide +kernel
theorem ef1 (m : MethodId) (x0 : Addr) : entryFrame m #[(.ref x0)] 1 = mkF m 0 #[.val (.ref x0)] [] := by first | (simp [entryFrame, mkF, argsToLocals, Value.category]; done) | rfl
def Q1 (Z : State) (w1 : Addr) (w2 : Addr) (w3 : Addr) (o1 : Addr) (h0 : Heap) (n0 : Nat) (v : Option Value) (h : Heap) (L : List Loc) : Prop :=
  (v = none ∧ Fr n0 L ∧ Keep h0 h [o1] ∧ (Exa Z h o1 "com/example/vorgang/vorgang/QueryTimeoutScope") ∧ (Fld Z h o1 "com/example/vorgang/vorgang/QueryTimeoutScope" "kept" "Lcom/example/vorgang/vorgang/QueryTimeoutScope$Kept;" (.ref w1)))
set_option maxRecDepth 65536 in
set_option maxHeartbeats 40000000 in
theorem rm1 (l : Launch) (Z : State) (a0 : Array Value) (hw : ∀ d ∈ tables_1, d.before a0 Z = true) (w1 : Addr) (w2 : Addr) (w3 : Addr) (G : GW Z w1 w2 w3) (ws : List Jvm.Cond) (o1 : Addr) (h0 : Heap) (n0 : Nat) (O0 : Old Z n0 h0) (g_o1 : n0 ≤ o1) (P0 : Exa Z h0 o1 "com/example/vorgang/vorgang/QueryTimeoutScope") (P1 : Fld Z h0 o1 "com/example/vorgang/vorgang/QueryTimeoutScope" "kept" "Lcom/example/vorgang/vorgang/QueryTimeoutScope$Kept;" .null) :
    MetFree l (⟨"com/example/vorgang/vorgang/QueryTimeoutScope", "<init>", "()V"⟩ : MethodName) (head1 (Jvm.Cond.code (⟨"com/example/vorgang/vorgang/QueryTimeoutScope", "<init>", "()V"⟩ : MethodName) prog_14_method_1_code 1 none :: ws) ({ frames := 1, cells := 0, slots := 0, locals := 12 } : Room)) (fun a U => a = #[(.ref o1)] ∧ Z.Warmed39 U.vm ∧ U.heap = h0) (fun _ _ _ _ _ => True) (fun _ U o U' => ∃ v L, o = .returned v ∧ Q1 Z w1 w2 w3 o1 h0 n0 v U'.heap L ∧ FrameEnd U o U' L ({ frames := 1, cells := 0, slots := 0, locals := 12 } : Room).cells ({ frames := 1, cells := 0, slots := 0, locals := 12 } : Room).slots) := by
  obtain ⟨S_w1, E_w1, S_w2, E_w2, S_w3, E_w3, F_w1_ordinal, F_w2_ordinal, F_w3_ordinal⟩ := id G
  refine MetFree.of_bodySF (plainFor_of_name pn0) hisR ?_
  intro p e s m args below meth c s₁ Bd hml0 hP hK
  obtain ⟨rfl, hZ, hh⟩ := hP
  have hx := Bd.exec
  have hby := Bd.bytes
  have hml : c.maxLocals = 1 := hml0
  have hown : s.vm.findClass "com/example/vorgang/vorgang/QueryTimeoutScope" = some m.cls := findClass_of_methodNamed Bd.named
  have hnm := (name_of_methodNamed Bd.named Bd.method).1
  have hret := Bd.returns
  have hlk : meth.locks = false := BodyLoose.notSynchronized Bd
  have X0 : Stand p l e ({ frames := 1, cells := 0, slots := 0, locals := 12 } : Room) s m #[(.ref o1)] below meth c s₁ [] 0 0 := Stand.of_body Bd
  have e0 : s₁.heap = h0 := by rw [← hh, Bd.state]; rfl
  have N0 := Fr.nil n0
  have pre0 : ∀ t, Steps p.tables e below (s₁.setTop (mkF m 0 #[.val (.ref o1)] [])) t → Steps p.tables e below (s₁.setTop (entryFrame m #[(.ref o1)] 1)) t := fun t k => castTop (ef1 m o1) k
  obtain ⟨T1, X1, e1, st1⟩ := initO X0 hx hZ hown (hw _ (List.mem_of_getElem? (i := 6) rfl)) (hw _ (List.mem_of_getElem? (i := 7) rfl)) (hw _ (List.mem_of_getElem? (i := 8) rfl)) e0 (g := (mkF m 1 #[.val (.ref o1)] [(.ref o1)])) rfl (by rw [hml]; rfl) rfl (hb hby d0_1) (by decide) (W := 0) (by show 2 * 0 + _ ≤ _; exact Nat.le_of_eq rfl) (by decide)
  obtain ⟨T2, X2, e2, st2⟩ := getS2 X1 hx hZ hown (host := "") (Or.inl (hw _ (List.mem_of_getElem? (i := 9) rfl))) Via.refl e1 (S_w1.ext O0.2) (g := (mkF m 5 #[.val (.ref o1)] [(.ref o1)])) rfl (hb hby d0_5)
  obtain ⟨T3, h3, X3, e3, W3, st3⟩ := putF X2 hx hZ hown (host := "") (Or.inl (hw _ (List.mem_of_getElem? (i := 12) rfl))) Via.refl e2 P1 P0 (Or.inl (hw _ (List.mem_of_getElem? (i := 13) rfl))) (hw _ (List.mem_of_getElem? (i := 1) rfl)) (ty := (.object "com/example/vorgang/vorgang/QueryTimeoutScope$Kept")) (by decide) rfl rfl (g := (mkF m 8 #[.val (.ref o1)] [(.ref w1), (.ref o1)])) rfl rfl (hb hby d0_8)
  have N3 := Fr.snoc X3 N0 g_o1
  have Fw3 := P1.same W3
  have M3 : h0.size ≤ h3.size := Nat.le_trans (Nat.le_refl _) (Nat.le_of_eq W3.size.symm)
  have O3 := Old.wr O0 W3 g_o1
  obtain ⟨fs, hr, hrun, hended, hW, hsame⟩ := X3.leave (v := none) (fun _ => rfl)
  have KL : Keep h0 h3 [o1] := ((Keep.refl h0 [o1]).wr W3 (Or.inl (List.mem_of_getElem? (i := 0) rfl)))
  have f4 := (P0.wr W3)
  refine ⟨_, _, pre0 _ ?_, hrun, hended, _, _, rfl, ?_, ⟨_, rfl⟩, hW, hsame.mono (by decide) (by decide)⟩
  ·
    show Steps p.tables e below (s₁.setTop (mkF m 0 #[.val (.ref o1)] [])) _
    refine XS.aloadN X0.here hx rfl (hb hby d0_0) rfl rfl ?_
    show Steps p.tables e below (s₁.setTop (mkF m 1 #[.val (.ref o1)] [(.ref o1)])) _
    refine st1 _ ?_
    show Steps p.tables e below (T1.setTop (mkF m 4 #[.val (.ref o1)] [])) _
    refine XS.aloadN X1.here hx rfl (hb hby d0_4) rfl rfl ?_
    show Steps p.tables e below (T1.setTop (mkF m 5 #[.val (.ref o1)] [(.ref o1)])) _
    refine st2 _ ?_
    show Steps p.tables e below (T2.setTop (mkF m 8 #[.val (.ref o1)] [(.ref w1), (.ref o1)])) _
    refine st3 _ ?_
    show Steps p.tables e below (T3.setTop (mkF m 11 #[.val (.ref o1)] [])) _
    exact X3.returnOut hx hret (hb hby d0_11) hr
  ·
    show Q1 Z w1 w2 w3 o1 h0 n0 _ T3.heap _
    rw [e3]
    exact ⟨rfl, N3, KL, f4, Fw3⟩
theorem pd0 : parseMethodDescriptor "()V" = some ⟨[], none⟩ := by decide +kernel
theorem d1_0 : decode prog_14_method_4_code 0 = .ok (.aload_n 0, 1) := by decide +kernel
theorem d1_1 : decode prog_14_method_4_code 1 = .ok (.getfield 13, 3) := by decide +kernel
theorem d1_4 : decode prog_14_method_4_code 4 = .ok (.getstatic 7, 3) := by decide +kernel
theorem d1_7 : decode prog_14_method_4_code 7 = .ok (.if_acmp .eq 7, 3) := by decide +kernel
theorem d1_14 : decode prog_14_method_4_code 14 = .ok (.iconst 0, 1) := by decide +kernel
theorem d1_15 : decode prog_14_method_4_code 15 = .ok (.ireturn, 1) := by decide +kernel
theorem ef2 (m : MethodId) (x0 : Addr) : entryFrame m #[(.ref x0)] 1 = mkF m 0 #[.val (.ref x0)] [] := by first | (simp [entryFrame, mkF, argsToLocals, Value.category]; done) | rfl
def Q2 (Z : State) (w1 : Addr) (w2 : Addr) (w3 : Addr) (o1 : Addr) (h0 : Heap) (n0 : Nat) (v : Option Value) (h : Heap) (L : List Loc) : Prop :=
  (v = some (.int (0 : Int32)) ∧ Fr n0 L ∧ h = h0)
set_option maxRecDepth 65536 in
set_option maxHeartbeats 40000000 in
theorem rm2 (l : Launch) (Z : State) (a0 : Array Value) (hw : ∀ d ∈ tables_1, d.before a0 Z = true) (w1 : Addr) (w2 : Addr) (w3 : Addr) (G : GW Z w1 w2 w3) (ws : List Jvm.Cond) (o1 : Addr) (h0 : Heap) (n0 : Nat) (O0 : Old Z n0 h0) (g_o1 : n0 ≤ o1) (P1 : Fld Z h0 o1 "com/example/vorgang/vorgang/QueryTimeoutScope" "kept" "Lcom/example/vorgang/vorgang/QueryTimeoutScope$Kept;" (.ref w1)) :
    MetFree l (⟨"com/example/vorgang/vorgang/QueryTimeoutScope", "isKnown", "()Z"⟩ : MethodName) (head1 (Jvm.Cond.code (⟨"com/example/vorgang/vorgang/QueryTimeoutScope", "isKnown", "()Z"⟩ : MethodName) prog_14_method_4_code 1 (some .boolean) :: ws) ({ frames := 0, cells := 0, slots := 0, locals := 0 } : Room)) (fun a U => a = #[(.ref o1)] ∧ Z.Warmed39 U.vm ∧ U.heap = h0) (fun _ _ _ _ _ => True) (fun _ U o U' => ∃ v L, o = .returned v ∧ Q2 Z w1 w2 w3 o1 h0 n0 v U'.heap L ∧ FrameEnd U o U' L ({ frames := 0, cells := 0, slots := 0, locals := 0 } : Room).cells ({ frames := 0, cells := 0, slots := 0, locals := 0 } : Room).slots) := by
  obtain ⟨S_w1, E_w1, S_w2, E_w2, S_w3, E_w3, F_w1_ordinal, F_w2_ordinal, F_w3_ordinal⟩ := id G
  refine MetFree.of_bodySF (plainFor_of_name pn0) hisR ?_
  intro p e s m args below meth c s₁ Bd hml0 hP hK
  obtain ⟨rfl, hZ, hh⟩ := hP
  have hx := Bd.exec
  have hby := Bd.bytes
  have hml : c.maxLocals = 1 := hml0
  have hown : s.vm.findClass "com/example/vorgang/vorgang/QueryTimeoutScope" = some m.cls := findClass_of_methodNamed Bd.named
  have hnm := (name_of_methodNamed Bd.named Bd.method).1
  have hret := Bd.returns
  have hlk : meth.locks = false := BodyLoose.notSynchronized Bd
  have X0 : Stand p l e ({ frames := 0, cells := 0, slots := 0, locals := 0 } : Room) s m #[(.ref o1)] below meth c s₁ [] 0 0 := Stand.of_body Bd
  have e0 : s₁.heap = h0 := by rw [← hh, Bd.state]; rfl
  have N0 := Fr.nil n0
  have pre0 : ∀ t, Steps p.tables e below (s₁.setTop (mkF m 0 #[.val (.ref o1)] [])) t → Steps p.tables e below (s₁.setTop (entryFrame m #[(.ref o1)] 1)) t := fun t k => castTop (ef2 m o1) k
  obtain ⟨T1, X1, e1, st1⟩ := getF X0 hx hZ hown (host := "") (Or.inl (hw _ (List.mem_of_getElem? (i := 12) rfl))) Via.refl e0 P1 (g := (mkF m 1 #[.val (.ref o1)] [(.ref o1)])) rfl rfl (hb hby d1_1)
  obtain ⟨T2, X2, e2, st2⟩ := getS2 X1 hx hZ hown (host := "") (Or.inl (hw _ (List.mem_of_getElem? (i := 9) rfl))) Via.refl e1 (S_w1.ext O0.2) (g := (mkF m 4 #[.val (.ref o1)] [(.ref w1)])) rfl (hb hby d1_4)
  obtain ⟨fs, hr, hrun, hended, hW, hsame⟩ := X2.leave (v := some (.int (0 : Int32))) (fun h => by rw [hret] at h; cases h)
  refine ⟨_, _, pre0 _ ?_, hrun, hended, _, _, rfl, ?_, ⟨_, rfl⟩, hW, hsame.mono (by decide) (by decide)⟩
  ·
    show Steps p.tables e below (s₁.setTop (mkF m 0 #[.val (.ref o1)] [])) _
    refine XS.aloadN X0.here hx rfl (hb hby d1_0) rfl rfl ?_
    show Steps p.tables e below (s₁.setTop (mkF m 1 #[.val (.ref o1)] [(.ref o1)])) _
    refine st1 _ ?_
    show Steps p.tables e below (T1.setTop (mkF m 4 #[.val (.ref o1)] [(.ref w1)])) _
    refine st2 _ ?_
    show Steps p.tables e below (T2.setTop (mkF m 7 #[.val (.ref o1)] [(.ref w1), (.ref w1)])) _
    refine Jvm.RoadKit.acmp (g := (mkF m 7 #[.val (.ref o1)] [(.ref w1), (.ref w1)])) X2 hx rfl rfl rfl (pc0 := 7) (pc' := 14) (same := true) rfl (hb hby d1_7) rfl (decide_eq_true rfl) (by decide) (by decide) ?_
    show Steps p.tables e below (T2.setTop (mkF m 14 #[.val (.ref o1)] [])) _
    refine XS.iconst X2.here hx rfl (hb hby d1_14) ?_
    show Steps p.tables e below (T2.setTop (mkF m 15 #[.val (.ref o1)] [(.int (0 : Int32))])) _
    exact retN X2 hx (t := .boolean) hret (by simp) (hb hby d1_15) hr
  ·
    show Q2 Z w1 w2 w3 o1 h0 n0 _ T2.heap _
    rw [e2]
    exact ⟨rfl, N0, rfl⟩
theorem pd1 : parseMethodDescriptor "()Z" = some ⟨[], some .boolean⟩ := by decide +kernel
theorem d2_0 : decode prog_14_method_2_code 0 = .ok (.aload_n 0, 1) := by decide +kernel
theorem d2_1 : decode prog_14_method_2_code 1 = .ok (.getfield 13, 3) := by decide +kernel
theorem d2_4 : decode prog_14_method_2_code 4 = .ok (.getstatic 18, 3) := by decide +kernel
theorem d2_7 : decode prog_14_method_2_code 7 = .ok (.if_acmp .ne 7, 3) := by decide +kernel
theorem d2_14 : decode prog_14_method_2_code 14 = .ok (.iconst 0, 1) := by decide +kernel
theorem d2_15 : decode prog_14_method_2_code 15 = .ok (.ireturn, 1) := by decide +kernel
theorem ef3 (m : MethodId) (x0 : Addr) : entryFrame m #[(.ref x0)] 1 = mkF m 0 #[.val (.ref x0)] [] := by first | (simp [entryFrame, mkF, argsToLocals, Value.category]; done) | rfl
def Q3 (Z : State) (w1 : Addr) (w2 : Addr) (w3 : Addr) (o1 : Addr) (h0 : Heap) (n0 : Nat) (v : Option Value) (h : Heap) (L : List Loc) : Prop :=
  (v = some (.int (0 : Int32)) ∧ Fr n0 L ∧ h = h0)
set_option maxRecDepth 65536 in
set_option maxHeartbeats 40000000 in
theorem rm3 (l : Launch) (Z : State) (a0 : Array Value) (hw : ∀ d ∈ tables_1, d.before a0 Z = true) (w1 : Addr) (w2 : Addr) (w3 : Addr) (G : GW Z w1 w2 w3) (ws : List Jvm.Cond) (o1 : Addr) (h0 : Heap) (n0 : Nat) (O0 : Old Z n0 h0) (g_o1 : n0 ≤ o1) (P1 : Fld Z h0 o1 "com/example/vorgang/vorgang/QueryTimeoutScope" "kept" "Lcom/example/vorgang/vorgang/QueryTimeoutScope$Kept;" (.ref w1)) :
    MetFree l (⟨"com/example/vorgang/vorgang/QueryTimeoutScope", "isSession", "()Z"⟩ : MethodName) (head1 (Jvm.Cond.code (⟨"com/example/vorgang/vorgang/QueryTimeoutScope", "isSession", "()Z"⟩ : MethodName) prog_14_method_2_code 1 (some .boolean) :: ws) ({ frames := 0, cells := 0, slots := 0, locals := 0 } : Room)) (fun a U => a = #[(.ref o1)] ∧ Z.Warmed39 U.vm ∧ U.heap = h0) (fun _ _ _ _ _ => True) (fun _ U o U' => ∃ v L, o = .returned v ∧ Q3 Z w1 w2 w3 o1 h0 n0 v U'.heap L ∧ FrameEnd U o U' L ({ frames := 0, cells := 0, slots := 0, locals := 0 } : Room).cells ({ frames := 0, cells := 0, slots := 0, locals := 0 } : Room).slots) := by
  obtain ⟨S_w1, E_w1, S_w2, E_w2, S_w3, E_w3, F_w1_ordinal, F_w2_ordinal, F_w3_ordinal⟩ := id G
  refine MetFree.of_bodySF (plainFor_of_name pn0) hisR ?_
  intro p e s m args below meth c s₁ Bd hml0 hP hK
  obtain ⟨rfl, hZ, hh⟩ := hP
  have hx := Bd.exec
  have hby := Bd.bytes
  have hml : c.maxLocals = 1 := hml0
  have hown : s.vm.findClass "com/example/vorgang/vorgang/QueryTimeoutScope" = some m.cls := findClass_of_methodNamed Bd.named
  have hnm := (name_of_methodNamed Bd.named Bd.method).1
  have hret := Bd.returns
  have hlk : meth.locks = false := BodyLoose.notSynchronized Bd
  have X0 : Stand p l e ({ frames := 0, cells := 0, slots := 0, locals := 0 } : Room) s m #[(.ref o1)] below meth c s₁ [] 0 0 := Stand.of_body Bd
  have e0 : s₁.heap = h0 := by rw [← hh, Bd.state]; rfl
  have N0 := Fr.nil n0
  have pre0 : ∀ t, Steps p.tables e below (s₁.setTop (mkF m 0 #[.val (.ref o1)] [])) t → Steps p.tables e below (s₁.setTop (entryFrame m #[(.ref o1)] 1)) t := fun t k => castTop (ef3 m o1) k
  obtain ⟨T1, X1, e1, st1⟩ := getF X0 hx hZ hown (host := "") (Or.inl (hw _ (List.mem_of_getElem? (i := 12) rfl))) Via.refl e0 P1 (g := (mkF m 1 #[.val (.ref o1)] [(.ref o1)])) rfl rfl (hb hby d2_1)
  obtain ⟨T2, X2, e2, st2⟩ := getS2 X1 hx hZ hown (host := "") (Or.inl (hw _ (List.mem_of_getElem? (i := 24) rfl))) Via.refl e1 (S_w2.ext O0.2) (g := (mkF m 4 #[.val (.ref o1)] [(.ref w1)])) rfl (hb hby d2_4)
  obtain ⟨fs, hr, hrun, hended, hW, hsame⟩ := X2.leave (v := some (.int (0 : Int32))) (fun h => by rw [hret] at h; cases h)
  refine ⟨_, _, pre0 _ ?_, hrun, hended, _, _, rfl, ?_, ⟨_, rfl⟩, hW, hsame.mono (by decide) (by decide)⟩
  ·
    show Steps p.tables e below (s₁.setTop (mkF m 0 #[.val (.ref o1)] [])) _
    refine XS.aloadN X0.here hx rfl (hb hby d2_0) rfl rfl ?_
    show Steps p.tables e below (s₁.setTop (mkF m 1 #[.val (.ref o1)] [(.ref o1)])) _
    refine st1 _ ?_
    show Steps p.tables e below (T1.setTop (mkF m 4 #[.val (.ref o1)] [(.ref w1)])) _
    refine st2 _ ?_
    show Steps p.tables e below (T2.setTop (mkF m 7 #[.val (.ref o1)] [(.ref w2), (.ref w1)])) _
    refine Jvm.RoadKit.acmp (g := (mkF m 7 #[.val (.ref o1)] [(.ref w2), (.ref w1)])) X2 hx rfl rfl rfl (pc0 := 7) (pc' := 14) (same := false) rfl (hb hby d2_7) rfl (decide_eq_false fun q => (Fld.ne F_w1_ordinal F_w2_ordinal (by decide)) (Value.ref.inj q)) (by decide) (by decide) ?_
    show Steps p.tables e below (T2.setTop (mkF m 14 #[.val (.ref o1)] [])) _
    refine XS.iconst X2.here hx rfl (hb hby d2_14) ?_
    show Steps p.tables e below (T2.setTop (mkF m 15 #[.val (.ref o1)] [(.int (0 : Int32))])) _
    exact retN X2 hx (t := .boolean) hret (by simp) (hb hby d2_15) hr
  ·
    show Q3 Z w1 w2 w3 o1 h0 n0 _ T2.heap _
    rw [e2]
    exact ⟨rfl, N0, rfl⟩
theorem d3_0 : decode prog_14_method_3_code 0 = .ok (.aload_n 0, 1) := by decide +kernel
theorem d3_1 : decode prog_14_method_3_code 1 = .ok (.getfield 13, 3) := by decide +kernel
theorem d3_4 : decode prog_14_method_3_code 4 = .ok (.getstatic 21, 3) := by decide +kernel
theorem d3_7 : decode prog_14_method_3_code 7 = .ok (.if_acmp .ne 7, 3) := by decide +kernel
theorem d3_14 : decode prog_14_method_3_code 14 = .ok (.iconst 0, 1) := by decide +kernel
theorem d3_15 : decode prog_14_method_3_code 15 = .ok (.ireturn, 1) := by decide +kernel
theorem ef4 (m : MethodId) (x0 : Addr) : entryFrame m #[(.ref x0)] 1 = mkF m 0 #[.val (.ref x0)] [] := by first | (simp [entryFrame, mkF, argsToLocals, Value.category]; done) | rfl
def Q4 (Z : State) (w1 : Addr) (w2 : Addr) (w3 : Addr) (o1 : Addr) (h0 : Heap) (n0 : Nat) (v : Option Value) (h : Heap) (L : List Loc) : Prop :=
  (v = some (.int (0 : Int32)) ∧ Fr n0 L ∧ h = h0)
set_option maxRecDepth 65536 in
set_option maxHeartbeats 40000000 in
theorem rm4 (l : Launch) (Z : State) (a0 : Array Value) (hw : ∀ d ∈ tables_1, d.before a0 Z = true) (w1 : Addr) (w2 : Addr) (w3 : Addr) (G : GW Z w1 w2 w3) (ws : List Jvm.Cond) (o1 : Addr) (h0 : Heap) (n0 : Nat) (O0 : Old Z n0 h0) (g_o1 : n0 ≤ o1) (P1 : Fld Z h0 o1 "com/example/vorgang/vorgang/QueryTimeoutScope" "kept" "Lcom/example/vorgang/vorgang/QueryTimeoutScope$Kept;" (.ref w1)) :
    MetFree l (⟨"com/example/vorgang/vorgang/QueryTimeoutScope", "isStatement", "()Z"⟩ : MethodName) (head1 (Jvm.Cond.code (⟨"com/example/vorgang/vorgang/QueryTimeoutScope", "isStatement", "()Z"⟩ : MethodName) prog_14_method_3_code 1 (some .boolean) :: ws) ({ frames := 0, cells := 0, slots := 0, locals := 0 } : Room)) (fun a U => a = #[(.ref o1)] ∧ Z.Warmed39 U.vm ∧ U.heap = h0) (fun _ _ _ _ _ => True) (fun _ U o U' => ∃ v L, o = .returned v ∧ Q4 Z w1 w2 w3 o1 h0 n0 v U'.heap L ∧ FrameEnd U o U' L ({ frames := 0, cells := 0, slots := 0, locals := 0 } : Room).cells ({ frames := 0, cells := 0, slots := 0, locals := 0 } : Room).slots) := by
  obtain ⟨S_w1, E_w1, S_w2, E_w2, S_w3, E_w3, F_w1_ordinal, F_w2_ordinal, F_w3_ordinal⟩ := id G
  refine MetFree.of_bodySF (plainFor_of_name pn0) hisR ?_
  intro p e s m args below meth c s₁ Bd hml0 hP hK
  obtain ⟨rfl, hZ, hh⟩ := hP
  have hx := Bd.exec
  have hby := Bd.bytes
  have hml : c.maxLocals = 1 := hml0
  have hown : s.vm.findClass "com/example/vorgang/vorgang/QueryTimeoutScope" = some m.cls := findClass_of_methodNamed Bd.named
  have hnm := (name_of_methodNamed Bd.named Bd.method).1
  have hret := Bd.returns
  have hlk : meth.locks = false := BodyLoose.notSynchronized Bd
  have X0 : Stand p l e ({ frames := 0, cells := 0, slots := 0, locals := 0 } : Room) s m #[(.ref o1)] below meth c s₁ [] 0 0 := Stand.of_body Bd
  have e0 : s₁.heap = h0 := by rw [← hh, Bd.state]; rfl
  have N0 := Fr.nil n0
  have pre0 : ∀ t, Steps p.tables e below (s₁.setTop (mkF m 0 #[.val (.ref o1)] [])) t → Steps p.tables e below (s₁.setTop (entryFrame m #[(.ref o1)] 1)) t := fun t k => castTop (ef4 m o1) k
  obtain ⟨T1, X1, e1, st1⟩ := getF X0 hx hZ hown (host := "") (Or.inl (hw _ (List.mem_of_getElem? (i := 12) rfl))) Via.refl e0 P1 (g := (mkF m 1 #[.val (.ref o1)] [(.ref o1)])) rfl rfl (hb hby d3_1)
  obtain ⟨T2, X2, e2, st2⟩ := getS2 X1 hx hZ hown (host := "") (Or.inl (hw _ (List.mem_of_getElem? (i := 31) rfl))) Via.refl e1 (S_w3.ext O0.2) (g := (mkF m 4 #[.val (.ref o1)] [(.ref w1)])) rfl (hb hby d3_4)
  obtain ⟨fs, hr, hrun, hended, hW, hsame⟩ := X2.leave (v := some (.int (0 : Int32))) (fun h => by rw [hret] at h; cases h)
  refine ⟨_, _, pre0 _ ?_, hrun, hended, _, _, rfl, ?_, ⟨_, rfl⟩, hW, hsame.mono (by decide) (by decide)⟩
  ·
    show Steps p.tables e below (s₁.setTop (mkF m 0 #[.val (.ref o1)] [])) _
    refine XS.aloadN X0.here hx rfl (hb hby d3_0) rfl rfl ?_
    show Steps p.tables e below (s₁.setTop (mkF m 1 #[.val (.ref o1)] [(.ref o1)])) _
    refine st1 _ ?_
    show Steps p.tables e below (T1.setTop (mkF m 4 #[.val (.ref o1)] [(.ref w1)])) _
    refine st2 _ ?_
    show Steps p.tables e below (T2.setTop (mkF m 7 #[.val (.ref o1)] [(.ref w3), (.ref w1)])) _
    refine Jvm.RoadKit.acmp (g := (mkF m 7 #[.val (.ref o1)] [(.ref w3), (.ref w1)])) X2 hx rfl rfl rfl (pc0 := 7) (pc' := 14) (same := false) rfl (hb hby d3_7) rfl (decide_eq_false fun q => (Fld.ne F_w1_ordinal F_w3_ordinal (by decide)) (Value.ref.inj q)) (by decide) (by decide) ?_
    show Steps p.tables e below (T2.setTop (mkF m 14 #[.val (.ref o1)] [])) _
    refine XS.iconst X2.here hx rfl (hb hby d3_14) ?_
    show Steps p.tables e below (T2.setTop (mkF m 15 #[.val (.ref o1)] [(.int (0 : Int32))])) _
    exact retN X2 hx (t := .boolean) hret (by simp) (hb hby d3_15) hr
  ·
    show Q4 Z w1 w2 w3 o1 h0 n0 _ T2.heap _
    rw [e2]
    exact ⟨rfl, N0, rfl⟩
theorem d4_0 : decode prog_14_method_5_code 0 = .ok (.aload_n 0, 1) := by decide +kernel
theorem d4_1 : decode prog_14_method_5_code 1 = .ok (.iload_n 1, 1) := by decide +kernel
theorem d4_2 : decode prog_14_method_5_code 2 = .ok (.ifCond .eq 9, 3) := by decide +kernel
theorem d4_11 : decode prog_14_method_5_code 11 = .ok (.getstatic 21, 3) := by decide +kernel
theorem d4_14 : decode prog_14_method_5_code 14 = .ok (.putfield 13, 3) := by decide +kernel
theorem d4_17 : decode prog_14_method_5_code 17 = .ok (.return_, 1) := by decide +kernel
theorem d4_5 : decode prog_14_method_5_code 5 = .ok (.getstatic 18, 3) := by decide +kernel
theorem d4_8 : decode prog_14_method_5_code 8 = .ok (.goto 6, 3) := by decide +kernel
theorem ef5 (m : MethodId) (x0 : Addr) (x1 : Int32) : entryFrame m #[(.ref x0), (.int x1)] 2 = mkF m 0 #[.val (.ref x0), .val (.int x1)] [] := by first | (simp [entryFrame, mkF, argsToLocals, Value.category]; done) | rfl
def Q5 (Z : State) (w1 : Addr) (w2 : Addr) (w3 : Addr) (o1 : Addr) (p2 : Int32) (h0 : Heap) (n0 : Nat) (v : Option Value) (h : Heap) (L : List Loc) : Prop :=
  ((p2 = (0 : Int32)) ∧ v = none ∧ Fr n0 L ∧ Keep h0 h [o1] ∧ (Exa Z h o1 "com/example/vorgang/vorgang/QueryTimeoutScope") ∧ (Fld Z h o1 "com/example/vorgang/vorgang/QueryTimeoutScope" "kept" "Lcom/example/vorgang/vorgang/QueryTimeoutScope$Kept;" (.ref w3)))
  ∨ ((¬ (p2 = (0 : Int32))) ∧ v = none ∧ Fr n0 L ∧ Keep h0 h [o1] ∧ (Exa Z h o1 "com/example/vorgang/vorgang/QueryTimeoutScope") ∧ (Fld Z h o1 "com/example/vorgang/vorgang/QueryTimeoutScope" "kept" "Lcom/example/vorgang/vorgang/QueryTimeoutScope$Kept;" (.ref w2)))
set_option maxRecDepth 65536 in
set_option maxHeartbeats 40000000 in
theorem rm5 (l : Launch) (Z : State) (a0 : Array Value) (hw : ∀ d ∈ tables_1, d.before a0 Z = true) (w1 : Addr) (w2 : Addr) (w3 : Addr) (G : GW Z w1 w2 w3) (ws : List Jvm.Cond) (o1 : Addr) (p2 : Int32) (h0 : Heap) (n0 : Nat) (O0 : Old Z n0 h0) (g_o1 : n0 ≤ o1) (P0 : Exa Z h0 o1 "com/example/vorgang/vorgang/QueryTimeoutScope") (P1 : Fld Z h0 o1 "com/example/vorgang/vorgang/QueryTimeoutScope" "kept" "Lcom/example/vorgang/vorgang/QueryTimeoutScope$Kept;" (.ref w1)) :
    MetFree l (⟨"com/example/vorgang/vorgang/QueryTimeoutScope", "found", "(Z)V"⟩ : MethodName) (head1 (Jvm.Cond.code (⟨"com/example/vorgang/vorgang/QueryTimeoutScope", "found", "(Z)V"⟩ : MethodName) prog_14_method_5_code 2 none :: ws) ({ frames := 0, cells := 0, slots := 0, locals := 0 } : Room)) (fun a U => a = #[(.ref o1), (.int p2)] ∧ Z.Warmed39 U.vm ∧ U.heap = h0) (fun _ _ _ _ _ => True) (fun _ U o U' => ∃ v L, o = .returned v ∧ Q5 Z w1 w2 w3 o1 p2 h0 n0 v U'.heap L ∧ FrameEnd U o U' L ({ frames := 0, cells := 0, slots := 0, locals := 0 } : Room).cells ({ frames := 0, cells := 0, slots := 0, locals := 0 } : Room).slots) := by
  obtain ⟨S_w1, E_w1, S_w2, E_w2, S_w3, E_w3, F_w1_ordinal, F_w2_ordinal, F_w3_ordinal⟩ := id G
  refine MetFree.of_bodySF (plainFor_of_name pn0) hisR ?_
  intro p e s m args below meth c s₁ Bd hml0 hP hK
  obtain ⟨rfl, hZ, hh⟩ := hP
  have hx := Bd.exec
  have hby := Bd.bytes
  have hml : c.maxLocals = 2 := hml0
  have hown : s.vm.findClass "com/example/vorgang/vorgang/QueryTimeoutScope" = some m.cls := findClass_of_methodNamed Bd.named
  have hnm := (name_of_methodNamed Bd.named Bd.method).1
  have hret := Bd.returns
  have hlk : meth.locks = false := BodyLoose.notSynchronized Bd
  have X0 : Stand p l e ({ frames := 0, cells := 0, slots := 0, locals := 0 } : Room) s m #[(.ref o1), (.int p2)] below meth c s₁ [] 0 0 := Stand.of_body Bd
  have e0 : s₁.heap = h0 := by rw [← hh, Bd.state]; rfl
  have N0 := Fr.nil n0
  have pre0 : ∀ t, Steps p.tables e below (s₁.setTop (mkF m 0 #[.val (.ref o1), .val (.int p2)] [])) t → Steps p.tables e below (s₁.setTop (entryFrame m #[(.ref o1), (.int p2)] 2)) t := fun t k => castTop (ef5 m o1 p2) k
  have pre1 : ∀ t, Steps p.tables e below (s₁.setTop (mkF m 2 #[.val (.ref o1), .val (.int p2)] [(.int p2), (.ref o1)])) t → Steps p.tables e below (s₁.setTop (entryFrame m #[(.ref o1), (.int p2)] 2)) t := fun t k => by
    refine pre0 _ ?_
    show Steps p.tables e below (s₁.setTop (mkF m 0 #[.val (.ref o1), .val (.int p2)] [])) _
    refine XS.aloadN X0.here hx rfl (hb hby d4_0) rfl rfl ?_
    show Steps p.tables e below (s₁.setTop (mkF m 1 #[.val (.ref o1), .val (.int p2)] [(.ref o1)])) _
    refine XS.iloadN X0.here hx rfl (hb hby d4_1) rfl ?_
    exact k
  by_cases hc2 : p2 = (0 : Int32)
  ·
    have pre3 : ∀ t, Steps p.tables e below (s₁.setTop (mkF m 2 #[.val (.ref o1), .val (.int (0 : Int32))] [(.int (0 : Int32)), (.ref o1)])) t → Steps p.tables e below (s₁.setTop (entryFrame m #[(.ref o1), (.int p2)] 2)) t := fun t k => pre1 t (by rw [hc2]; exact k)
    obtain ⟨T4, X4, e4, st4⟩ := getS2 X0 hx hZ hown (host := "") (Or.inl (hw _ (List.mem_of_getElem? (i := 31) rfl))) Via.refl e0 (S_w3.ext O0.2) (g := (mkF m 11 #[.val (.ref o1), .val (.int (0 : Int32))] [(.ref o1)])) rfl (hb hby d4_11)
    obtain ⟨T5, h5, X5, e5, W5, st5⟩ := putF X4 hx hZ hown (host := "") (Or.inl (hw _ (List.mem_of_getElem? (i := 12) rfl))) Via.refl e4 P1 P0 (Or.inl (hw _ (List.mem_of_getElem? (i := 13) rfl))) (hw _ (List.mem_of_getElem? (i := 1) rfl)) (ty := (.object "com/example/vorgang/vorgang/QueryTimeoutScope$Kept")) (by decide) rfl rfl (g := (mkF m 14 #[.val (.ref o1), .val (.int (0 : Int32))] [(.ref w3), (.ref o1)])) rfl rfl (hb hby d4_14)
    have N5 := Fr.snoc X5 N0 g_o1
    have Fw5 := P1.same W5
    have M5 : h0.size ≤ h5.size := Nat.le_trans (Nat.le_refl _) (Nat.le_of_eq W5.size.symm)
    have O5 := Old.wr O0 W5 g_o1
    obtain ⟨fs, hr, hrun, hended, hW, hsame⟩ := X5.leave (v := none) (fun _ => rfl)
    have KL : Keep h0 h5 [o1] := ((Keep.refl h0 [o1]).wr W5 (Or.inl (List.mem_of_getElem? (i := 0) rfl)))
    have f6 := (P0.wr W5)
    refine ⟨_, _, pre3 _ ?_, hrun, hended, _, _, rfl, ?_, ⟨_, rfl⟩, hW, hsame.mono (by decide) (by decide)⟩
    ·
      show Steps p.tables e below (s₁.setTop (mkF m 2 #[.val (.ref o1), .val (.int (0 : Int32))] [(.int (0 : Int32)), (.ref o1)])) _
      refine XS.ifYes X0.here hx rfl (pc0 := 2) (pc' := 11) rfl (hb hby d4_2) rfl ((if0 _ _).trans (teq (by decide : (0 : Int32) = (0 : Int32))).1) (by decide) (by decide) ?_
      show Steps p.tables e below (s₁.setTop (mkF m 11 #[.val (.ref o1), .val (.int (0 : Int32))] [(.ref o1)])) _
      refine st4 _ ?_
      show Steps p.tables e below (T4.setTop (mkF m 14 #[.val (.ref o1), .val (.int (0 : Int32))] [(.ref w3), (.ref o1)])) _
      refine st5 _ ?_
      show Steps p.tables e below (T5.setTop (mkF m 17 #[.val (.ref o1), .val (.int (0 : Int32))] [])) _
      exact X5.returnOut hx hret (hb hby d4_17) hr
    ·
      show Q5 Z w1 w2 w3 o1 p2 h0 n0 _ T5.heap _
      rw [e5]
      exact (Or.inl ⟨hc2, rfl, N5, KL, f6, Fw5⟩)
  ·
    obtain ⟨T7, X7, e7, st7⟩ := getS2 X0 hx hZ hown (host := "") (Or.inl (hw _ (List.mem_of_getElem? (i := 24) rfl))) Via.refl e0 (S_w2.ext O0.2) (g := (mkF m 5 #[.val (.ref o1), .val (.int p2)] [(.ref o1)])) rfl (hb hby d4_5)
    obtain ⟨T8, h8, X8, e8, W8, st8⟩ := putF X7 hx hZ hown (host := "") (Or.inl (hw _ (List.mem_of_getElem? (i := 12) rfl))) Via.refl e7 P1 P0 (Or.inl (hw _ (List.mem_of_getElem? (i := 13) rfl))) (hw _ (List.mem_of_getElem? (i := 1) rfl)) (ty := (.object "com/example/vorgang/vorgang/QueryTimeoutScope$Kept")) (by decide) rfl rfl (g := (mkF m 14 #[.val (.ref o1), .val (.int p2)] [(.ref w2), (.ref o1)])) rfl rfl (hb hby d4_14)
    have N8 := Fr.snoc X8 N0 g_o1
    have Fw8 := P1.same W8
    have M8 : h0.size ≤ h8.size := Nat.le_trans (Nat.le_refl _) (Nat.le_of_eq W8.size.symm)
    have O8 := Old.wr O0 W8 g_o1
    obtain ⟨fs, hr, hrun, hended, hW, hsame⟩ := X8.leave (v := none) (fun _ => rfl)
    have KL : Keep h0 h8 [o1] := ((Keep.refl h0 [o1]).wr W8 (Or.inl (List.mem_of_getElem? (i := 0) rfl)))
    have f9 := (P0.wr W8)
    refine ⟨_, _, pre1 _ ?_, hrun, hended, _, _, rfl, ?_, ⟨_, rfl⟩, hW, hsame.mono (by decide) (by decide)⟩
    ·
      show Steps p.tables e below (s₁.setTop (mkF m 2 #[.val (.ref o1), .val (.int p2)] [(.int p2), (.ref o1)])) _
      refine XS.ifNo X0.here hx rfl (hb hby d4_2) rfl ((if0 _ _).trans (feq hc2).1) ?_
      show Steps p.tables e below (s₁.setTop (mkF m 5 #[.val (.ref o1), .val (.int p2)] [(.ref o1)])) _
      refine st7 _ ?_
      show Steps p.tables e below (T7.setTop (mkF m 8 #[.val (.ref o1), .val (.int p2)] [(.ref w2), (.ref o1)])) _
      refine XS.goto X7.here hx rfl (pc0 := 8) (pc' := 14) rfl (hb hby d4_8) (by decide) (by decide) ?_
      show Steps p.tables e below (T7.setTop (mkF m 14 #[.val (.ref o1), .val (.int p2)] [(.ref w2), (.ref o1)])) _
      refine st8 _ ?_
      show Steps p.tables e below (T8.setTop (mkF m 17 #[.val (.ref o1), .val (.int p2)] [])) _
      exact X8.returnOut hx hret (hb hby d4_17) hr
    ·
      show Q5 Z w1 w2 w3 o1 p2 h0 n0 _ T8.heap _
      rw [e8]
      exact (Or.inr ⟨hc2, rfl, N8, KL, f9, Fw8⟩)
theorem pd2 : parseMethodDescriptor "(Z)V" = some ⟨[.boolean], none⟩ := by decide +kernel
theorem d1_10 : decode prog_14_method_4_code 10 = .ok (.iconst 1, 1) := by decide +kernel
theorem d1_11 : decode prog_14_method_4_code 11 = .ok (.goto 4, 3) := by decide +kernel
theorem ef6 (m : MethodId) (x0 : Addr) : entryFrame m #[(.ref x0)] 1 = mkF m 0 #[.val (.ref x0)] [] := by first | (simp [entryFrame, mkF, argsToLocals, Value.category]; done) | rfl
def Q6 (Z : State) (w1 : Addr) (w2 : Addr) (w3 : Addr) (o1 : Addr) (h0 : Heap) (n0 : Nat) (v : Option Value) (h : Heap) (L : List Loc) : Prop :=
  (v = some (.int (1 : Int32)) ∧ Fr n0 L ∧ h = h0)
set_option maxRecDepth 65536 in
set_option maxHeartbeats 40000000 in
theorem rm6 (l : Launch) (Z : State) (a0 : Array Value) (hw : ∀ d ∈ tables_1, d.before a0 Z = true) (w1 : Addr) (w2 : Addr) (w3 : Addr) (G : GW Z w1 w2 w3) (ws : List Jvm.Cond) (o1 : Addr) (h0 : Heap) (n0 : Nat) (O0 : Old Z n0 h0) (g_o1 : n0 ≤ o1) (P1 : Fld Z h0 o1 "com/example/vorgang/vorgang/QueryTimeoutScope" "kept" "Lcom/example/vorgang/vorgang/QueryTimeoutScope$Kept;" (.ref w3)) :
    MetFree l (⟨"com/example/vorgang/vorgang/QueryTimeoutScope", "isKnown", "()Z"⟩ : MethodName) (head1 (Jvm.Cond.code (⟨"com/example/vorgang/vorgang/QueryTimeoutScope", "isKnown", "()Z"⟩ : MethodName) prog_14_method_4_code 1 (some .boolean) :: ws) ({ frames := 0, cells := 0, slots := 0, locals := 0 } : Room)) (fun a U => a = #[(.ref o1)] ∧ Z.Warmed39 U.vm ∧ U.heap = h0) (fun _ _ _ _ _ => True) (fun _ U o U' => ∃ v L, o = .returned v ∧ Q6 Z w1 w2 w3 o1 h0 n0 v U'.heap L ∧ FrameEnd U o U' L ({ frames := 0, cells := 0, slots := 0, locals := 0 } : Room).cells ({ frames := 0, cells := 0, slots := 0, locals := 0 } : Room).slots) := by
  obtain ⟨S_w1, E_w1, S_w2, E_w2, S_w3, E_w3, F_w1_ordinal, F_w2_ordinal, F_w3_ordinal⟩ := id G
  refine MetFree.of_bodySF (plainFor_of_name pn0) hisR ?_
  intro p e s m args below meth c s₁ Bd hml0 hP hK
  obtain ⟨rfl, hZ, hh⟩ := hP
  have hx := Bd.exec
  have hby := Bd.bytes
  have hml : c.maxLocals = 1 := hml0
  have hown : s.vm.findClass "com/example/vorgang/vorgang/QueryTimeoutScope" = some m.cls := findClass_of_methodNamed Bd.named
  have hnm := (name_of_methodNamed Bd.named Bd.method).1
  have hret := Bd.returns
  have hlk : meth.locks = false := BodyLoose.notSynchronized Bd
  have X0 : Stand p l e ({ frames := 0, cells := 0, slots := 0, locals := 0 } : Room) s m #[(.ref o1)] below meth c s₁ [] 0 0 := Stand.of_body Bd
  have e0 : s₁.heap = h0 := by rw [← hh, Bd.state]; rfl
  have N0 := Fr.nil n0
  have pre0 : ∀ t, Steps p.tables e below (s₁.setTop (mkF m 0 #[.val (.ref o1)] [])) t → Steps p.tables e below (s₁.setTop (entryFrame m #[(.ref o1)] 1)) t := fun t k => castTop (ef6 m o1) k
  obtain ⟨T1, X1, e1, st1⟩ := getF X0 hx hZ hown (host := "") (Or.inl (hw _ (List.mem_of_getElem? (i := 12) rfl))) Via.refl e0 P1 (g := (mkF m 1 #[.val (.ref o1)] [(.ref o1)])) rfl rfl (hb hby d1_1)
  obtain ⟨T2, X2, e2, st2⟩ := getS2 X1 hx hZ hown (host := "") (Or.inl (hw _ (List.mem_of_getElem? (i := 9) rfl))) Via.refl e1 (S_w1.ext O0.2) (g := (mkF m 4 #[.val (.ref o1)] [(.ref w3)])) rfl (hb hby d1_4)
  obtain ⟨fs, hr, hrun, hended, hW, hsame⟩ := X2.leave (v := some (.int (1 : Int32))) (fun h => by rw [hret] at h; cases h)
  refine ⟨_, _, pre0 _ ?_, hrun, hended, _, _, rfl, ?_, ⟨_, rfl⟩, hW, hsame.mono (by decide) (by decide)⟩
  ·
    show Steps p.tables e below (s₁.setTop (mkF m 0 #[.val (.ref o1)] [])) _
    refine XS.aloadN X0.here hx rfl (hb hby d1_0) rfl rfl ?_
    show Steps p.tables e below (s₁.setTop (mkF m 1 #[.val (.ref o1)] [(.ref o1)])) _
    refine st1 _ ?_
    show Steps p.tables e below (T1.setTop (mkF m 4 #[.val (.ref o1)] [(.ref w3)])) _
    refine st2 _ ?_
    show Steps p.tables e below (T2.setTop (mkF m 7 #[.val (.ref o1)] [(.ref w1), (.ref w3)])) _
    refine Jvm.RoadKit.acmp (g := (mkF m 7 #[.val (.ref o1)] [(.ref w1), (.ref w3)])) X2 hx rfl rfl rfl (pc0 := 7) (pc' := 10) (same := false) rfl (hb hby d1_7) rfl (decide_eq_false fun q => (Fld.ne F_w3_ordinal F_w1_ordinal (by decide)) (Value.ref.inj q)) (by decide) (by decide) ?_
    show Steps p.tables e below (T2.setTop (mkF m 10 #[.val (.ref o1)] [])) _
    refine XS.iconst X2.here hx rfl (hb hby d1_10) ?_
    show Steps p.tables e below (T2.setTop (mkF m 11 #[.val (.ref o1)] [(.int (1 : Int32))])) _
    refine XS.goto X2.here hx rfl (pc0 := 11) (pc' := 15) rfl (hb hby d1_11) (by decide) (by decide) ?_
    show Steps p.tables e below (T2.setTop (mkF m 15 #[.val (.ref o1)] [(.int (1 : Int32))])) _
    exact retN X2 hx (t := .boolean) hret (by simp) (hb hby d1_15) hr
  ·
    show Q6 Z w1 w2 w3 o1 h0 n0 _ T2.heap _
    rw [e2]
    exact ⟨rfl, N0, rfl⟩
theorem ef7 (m : MethodId) (x0 : Addr) : entryFrame m #[(.ref x0)] 1 = mkF m 0 #[.val (.ref x0)] [] := by first | (simp [entryFrame, mkF, argsToLocals, Value.category]; done) | rfl
def Q7 (Z : State) (w1 : Addr) (w2 : Addr) (w3 : Addr) (o1 : Addr) (h0 : Heap) (n0 : Nat) (v : Option Value) (h : Heap) (L : List Loc) : Prop :=
  (v = some (.int (0 : Int32)) ∧ Fr n0 L ∧ h = h0)
set_option maxRecDepth 65536 in
set_option maxHeartbeats 40000000 in
theorem rm7 (l : Launch) (Z : State) (a0 : Array Value) (hw : ∀ d ∈ tables_1, d.before a0 Z = true) (w1 : Addr) (w2 : Addr) (w3 : Addr) (G : GW Z w1 w2 w3) (ws : List Jvm.Cond) (o1 : Addr) (h0 : Heap) (n0 : Nat) (O0 : Old Z n0 h0) (g_o1 : n0 ≤ o1) (P1 : Fld Z h0 o1 "com/example/vorgang/vorgang/QueryTimeoutScope" "kept" "Lcom/example/vorgang/vorgang/QueryTimeoutScope$Kept;" (.ref w3)) :
    MetFree l (⟨"com/example/vorgang/vorgang/QueryTimeoutScope", "isSession", "()Z"⟩ : MethodName) (head1 (Jvm.Cond.code (⟨"com/example/vorgang/vorgang/QueryTimeoutScope", "isSession", "()Z"⟩ : MethodName) prog_14_method_2_code 1 (some .boolean) :: ws) ({ frames := 0, cells := 0, slots := 0, locals := 0 } : Room)) (fun a U => a = #[(.ref o1)] ∧ Z.Warmed39 U.vm ∧ U.heap = h0) (fun _ _ _ _ _ => True) (fun _ U o U' => ∃ v L, o = .returned v ∧ Q7 Z w1 w2 w3 o1 h0 n0 v U'.heap L ∧ FrameEnd U o U' L ({ frames := 0, cells := 0, slots := 0, locals := 0 } : Room).cells ({ frames := 0, cells := 0, slots := 0, locals := 0 } : Room).slots) := by
  obtain ⟨S_w1, E_w1, S_w2, E_w2, S_w3, E_w3, F_w1_ordinal, F_w2_ordinal, F_w3_ordinal⟩ := id G
  refine MetFree.of_bodySF (plainFor_of_name pn0) hisR ?_
  intro p e s m args below meth c s₁ Bd hml0 hP hK
  obtain ⟨rfl, hZ, hh⟩ := hP
  have hx := Bd.exec
  have hby := Bd.bytes
  have hml : c.maxLocals = 1 := hml0
  have hown : s.vm.findClass "com/example/vorgang/vorgang/QueryTimeoutScope" = some m.cls := findClass_of_methodNamed Bd.named
  have hnm := (name_of_methodNamed Bd.named Bd.method).1
  have hret := Bd.returns
  have hlk : meth.locks = false := BodyLoose.notSynchronized Bd
  have X0 : Stand p l e ({ frames := 0, cells := 0, slots := 0, locals := 0 } : Room) s m #[(.ref o1)] below meth c s₁ [] 0 0 := Stand.of_body Bd
  have e0 : s₁.heap = h0 := by rw [← hh, Bd.state]; rfl
  have N0 := Fr.nil n0
  have pre0 : ∀ t, Steps p.tables e below (s₁.setTop (mkF m 0 #[.val (.ref o1)] [])) t → Steps p.tables e below (s₁.setTop (entryFrame m #[(.ref o1)] 1)) t := fun t k => castTop (ef7 m o1) k
  obtain ⟨T1, X1, e1, st1⟩ := getF X0 hx hZ hown (host := "") (Or.inl (hw _ (List.mem_of_getElem? (i := 12) rfl))) Via.refl e0 P1 (g := (mkF m 1 #[.val (.ref o1)] [(.ref o1)])) rfl rfl (hb hby d2_1)
  obtain ⟨T2, X2, e2, st2⟩ := getS2 X1 hx hZ hown (host := "") (Or.inl (hw _ (List.mem_of_getElem? (i := 24) rfl))) Via.refl e1 (S_w2.ext O0.2) (g := (mkF m 4 #[.val (.ref o1)] [(.ref w3)])) rfl (hb hby d2_4)
  obtain ⟨fs, hr, hrun, hended, hW, hsame⟩ := X2.leave (v := some (.int (0 : Int32))) (fun h => by rw [hret] at h; cases h)
  refine ⟨_, _, pre0 _ ?_, hrun, hended, _, _, rfl, ?_, ⟨_, rfl⟩, hW, hsame.mono (by decide) (by decide)⟩
  ·
    show Steps p.tables e below (s₁.setTop (mkF m 0 #[.val (.ref o1)] [])) _
    refine XS.aloadN X0.here hx rfl (hb hby d2_0) rfl rfl ?_
    show Steps p.tables e below (s₁.setTop (mkF m 1 #[.val (.ref o1)] [(.ref o1)])) _
    refine st1 _ ?_
    show Steps p.tables e below (T1.setTop (mkF m 4 #[.val (.ref o1)] [(.ref w3)])) _
    refine st2 _ ?_
    show Steps p.tables e below (T2.setTop (mkF m 7 #[.val (.ref o1)] [(.ref w2), (.ref w3)])) _
    refine Jvm.RoadKit.acmp (g := (mkF m 7 #[.val (.ref o1)] [(.ref w2), (.ref w3)])) X2 hx rfl rfl rfl (pc0 := 7) (pc' := 14) (same := false) rfl (hb hby d2_7) rfl (decide_eq_false fun q => (Fld.ne F_w3_ordinal F_w2_ordinal (by decide)) (Value.ref.inj q)) (by decide) (by decide) ?_
    show Steps p.tables e below (T2.setTop (mkF m 14 #[.val (.ref o1)] [])) _
    refine XS.iconst X2.here hx rfl (hb hby d2_14) ?_
    show Steps p.tables e below (T2.setTop (mkF m 15 #[.val (.ref o1)] [(.int (0 : Int32))])) _
    exact retN X2 hx (t := .boolean) hret (by simp) (hb hby d2_15) hr
  ·
    show Q7 Z w1 w2 w3 o1 h0 n0 _ T2.heap _
    rw [e2]
    exact ⟨rfl, N0, rfl⟩
theorem d3_10 : decode prog_14_method_3_code 10 = .ok (.iconst 1, 1) := by decide +kernel
theorem d3_11 : decode prog_14_method_3_code 11 = .ok (.goto 4, 3) := by decide +kernel
theorem ef8 (m : MethodId) (x0 : Addr) : entryFrame m #[(.ref x0)] 1 = mkF m 0 #[.val (.ref x0)] [] := by first | (simp [entryFrame, mkF, argsToLocals, Value.category]; done) | rfl
def Q8 (Z : State) (w1 : Addr) (w2 : Addr) (w3 : Addr) (o1 : Addr) (h0 : Heap) (n0 : Nat) (v : Option Value) (h : Heap) (L : List Loc) : Prop :=
  (v = some (.int (1 : Int32)) ∧ Fr n0 L ∧ h = h0)
set_option maxRecDepth 65536 in
set_option maxHeartbeats 40000000 in
theorem rm8 (l : Launch) (Z : State) (a0 : Array Value) (hw : ∀ d ∈ tables_1, d.before a0 Z = true) (w1 : Addr) (w2 : Addr) (w3 : Addr) (G : GW Z w1 w2 w3) (ws : List Jvm.Cond) (o1 : Addr) (h0 : Heap) (n0 : Nat) (O0 : Old Z n0 h0) (g_o1 : n0 ≤ o1) (P1 : Fld Z h0 o1 "com/example/vorgang/vorgang/QueryTimeoutScope" "kept" "Lcom/example/vorgang/vorgang/QueryTimeoutScope$Kept;" (.ref w3)) :
    MetFree l (⟨"com/example/vorgang/vorgang/QueryTimeoutScope", "isStatement", "()Z"⟩ : MethodName) (head1 (Jvm.Cond.code (⟨"com/example/vorgang/vorgang/QueryTimeoutScope", "isStatement", "()Z"⟩ : MethodName) prog_14_method_3_code 1 (some .boolean) :: ws) ({ frames := 0, cells := 0, slots := 0, locals := 0 } : Room)) (fun a U => a = #[(.ref o1)] ∧ Z.Warmed39 U.vm ∧ U.heap = h0) (fun _ _ _ _ _ => True) (fun _ U o U' => ∃ v L, o = .returned v ∧ Q8 Z w1 w2 w3 o1 h0 n0 v U'.heap L ∧ FrameEnd U o U' L ({ frames := 0, cells := 0, slots := 0, locals := 0 } : Room).cells ({ frames := 0, cells := 0, slots := 0, locals := 0 } : Room).slots) := by
  obtain ⟨S_w1, E_w1, S_w2, E_w2, S_w3, E_w3, F_w1_ordinal, F_w2_ordinal, F_w3_ordinal⟩ := id G
  refine MetFree.of_bodySF (plainFor_of_name pn0) hisR ?_
  intro p e s m args below meth c s₁ Bd hml0 hP hK
  obtain ⟨rfl, hZ, hh⟩ := hP
  have hx := Bd.exec
  have hby := Bd.bytes
  have hml : c.maxLocals = 1 := hml0
  have hown : s.vm.findClass "com/example/vorgang/vorgang/QueryTimeoutScope" = some m.cls := findClass_of_methodNamed Bd.named
  have hnm := (name_of_methodNamed Bd.named Bd.method).1
  have hret := Bd.returns
  have hlk : meth.locks = false := BodyLoose.notSynchronized Bd
  have X0 : Stand p l e ({ frames := 0, cells := 0, slots := 0, locals := 0 } : Room) s m #[(.ref o1)] below meth c s₁ [] 0 0 := Stand.of_body Bd
  have e0 : s₁.heap = h0 := by rw [← hh, Bd.state]; rfl
  have N0 := Fr.nil n0
  have pre0 : ∀ t, Steps p.tables e below (s₁.setTop (mkF m 0 #[.val (.ref o1)] [])) t → Steps p.tables e below (s₁.setTop (entryFrame m #[(.ref o1)] 1)) t := fun t k => castTop (ef8 m o1) k
  obtain ⟨T1, X1, e1, st1⟩ := getF X0 hx hZ hown (host := "") (Or.inl (hw _ (List.mem_of_getElem? (i := 12) rfl))) Via.refl e0 P1 (g := (mkF m 1 #[.val (.ref o1)] [(.ref o1)])) rfl rfl (hb hby d3_1)
  obtain ⟨T2, X2, e2, st2⟩ := getS2 X1 hx hZ hown (host := "") (Or.inl (hw _ (List.mem_of_getElem? (i := 31) rfl))) Via.refl e1 (S_w3.ext O0.2) (g := (mkF m 4 #[.val (.ref o1)] [(.ref w3)])) rfl (hb hby d3_4)
  obtain ⟨fs, hr, hrun, hended, hW, hsame⟩ := X2.leave (v := some (.int (1 : Int32))) (fun h => by rw [hret] at h; cases h)
  refine ⟨_, _, pre0 _ ?_, hrun, hended, _, _, rfl, ?_, ⟨_, rfl⟩, hW, hsame.mono (by decide) (by decide)⟩
  ·
    show Steps p.tables e below (s₁.setTop (mkF m 0 #[.val (.ref o1)] [])) _
    refine XS.aloadN X0.here hx rfl (hb hby d3_0) rfl rfl ?_
    show Steps p.tables e below (s₁.setTop (mkF m 1 #[.val (.ref o1)] [(.ref o1)])) _
    refine st1 _ ?_
    show Steps p.tables e below (T1.setTop (mkF m 4 #[.val (.ref o1)] [(.ref w3)])) _
    refine st2 _ ?_
    show Steps p.tables e below (T2.setTop (mkF m 7 #[.val (.ref o1)] [(.ref w3), (.ref w3)])) _
    refine Jvm.RoadKit.acmp (g := (mkF m 7 #[.val (.ref o1)] [(.ref w3), (.ref w3)])) X2 hx rfl rfl rfl (pc0 := 7) (pc' := 10) (same := true) rfl (hb hby d3_7) rfl (decide_eq_true rfl) (by decide) (by decide) ?_
    show Steps p.tables e below (T2.setTop (mkF m 10 #[.val (.ref o1)] [])) _
    refine XS.iconst X2.here hx rfl (hb hby d3_10) ?_
    show Steps p.tables e below (T2.setTop (mkF m 11 #[.val (.ref o1)] [(.int (1 : Int32))])) _
    refine XS.goto X2.here hx rfl (pc0 := 11) (pc' := 15) rfl (hb hby d3_11) (by decide) (by decide) ?_
    show Steps p.tables e below (T2.setTop (mkF m 15 #[.val (.ref o1)] [(.int (1 : Int32))])) _
    exact retN X2 hx (t := .boolean) hret (by simp) (hb hby d3_15) hr
  ·
    show Q8 Z w1 w2 w3 o1 h0 n0 _ T2.heap _
    rw [e2]
    exact ⟨rfl, N0, rfl⟩
theorem ef9 (m : MethodId) (x0 : Addr) (x1 : Int32) : entryFrame m #[(.ref x0), (.int x1)] 2 = mkF m 0 #[.val (.ref x0), .val (.int x1)] [] := by first | (simp [entryFrame, mkF, argsToLocals, Value.category]; done) | rfl
def Q9 (Z : State) (w1 : Addr) (w2 : Addr) (w3 : Addr) (o1 : Addr) (p2 : Int32) (h0 : Heap) (n0 : Nat) (v : Option Value) (h : Heap) (L : List Loc) : Prop :=
  ((p2 = (0 : Int32)) ∧ v = none ∧ Fr n0 L ∧ Keep h0 h [o1] ∧ (Exa Z h o1 "com/example/vorgang/vorgang/QueryTimeoutScope") ∧ (Fld Z h o1 "com/example/vorgang/vorgang/QueryTimeoutScope" "kept" "Lcom/example/vorgang/vorgang/QueryTimeoutScope$Kept;" (.ref w3)))
  ∨ ((¬ (p2 = (0 : Int32))) ∧ v = none ∧ Fr n0 L ∧ Keep h0 h [o1] ∧ (Exa Z h o1 "com/example/vorgang/vorgang/QueryTimeoutScope") ∧ (Fld Z h o1 "com/example/vorgang/vorgang/QueryTimeoutScope" "kept" "Lcom/example/vorgang/vorgang/QueryTimeoutScope$Kept;" (.ref w2)))
set_option maxRecDepth 65536 in
set_option maxHeartbeats 40000000 in
theorem rm9 (l : Launch) (Z : State) (a0 : Array Value) (hw : ∀ d ∈ tables_1, d.before a0 Z = true) (w1 : Addr) (w2 : Addr) (w3 : Addr) (G : GW Z w1 w2 w3) (ws : List Jvm.Cond) (o1 : Addr) (p2 : Int32) (h0 : Heap) (n0 : Nat) (O0 : Old Z n0 h0) (g_o1 : n0 ≤ o1) (P0 : Exa Z h0 o1 "com/example/vorgang/vorgang/QueryTimeoutScope") (P1 : Fld Z h0 o1 "com/example/vorgang/vorgang/QueryTimeoutScope" "kept" "Lcom/example/vorgang/vorgang/QueryTimeoutScope$Kept;" (.ref w3)) :
    MetFree l (⟨"com/example/vorgang/vorgang/QueryTimeoutScope", "found", "(Z)V"⟩ : MethodName) (head1 (Jvm.Cond.code (⟨"com/example/vorgang/vorgang/QueryTimeoutScope", "found", "(Z)V"⟩ : MethodName) prog_14_method_5_code 2 none :: ws) ({ frames := 0, cells := 0, slots := 0, locals := 0 } : Room)) (fun a U => a = #[(.ref o1), (.int p2)] ∧ Z.Warmed39 U.vm ∧ U.heap = h0) (fun _ _ _ _ _ => True) (fun _ U o U' => ∃ v L, o = .returned v ∧ Q9 Z w1 w2 w3 o1 p2 h0 n0 v U'.heap L ∧ FrameEnd U o U' L ({ frames := 0, cells := 0, slots := 0, locals := 0 } : Room).cells ({ frames := 0, cells := 0, slots := 0, locals := 0 } : Room).slots) := by
  obtain ⟨S_w1, E_w1, S_w2, E_w2, S_w3, E_w3, F_w1_ordinal, F_w2_ordinal, F_w3_ordinal⟩ := id G
  refine MetFree.of_bodySF (plainFor_of_name pn0) hisR ?_
  intro p e s m args below meth c s₁ Bd hml0 hP hK
  obtain ⟨rfl, hZ, hh⟩ := hP
  have hx := Bd.exec
  have hby := Bd.bytes
  have hml : c.maxLocals = 2 := hml0
  have hown : s.vm.findClass "com/example/vorgang/vorgang/QueryTimeoutScope" = some m.cls := findClass_of_methodNamed Bd.named
  have hnm := (name_of_methodNamed Bd.named Bd.method).1
  have hret := Bd.returns
  have hlk : meth.locks = false := BodyLoose.notSynchronized Bd
  have X0 : Stand p l e ({ frames := 0, cells := 0, slots := 0, locals := 0 } : Room) s m #[(.ref o1), (.int p2)] below meth c s₁ [] 0 0 := Stand.of_body Bd
  have e0 : s₁.heap = h0 := by rw [← hh, Bd.state]; rfl
  have N0 := Fr.nil n0
  have pre0 : ∀ t, Steps p.tables e below (s₁.setTop (mkF m 0 #[.val (.ref o1), .val (.int p2)] [])) t → Steps p.tables e below (s₁.setTop (entryFrame m #[(.ref o1), (.int p2)] 2)) t := fun t k => castTop (ef9 m o1 p2) k
  have pre1 : ∀ t, Steps p.tables e below (s₁.setTop (mkF m 2 #[.val (.ref o1), .val (.int p2)] [(.int p2), (.ref o1)])) t → Steps p.tables e below (s₁.setTop (entryFrame m #[(.ref o1), (.int p2)] 2)) t := fun t k => by
    refine pre0 _ ?_
    show Steps p.tables e below (s₁.setTop (mkF m 0 #[.val (.ref o1), .val (.int p2)] [])) _
    refine XS.aloadN X0.here hx rfl (hb hby d4_0) rfl rfl ?_
    show Steps p.tables e below (s₁.setTop (mkF m 1 #[.val (.ref o1), .val (.int p2)] [(.ref o1)])) _
    refine XS.iloadN X0.here hx rfl (hb hby d4_1) rfl ?_
    exact k
  by_cases hc2 : p2 = (0 : Int32)
  ·
    have pre3 : ∀ t, Steps p.tables e below (s₁.setTop (mkF m 2 #[.val (.ref o1), .val (.int (0 : Int32))] [(.int (0 : Int32)), (.ref o1)])) t → Steps p.tables e below (s₁.setTop (entryFrame m #[(.ref o1), (.int p2)] 2)) t := fun t k => pre1 t (by rw [hc2]; exact k)
    obtain ⟨T4, X4, e4, st4⟩ := getS2 X0 hx hZ hown (host := "") (Or.inl (hw _ (List.mem_of_getElem? (i := 31) rfl))) Via.refl e0 (S_w3.ext O0.2) (g := (mkF m 11 #[.val (.ref o1), .val (.int (0 : Int32))] [(.ref o1)])) rfl (hb hby d4_11)
    obtain ⟨T5, h5, X5, e5, W5, st5⟩ := putF X4 hx hZ hown (host := "") (Or.inl (hw _ (List.mem_of_getElem? (i := 12) rfl))) Via.refl e4 P1 P0 (Or.inl (hw _ (List.mem_of_getElem? (i := 13) rfl))) (hw _ (List.mem_of_getElem? (i := 1) rfl)) (ty := (.object "com/example/vorgang/vorgang/QueryTimeoutScope$Kept")) (by decide) rfl rfl (g := (mkF m 14 #[.val (.ref o1), .val (.int (0 : Int32))] [(.ref w3), (.ref o1)])) rfl rfl (hb hby d4_14)
    have N5 := Fr.snoc X5 N0 g_o1
    have Fw5 := P1.same W5
    have M5 : h0.size ≤ h5.size := Nat.le_trans (Nat.le_refl _) (Nat.le_of_eq W5.size.symm)
    have O5 := Old.wr O0 W5 g_o1
    obtain ⟨fs, hr, hrun, hended, hW, hsame⟩ := X5.leave (v := none) (fun _ => rfl)
    have KL : Keep h0 h5 [o1] := ((Keep.refl h0 [o1]).wr W5 (Or.inl (List.mem_of_getElem? (i := 0) rfl)))
    have f6 := (P0.wr W5)
    refine ⟨_, _, pre3 _ ?_, hrun, hended, _, _, rfl, ?_, ⟨_, rfl⟩, hW, hsame.mono (by decide) (by decide)⟩
    ·
      show Steps p.tables e below (s₁.setTop (mkF m 2 #[.val (.ref o1), .val (.int (0 : Int32))] [(.int (0 : Int32)), (.ref o1)])) _
      refine XS.ifYes X0.here hx rfl (pc0 := 2) (pc' := 11) rfl (hb hby d4_2) rfl ((if0 _ _).trans (teq (by decide : (0 : Int32) = (0 : Int32))).1) (by decide) (by decide) ?_
      show Steps p.tables e below (s₁.setTop (mkF m 11 #[.val (.ref o1), .val (.int (0 : Int32))] [(.ref o1)])) _
      refine st4 _ ?_
      show Steps p.tables e below (T4.setTop (mkF m 14 #[.val (.ref o1), .val (.int (0 : Int32))] [(.ref w3), (.ref o1)])) _
      refine st5 _ ?_
      show Steps p.tables e below (T5.setTop (mkF m 17 #[.val (.ref o1), .val (.int (0 : Int32))] [])) _
      exact X5.returnOut hx hret (hb hby d4_17) hr
    ·
      show Q9 Z w1 w2 w3 o1 p2 h0 n0 _ T5.heap _
      rw [e5]
      exact (Or.inl ⟨hc2, rfl, N5, KL, f6, Fw5⟩)
  ·
    obtain ⟨T7, X7, e7, st7⟩ := getS2 X0 hx hZ hown (host := "") (Or.inl (hw _ (List.mem_of_getElem? (i := 24) rfl))) Via.refl e0 (S_w2.ext O0.2) (g := (mkF m 5 #[.val (.ref o1), .val (.int p2)] [(.ref o1)])) rfl (hb hby d4_5)
    obtain ⟨T8, h8, X8, e8, W8, st8⟩ := putF X7 hx hZ hown (host := "") (Or.inl (hw _ (List.mem_of_getElem? (i := 12) rfl))) Via.refl e7 P1 P0 (Or.inl (hw _ (List.mem_of_getElem? (i := 13) rfl))) (hw _ (List.mem_of_getElem? (i := 1) rfl)) (ty := (.object "com/example/vorgang/vorgang/QueryTimeoutScope$Kept")) (by decide) rfl rfl (g := (mkF m 14 #[.val (.ref o1), .val (.int p2)] [(.ref w2), (.ref o1)])) rfl rfl (hb hby d4_14)
    have N8 := Fr.snoc X8 N0 g_o1
    have Fw8 := P1.same W8
    have M8 : h0.size ≤ h8.size := Nat.le_trans (Nat.le_refl _) (Nat.le_of_eq W8.size.symm)
    have O8 := Old.wr O0 W8 g_o1
    obtain ⟨fs, hr, hrun, hended, hW, hsame⟩ := X8.leave (v := none) (fun _ => rfl)
    have KL : Keep h0 h8 [o1] := ((Keep.refl h0 [o1]).wr W8 (Or.inl (List.mem_of_getElem? (i := 0) rfl)))
    have f9 := (P0.wr W8)
    refine ⟨_, _, pre1 _ ?_, hrun, hended, _, _, rfl, ?_, ⟨_, rfl⟩, hW, hsame.mono (by decide) (by decide)⟩
    ·
      show Steps p.tables e below (s₁.setTop (mkF m 2 #[.val (.ref o1), .val (.int p2)] [(.int p2), (.ref o1)])) _
      refine XS.ifNo X0.here hx rfl (hb hby d4_2) rfl ((if0 _ _).trans (feq hc2).1) ?_
      show Steps p.tables e below (s₁.setTop (mkF m 5 #[.val (.ref o1), .val (.int p2)] [(.ref o1)])) _
      refine st7 _ ?_
      show Steps p.tables e below (T7.setTop (mkF m 8 #[.val (.ref o1), .val (.int p2)] [(.ref w2), (.ref o1)])) _
      refine XS.goto X7.here hx rfl (pc0 := 8) (pc' := 14) rfl (hb hby d4_8) (by decide) (by decide) ?_
      show Steps p.tables e below (T7.setTop (mkF m 14 #[.val (.ref o1), .val (.int p2)] [(.ref w2), (.ref o1)])) _
      refine st8 _ ?_
      show Steps p.tables e below (T8.setTop (mkF m 17 #[.val (.ref o1), .val (.int p2)] [])) _
      exact X8.returnOut hx hret (hb hby d4_17) hr
    ·
      show Q9 Z w1 w2 w3 o1 p2 h0 n0 _ T8.heap _
      rw [e8]
      exact (Or.inr ⟨hc2, rfl, N8, KL, f9, Fw8⟩)
theorem ef10 (m : MethodId) (x0 : Addr) : entryFrame m #[(.ref x0)] 1 = mkF m 0 #[.val (.ref x0)] [] := by first | (simp [entryFrame, mkF, argsToLocals, Value.category]; done) | rfl
def Q10 (Z : State) (w1 : Addr) (w2 : Addr) (w3 : Addr) (o1 : Addr) (h0 : Heap) (n0 : Nat) (v : Option Value) (h : Heap) (L : List Loc) : Prop :=
  (v = some (.int (1 : Int32)) ∧ Fr n0 L ∧ h = h0)
set_option maxRecDepth 65536 in
set_option maxHeartbeats 40000000 in
theorem rm10 (l : Launch) (Z : State) (a0 : Array Value) (hw : ∀ d ∈ tables_1, d.before a0 Z = true) (w1 : Addr) (w2 : Addr) (w3 : Addr) (G : GW Z w1 w2 w3) (ws : List Jvm.Cond) (o1 : Addr) (h0 : Heap) (n0 : Nat) (O0 : Old Z n0 h0) (g_o1 : n0 ≤ o1) (P1 : Fld Z h0 o1 "com/example/vorgang/vorgang/QueryTimeoutScope" "kept" "Lcom/example/vorgang/vorgang/QueryTimeoutScope$Kept;" (.ref w2)) :
    MetFree l (⟨"com/example/vorgang/vorgang/QueryTimeoutScope", "isKnown", "()Z"⟩ : MethodName) (head1 (Jvm.Cond.code (⟨"com/example/vorgang/vorgang/QueryTimeoutScope", "isKnown", "()Z"⟩ : MethodName) prog_14_method_4_code 1 (some .boolean) :: ws) ({ frames := 0, cells := 0, slots := 0, locals := 0 } : Room)) (fun a U => a = #[(.ref o1)] ∧ Z.Warmed39 U.vm ∧ U.heap = h0) (fun _ _ _ _ _ => True) (fun _ U o U' => ∃ v L, o = .returned v ∧ Q10 Z w1 w2 w3 o1 h0 n0 v U'.heap L ∧ FrameEnd U o U' L ({ frames := 0, cells := 0, slots := 0, locals := 0 } : Room).cells ({ frames := 0, cells := 0, slots := 0, locals := 0 } : Room).slots) := by
  obtain ⟨S_w1, E_w1, S_w2, E_w2, S_w3, E_w3, F_w1_ordinal, F_w2_ordinal, F_w3_ordinal⟩ := id G
  refine MetFree.of_bodySF (plainFor_of_name pn0) hisR ?_
  intro p e s m args below meth c s₁ Bd hml0 hP hK
  obtain ⟨rfl, hZ, hh⟩ := hP
  have hx := Bd.exec
  have hby := Bd.bytes
  have hml : c.maxLocals = 1 := hml0
  have hown : s.vm.findClass "com/example/vorgang/vorgang/QueryTimeoutScope" = some m.cls := findClass_of_methodNamed Bd.named
  have hnm := (name_of_methodNamed Bd.named Bd.method).1
  have hret := Bd.returns
  have hlk : meth.locks = false := BodyLoose.notSynchronized Bd
  have X0 : Stand p l e ({ frames := 0, cells := 0, slots := 0, locals := 0 } : Room) s m #[(.ref o1)] below meth c s₁ [] 0 0 := Stand.of_body Bd
  have e0 : s₁.heap = h0 := by rw [← hh, Bd.state]; rfl
  have N0 := Fr.nil n0
  have pre0 : ∀ t, Steps p.tables e below (s₁.setTop (mkF m 0 #[.val (.ref o1)] [])) t → Steps p.tables e below (s₁.setTop (entryFrame m #[(.ref o1)] 1)) t := fun t k => castTop (ef10 m o1) k
  obtain ⟨T1, X1, e1, st1⟩ := getF X0 hx hZ hown (host := "") (Or.inl (hw _ (List.mem_of_getElem? (i := 12) rfl))) Via.refl e0 P1 (g := (mkF m 1 #[.val (.ref o1)] [(.ref o1)])) rfl rfl (hb hby d1_1)
  obtain ⟨T2, X2, e2, st2⟩ := getS2 X1 hx hZ hown (host := "") (Or.inl (hw _ (List.mem_of_getElem? (i := 9) rfl))) Via.refl e1 (S_w1.ext O0.2) (g := (mkF m 4 #[.val (.ref o1)] [(.ref w2)])) rfl (hb hby d1_4)
  obtain ⟨fs, hr, hrun, hended, hW, hsame⟩ := X2.leave (v := some (.int (1 : Int32))) (fun h => by rw [hret] at h; cases h)
  refine ⟨_, _, pre0 _ ?_, hrun, hended, _, _, rfl, ?_, ⟨_, rfl⟩, hW, hsame.mono (by decide) (by decide)⟩
  ·
    show Steps p.tables e below (s₁.setTop (mkF m 0 #[.val (.ref o1)] [])) _
    refine XS.aloadN X0.here hx rfl (hb hby d1_0) rfl rfl ?_
    show Steps p.tables e below (s₁.setTop (mkF m 1 #[.val (.ref o1)] [(.ref o1)])) _
    refine st1 _ ?_
    show Steps p.tables e below (T1.setTop (mkF m 4 #[.val (.ref o1)] [(.ref w2)])) _
    refine st2 _ ?_
    show Steps p.tables e below (T2.setTop (mkF m 7 #[.val (.ref o1)] [(.ref w1), (.ref w2)])) _
    refine Jvm.RoadKit.acmp (g := (mkF m 7 #[.val (.ref o1)] [(.ref w1), (.ref w2)])) X2 hx rfl rfl rfl (pc0 := 7) (pc' := 10) (same := false) rfl (hb hby d1_7) rfl (decide_eq_false fun q => (Fld.ne F_w2_ordinal F_w1_ordinal (by decide)) (Value.ref.inj q)) (by decide) (by decide) ?_
    show Steps p.tables e below (T2.setTop (mkF m 10 #[.val (.ref o1)] [])) _
    refine XS.iconst X2.here hx rfl (hb hby d1_10) ?_
    show Steps p.tables e below (T2.setTop (mkF m 11 #[.val (.ref o1)] [(.int (1 : Int32))])) _
    refine XS.goto X2.here hx rfl (pc0 := 11) (pc' := 15) rfl (hb hby d1_11) (by decide) (by decide) ?_
    show Steps p.tables e below (T2.setTop (mkF m 15 #[.val (.ref o1)] [(.int (1 : Int32))])) _
    exact retN X2 hx (t := .boolean) hret (by simp) (hb hby d1_15) hr
  ·
    show Q10 Z w1 w2 w3 o1 h0 n0 _ T2.heap _
    rw [e2]
    exact ⟨rfl, N0, rfl⟩
theorem d2_10 : decode prog_14_method_2_code 10 = .ok (.iconst 1, 1) := by decide +kernel
theorem d2_11 : decode prog_14_method_2_code 11 = .ok (.goto 4, 3) := by decide +kernel
theorem ef11 (m : MethodId) (x0 : Addr) : entryFrame m #[(.ref x0)] 1 = mkF m 0 #[.val (.ref x0)] [] := by first | (simp [entryFrame, mkF, argsToLocals, Value.category]; done) | rfl
def Q11 (Z : State) (w1 : Addr) (w2 : Addr) (w3 : Addr) (o1 : Addr) (h0 : Heap) (n0 : Nat) (v : Option Value) (h : Heap) (L : List Loc) : Prop :=
  (v = some (.int (1 : Int32)) ∧ Fr n0 L ∧ h = h0)
set_option maxRecDepth 65536 in
set_option maxHeartbeats 40000000 in
theorem rm11 (l : Launch) (Z : State) (a0 : Array Value) (hw : ∀ d ∈ tables_1, d.before a0 Z = true) (w1 : Addr) (w2 : Addr) (w3 : Addr) (G : GW Z w1 w2 w3) (ws : List Jvm.Cond) (o1 : Addr) (h0 : Heap) (n0 : Nat) (O0 : Old Z n0 h0) (g_o1 : n0 ≤ o1) (P1 : Fld Z h0 o1 "com/example/vorgang/vorgang/QueryTimeoutScope" "kept" "Lcom/example/vorgang/vorgang/QueryTimeoutScope$Kept;" (.ref w2)) :
    MetFree l (⟨"com/example/vorgang/vorgang/QueryTimeoutScope", "isSession", "()Z"⟩ : MethodName) (head1 (Jvm.Cond.code (⟨"com/example/vorgang/vorgang/QueryTimeoutScope", "isSession", "()Z"⟩ : MethodName) prog_14_method_2_code 1 (some .boolean) :: ws) ({ frames := 0, cells := 0, slots := 0, locals := 0 } : Room)) (fun a U => a = #[(.ref o1)] ∧ Z.Warmed39 U.vm ∧ U.heap = h0) (fun _ _ _ _ _ => True) (fun _ U o U' => ∃ v L, o = .returned v ∧ Q11 Z w1 w2 w3 o1 h0 n0 v U'.heap L ∧ FrameEnd U o U' L ({ frames := 0, cells := 0, slots := 0, locals := 0 } : Room).cells ({ frames := 0, cells := 0, slots := 0, locals := 0 } : Room).slots) := by
  obtain ⟨S_w1, E_w1, S_w2, E_w2, S_w3, E_w3, F_w1_ordinal, F_w2_ordinal, F_w3_ordinal⟩ := id G
  refine MetFree.of_bodySF (plainFor_of_name pn0) hisR ?_
  intro p e s m args below meth c s₁ Bd hml0 hP hK
  obtain ⟨rfl, hZ, hh⟩ := hP
  have hx := Bd.exec
  have hby := Bd.bytes
  have hml : c.maxLocals = 1 := hml0
  have hown : s.vm.findClass "com/example/vorgang/vorgang/QueryTimeoutScope" = some m.cls := findClass_of_methodNamed Bd.named
  have hnm := (name_of_methodNamed Bd.named Bd.method).1
  have hret := Bd.returns
  have hlk : meth.locks = false := BodyLoose.notSynchronized Bd
  have X0 : Stand p l e ({ frames := 0, cells := 0, slots := 0, locals := 0 } : Room) s m #[(.ref o1)] below meth c s₁ [] 0 0 := Stand.of_body Bd
  have e0 : s₁.heap = h0 := by rw [← hh, Bd.state]; rfl
  have N0 := Fr.nil n0
  have pre0 : ∀ t, Steps p.tables e below (s₁.setTop (mkF m 0 #[.val (.ref o1)] [])) t → Steps p.tables e below (s₁.setTop (entryFrame m #[(.ref o1)] 1)) t := fun t k => castTop (ef11 m o1) k
  obtain ⟨T1, X1, e1, st1⟩ := getF X0 hx hZ hown (host := "") (Or.inl (hw _ (List.mem_of_getElem? (i := 12) rfl))) Via.refl e0 P1 (g := (mkF m 1 #[.val (.ref o1)] [(.ref o1)])) rfl rfl (hb hby d2_1)
  obtain ⟨T2, X2, e2, st2⟩ := getS2 X1 hx hZ hown (host := "") (Or.inl (hw _ (List.mem_of_getElem? (i := 24) rfl))) Via.refl e1 (S_w2.ext O0.2) (g := (mkF m 4 #[.val (.ref o1)] [(.ref w2)])) rfl (hb hby d2_4)
  obtain ⟨fs, hr, hrun, hended, hW, hsame⟩ := X2.leave (v := some (.int (1 : Int32))) (fun h => by rw [hret] at h; cases h)
  refine ⟨_, _, pre0 _ ?_, hrun, hended, _, _, rfl, ?_, ⟨_, rfl⟩, hW, hsame.mono (by decide) (by decide)⟩
  ·
    show Steps p.tables e below (s₁.setTop (mkF m 0 #[.val (.ref o1)] [])) _
    refine XS.aloadN X0.here hx rfl (hb hby d2_0) rfl rfl ?_
    show Steps p.tables e below (s₁.setTop (mkF m 1 #[.val (.ref o1)] [(.ref o1)])) _
    refine st1 _ ?_
    show Steps p.tables e below (T1.setTop (mkF m 4 #[.val (.ref o1)] [(.ref w2)])) _
    refine st2 _ ?_
    show Steps p.tables e below (T2.setTop (mkF m 7 #[.val (.ref o1)] [(.ref w2), (.ref w2)])) _
    refine Jvm.RoadKit.acmp (g := (mkF m 7 #[.val (.ref o1)] [(.ref w2), (.ref w2)])) X2 hx rfl rfl rfl (pc0 := 7) (pc' := 10) (same := true) rfl (hb hby d2_7) rfl (decide_eq_true rfl) (by decide) (by decide) ?_
    show Steps p.tables e below (T2.setTop (mkF m 10 #[.val (.ref o1)] [])) _
    refine XS.iconst X2.here hx rfl (hb hby d2_10) ?_
    show Steps p.tables e below (T2.setTop (mkF m 11 #[.val (.ref o1)] [(.int (1 : Int32))])) _
    refine XS.goto X2.here hx rfl (pc0 := 11) (pc' := 15) rfl (hb hby d2_11) (by decide) (by decide) ?_
    show Steps p.tables e below (T2.setTop (mkF m 15 #[.val (.ref o1)] [(.int (1 : Int32))])) _
    exact retN X2 hx (t := .boolean) hret (by simp) (hb hby d2_15) hr
  ·
    show Q11 Z w1 w2 w3 o1 h0 n0 _ T2.heap _
    rw [e2]
    exact ⟨rfl, N0, rfl⟩
theorem ef12 (m : MethodId) (x0 : Addr) : entryFrame m #[(.ref x0)] 1 = mkF m 0 #[.val (.ref x0)] [] := by first | (simp [entryFrame, mkF, argsToLocals, Value.category]; done) | rfl
def Q12 (Z : State) (w1 : Addr) (w2 : Addr) (w3 : Addr) (o1 : Addr) (h0 : Heap) (n0 : Nat) (v : Option Value) (h : Heap) (L : List Loc) : Prop :=
  (v = some (.int (0 : Int32)) ∧ Fr n0 L ∧ h = h0)
set_option maxRecDepth 65536 in
set_option maxHeartbeats 40000000 in
theorem rm12 (l : Launch) (Z : State) (a0 : Array Value) (hw : ∀ d ∈ tables_1, d.before a0 Z = true) (w1 : Addr) (w2 : Addr) (w3 : Addr) (G : GW Z w1 w2 w3) (ws : List Jvm.Cond) (o1 : Addr) (h0 : Heap) (n0 : Nat) (O0 : Old Z n0 h0) (g_o1 : n0 ≤ o1) (P1 : Fld Z h0 o1 "com/example/vorgang/vorgang/QueryTimeoutScope" "kept" "Lcom/example/vorgang/vorgang/QueryTimeoutScope$Kept;" (.ref w2)) :
    MetFree l (⟨"com/example/vorgang/vorgang/QueryTimeoutScope", "isStatement", "()Z"⟩ : MethodName) (head1 (Jvm.Cond.code (⟨"com/example/vorgang/vorgang/QueryTimeoutScope", "isStatement", "()Z"⟩ : MethodName) prog_14_method_3_code 1 (some .boolean) :: ws) ({ frames := 0, cells := 0, slots := 0, locals := 0 } : Room)) (fun a U => a = #[(.ref o1)] ∧ Z.Warmed39 U.vm ∧ U.heap = h0) (fun _ _ _ _ _ => True) (fun _ U o U' => ∃ v L, o = .returned v ∧ Q12 Z w1 w2 w3 o1 h0 n0 v U'.heap L ∧ FrameEnd U o U' L ({ frames := 0, cells := 0, slots := 0, locals := 0 } : Room).cells ({ frames := 0, cells := 0, slots := 0, locals := 0 } : Room).slots) := by
  obtain ⟨S_w1, E_w1, S_w2, E_w2, S_w3, E_w3, F_w1_ordinal, F_w2_ordinal, F_w3_ordinal⟩ := id G
  refine MetFree.of_bodySF (plainFor_of_name pn0) hisR ?_
  intro p e s m args below meth c s₁ Bd hml0 hP hK
  obtain ⟨rfl, hZ, hh⟩ := hP
  have hx := Bd.exec
  have hby := Bd.bytes
  have hml : c.maxLocals = 1 := hml0
  have hown : s.vm.findClass "com/example/vorgang/vorgang/QueryTimeoutScope" = some m.cls := findClass_of_methodNamed Bd.named
  have hnm := (name_of_methodNamed Bd.named Bd.method).1
  have hret := Bd.returns
  have hlk : meth.locks = false := BodyLoose.notSynchronized Bd
  have X0 : Stand p l e ({ frames := 0, cells := 0, slots := 0, locals := 0 } : Room) s m #[(.ref o1)] below meth c s₁ [] 0 0 := Stand.of_body Bd
  have e0 : s₁.heap = h0 := by rw [← hh, Bd.state]; rfl
  have N0 := Fr.nil n0
  have pre0 : ∀ t, Steps p.tables e below (s₁.setTop (mkF m 0 #[.val (.ref o1)] [])) t → Steps p.tables e below (s₁.setTop (entryFrame m #[(.ref o1)] 1)) t := fun t k => castTop (ef12 m o1) k
  obtain ⟨T1, X1, e1, st1⟩ := getF X0 hx hZ hown (host := "") (Or.inl (hw _ (List.mem_of_getElem? (i := 12) rfl))) Via.refl e0 P1 (g := (mkF m 1 #[.val (.ref o1)] [(.ref o1)])) rfl rfl (hb hby d3_1)
  obtain ⟨T2, X2, e2, st2⟩ := getS2 X1 hx hZ hown (host := "") (Or.inl (hw _ (List.mem_of_getElem? (i := 31) rfl))) Via.refl e1 (S_w3.ext O0.2) (g := (mkF m 4 #[.val (.ref o1)] [(.ref w2)])) rfl (hb hby d3_4)
  obtain ⟨fs, hr, hrun, hended, hW, hsame⟩ := X2.leave (v := some (.int (0 : Int32))) (fun h => by rw [hret] at h; cases h)
  refine ⟨_, _, pre0 _ ?_, hrun, hended, _, _, rfl, ?_, ⟨_, rfl⟩, hW, hsame.mono (by decide) (by decide)⟩
  ·
    show Steps p.tables e below (s₁.setTop (mkF m 0 #[.val (.ref o1)] [])) _
    refine XS.aloadN X0.here hx rfl (hb hby d3_0) rfl rfl ?_
    show Steps p.tables e below (s₁.setTop (mkF m 1 #[.val (.ref o1)] [(.ref o1)])) _
    refine st1 _ ?_
    show Steps p.tables e below (T1.setTop (mkF m 4 #[.val (.ref o1)] [(.ref w2)])) _
    refine st2 _ ?_
    show Steps p.tables e below (T2.setTop (mkF m 7 #[.val (.ref o1)] [(.ref w3), (.ref w2)])) _
    refine Jvm.RoadKit.acmp (g := (mkF m 7 #[.val (.ref o1)] [(.ref w3), (.ref w2)])) X2 hx rfl rfl rfl (pc0 := 7) (pc' := 14) (same := false) rfl (hb hby d3_7) rfl (decide_eq_false fun q => (Fld.ne F_w2_ordinal F_w3_ordinal (by decide)) (Value.ref.inj q)) (by decide) (by decide) ?_
    show Steps p.tables e below (T2.setTop (mkF m 14 #[.val (.ref o1)] [])) _
    refine XS.iconst X2.here hx rfl (hb hby d3_14) ?_
    show Steps p.tables e below (T2.setTop (mkF m 15 #[.val (.ref o1)] [(.int (0 : Int32))])) _
    exact retN X2 hx (t := .boolean) hret (by simp) (hb hby d3_15) hr
  ·
    show Q12 Z w1 w2 w3 o1 h0 n0 _ T2.heap _
    rw [e2]
    exact ⟨rfl, N0, rfl⟩
theorem ef13 (m : MethodId) (x0 : Addr) (x1 : Int32) : entryFrame m #[(.ref x0), (.int x1)] 2 = mkF m 0 #[.val (.ref x0), .val (.int x1)] [] := by first | (simp [entryFrame, mkF, argsToLocals, Value.category]; done) | rfl
def Q13 (Z : State) (w1 : Addr) (w2 : Addr) (w3 : Addr) (o1 : Addr) (p2 : Int32) (h0 : Heap) (n0 : Nat) (v : Option Value) (h : Heap) (L : List Loc) : Prop :=
  ((p2 = (0 : Int32)) ∧ v = none ∧ Fr n0 L ∧ Keep h0 h [o1] ∧ (Exa Z h o1 "com/example/vorgang/vorgang/QueryTimeoutScope") ∧ (Fld Z h o1 "com/example/vorgang/vorgang/QueryTimeoutScope" "kept" "Lcom/example/vorgang/vorgang/QueryTimeoutScope$Kept;" (.ref w3)))
  ∨ ((¬ (p2 = (0 : Int32))) ∧ v = none ∧ Fr n0 L ∧ Keep h0 h [o1] ∧ (Exa Z h o1 "com/example/vorgang/vorgang/QueryTimeoutScope") ∧ (Fld Z h o1 "com/example/vorgang/vorgang/QueryTimeoutScope" "kept" "Lcom/example/vorgang/vorgang/QueryTimeoutScope$Kept;" (.ref w2)))
set_option maxRecDepth 65536 in
set_option maxHeartbeats 40000000 in
theorem rm13 (l : Launch) (Z : State) (a0 : Array Value) (hw : ∀ d ∈ tables_1, d.before a0 Z = true) (w1 : Addr) (w2 : Addr) (w3 : Addr) (G : GW Z w1 w2 w3) (ws : List Jvm.Cond) (o1 : Addr) (p2 : Int32) (h0 : Heap) (n0 : Nat) (O0 : Old Z n0 h0) (g_o1 : n0 ≤ o1) (P0 : Exa Z h0 o1 "com/example/vorgang/vorgang/QueryTimeoutScope") (P1 : Fld Z h0 o1 "com/example/vorgang/vorgang/QueryTimeoutScope" "kept" "Lcom/example/vorgang/vorgang/QueryTimeoutScope$Kept;" (.ref w2)) :
    MetFree l (⟨"com/example/vorgang/vorgang/QueryTimeoutScope", "found", "(Z)V"⟩ : MethodName) (head1 (Jvm.Cond.code (⟨"com/example/vorgang/vorgang/QueryTimeoutScope", "found", "(Z)V"⟩ : MethodName) prog_14_method_5_code 2 none :: ws) ({ frames := 0, cells := 0, slots := 0, locals := 0 } : Room)) (fun a U => a = #[(.ref o1), (.int p2)] ∧ Z.Warmed39 U.vm ∧ U.heap = h0) (fun _ _ _ _ _ => True) (fun _ U o U' => ∃ v L, o = .returned v ∧ Q13 Z w1 w2 w3 o1 p2 h0 n0 v U'.heap L ∧ FrameEnd U o U' L ({ frames := 0, cells := 0, slots := 0, locals := 0 } : Room).cells ({ frames := 0, cells := 0, slots := 0, locals := 0 } : Room).slots) := by
  obtain ⟨S_w1, E_w1, S_w2, E_w2, S_w3, E_w3, F_w1_ordinal, F_w2_ordinal, F_w3_ordinal⟩ := id G
  refine MetFree.of_bodySF (plainFor_of_name pn0) hisR ?_
  intro p e s m args below meth c s₁ Bd hml0 hP hK
  obtain ⟨rfl, hZ, hh⟩ := hP
  have hx := Bd.exec
  have hby := Bd.bytes
  have hml : c.maxLocals = 2 := hml0
  have hown : s.vm.findClass "com/example/vorgang/vorgang/QueryTimeoutScope" = some m.cls := findClass_of_methodNamed Bd.named
  have hnm := (name_of_methodNamed Bd.named Bd.method).1
  have hret := Bd.returns
  have hlk : meth.locks = false := BodyLoose.notSynchronized Bd
  have X0 : Stand p l e ({ frames := 0, cells := 0, slots := 0, locals := 0 } : Room) s m #[(.ref o1), (.int p2)] below meth c s₁ [] 0 0 := Stand.of_body Bd
  have e0 : s₁.heap = h0 := by rw [← hh, Bd.state]; rfl
  have N0 := Fr.nil n0
  have pre0 : ∀ t, Steps p.tables e below (s₁.setTop (mkF m 0 #[.val (.ref o1), .val (.int p2)] [])) t → Steps p.tables e below (s₁.setTop (entryFrame m #[(.ref o1), (.int p2)] 2)) t := fun t k => castTop (ef13 m o1 p2) k
  have pre1 : ∀ t, Steps p.tables e below (s₁.setTop (mkF m 2 #[.val (.ref o1), .val (.int p2)] [(.int p2), (.ref o1)])) t → Steps p.tables e below (s₁.setTop (entryFrame m #[(.ref o1), (.int p2)] 2)) t := fun t k => by
    refine pre0 _ ?_
    show Steps p.tables e below (s₁.setTop (mkF m 0 #[.val (.ref o1), .val (.int p2)] [])) _
    refine XS.aloadN X0.here hx rfl (hb hby d4_0) rfl rfl ?_
    show Steps p.tables e below (s₁.setTop (mkF m 1 #[.val (.ref o1), .val (.int p2)] [(.ref o1)])) _
    refine XS.iloadN X0.here hx rfl (hb hby d4_1) rfl ?_
    exact k
  by_cases hc2 : p2 = (0 : Int32)
  ·
    have pre3 : ∀ t, Steps p.tables e below (s₁.setTop (mkF m 2 #[.val (.ref o1), .val (.int (0 : Int32))] [(.int (0 : Int32)), (.ref o1)])) t → Steps p.tables e below (s₁.setTop (entryFrame m #[(.ref o1), (.int p2)] 2)) t := fun t k => pre1 t (by rw [hc2]; exact k)
    obtain ⟨T4, X4, e4, st4⟩ := getS2 X0 hx hZ hown (host := "") (Or.inl (hw _ (List.mem_of_getElem? (i := 31) rfl))) Via.refl e0 (S_w3.ext O0.2) (g := (mkF m 11 #[.val (.ref o1), .val (.int (0 : Int32))] [(.ref o1)])) rfl (hb hby d4_11)
    obtain ⟨T5, h5, X5, e5, W5, st5⟩ := putF X4 hx hZ hown (host := "") (Or.inl (hw _ (List.mem_of_getElem? (i := 12) rfl))) Via.refl e4 P1 P0 (Or.inl (hw _ (List.mem_of_getElem? (i := 13) rfl))) (hw _ (List.mem_of_getElem? (i := 1) rfl)) (ty := (.object "com/example/vorgang/vorgang/QueryTimeoutScope$Kept")) (by decide) rfl rfl (g := (mkF m 14 #[.val (.ref o1), .val (.int (0 : Int32))] [(.ref w3), (.ref o1)])) rfl rfl (hb hby d4_14)
    have N5 := Fr.snoc X5 N0 g_o1
    have Fw5 := P1.same W5
    have M5 : h0.size ≤ h5.size := Nat.le_trans (Nat.le_refl _) (Nat.le_of_eq W5.size.symm)
    have O5 := Old.wr O0 W5 g_o1
    obtain ⟨fs, hr, hrun, hended, hW, hsame⟩ := X5.leave (v := none) (fun _ => rfl)
    have KL : Keep h0 h5 [o1] := ((Keep.refl h0 [o1]).wr W5 (Or.inl (List.mem_of_getElem? (i := 0) rfl)))
    have f6 := (P0.wr W5)
    refine ⟨_, _, pre3 _ ?_, hrun, hended, _, _, rfl, ?_, ⟨_, rfl⟩, hW, hsame.mono (by decide) (by decide)⟩
    ·
      show Steps p.tables e below (s₁.setTop (mkF m 2 #[.val (.ref o1), .val (.int (0 : Int32))] [(.int (0 : Int32)), (.ref o1)])) _
      refine XS.ifYes X0.here hx rfl (pc0 := 2) (pc' := 11) rfl (hb hby d4_2) rfl ((if0 _ _).trans (teq (by decide : (0 : Int32) = (0 : Int32))).1) (by decide) (by decide) ?_
      show Steps p.tables e below (s₁.setTop (mkF m 11 #[.val (.ref o1), .val (.int (0 : Int32))] [(.ref o1)])) _
      refine st4 _ ?_
      show Steps p.tables e below (T4.setTop (mkF m 14 #[.val (.ref o1), .val (.int (0 : Int32))] [(.ref w3), (.ref o1)])) _
      refine st5 _ ?_
      show Steps p.tables e below (T5.setTop (mkF m 17 #[.val (.ref o1), .val (.int (0 : Int32))] [])) _
      exact X5.returnOut hx hret (hb hby d4_17) hr
    ·
      show Q13 Z w1 w2 w3 o1 p2 h0 n0 _ T5.heap _
      rw [e5]
      exact (Or.inl ⟨hc2, rfl, N5, KL, f6, Fw5⟩)
  ·
    obtain ⟨T7, X7, e7, st7⟩ := getS2 X0 hx hZ hown (host := "") (Or.inl (hw _ (List.mem_of_getElem? (i := 24) rfl))) Via.refl e0 (S_w2.ext O0.2) (g := (mkF m 5 #[.val (.ref o1), .val (.int p2)] [(.ref o1)])) rfl (hb hby d4_5)
    obtain ⟨T8, h8, X8, e8, W8, st8⟩ := putF X7 hx hZ hown (host := "") (Or.inl (hw _ (List.mem_of_getElem? (i := 12) rfl))) Via.refl e7 P1 P0 (Or.inl (hw _ (List.mem_of_getElem? (i := 13) rfl))) (hw _ (List.mem_of_getElem? (i := 1) rfl)) (ty := (.object "com/example/vorgang/vorgang/QueryTimeoutScope$Kept")) (by decide) rfl rfl (g := (mkF m 14 #[.val (.ref o1), .val (.int p2)] [(.ref w2), (.ref o1)])) rfl rfl (hb hby d4_14)
    have N8 := Fr.snoc X8 N0 g_o1
    have Fw8 := P1.same W8
    have M8 : h0.size ≤ h8.size := Nat.le_trans (Nat.le_refl _) (Nat.le_of_eq W8.size.symm)
    have O8 := Old.wr O0 W8 g_o1
    obtain ⟨fs, hr, hrun, hended, hW, hsame⟩ := X8.leave (v := none) (fun _ => rfl)
    have KL : Keep h0 h8 [o1] := ((Keep.refl h0 [o1]).wr W8 (Or.inl (List.mem_of_getElem? (i := 0) rfl)))
    have f9 := (P0.wr W8)
    refine ⟨_, _, pre1 _ ?_, hrun, hended, _, _, rfl, ?_, ⟨_, rfl⟩, hW, hsame.mono (by decide) (by decide)⟩
    ·
      show Steps p.tables e below (s₁.setTop (mkF m 2 #[.val (.ref o1), .val (.int p2)] [(.int p2), (.ref o1)])) _
      refine XS.ifNo X0.here hx rfl (hb hby d4_2) rfl ((if0 _ _).trans (feq hc2).1) ?_
      show Steps p.tables e below (s₁.setTop (mkF m 5 #[.val (.ref o1), .val (.int p2)] [(.ref o1)])) _
      refine st7 _ ?_
      show Steps p.tables e below (T7.setTop (mkF m 8 #[.val (.ref o1), .val (.int p2)] [(.ref w2), (.ref o1)])) _
      refine XS.goto X7.here hx rfl (pc0 := 8) (pc' := 14) rfl (hb hby d4_8) (by decide) (by decide) ?_
      show Steps p.tables e below (T7.setTop (mkF m 14 #[.val (.ref o1), .val (.int p2)] [(.ref w2), (.ref o1)])) _
      refine st8 _ ?_
      show Steps p.tables e below (T8.setTop (mkF m 17 #[.val (.ref o1), .val (.int p2)] [])) _
      exact X8.returnOut hx hret (hb hby d4_17) hr
    ·
      show Q13 Z w1 w2 w3 o1 p2 h0 n0 _ T8.heap _
      rw [e8]
      exact (Or.inr ⟨hc2, rfl, N8, KL, f9, Fw8⟩)
theorem pn1 : plainName "com/example/vorgang/vorgang/QueryTimeoutScopeIsKnownPinLaw" = true := by first | (simp [plainName, overriddenIn]; done) | decide +kernel
theorem ef0 (m : MethodId) (x0 : Int32) (x1 : Int32) : entryFrame m #[(.int x0), (.int x1)] maxLocals = mkF m 0 #[.val (.int x0), .val (.int x1), .unset, .unset, .unset, .unset, .unset, .unset, .unset, .unset, .unset, .unset] [] := by first | (simp [entryFrame, mkF, argsToLocals, Value.category, maxLocals]; done) | rfl
set_option maxRecDepth 65536 in
set_option maxHeartbeats 40000000 in
theorem rm0 (l : Launch) (Z : State) (a0 : Array Value) (hw : ∀ d ∈ tables_1, d.before a0 Z = true) (w1 : Addr) (w2 : Addr) (w3 : Addr) (G : GW Z w1 w2 w3) (ws : List Jvm.Cond) (p1 : Int32) (p2 : Int32) (h0 : Heap) (n0 : Nat) (O0 : Old Z n0 h0) :
    MetFree l x (head1 (Jvm.Cond.code x code maxLocals ret :: ws) room_1) (fun a U => a = #[(.int p1), (.int p2)] ∧ Z.Warmed39 U.vm ∧ U.heap = h0) (fun _ _ _ _ _ => True) (fun _ U o U' => ∃ v L, o = .returned v ∧ Q0 n0 v U'.heap L ∧ FrameEnd U o U' L 16 128) := by
  obtain ⟨S_w1, E_w1, S_w2, E_w2, S_w3, E_w3, F_w1_ordinal, F_w2_ordinal, F_w3_ordinal⟩ := id G
  refine MetFree.of_bodySF (plainFor_of_name pn1) hisR ?_
  intro p e s m args below meth c s₁ Bd hml0 hP hK
  obtain ⟨rfl, hZ, hh⟩ := hP
  have hx := Bd.exec
  have hby := Bd.bytes
  have hml : c.maxLocals = 12 := hml0
  have hown : s.vm.findClass "com/example/vorgang/vorgang/QueryTimeoutScopeIsKnownPinLaw" = some m.cls := findClass_of_methodNamed Bd.named
  have hnm := (name_of_methodNamed Bd.named Bd.method).1
  have hret := Bd.returns
  have hlk : meth.locks = false := BodyLoose.notSynchronized Bd
  have X0 : Stand p l e room_1 s m #[(.int p1), (.int p2)] below meth c s₁ [] 0 0 := Stand.of_body Bd
  have e0 : s₁.heap = h0 := by rw [← hh, Bd.state]; rfl
  have N0 := Fr.nil n0
  have pre0 : ∀ t, Steps p.tables e below (s₁.setTop (mkF m 0 #[.val (.int p1), .val (.int p2), .unset, .unset, .unset, .unset, .unset, .unset, .unset, .unset, .unset, .unset] [])) t → Steps p.tables e below (s₁.setTop (entryFrame m #[(.int p1), (.int p2)] maxLocals)) t := fun t k => castTop (ef0 m p1 p2) k
  obtain ⟨T1, h1, X1, e1, E1, A1, D1, -, st1⟩ := newO X0 hx hZ hown (hw _ (List.mem_of_getElem? (i := 0) rfl)) (hw _ (List.mem_of_getElem? (i := 1) rfl)) (hw _ (List.mem_of_getElem? (i := 2) rfl)) e0 (g := (mkF m 0 #[.val (.int p1), .val (.int p2), .unset, .unset, .unset, .unset, .unset, .unset, .unset, .unset, .unset, .unset] [])) rfl (hb hby at_0) (by decide) (by decide)
  obtain ⟨b1, g1⟩ : ∃ z, z = h0.size := ⟨_, rfl⟩
  rw [← g1] at A1 D1 st1
  have M1 : h0.size ≤ h1.size := Nat.le_trans (Nat.le_refl _) E1.1
  have O1 := Old.ext O0 E1
  have sz_b1 : h0.size ≤ b1 := Nat.le_of_eq g1.symm
  have g_b1 : n0 ≤ b1 := Nat.le_trans (own_oz O0) (Nat.le_trans (Nat.le_refl _) sz_b1)
  have F1_13 : Fld Z h1 b1 "com/example/vorgang/vorgang/QueryTimeoutScope" "kept" "Lcom/example/vorgang/vorgang/QueryTimeoutScope$Kept;" .null := D1 (Or.inl (hw _ (List.mem_of_getElem? (i := 13) rfl))) (ty := (.object "com/example/vorgang/vorgang/QueryTimeoutScope$Kept")) (by decide)
  obtain ⟨_, _, ⟨T2, L2, c2, n2⟩, -, X2, ⟨Lc2, hQ2, l2, y2, z2⟩, st2⟩ := X1.specialBack hx (y := (⟨"com/example/vorgang/vorgang/QueryTimeoutScope", "<init>", "()V"⟩ : MethodName)) rfl hown (mvT hZ (hw _ (List.mem_of_getElem? (i := 3) rfl))) (mvT hZ (hw _ (List.mem_of_getElem? (i := 4) rfl))) (mvT hZ (hw _ (List.mem_of_getElem? (i := 5) rfl))) (by decide) (backOf (W := 1) (rm1 l Z a0 hw w1 w2 w3 G [] b1 h1 n0 O1 g_b1 A1 F1_13) hZ (hw _ (List.mem_of_getElem? (i := 5) rfl)) (hw _ (List.mem_of_getElem? (i := 2) rfl)) (by decide) (by decide)) (g := (mkF m 4 #[.val (.int p1), .val (.int p2), .unset, .unset, .unset, .unset, .unset, .unset, .unset, .unset, .unset, .unset] [(.ref b1), (.ref b1)])) rfl (by rw [hml]; rfl) (Steps.refl _) (a := b1) (argsL := []) (rest := [(.ref b1)]) (lenOf pd0 rfl) rfl (by show 2 * 0 + _ ≤ _; exact Nat.le_of_eq rfl) (hb hby at_4) (fun _ _ => ⟨rfl, e1, (by decide : 1 + 0 ≤ _), (by decide : 1 + 0 ≤ _)⟩)
  dsimp only [Pt.U, Pt.locs, Pt.cells, Pt.slots] at X2 l2 y2 z2 st2 hQ2
  subst l2 y2 z2
  have X2 : Stand p l e room_1 s m #[(.int p1), (.int p2)] below meth c T2 _ 1 1 := X2
  obtain ⟨rfl, Nq3, K4, f5, f6⟩ := hQ2
  have N2 := Fr.app N0 Nq3
  have M2 : h0.size ≤ T2.heap.size := Nat.le_trans M1 K4.1
  have O2 := Old.keep O1 K4 (allS g_b1 all0)
  obtain ⟨cq7, kq7, q7a, q7b, q7c⟩ := isOf hZ rfl f5
  obtain ⟨_, _, ⟨T8, L8, c8, n8⟩, -, X8, ⟨Lc8, hQ8, l8, y8, z8⟩, st8⟩ := X2.virtualBack hx (y := (⟨"com/example/vorgang/vorgang/QueryTimeoutScope", "isKnown", "()Z"⟩ : MethodName)) (z := (⟨"com/example/vorgang/vorgang/QueryTimeoutScope", "isKnown", "()Z"⟩ : MethodName)) hown (mvT hZ (hw _ (List.mem_of_getElem? (i := 14) rfl))) (mvT hZ (hw _ (List.mem_of_getElem? (i := 15) rfl))) (notFace_of_selects (args := #[]) (mvT hZ (hw _ (List.mem_of_getElem? (i := 17) rfl)))) (mvT hZ (hw _ (List.mem_of_getElem? (i := 17) rfl))) (mvT hZ (hw _ (List.mem_of_getElem? (i := 16) rfl))) (by decide) (backOf (W := 0) (rm2 l Z a0 hw w1 w2 w3 G [] b1 T2.heap n0 O2 g_b1 f6) hZ (hw _ (List.mem_of_getElem? (i := 18) rfl)) (hw _ (List.mem_of_getElem? (i := 2) rfl)) (by decide) (by decide)) q7a q7c (g := (mkF m 9 #[.val (.int p1), .val (.int p2), .val (.ref b1), .unset, .unset, .unset, .unset, .unset, .unset, .unset, .unset, .unset] [(.ref b1)])) rfl (by rw [hml]; rfl) (Steps.refl _) (argsL := []) (rest := []) (lenOf pd1 rfl) rfl (by show 2 * 0 + _ ≤ _; exact Nat.le_of_eq rfl) (hb hby at_9) (fun _ _ => ⟨rfl, rfl, (by decide : 1 + 0 ≤ _), (by decide : 1 + 0 ≤ _)⟩)
  dsimp only [Pt.U, Pt.locs, Pt.cells, Pt.slots] at X8 l8 y8 z8 st8 hQ8
  subst l8 y8 z8
  have X8 : Stand p l e room_1 s m #[(.int p1), (.int p2)] below meth c T8 _ 1 1 := X8
  obtain ⟨rfl, Nq9, e10⟩ := hQ8
  have N8 := Fr.app N2 Nq9
  have pre11 : ∀ t, Steps p.tables e below (T8.setTop (mkF m 21 #[.val (.int p1), .val (.int p2), .val (.ref b1), .val (.int (0 : Int32)), .val (.int (p1 &&& (3 : Int32))), .unset, .unset, .unset, .unset, .unset, .unset, .unset] [(.int (p2 &&& (1 : Int32)))])) t → Steps p.tables e below (s₁.setTop (entryFrame m #[(.int p1), (.int p2)] maxLocals)) t := fun t k => by
    refine pre0 _ ?_
    show Steps p.tables e below (s₁.setTop (mkF m 0 #[.val (.int p1), .val (.int p2), .unset, .unset, .unset, .unset, .unset, .unset, .unset, .unset, .unset, .unset] [])) _
    refine st1 _ ?_
    show Steps p.tables e below (T1.setTop (mkF m 3 #[.val (.int p1), .val (.int p2), .unset, .unset, .unset, .unset, .unset, .unset, .unset, .unset, .unset, .unset] [(.ref b1)])) _
    refine XS.dup X1.here hx rfl (hb hby at_3) rfl rfl ?_
    show Steps p.tables e below (T1.setTop (mkF m 4 #[.val (.int p1), .val (.int p2), .unset, .unset, .unset, .unset, .unset, .unset, .unset, .unset, .unset, .unset] [(.ref b1), (.ref b1)])) _
    refine st2.trans ?_
    show Steps p.tables e below (T2.setTop (mkF m 7 #[.val (.int p1), .val (.int p2), .unset, .unset, .unset, .unset, .unset, .unset, .unset, .unset, .unset, .unset] [(.ref b1)])) _
    refine XS.astoreN X2.here hx rfl (hb hby at_7) rfl rfl (l' := #[.val (.int p1), .val (.int p2), .val (.ref b1), .unset, .unset, .unset, .unset, .unset, .unset, .unset, .unset, .unset]) rfl ?_
    show Steps p.tables e below (T2.setTop (mkF m 8 #[.val (.int p1), .val (.int p2), .val (.ref b1), .unset, .unset, .unset, .unset, .unset, .unset, .unset, .unset, .unset] [])) _
    refine XS.aloadN X2.here hx rfl (hb hby at_8) rfl rfl ?_
    show Steps p.tables e below (T2.setTop (mkF m 9 #[.val (.int p1), .val (.int p2), .val (.ref b1), .unset, .unset, .unset, .unset, .unset, .unset, .unset, .unset, .unset] [(.ref b1)])) _
    refine st8.trans ?_
    show Steps p.tables e below (T8.setTop (mkF m 12 #[.val (.int p1), .val (.int p2), .val (.ref b1), .unset, .unset, .unset, .unset, .unset, .unset, .unset, .unset, .unset] [(.int (0 : Int32))])) _
    refine XS.istoreN X8.here hx rfl (hb hby at_12) rfl (l' := #[.val (.int p1), .val (.int p2), .val (.ref b1), .val (.int (0 : Int32)), .unset, .unset, .unset, .unset, .unset, .unset, .unset, .unset]) rfl ?_
    show Steps p.tables e below (T8.setTop (mkF m 13 #[.val (.int p1), .val (.int p2), .val (.ref b1), .val (.int (0 : Int32)), .unset, .unset, .unset, .unset, .unset, .unset, .unset, .unset] [])) _
    refine XS.iloadN X8.here hx rfl (hb hby at_13) rfl ?_
    show Steps p.tables e below (T8.setTop (mkF m 14 #[.val (.int p1), .val (.int p2), .val (.ref b1), .val (.int (0 : Int32)), .unset, .unset, .unset, .unset, .unset, .unset, .unset, .unset] [(.int p1)])) _
    refine XS.iconst X8.here hx rfl (hb hby at_14) ?_
    show Steps p.tables e below (T8.setTop (mkF m 15 #[.val (.int p1), .val (.int p2), .val (.ref b1), .val (.int (0 : Int32)), .unset, .unset, .unset, .unset, .unset, .unset, .unset, .unset] [(.int (3 : Int32)), (.int p1)])) _
    refine XS.iand X8.here hx rfl (hb hby at_15) rfl ?_
    show Steps p.tables e below (T8.setTop (mkF m 16 #[.val (.int p1), .val (.int p2), .val (.ref b1), .val (.int (0 : Int32)), .unset, .unset, .unset, .unset, .unset, .unset, .unset, .unset] [(.int (p1 &&& (3 : Int32)))])) _
    refine XS.istore X8.here hx rfl (hb hby at_16) rfl (l' := #[.val (.int p1), .val (.int p2), .val (.ref b1), .val (.int (0 : Int32)), .val (.int (p1 &&& (3 : Int32))), .unset, .unset, .unset, .unset, .unset, .unset, .unset]) rfl ?_
    show Steps p.tables e below (T8.setTop (mkF m 18 #[.val (.int p1), .val (.int p2), .val (.ref b1), .val (.int (0 : Int32)), .val (.int (p1 &&& (3 : Int32))), .unset, .unset, .unset, .unset, .unset, .unset, .unset] [])) _
    refine XS.iloadN X8.here hx rfl (hb hby at_18) rfl ?_
    show Steps p.tables e below (T8.setTop (mkF m 19 #[.val (.int p1), .val (.int p2), .val (.ref b1), .val (.int (0 : Int32)), .val (.int (p1 &&& (3 : Int32))), .unset, .unset, .unset, .unset, .unset, .unset, .unset] [(.int p2)])) _
    refine XS.iconst X8.here hx rfl (hb hby at_19) ?_
    show Steps p.tables e below (T8.setTop (mkF m 20 #[.val (.int p1), .val (.int p2), .val (.ref b1), .val (.int (0 : Int32)), .val (.int (p1 &&& (3 : Int32))), .unset, .unset, .unset, .unset, .unset, .unset, .unset] [(.int (1 : Int32)), (.int p2)])) _
    refine XS.iand X8.here hx rfl (hb hby at_20) rfl ?_
    exact k
  obtain ⟨z12, hz12⟩ : ∃ z : Int32, z = if (p2 &&& (1 : Int32)) = (0 : Int32) then (0 : Int32) else (1 : Int32) := ⟨_, rfl⟩
  have bz12 : 0 ≤ z12.toInt ∧ z12.toInt ≤ 1 := by rw [hz12]; split <;> decide
  have nz12 : nar .boolean z12 = z12 := by rw [hz12]; split <;> decide
  have pre12 : ∀ t, Steps p.tables e below (T8.setTop (mkF m 29 #[.val (.int p1), .val (.int p2), .val (.ref b1), .val (.int (0 : Int32)), .val (.int (p1 &&& (3 : Int32))), .unset, .unset, .unset, .unset, .unset, .unset, .unset] [(.int z12)])) t → Steps p.tables e below (s₁.setTop (entryFrame m #[(.int p1), (.int p2)] maxLocals)) t := fun t k => by
    by_cases hc12 : (p2 &&& (1 : Int32)) = (0 : Int32)
    ·
      rw [hz12, if_pos hc12] at k
      refine pre11 _ ?_
      show Steps p.tables e below (T8.setTop (mkF m 21 #[.val (.int p1), .val (.int p2), .val (.ref b1), .val (.int (0 : Int32)), .val (.int (p1 &&& (3 : Int32))), .unset, .unset, .unset, .unset, .unset, .unset, .unset] [(.int (p2 &&& (1 : Int32)))])) _
      refine XS.ifYes X8.here hx rfl (pc0 := 21) (pc' := 28) rfl (hb hby at_21) rfl ((if0 _ _).trans (teq hc12).1) (by decide) (by decide) ?_
      show Steps p.tables e below (T8.setTop (mkF m 28 #[.val (.int p1), .val (.int p2), .val (.ref b1), .val (.int (0 : Int32)), .val (.int (p1 &&& (3 : Int32))), .unset, .unset, .unset, .unset, .unset, .unset, .unset] [])) _
      refine XS.iconst X8.here hx rfl (hb hby at_28) ?_
      exact k
    ·
      rw [hz12, if_neg hc12] at k
      refine pre11 _ ?_
      show Steps p.tables e below (T8.setTop (mkF m 21 #[.val (.int p1), .val (.int p2), .val (.ref b1), .val (.int (0 : Int32)), .val (.int (p1 &&& (3 : Int32))), .unset, .unset, .unset, .unset, .unset, .unset, .unset] [(.int (p2 &&& (1 : Int32)))])) _
      refine XS.ifNo X8.here hx rfl (hb hby at_21) rfl ((if0 _ _).trans (feq hc12).1) ?_
      show Steps p.tables e below (T8.setTop (mkF m 24 #[.val (.int p1), .val (.int p2), .val (.ref b1), .val (.int (0 : Int32)), .val (.int (p1 &&& (3 : Int32))), .unset, .unset, .unset, .unset, .unset, .unset, .unset] [])) _
      refine XS.iconst X8.here hx rfl (hb hby at_24) ?_
      show Steps p.tables e below (T8.setTop (mkF m 25 #[.val (.int p1), .val (.int p2), .val (.ref b1), .val (.int (0 : Int32)), .val (.int (p1 &&& (3 : Int32))), .unset, .unset, .unset, .unset, .unset, .unset, .unset] [(.int (1 : Int32))])) _
      refine XS.goto X8.here hx rfl (pc0 := 25) (pc' := 29) rfl (hb hby at_25) (by decide) (by decide) ?_
      exact k
  have pre13 : ∀ t, Steps p.tables e below (T8.setTop (mkF m 34 #[.val (.int p1), .val (.int p2), .val (.ref b1), .val (.int (0 : Int32)), .val (.int (p1 &&& (3 : Int32))), .val (.int z12), .unset, .unset, .unset, .unset, .unset, .unset] [(.int (p2 &&& (2 : Int32)))])) t → Steps p.tables e below (s₁.setTop (entryFrame m #[(.int p1), (.int p2)] maxLocals)) t := fun t k => by
    refine pre12 _ ?_
    show Steps p.tables e below (T8.setTop (mkF m 29 #[.val (.int p1), .val (.int p2), .val (.ref b1), .val (.int (0 : Int32)), .val (.int (p1 &&& (3 : Int32))), .unset, .unset, .unset, .unset, .unset, .unset, .unset] [(.int z12)])) _
    refine XS.istore X8.here hx rfl (hb hby at_29) rfl (l' := #[.val (.int p1), .val (.int p2), .val (.ref b1), .val (.int (0 : Int32)), .val (.int (p1 &&& (3 : Int32))), .val (.int z12), .unset, .unset, .unset, .unset, .unset, .unset]) rfl ?_
    show Steps p.tables e below (T8.setTop (mkF m 31 #[.val (.int p1), .val (.int p2), .val (.ref b1), .val (.int (0 : Int32)), .val (.int (p1 &&& (3 : Int32))), .val (.int z12), .unset, .unset, .unset, .unset, .unset, .unset] [])) _
    refine XS.iloadN X8.here hx rfl (hb hby at_31) rfl ?_
    show Steps p.tables e below (T8.setTop (mkF m 32 #[.val (.int p1), .val (.int p2), .val (.ref b1), .val (.int (0 : Int32)), .val (.int (p1 &&& (3 : Int32))), .val (.int z12), .unset, .unset, .unset, .unset, .unset, .unset] [(.int p2)])) _
    refine XS.iconst X8.here hx rfl (hb hby at_32) ?_
    show Steps p.tables e below (T8.setTop (mkF m 33 #[.val (.int p1), .val (.int p2), .val (.ref b1), .val (.int (0 : Int32)), .val (.int (p1 &&& (3 : Int32))), .val (.int z12), .unset, .unset, .unset, .unset, .unset, .unset] [(.int (2 : Int32)), (.int p2)])) _
    refine XS.iand X8.here hx rfl (hb hby at_33) rfl ?_
    exact k
  obtain ⟨z14, hz14⟩ : ∃ z : Int32, z = if (p2 &&& (2 : Int32)) = (0 : Int32) then (0 : Int32) else (1 : Int32) := ⟨_, rfl⟩
  have bz14 : 0 ≤ z14.toInt ∧ z14.toInt ≤ 1 := by rw [hz14]; split <;> decide
  have nz14 : nar .boolean z14 = z14 := by rw [hz14]; split <;> decide
  have pre14 : ∀ t, Steps p.tables e below (T8.setTop (mkF m 42 #[.val (.int p1), .val (.int p2), .val (.ref b1), .val (.int (0 : Int32)), .val (.int (p1 &&& (3 : Int32))), .val (.int z12), .unset, .unset, .unset, .unset, .unset, .unset] [(.int z14)])) t → Steps p.tables e below (s₁.setTop (entryFrame m #[(.int p1), (.int p2)] maxLocals)) t := fun t k => by
    by_cases hc14 : (p2 &&& (2 : Int32)) = (0 : Int32)
    ·
      rw [hz14, if_pos hc14] at k
      refine pre13 _ ?_
      show Steps p.tables e below (T8.setTop (mkF m 34 #[.val (.int p1), .val (.int p2), .val (.ref b1), .val (.int (0 : Int32)), .val (.int (p1 &&& (3 : Int32))), .val (.int z12), .unset, .unset, .unset, .unset, .unset, .unset] [(.int (p2 &&& (2 : Int32)))])) _
      refine XS.ifYes X8.here hx rfl (pc0 := 34) (pc' := 41) rfl (hb hby at_34) rfl ((if0 _ _).trans (teq hc14).1) (by decide) (by decide) ?_
      show Steps p.tables e below (T8.setTop (mkF m 41 #[.val (.int p1), .val (.int p2), .val (.ref b1), .val (.int (0 : Int32)), .val (.int (p1 &&& (3 : Int32))), .val (.int z12), .unset, .unset, .unset, .unset, .unset, .unset] [])) _
      refine XS.iconst X8.here hx rfl (hb hby at_41) ?_
      exact k
    ·
      rw [hz14, if_neg hc14] at k
      refine pre13 _ ?_
      show Steps p.tables e below (T8.setTop (mkF m 34 #[.val (.int p1), .val (.int p2), .val (.ref b1), .val (.int (0 : Int32)), .val (.int (p1 &&& (3 : Int32))), .val (.int z12), .unset, .unset, .unset, .unset, .unset, .unset] [(.int (p2 &&& (2 : Int32)))])) _
      refine XS.ifNo X8.here hx rfl (hb hby at_34) rfl ((if0 _ _).trans (feq hc14).1) ?_
      show Steps p.tables e below (T8.setTop (mkF m 37 #[.val (.int p1), .val (.int p2), .val (.ref b1), .val (.int (0 : Int32)), .val (.int (p1 &&& (3 : Int32))), .val (.int z12), .unset, .unset, .unset, .unset, .unset, .unset] [])) _
      refine XS.iconst X8.here hx rfl (hb hby at_37) ?_
      show Steps p.tables e below (T8.setTop (mkF m 38 #[.val (.int p1), .val (.int p2), .val (.ref b1), .val (.int (0 : Int32)), .val (.int (p1 &&& (3 : Int32))), .val (.int z12), .unset, .unset, .unset, .unset, .unset, .unset] [(.int (1 : Int32))])) _
      refine XS.goto X8.here hx rfl (pc0 := 38) (pc' := 42) rfl (hb hby at_38) (by decide) (by decide) ?_
      exact k
  have pre15 : ∀ t, Steps p.tables e below (T8.setTop (mkF m 47 #[.val (.int p1), .val (.int p2), .val (.ref b1), .val (.int (0 : Int32)), .val (.int (p1 &&& (3 : Int32))), .val (.int z12), .val (.int z14), .unset, .unset, .unset, .unset, .unset] [(.int (p2 &&& (4 : Int32)))])) t → Steps p.tables e below (s₁.setTop (entryFrame m #[(.int p1), (.int p2)] maxLocals)) t := fun t k => by
    refine pre14 _ ?_
    show Steps p.tables e below (T8.setTop (mkF m 42 #[.val (.int p1), .val (.int p2), .val (.ref b1), .val (.int (0 : Int32)), .val (.int (p1 &&& (3 : Int32))), .val (.int z12), .unset, .unset, .unset, .unset, .unset, .unset] [(.int z14)])) _
    refine XS.istore X8.here hx rfl (hb hby at_42) rfl (l' := #[.val (.int p1), .val (.int p2), .val (.ref b1), .val (.int (0 : Int32)), .val (.int (p1 &&& (3 : Int32))), .val (.int z12), .val (.int z14), .unset, .unset, .unset, .unset, .unset]) rfl ?_
    show Steps p.tables e below (T8.setTop (mkF m 44 #[.val (.int p1), .val (.int p2), .val (.ref b1), .val (.int (0 : Int32)), .val (.int (p1 &&& (3 : Int32))), .val (.int z12), .val (.int z14), .unset, .unset, .unset, .unset, .unset] [])) _
    refine XS.iloadN X8.here hx rfl (hb hby at_44) rfl ?_
    show Steps p.tables e below (T8.setTop (mkF m 45 #[.val (.int p1), .val (.int p2), .val (.ref b1), .val (.int (0 : Int32)), .val (.int (p1 &&& (3 : Int32))), .val (.int z12), .val (.int z14), .unset, .unset, .unset, .unset, .unset] [(.int p2)])) _
    refine XS.iconst X8.here hx rfl (hb hby at_45) ?_
    show Steps p.tables e below (T8.setTop (mkF m 46 #[.val (.int p1), .val (.int p2), .val (.ref b1), .val (.int (0 : Int32)), .val (.int (p1 &&& (3 : Int32))), .val (.int z12), .val (.int z14), .unset, .unset, .unset, .unset, .unset] [(.int (4 : Int32)), (.int p2)])) _
    refine XS.iand X8.here hx rfl (hb hby at_46) rfl ?_
    exact k
  obtain ⟨z16, hz16⟩ : ∃ z : Int32, z = if (p2 &&& (4 : Int32)) = (0 : Int32) then (0 : Int32) else (1 : Int32) := ⟨_, rfl⟩
  have bz16 : 0 ≤ z16.toInt ∧ z16.toInt ≤ 1 := by rw [hz16]; split <;> decide
  have nz16 : nar .boolean z16 = z16 := by rw [hz16]; split <;> decide
  have pre16 : ∀ t, Steps p.tables e below (T8.setTop (mkF m 55 #[.val (.int p1), .val (.int p2), .val (.ref b1), .val (.int (0 : Int32)), .val (.int (p1 &&& (3 : Int32))), .val (.int z12), .val (.int z14), .unset, .unset, .unset, .unset, .unset] [(.int z16)])) t → Steps p.tables e below (s₁.setTop (entryFrame m #[(.int p1), (.int p2)] maxLocals)) t := fun t k => by
    by_cases hc16 : (p2 &&& (4 : Int32)) = (0 : Int32)
    ·
      rw [hz16, if_pos hc16] at k
      refine pre15 _ ?_
      show Steps p.tables e below (T8.setTop (mkF m 47 #[.val (.int p1), .val (.int p2), .val (.ref b1), .val (.int (0 : Int32)), .val (.int (p1 &&& (3 : Int32))), .val (.int z12), .val (.int z14), .unset, .unset, .unset, .unset, .unset] [(.int (p2 &&& (4 : Int32)))])) _
      refine XS.ifYes X8.here hx rfl (pc0 := 47) (pc' := 54) rfl (hb hby at_47) rfl ((if0 _ _).trans (teq hc16).1) (by decide) (by decide) ?_
      show Steps p.tables e below (T8.setTop (mkF m 54 #[.val (.int p1), .val (.int p2), .val (.ref b1), .val (.int (0 : Int32)), .val (.int (p1 &&& (3 : Int32))), .val (.int z12), .val (.int z14), .unset, .unset, .unset, .unset, .unset] [])) _
      refine XS.iconst X8.here hx rfl (hb hby at_54) ?_
      exact k
    ·
      rw [hz16, if_neg hc16] at k
      refine pre15 _ ?_
      show Steps p.tables e below (T8.setTop (mkF m 47 #[.val (.int p1), .val (.int p2), .val (.ref b1), .val (.int (0 : Int32)), .val (.int (p1 &&& (3 : Int32))), .val (.int z12), .val (.int z14), .unset, .unset, .unset, .unset, .unset] [(.int (p2 &&& (4 : Int32)))])) _
      refine XS.ifNo X8.here hx rfl (hb hby at_47) rfl ((if0 _ _).trans (feq hc16).1) ?_
      show Steps p.tables e below (T8.setTop (mkF m 50 #[.val (.int p1), .val (.int p2), .val (.ref b1), .val (.int (0 : Int32)), .val (.int (p1 &&& (3 : Int32))), .val (.int z12), .val (.int z14), .unset, .unset, .unset, .unset, .unset] [])) _
      refine XS.iconst X8.here hx rfl (hb hby at_50) ?_
      show Steps p.tables e below (T8.setTop (mkF m 51 #[.val (.int p1), .val (.int p2), .val (.ref b1), .val (.int (0 : Int32)), .val (.int (p1 &&& (3 : Int32))), .val (.int z12), .val (.int z14), .unset, .unset, .unset, .unset, .unset] [(.int (1 : Int32))])) _
      refine XS.goto X8.here hx rfl (pc0 := 51) (pc' := 55) rfl (hb hby at_51) (by decide) (by decide) ?_
      exact k
  have pre17 : ∀ t, Steps p.tables e below (T8.setTop (mkF m 60 #[.val (.int p1), .val (.int p2), .val (.ref b1), .val (.int (0 : Int32)), .val (.int (p1 &&& (3 : Int32))), .val (.int z12), .val (.int z14), .val (.int z16), .unset, .unset, .unset, .unset] [(.int (1 : Int32)), (.int (p1 &&& (3 : Int32)))])) t → Steps p.tables e below (s₁.setTop (entryFrame m #[(.int p1), (.int p2)] maxLocals)) t := fun t k => by
    refine pre16 _ ?_
    show Steps p.tables e below (T8.setTop (mkF m 55 #[.val (.int p1), .val (.int p2), .val (.ref b1), .val (.int (0 : Int32)), .val (.int (p1 &&& (3 : Int32))), .val (.int z12), .val (.int z14), .unset, .unset, .unset, .unset, .unset] [(.int z16)])) _
    refine XS.istore X8.here hx rfl (hb hby at_55) rfl (l' := #[.val (.int p1), .val (.int p2), .val (.ref b1), .val (.int (0 : Int32)), .val (.int (p1 &&& (3 : Int32))), .val (.int z12), .val (.int z14), .val (.int z16), .unset, .unset, .unset, .unset]) rfl ?_
    show Steps p.tables e below (T8.setTop (mkF m 57 #[.val (.int p1), .val (.int p2), .val (.ref b1), .val (.int (0 : Int32)), .val (.int (p1 &&& (3 : Int32))), .val (.int z12), .val (.int z14), .val (.int z16), .unset, .unset, .unset, .unset] [])) _
    refine XS.iload X8.here hx rfl (hb hby at_57) rfl ?_
    show Steps p.tables e below (T8.setTop (mkF m 59 #[.val (.int p1), .val (.int p2), .val (.ref b1), .val (.int (0 : Int32)), .val (.int (p1 &&& (3 : Int32))), .val (.int z12), .val (.int z14), .val (.int z16), .unset, .unset, .unset, .unset] [(.int (p1 &&& (3 : Int32)))])) _
    refine XS.iconst X8.here hx rfl (hb hby at_59) ?_
    exact k
  by_cases hc18 : (p1 &&& (3 : Int32)) < (1 : Int32)
  ·
    have hq19 : (p1 &&& (3 : Int32)) = (0 : Int32) := (own_geq (n := 0) (k := (0 : Int32)) (by decide) (by have q0 := own_and (x := p1) (k := (3 : Int32)) (n := 3) (by decide) (by decide); have q1 := own_lt1 (n := 1) (k := (1 : Int32)) (by decide) hc18; omega))
    have pre20 : ∀ t, Steps p.tables e below (T8.setTop (mkF m 60 #[.val (.int p1), .val (.int p2), .val (.ref b1), .val (.int (0 : Int32)), .val (.int (0 : Int32)), .val (.int z12), .val (.int z14), .val (.int z16), .unset, .unset, .unset, .unset] [(.int (1 : Int32)), (.int (0 : Int32))])) t → Steps p.tables e below (s₁.setTop (entryFrame m #[(.int p1), (.int p2)] maxLocals)) t := fun t k => pre17 t (by rw [hq19]; exact k)
    obtain ⟨cq21, kq21, q21a, q21b, q21c⟩ := isOf hZ e10 f5
    obtain ⟨_, _, ⟨T22, L22, c22, n22⟩, -, X22, ⟨Lc22, hQ22, l22, y22, z22⟩, st22⟩ := X8.virtualBack hx (y := (⟨"com/example/vorgang/vorgang/QueryTimeoutScope", "isKnown", "()Z"⟩ : MethodName)) (z := (⟨"com/example/vorgang/vorgang/QueryTimeoutScope", "isKnown", "()Z"⟩ : MethodName)) hown (mvT hZ (hw _ (List.mem_of_getElem? (i := 14) rfl))) (mvT hZ (hw _ (List.mem_of_getElem? (i := 15) rfl))) (notFace_of_selects (args := #[]) (mvT hZ (hw _ (List.mem_of_getElem? (i := 17) rfl)))) (mvT hZ (hw _ (List.mem_of_getElem? (i := 17) rfl))) (mvT hZ (hw _ (List.mem_of_getElem? (i := 16) rfl))) (by decide) (backOf (W := 0) (rm2 l Z a0 hw w1 w2 w3 G [] b1 T2.heap n0 O2 g_b1 f6) hZ (hw _ (List.mem_of_getElem? (i := 18) rfl)) (hw _ (List.mem_of_getElem? (i := 2) rfl)) (by decide) (by decide)) q21a q21c (g := (mkF m 94 #[.val (.int p1), .val (.int p2), .val (.ref b1), .val (.int (0 : Int32)), .val (.int (0 : Int32)), .val (.int z12), .val (.int z14), .val (.int z16), .unset, .unset, .unset, .unset] [(.ref b1)])) rfl (by rw [hml]; rfl) (Steps.refl _) (argsL := []) (rest := []) (lenOf pd1 rfl) rfl (by show 2 * 0 + _ ≤ _; exact Nat.le_of_eq rfl) (hb hby at_94) (fun _ _ => ⟨rfl, e10, (by decide : 1 + 0 ≤ _), (by decide : 1 + 0 ≤ _)⟩)
    dsimp only [Pt.U, Pt.locs, Pt.cells, Pt.slots] at X22 l22 y22 z22 st22 hQ22
    subst l22 y22 z22
    have X22 : Stand p l e room_1 s m #[(.int p1), (.int p2)] below meth c T22 _ 1 1 := X22
    obtain ⟨rfl, Nq23, e24⟩ := hQ22
    have N22 := Fr.app N8 Nq23
    obtain ⟨cq25, kq25, q25a, q25b, q25c⟩ := isOf hZ e24 f5
    obtain ⟨_, _, ⟨T26, L26, c26, n26⟩, -, X26, ⟨Lc26, hQ26, l26, y26, z26⟩, st26⟩ := X22.virtualBack hx (y := (⟨"com/example/vorgang/vorgang/QueryTimeoutScope", "isSession", "()Z"⟩ : MethodName)) (z := (⟨"com/example/vorgang/vorgang/QueryTimeoutScope", "isSession", "()Z"⟩ : MethodName)) hown (mvT hZ (hw _ (List.mem_of_getElem? (i := 19) rfl))) (mvT hZ (hw _ (List.mem_of_getElem? (i := 20) rfl))) (notFace_of_selects (args := #[]) (mvT hZ (hw _ (List.mem_of_getElem? (i := 22) rfl)))) (mvT hZ (hw _ (List.mem_of_getElem? (i := 22) rfl))) (mvT hZ (hw _ (List.mem_of_getElem? (i := 21) rfl))) (by decide) (backOf (W := 0) (rm3 l Z a0 hw w1 w2 w3 G [] b1 T2.heap n0 O2 g_b1 f6) hZ (hw _ (List.mem_of_getElem? (i := 23) rfl)) (hw _ (List.mem_of_getElem? (i := 2) rfl)) (by decide) (by decide)) q25a q25c (g := (mkF m 100 #[.val (.int p1), .val (.int p2), .val (.ref b1), .val (.int (0 : Int32)), .val (.int (0 : Int32)), .val (.int z12), .val (.int z14), .val (.int z16), .val (.int (0 : Int32)), .unset, .unset, .unset] [(.ref b1)])) rfl (by rw [hml]; rfl) (Steps.refl _) (argsL := []) (rest := []) (lenOf pd1 rfl) rfl (by show 2 * 0 + _ ≤ _; exact Nat.le_of_eq rfl) (hb hby at_100) (fun _ _ => ⟨rfl, e24, (by decide : 1 + 0 ≤ _), (by decide : 1 + 0 ≤ _)⟩)
    dsimp only [Pt.U, Pt.locs, Pt.cells, Pt.slots] at X26 l26 y26 z26 st26 hQ26
    subst l26 y26 z26
    have X26 : Stand p l e room_1 s m #[(.int p1), (.int p2)] below meth c T26 _ 1 1 := X26
    obtain ⟨rfl, Nq27, e28⟩ := hQ26
    have N26 := Fr.app N22 Nq27
    obtain ⟨cq29, kq29, q29a, q29b, q29c⟩ := isOf hZ e28 f5
    obtain ⟨_, _, ⟨T30, L30, c30, n30⟩, -, X30, ⟨Lc30, hQ30, l30, y30, z30⟩, st30⟩ := X26.virtualBack hx (y := (⟨"com/example/vorgang/vorgang/QueryTimeoutScope", "isStatement", "()Z"⟩ : MethodName)) (z := (⟨"com/example/vorgang/vorgang/QueryTimeoutScope", "isStatement", "()Z"⟩ : MethodName)) hown (mvT hZ (hw _ (List.mem_of_getElem? (i := 26) rfl))) (mvT hZ (hw _ (List.mem_of_getElem? (i := 27) rfl))) (notFace_of_selects (args := #[]) (mvT hZ (hw _ (List.mem_of_getElem? (i := 29) rfl)))) (mvT hZ (hw _ (List.mem_of_getElem? (i := 29) rfl))) (mvT hZ (hw _ (List.mem_of_getElem? (i := 28) rfl))) (by decide) (backOf (W := 0) (rm4 l Z a0 hw w1 w2 w3 G [] b1 T2.heap n0 O2 g_b1 f6) hZ (hw _ (List.mem_of_getElem? (i := 30) rfl)) (hw _ (List.mem_of_getElem? (i := 2) rfl)) (by decide) (by decide)) q29a q29c (g := (mkF m 106 #[.val (.int p1), .val (.int p2), .val (.ref b1), .val (.int (0 : Int32)), .val (.int (0 : Int32)), .val (.int z12), .val (.int z14), .val (.int z16), .val (.int (0 : Int32)), .val (.int (0 : Int32)), .unset, .unset] [(.ref b1)])) rfl (by rw [hml]; rfl) (Steps.refl _) (argsL := []) (rest := []) (lenOf pd1 rfl) rfl (by show 2 * 0 + _ ≤ _; exact Nat.le_of_eq rfl) (hb hby at_106) (fun _ _ => ⟨rfl, e28, (by decide : 1 + 0 ≤ _), (by decide : 1 + 0 ≤ _)⟩)
    dsimp only [Pt.U, Pt.locs, Pt.cells, Pt.slots] at X30 l30 y30 z30 st30 hQ30
    subst l30 y30 z30
    have X30 : Stand p l e room_1 s m #[(.int p1), (.int p2)] below meth c T30 _ 1 1 := X30
    obtain ⟨rfl, Nq31, e32⟩ := hQ30
    have N30 := Fr.app N26 Nq31
    obtain ⟨fs, hr, hrun, hended, hW, hsame⟩ := X30.leave (v := some (.int (1 : Int32))) (fun h => by rw [hret] at h; cases h)
    refine ⟨_, _, pre20 _ ?_, hrun, hended, _, _, rfl, ?_, ⟨_, rfl⟩, hW, hsame.mono (by decide) (by decide)⟩
    ·
      show Steps p.tables e below (T8.setTop (mkF m 60 #[.val (.int p1), .val (.int p2), .val (.ref b1), .val (.int (0 : Int32)), .val (.int (0 : Int32)), .val (.int z12), .val (.int z14), .val (.int z16), .unset, .unset, .unset, .unset] [(.int (1 : Int32)), (.int (0 : Int32))])) _
      refine XS.icmpYes X8.here hx rfl (pc0 := 60) (pc' := 69) rfl (hb hby at_60) rfl (tlt (by decide : (0 : Int32) < (1 : Int32))).1 (by decide) (by decide) ?_
      show Steps p.tables e below (T8.setTop (mkF m 69 #[.val (.int p1), .val (.int p2), .val (.ref b1), .val (.int (0 : Int32)), .val (.int (0 : Int32)), .val (.int z12), .val (.int z14), .val (.int z16), .unset, .unset, .unset, .unset] [])) _
      refine XS.iload X8.here hx rfl (hb hby at_69) rfl ?_
      show Steps p.tables e below (T8.setTop (mkF m 71 #[.val (.int p1), .val (.int p2), .val (.ref b1), .val (.int (0 : Int32)), .val (.int (0 : Int32)), .val (.int z12), .val (.int z14), .val (.int z16), .unset, .unset, .unset, .unset] [(.int (0 : Int32))])) _
      refine XS.iconst X8.here hx rfl (hb hby at_71) ?_
      show Steps p.tables e below (T8.setTop (mkF m 72 #[.val (.int p1), .val (.int p2), .val (.ref b1), .val (.int (0 : Int32)), .val (.int (0 : Int32)), .val (.int z12), .val (.int z14), .val (.int z16), .unset, .unset, .unset, .unset] [(.int (2 : Int32)), (.int (0 : Int32))])) _
      refine XS.icmpYes X8.here hx rfl (pc0 := 72) (pc' := 81) rfl (hb hby at_72) rfl (tlt (by decide : (0 : Int32) < (2 : Int32))).1 (by decide) (by decide) ?_
      show Steps p.tables e below (T8.setTop (mkF m 81 #[.val (.int p1), .val (.int p2), .val (.ref b1), .val (.int (0 : Int32)), .val (.int (0 : Int32)), .val (.int z12), .val (.int z14), .val (.int z16), .unset, .unset, .unset, .unset] [])) _
      refine XS.iload X8.here hx rfl (hb hby at_81) rfl ?_
      show Steps p.tables e below (T8.setTop (mkF m 83 #[.val (.int p1), .val (.int p2), .val (.ref b1), .val (.int (0 : Int32)), .val (.int (0 : Int32)), .val (.int z12), .val (.int z14), .val (.int z16), .unset, .unset, .unset, .unset] [(.int (0 : Int32))])) _
      refine XS.iconst X8.here hx rfl (hb hby at_83) ?_
      show Steps p.tables e below (T8.setTop (mkF m 84 #[.val (.int p1), .val (.int p2), .val (.ref b1), .val (.int (0 : Int32)), .val (.int (0 : Int32)), .val (.int z12), .val (.int z14), .val (.int z16), .unset, .unset, .unset, .unset] [(.int (3 : Int32)), (.int (0 : Int32))])) _
      refine XS.icmpYes X8.here hx rfl (pc0 := 84) (pc' := 93) rfl (hb hby at_84) rfl (tlt (by decide : (0 : Int32) < (3 : Int32))).1 (by decide) (by decide) ?_
      show Steps p.tables e below (T8.setTop (mkF m 93 #[.val (.int p1), .val (.int p2), .val (.ref b1), .val (.int (0 : Int32)), .val (.int (0 : Int32)), .val (.int z12), .val (.int z14), .val (.int z16), .unset, .unset, .unset, .unset] [])) _
      refine XS.aloadN X8.here hx rfl (hb hby at_93) rfl rfl ?_
      show Steps p.tables e below (T8.setTop (mkF m 94 #[.val (.int p1), .val (.int p2), .val (.ref b1), .val (.int (0 : Int32)), .val (.int (0 : Int32)), .val (.int z12), .val (.int z14), .val (.int z16), .unset, .unset, .unset, .unset] [(.ref b1)])) _
      refine st22.trans ?_
      show Steps p.tables e below (T22.setTop (mkF m 97 #[.val (.int p1), .val (.int p2), .val (.ref b1), .val (.int (0 : Int32)), .val (.int (0 : Int32)), .val (.int z12), .val (.int z14), .val (.int z16), .unset, .unset, .unset, .unset] [(.int (0 : Int32))])) _
      refine XS.istore X22.here hx rfl (hb hby at_97) rfl (l' := #[.val (.int p1), .val (.int p2), .val (.ref b1), .val (.int (0 : Int32)), .val (.int (0 : Int32)), .val (.int z12), .val (.int z14), .val (.int z16), .val (.int (0 : Int32)), .unset, .unset, .unset]) rfl ?_
      show Steps p.tables e below (T22.setTop (mkF m 99 #[.val (.int p1), .val (.int p2), .val (.ref b1), .val (.int (0 : Int32)), .val (.int (0 : Int32)), .val (.int z12), .val (.int z14), .val (.int z16), .val (.int (0 : Int32)), .unset, .unset, .unset] [])) _
      refine XS.aloadN X22.here hx rfl (hb hby at_99) rfl rfl ?_
      show Steps p.tables e below (T22.setTop (mkF m 100 #[.val (.int p1), .val (.int p2), .val (.ref b1), .val (.int (0 : Int32)), .val (.int (0 : Int32)), .val (.int z12), .val (.int z14), .val (.int z16), .val (.int (0 : Int32)), .unset, .unset, .unset] [(.ref b1)])) _
      refine st26.trans ?_
      show Steps p.tables e below (T26.setTop (mkF m 103 #[.val (.int p1), .val (.int p2), .val (.ref b1), .val (.int (0 : Int32)), .val (.int (0 : Int32)), .val (.int z12), .val (.int z14), .val (.int z16), .val (.int (0 : Int32)), .unset, .unset, .unset] [(.int (0 : Int32))])) _
      refine XS.istore X26.here hx rfl (hb hby at_103) rfl (l' := #[.val (.int p1), .val (.int p2), .val (.ref b1), .val (.int (0 : Int32)), .val (.int (0 : Int32)), .val (.int z12), .val (.int z14), .val (.int z16), .val (.int (0 : Int32)), .val (.int (0 : Int32)), .unset, .unset]) rfl ?_
      show Steps p.tables e below (T26.setTop (mkF m 105 #[.val (.int p1), .val (.int p2), .val (.ref b1), .val (.int (0 : Int32)), .val (.int (0 : Int32)), .val (.int z12), .val (.int z14), .val (.int z16), .val (.int (0 : Int32)), .val (.int (0 : Int32)), .unset, .unset] [])) _
      refine XS.aloadN X26.here hx rfl (hb hby at_105) rfl rfl ?_
      show Steps p.tables e below (T26.setTop (mkF m 106 #[.val (.int p1), .val (.int p2), .val (.ref b1), .val (.int (0 : Int32)), .val (.int (0 : Int32)), .val (.int z12), .val (.int z14), .val (.int z16), .val (.int (0 : Int32)), .val (.int (0 : Int32)), .unset, .unset] [(.ref b1)])) _
      refine st30.trans ?_
      show Steps p.tables e below (T30.setTop (mkF m 109 #[.val (.int p1), .val (.int p2), .val (.ref b1), .val (.int (0 : Int32)), .val (.int (0 : Int32)), .val (.int z12), .val (.int z14), .val (.int z16), .val (.int (0 : Int32)), .val (.int (0 : Int32)), .unset, .unset] [(.int (0 : Int32))])) _
      refine XS.istore X30.here hx rfl (hb hby at_109) rfl (l' := #[.val (.int p1), .val (.int p2), .val (.ref b1), .val (.int (0 : Int32)), .val (.int (0 : Int32)), .val (.int z12), .val (.int z14), .val (.int z16), .val (.int (0 : Int32)), .val (.int (0 : Int32)), .val (.int (0 : Int32)), .unset]) rfl ?_
      show Steps p.tables e below (T30.setTop (mkF m 111 #[.val (.int p1), .val (.int p2), .val (.ref b1), .val (.int (0 : Int32)), .val (.int (0 : Int32)), .val (.int z12), .val (.int z14), .val (.int z16), .val (.int (0 : Int32)), .val (.int (0 : Int32)), .val (.int (0 : Int32)), .unset] [])) _
      refine XS.iload X30.here hx rfl (hb hby at_111) rfl ?_
      show Steps p.tables e below (T30.setTop (mkF m 113 #[.val (.int p1), .val (.int p2), .val (.ref b1), .val (.int (0 : Int32)), .val (.int (0 : Int32)), .val (.int z12), .val (.int z14), .val (.int z16), .val (.int (0 : Int32)), .val (.int (0 : Int32)), .val (.int (0 : Int32)), .unset] [(.int (0 : Int32))])) _
      refine XS.iconst X30.here hx rfl (hb hby at_113) ?_
      show Steps p.tables e below (T30.setTop (mkF m 114 #[.val (.int p1), .val (.int p2), .val (.ref b1), .val (.int (0 : Int32)), .val (.int (0 : Int32)), .val (.int z12), .val (.int z14), .val (.int z16), .val (.int (0 : Int32)), .val (.int (0 : Int32)), .val (.int (0 : Int32)), .unset] [(.int (1 : Int32)), (.int (0 : Int32))])) _
      refine XS.icmpYes X30.here hx rfl (pc0 := 114) (pc' := 121) rfl (hb hby at_114) rfl (tlt (by decide : (0 : Int32) < (1 : Int32))).1 (by decide) (by decide) ?_
      show Steps p.tables e below (T30.setTop (mkF m 121 #[.val (.int p1), .val (.int p2), .val (.ref b1), .val (.int (0 : Int32)), .val (.int (0 : Int32)), .val (.int z12), .val (.int z14), .val (.int z16), .val (.int (0 : Int32)), .val (.int (0 : Int32)), .val (.int (0 : Int32)), .unset] [])) _
      refine XS.iconst X30.here hx rfl (hb hby at_121) ?_
      show Steps p.tables e below (T30.setTop (mkF m 122 #[.val (.int p1), .val (.int p2), .val (.ref b1), .val (.int (0 : Int32)), .val (.int (0 : Int32)), .val (.int z12), .val (.int z14), .val (.int z16), .val (.int (0 : Int32)), .val (.int (0 : Int32)), .val (.int (0 : Int32)), .unset] [(.int (0 : Int32))])) _
      refine XS.istore X30.here hx rfl (hb hby at_122) rfl (l' := #[.val (.int p1), .val (.int p2), .val (.ref b1), .val (.int (0 : Int32)), .val (.int (0 : Int32)), .val (.int z12), .val (.int z14), .val (.int z16), .val (.int (0 : Int32)), .val (.int (0 : Int32)), .val (.int (0 : Int32)), .val (.int (0 : Int32))]) rfl ?_
      show Steps p.tables e below (T30.setTop (mkF m 124 #[.val (.int p1), .val (.int p2), .val (.ref b1), .val (.int (0 : Int32)), .val (.int (0 : Int32)), .val (.int z12), .val (.int z14), .val (.int z16), .val (.int (0 : Int32)), .val (.int (0 : Int32)), .val (.int (0 : Int32)), .val (.int (0 : Int32))] [])) _
      refine XS.iloadN X30.here hx rfl (hb hby at_124) rfl ?_
      show Steps p.tables e below (T30.setTop (mkF m 125 #[.val (.int p1), .val (.int p2), .val (.ref b1), .val (.int (0 : Int32)), .val (.int (0 : Int32)), .val (.int z12), .val (.int z14), .val (.int z16), .val (.int (0 : Int32)), .val (.int (0 : Int32)), .val (.int (0 : Int32)), .val (.int (0 : Int32))] [(.int (0 : Int32))])) _
      refine XS.ifNo X30.here hx rfl (hb hby at_125) rfl ((if0 _ _).trans (teq (by decide : (0 : Int32) = (0 : Int32))).2) ?_
      show Steps p.tables e below (T30.setTop (mkF m 128 #[.val (.int p1), .val (.int p2), .val (.ref b1), .val (.int (0 : Int32)), .val (.int (0 : Int32)), .val (.int z12), .val (.int z14), .val (.int z16), .val (.int (0 : Int32)), .val (.int (0 : Int32)), .val (.int (0 : Int32)), .val (.int (0 : Int32))] [])) _
      refine XS.iload X30.here hx rfl (hb hby at_128) rfl ?_
      show Steps p.tables e below (T30.setTop (mkF m 130 #[.val (.int p1), .val (.int p2), .val (.ref b1), .val (.int (0 : Int32)), .val (.int (0 : Int32)), .val (.int z12), .val (.int z14), .val (.int z16), .val (.int (0 : Int32)), .val (.int (0 : Int32)), .val (.int (0 : Int32)), .val (.int (0 : Int32))] [(.int (0 : Int32))])) _
      refine XS.iload X30.here hx rfl (hb hby at_130) rfl ?_
      show Steps p.tables e below (T30.setTop (mkF m 132 #[.val (.int p1), .val (.int p2), .val (.ref b1), .val (.int (0 : Int32)), .val (.int (0 : Int32)), .val (.int z12), .val (.int z14), .val (.int z16), .val (.int (0 : Int32)), .val (.int (0 : Int32)), .val (.int (0 : Int32)), .val (.int (0 : Int32))] [(.int (0 : Int32)), (.int (0 : Int32))])) _
      refine XS.icmpNo X30.here hx rfl (hb hby at_132) rfl (teq (by decide : (0 : Int32) = (0 : Int32))).2 ?_
      show Steps p.tables e below (T30.setTop (mkF m 135 #[.val (.int p1), .val (.int p2), .val (.ref b1), .val (.int (0 : Int32)), .val (.int (0 : Int32)), .val (.int z12), .val (.int z14), .val (.int z16), .val (.int (0 : Int32)), .val (.int (0 : Int32)), .val (.int (0 : Int32)), .val (.int (0 : Int32))] [])) _
      refine XS.iload X30.here hx rfl (hb hby at_135) rfl ?_
      show Steps p.tables e below (T30.setTop (mkF m 137 #[.val (.int p1), .val (.int p2), .val (.ref b1), .val (.int (0 : Int32)), .val (.int (0 : Int32)), .val (.int z12), .val (.int z14), .val (.int z16), .val (.int (0 : Int32)), .val (.int (0 : Int32)), .val (.int (0 : Int32)), .val (.int (0 : Int32))] [(.int (0 : Int32))])) _
      refine XS.iload X30.here hx rfl (hb hby at_137) rfl ?_
      show Steps p.tables e below (T30.setTop (mkF m 139 #[.val (.int p1), .val (.int p2), .val (.ref b1), .val (.int (0 : Int32)), .val (.int (0 : Int32)), .val (.int z12), .val (.int z14), .val (.int z16), .val (.int (0 : Int32)), .val (.int (0 : Int32)), .val (.int (0 : Int32)), .val (.int (0 : Int32))] [(.int (0 : Int32)), (.int (0 : Int32))])) _
      refine XS.ifNo X30.here hx rfl (hb hby at_139) rfl ((if0 _ _).trans (teq (by decide : (0 : Int32) = (0 : Int32))).2) ?_
      show Steps p.tables e below (T30.setTop (mkF m 142 #[.val (.int p1), .val (.int p2), .val (.ref b1), .val (.int (0 : Int32)), .val (.int (0 : Int32)), .val (.int z12), .val (.int z14), .val (.int z16), .val (.int (0 : Int32)), .val (.int (0 : Int32)), .val (.int (0 : Int32)), .val (.int (0 : Int32))] [(.int (0 : Int32))])) _
      refine XS.iload X30.here hx rfl (hb hby at_142) rfl ?_
      show Steps p.tables e below (T30.setTop (mkF m 144 #[.val (.int p1), .val (.int p2), .val (.ref b1), .val (.int (0 : Int32)), .val (.int (0 : Int32)), .val (.int z12), .val (.int z14), .val (.int z16), .val (.int (0 : Int32)), .val (.int (0 : Int32)), .val (.int (0 : Int32)), .val (.int (0 : Int32))] [(.int (0 : Int32)), (.int (0 : Int32))])) _
      refine XS.ifYes X30.here hx rfl (pc0 := 144) (pc' := 151) rfl (hb hby at_144) rfl ((if0 _ _).trans (teq (by decide : (0 : Int32) = (0 : Int32))).1) (by decide) (by decide) ?_
      show Steps p.tables e below (T30.setTop (mkF m 151 #[.val (.int p1), .val (.int p2), .val (.ref b1), .val (.int (0 : Int32)), .val (.int (0 : Int32)), .val (.int z12), .val (.int z14), .val (.int z16), .val (.int (0 : Int32)), .val (.int (0 : Int32)), .val (.int (0 : Int32)), .val (.int (0 : Int32))] [(.int (0 : Int32))])) _
      refine XS.iconst X30.here hx rfl (hb hby at_151) ?_
      show Steps p.tables e below (T30.setTop (mkF m 152 #[.val (.int p1), .val (.int p2), .val (.ref b1), .val (.int (0 : Int32)), .val (.int (0 : Int32)), .val (.int z12), .val (.int z14), .val (.int z16), .val (.int (0 : Int32)), .val (.int (0 : Int32)), .val (.int (0 : Int32)), .val (.int (0 : Int32))] [(.int (0 : Int32)), (.int (0 : Int32))])) _
      refine XS.icmpNo X30.here hx rfl (hb hby at_152) rfl (teq (by decide : (0 : Int32) = (0 : Int32))).2 ?_
      show Steps p.tables e below (T30.setTop (mkF m 155 #[.val (.int p1), .val (.int p2), .val (.ref b1), .val (.int (0 : Int32)), .val (.int (0 : Int32)), .val (.int z12), .val (.int z14), .val (.int z16), .val (.int (0 : Int32)), .val (.int (0 : Int32)), .val (.int (0 : Int32)), .val (.int (0 : Int32))] [])) _
      refine XS.iconst X30.here hx rfl (hb hby at_155) ?_
      show Steps p.tables e below (T30.setTop (mkF m 156 #[.val (.int p1), .val (.int p2), .val (.ref b1), .val (.int (0 : Int32)), .val (.int (0 : Int32)), .val (.int z12), .val (.int z14), .val (.int z16), .val (.int (0 : Int32)), .val (.int (0 : Int32)), .val (.int (0 : Int32)), .val (.int (0 : Int32))] [(.int (1 : Int32))])) _
      refine XS.goto X30.here hx rfl (pc0 := 156) (pc' := 160) rfl (hb hby at_156) (by decide) (by decide) ?_
      show Steps p.tables e below (T30.setTop (mkF m 160 #[.val (.int p1), .val (.int p2), .val (.ref b1), .val (.int (0 : Int32)), .val (.int (0 : Int32)), .val (.int z12), .val (.int z14), .val (.int z16), .val (.int (0 : Int32)), .val (.int (0 : Int32)), .val (.int (0 : Int32)), .val (.int (0 : Int32))] [(.int (1 : Int32))])) _
      exact retN X30 hx (t := .boolean) hret (by simp) (hb hby at_160) hr
    ·
      show Q0 n0 _ T30.heap _
      rw [e32]
      exact ⟨rfl, N30⟩
  ·
    obtain ⟨cq33, kq33, q33a, q33b, q33c⟩ := isOf hZ e10 f5
    obtain ⟨_, _, ⟨T34, L34, c34, n34⟩, -, X34, ⟨Lc34, hQ34, l34, y34, z34⟩, st34⟩ := X8.virtualBack hx (y := (⟨"com/example/vorgang/vorgang/QueryTimeoutScope", "found", "(Z)V"⟩ : MethodName)) (z := (⟨"com/example/vorgang/vorgang/QueryTimeoutScope", "found", "(Z)V"⟩ : MethodName)) hown (mvT hZ (hw _ (List.mem_of_getElem? (i := 33) rfl))) (mvT hZ (hw _ (List.mem_of_getElem? (i := 34) rfl))) (notFace_of_selects (args := #[]) (mvT hZ (hw _ (List.mem_of_getElem? (i := 36) rfl)))) (mvT hZ (hw _ (List.mem_of_getElem? (i := 36) rfl))) (mvT hZ (hw _ (List.mem_of_getElem? (i := 35) rfl))) (by decide) (backOf (W := 0) (rm5 l Z a0 hw w1 w2 w3 G [] b1 z12 T2.heap n0 O2 g_b1 f5 f6) hZ (hw _ (List.mem_of_getElem? (i := 37) rfl)) (hw _ (List.mem_of_getElem? (i := 2) rfl)) (by decide) (by decide)) q33a q33c (g := (mkF m 66 #[.val (.int p1), .val (.int p2), .val (.ref b1), .val (.int (0 : Int32)), .val (.int (p1 &&& (3 : Int32))), .val (.int z12), .val (.int z14), .val (.int z16), .unset, .unset, .unset, .unset] [(.int z12), (.ref b1)])) rfl (by rw [hml]; rfl) (Steps.refl _) (argsL := [(.int z12)]) (rest := []) (lenOf pd2 rfl) rfl (by show 2 * 0 + _ ≤ _; exact Nat.le_of_eq rfl) (hb hby at_66) (fun _ _ => ⟨rfl, e10, (by decide : 1 + 0 ≤ _), (by decide : 1 + 0 ≤ _)⟩)
    dsimp only [Pt.U, Pt.locs, Pt.cells, Pt.slots] at X34 l34 y34 z34 st34 hQ34
    subst l34 y34 z34
    have pre35 : ∀ t, Steps p.tables e below (T8.setTop (mkF m 66 #[.val (.int p1), .val (.int p2), .val (.ref b1), .val (.int (0 : Int32)), .val (.int (p1 &&& (3 : Int32))), .val (.int z12), .val (.int z14), .val (.int z16), .unset, .unset, .unset, .unset] [(.int z12), (.ref b1)])) t → Steps p.tables e below (s₁.setTop (entryFrame m #[(.int p1), (.int p2)] maxLocals)) t := fun t k => by
      refine pre17 _ ?_
      show Steps p.tables e below (T8.setTop (mkF m 60 #[.val (.int p1), .val (.int p2), .val (.ref b1), .val (.int (0 : Int32)), .val (.int (p1 &&& (3 : Int32))), .val (.int z12), .val (.int z14), .val (.int z16), .unset, .unset, .unset, .unset] [(.int (1 : Int32)), (.int (p1 &&& (3 : Int32)))])) _
      refine XS.icmpNo X8.here hx rfl (hb hby at_60) rfl (flt hc18).1 ?_
      show Steps p.tables e below (T8.setTop (mkF m 63 #[.val (.int p1), .val (.int p2), .val (.ref b1), .val (.int (0 : Int32)), .val (.int (p1 &&& (3 : Int32))), .val (.int z12), .val (.int z14), .val (.int z16), .unset, .unset, .unset, .unset] [])) _
      refine XS.aloadN X8.here hx rfl (hb hby at_63) rfl rfl ?_
      show Steps p.tables e below (T8.setTop (mkF m 64 #[.val (.int p1), .val (.int p2), .val (.ref b1), .val (.int (0 : Int32)), .val (.int (p1 &&& (3 : Int32))), .val (.int z12), .val (.int z14), .val (.int z16), .unset, .unset, .unset, .unset] [(.ref b1)])) _
      refine XS.iload X8.here hx rfl (hb hby at_64) rfl ?_
      exact k
    have X34 : Stand p l e room_1 s m #[(.int p1), (.int p2)] below meth c T34 _ 1 1 := X34
    rcases hQ34 with ⟨hc36, rfl, Nq37, K38, f39, f40⟩ | ⟨hc41, rfl, Nq42, K43, f44, f45⟩
    ·
      have N34 := Fr.app N8 Nq37
      have M34 : h0.size ≤ T34.heap.size := Nat.le_trans M2 K38.1
      have O34 := Old.keep O2 K38 (allS g_b1 all0)
      have pre46 : ∀ t, Steps p.tables e below (T34.setTop (mkF m 72 #[.val (.int p1), .val (.int p2), .val (.ref b1), .val (.int (0 : Int32)), .val (.int (p1 &&& (3 : Int32))), .val (.int z12), .val (.int z14), .val (.int z16), .unset, .unset, .unset, .unset] [(.int (2 : Int32)), (.int (p1 &&& (3 : Int32)))])) t → Steps p.tables e below (s₁.setTop (entryFrame m #[(.int p1), (.int p2)] maxLocals)) t := fun t k => by
        refine pre35 _ ?_
        show Steps p.tables e below (T8.setTop (mkF m 66 #[.val (.int p1), .val (.int p2), .val (.ref b1), .val (.int (0 : Int32)), .val (.int (p1 &&& (3 : Int32))), .val (.int z12), .val (.int z14), .val (.int z16), .unset, .unset, .unset, .unset] [(.int z12), (.ref b1)])) _
        refine st34.trans ?_
        show Steps p.tables e below (T34.setTop (mkF m 69 #[.val (.int p1), .val (.int p2), .val (.ref b1), .val (.int (0 : Int32)), .val (.int (p1 &&& (3 : Int32))), .val (.int z12), .val (.int z14), .val (.int z16), .unset, .unset, .unset, .unset] [])) _
        refine XS.iload X34.here hx rfl (hb hby at_69) rfl ?_
        show Steps p.tables e below (T34.setTop (mkF m 71 #[.val (.int p1), .val (.int p2), .val (.ref b1), .val (.int (0 : Int32)), .val (.int (p1 &&& (3 : Int32))), .val (.int z12), .val (.int z14), .val (.int z16), .unset, .unset, .unset, .unset] [(.int (p1 &&& (3 : Int32)))])) _
        refine XS.iconst X34.here hx rfl (hb hby at_71) ?_
        exact k
      by_cases hc47 : (p1 &&& (3 : Int32)) < (2 : Int32)
      ·
        have hq48 : (p1 &&& (3 : Int32)) = (1 : Int32) := (own_geq (n := 1) (k := (1 : Int32)) (by decide) (by have q0 := own_and (x := p1) (k := (3 : Int32)) (n := 3) (by decide) (by decide); have q1 := own_nlt1 (n := 1) (k := (1 : Int32)) (by decide) hc18; have q2 := own_lt1 (n := 2) (k := (2 : Int32)) (by decide) hc47; omega))
        have pre49 : ∀ t, Steps p.tables e below (T34.setTop (mkF m 72 #[.val (.int p1), .val (.int p2), .val (.ref b1), .val (.int (0 : Int32)), .val (.int (1 : Int32)), .val (.int z12), .val (.int z14), .val (.int z16), .unset, .unset, .unset, .unset] [(.int (2 : Int32)), (.int (1 : Int32))])) t → Steps p.tables e below (s₁.setTop (entryFrame m #[(.int p1), (.int p2)] maxLocals)) t := fun t k => pre46 t (by rw [hq48]; exact k)
        obtain ⟨cq50, kq50, q50a, q50b, q50c⟩ := isOf hZ rfl f39
        obtain ⟨_, _, ⟨T51, L51, c51, n51⟩, -, X51, ⟨Lc51, hQ51, l51, y51, z51⟩, st51⟩ := X34.virtualBack hx (y := (⟨"com/example/vorgang/vorgang/QueryTimeoutScope", "isKnown", "()Z"⟩ : MethodName)) (z := (⟨"com/example/vorgang/vorgang/QueryTimeoutScope", "isKnown", "()Z"⟩ : MethodName)) hown (mvT hZ (hw _ (List.mem_of_getElem? (i := 14) rfl))) (mvT hZ (hw _ (List.mem_of_getElem? (i := 15) rfl))) (notFace_of_selects (args := #[]) (mvT hZ (hw _ (List.mem_of_getElem? (i := 17) rfl)))) (mvT hZ (hw _ (List.mem_of_getElem? (i := 17) rfl))) (mvT hZ (hw _ (List.mem_of_getElem? (i := 16) rfl))) (by decide) (backOf (W := 0) (rm6 l Z a0 hw w1 w2 w3 G [] b1 T34.heap n0 O34 g_b1 f40) hZ (hw _ (List.mem_of_getElem? (i := 18) rfl)) (hw _ (List.mem_of_getElem? (i := 2) rfl)) (by decide) (by decide)) q50a q50c (g := (mkF m 94 #[.val (.int p1), .val (.int p2), .val (.ref b1), .val (.int (0 : Int32)), .val (.int (1 : Int32)), .val (.int z12), .val (.int z14), .val (.int z16), .unset, .unset, .unset, .unset] [(.ref b1)])) rfl (by rw [hml]; rfl) (Steps.refl _) (argsL := []) (rest := []) (lenOf pd1 rfl) rfl (by show 2 * 0 + _ ≤ _; exact Nat.le_of_eq rfl) (hb hby at_94) (fun _ _ => ⟨rfl, rfl, (by decide : 1 + 0 ≤ _), (by decide : 1 + 0 ≤ _)⟩)
        dsimp only [Pt.U, Pt.locs, Pt.cells, Pt.slots] at X51 l51 y51 z51 st51 hQ51
        subst l51 y51 z51
        have X51 : Stand p l e room_1 s m #[(.int p1), (.int p2)] below meth c T51 _ 1 1 := X51
        obtain ⟨rfl, Nq52, e53⟩ := hQ51
        have N51 := Fr.app N34 Nq52
        obtain ⟨cq54, kq54, q54a, q54b, q54c⟩ := isOf hZ e53 f39
        obtain ⟨_, _, ⟨T55, L55, c55, n55⟩, -, X55, ⟨Lc55, hQ55, l55, y55, z55⟩, st55⟩ := X51.virtualBack hx (y := (⟨"com/example/vorgang/vorgang/QueryTimeoutScope", "isSession", "()Z"⟩ : MethodName)) (z := (⟨"com/example/vorgang/vorgang/QueryTimeoutScope", "isSession", "()Z"⟩ : MethodName)) hown (mvT hZ (hw _ (List.mem_of_getElem? (i := 19) rfl))) (mvT hZ (hw _ (List.mem_of_getElem? (i := 20) rfl))) (notFace_of_selects (args := #[]) (mvT hZ (hw _ (List.mem_of_getElem? (i := 22) rfl)))) (mvT hZ (hw _ (List.mem_of_getElem? (i := 22) rfl))) (mvT hZ (hw _ (List.mem_of_getElem? (i := 21) rfl))) (by decide) (backOf (W := 0) (rm7 l Z a0 hw w1 w2 w3 G [] b1 T34.heap n0 O34 g_b1 f40) hZ (hw _ (List.mem_of_getElem? (i := 23) rfl)) (hw _ (List.mem_of_getElem? (i := 2) rfl)) (by decide) (by decide)) q54a q54c (g := (mkF m 100 #[.val (.int p1), .val (.int p2), .val (.ref b1), .val (.int (0 : Int32)), .val (.int (1 : Int32)), .val (.int z12), .val (.int z14), .val (.int z16), .val (.int (1 : Int32)), .unset, .unset, .unset] [(.ref b1)])) rfl (by rw [hml]; rfl) (Steps.refl _) (argsL := []) (rest := []) (lenOf pd1 rfl) rfl (by show 2 * 0 + _ ≤ _; exact Nat.le_of_eq rfl) (hb hby at_100) (fun _ _ => ⟨rfl, e53, (by decide : 1 + 0 ≤ _), (by decide : 1 + 0 ≤ _)⟩)
        dsimp only [Pt.U, Pt.locs, Pt.cells, Pt.slots] at X55 l55 y55 z55 st55 hQ55
        subst l55 y55 z55
        have X55 : Stand p l e room_1 s m #[(.int p1), (.int p2)] below meth c T55 _ 1 1 := X55
        obtain ⟨rfl, Nq56, e57⟩ := hQ55
        have N55 := Fr.app N51 Nq56
        obtain ⟨cq58, kq58, q58a, q58b, q58c⟩ := isOf hZ e57 f39
        obtain ⟨_, _, ⟨T59, L59, c59, n59⟩, -, X59, ⟨Lc59, hQ59, l59, y59, z59⟩, st59⟩ := X55.virtualBack hx (y := (⟨"com/example/vorgang/vorgang/QueryTimeoutScope", "isStatement", "()Z"⟩ : MethodName)) (z := (⟨"com/example/vorgang/vorgang/QueryTimeoutScope", "isStatement", "()Z"⟩ : MethodName)) hown (mvT hZ (hw _ (List.mem_of_getElem? (i := 26) rfl))) (mvT hZ (hw _ (List.mem_of_getElem? (i := 27) rfl))) (notFace_of_selects (args := #[]) (mvT hZ (hw _ (List.mem_of_getElem? (i := 29) rfl)))) (mvT hZ (hw _ (List.mem_of_getElem? (i := 29) rfl))) (mvT hZ (hw _ (List.mem_of_getElem? (i := 28) rfl))) (by decide) (backOf (W := 0) (rm8 l Z a0 hw w1 w2 w3 G [] b1 T34.heap n0 O34 g_b1 f40) hZ (hw _ (List.mem_of_getElem? (i := 30) rfl)) (hw _ (List.mem_of_getElem? (i := 2) rfl)) (by decide) (by decide)) q58a q58c (g := (mkF m 106 #[.val (.int p1), .val (.int p2), .val (.ref b1), .val (.int (0 : Int32)), .val (.int (1 : Int32)), .val (.int z12), .val (.int z14), .val (.int z16), .val (.int (1 : Int32)), .val (.int (0 : Int32)), .unset, .unset] [(.ref b1)])) rfl (by rw [hml]; rfl) (Steps.refl _) (argsL := []) (rest := []) (lenOf pd1 rfl) rfl (by show 2 * 0 + _ ≤ _; exact Nat.le_of_eq rfl) (hb hby at_106) (fun _ _ => ⟨rfl, e57, (by decide : 1 + 0 ≤ _), (by decide : 1 + 0 ≤ _)⟩)
        dsimp only [Pt.U, Pt.locs, Pt.cells, Pt.slots] at X59 l59 y59 z59 st59 hQ59
        subst l59 y59 z59
        have X59 : Stand p l e room_1 s m #[(.int p1), (.int p2)] below meth c T59 _ 1 1 := X59
        obtain ⟨rfl, Nq60, e61⟩ := hQ59
        have N59 := Fr.app N55 Nq60
        obtain ⟨fs, hr, hrun, hended, hW, hsame⟩ := X59.leave (v := some (.int (1 : Int32))) (fun h => by rw [hret] at h; cases h)
        refine ⟨_, _, pre49 _ ?_, hrun, hended, _, _, rfl, ?_, ⟨_, rfl⟩, hW, hsame.mono (by decide) (by decide)⟩
        ·
          show Steps p.tables e below (T34.setTop (mkF m 72 #[.val (.int p1), .val (.int p2), .val (.ref b1), .val (.int (0 : Int32)), .val (.int (1 : Int32)), .val (.int z12), .val (.int z14), .val (.int z16), .unset, .unset, .unset, .unset] [(.int (2 : Int32)), (.int (1 : Int32))])) _
          refine XS.icmpYes X34.here hx rfl (pc0 := 72) (pc' := 81) rfl (hb hby at_72) rfl (tlt (by decide : (1 : Int32) < (2 : Int32))).1 (by decide) (by decide) ?_
          show Steps p.tables e below (T34.setTop (mkF m 81 #[.val (.int p1), .val (.int p2), .val (.ref b1), .val (.int (0 : Int32)), .val (.int (1 : Int32)), .val (.int z12), .val (.int z14), .val (.int z16), .unset, .unset, .unset, .unset] [])) _
          refine XS.iload X34.here hx rfl (hb hby at_81) rfl ?_
          show Steps p.tables e below (T34.setTop (mkF m 83 #[.val (.int p1), .val (.int p2), .val (.ref b1), .val (.int (0 : Int32)), .val (.int (1 : Int32)), .val (.int z12), .val (.int z14), .val (.int z16), .unset, .unset, .unset, .unset] [(.int (1 : Int32))])) _
          refine XS.iconst X34.here hx rfl (hb hby at_83) ?_
          show Steps p.tables e below (T34.setTop (mkF m 84 #[.val (.int p1), .val (.int p2), .val (.ref b1), .val (.int (0 : Int32)), .val (.int (1 : Int32)), .val (.int z12), .val (.int z14), .val (.int z16), .unset, .unset, .unset, .unset] [(.int (3 : Int32)), (.int (1 : Int32))])) _
          refine XS.icmpYes X34.here hx rfl (pc0 := 84) (pc' := 93) rfl (hb hby at_84) rfl (tlt (by decide : (1 : Int32) < (3 : Int32))).1 (by decide) (by decide) ?_
          show Steps p.tables e below (T34.setTop (mkF m 93 #[.val (.int p1), .val (.int p2), .val (.ref b1), .val (.int (0 : Int32)), .val (.int (1 : Int32)), .val (.int z12), .val (.int z14), .val (.int z16), .unset, .unset, .unset, .unset] [])) _
          refine XS.aloadN X34.here hx rfl (hb hby at_93) rfl rfl ?_
          show Steps p.tables e below (T34.setTop (mkF m 94 #[.val (.int p1), .val (.int p2), .val (.ref b1), .val (.int (0 : Int32)), .val (.int (1 : Int32)), .val (.int z12), .val (.int z14), .val (.int z16), .unset, .unset, .unset, .unset] [(.ref b1)])) _
          refine st51.trans ?_
          show Steps p.tables e below (T51.setTop (mkF m 97 #[.val (.int p1), .val (.int p2), .val (.ref b1), .val (.int (0 : Int32)), .val (.int (1 : Int32)), .val (.int z12), .val (.int z14), .val (.int z16), .unset, .unset, .unset, .unset] [(.int (1 : Int32))])) _
          refine XS.istore X51.here hx rfl (hb hby at_97) rfl (l' := #[.val (.int p1), .val (.int p2), .val (.ref b1), .val (.int (0 : Int32)), .val (.int (1 : Int32)), .val (.int z12), .val (.int z14), .val (.int z16), .val (.int (1 : Int32)), .unset, .unset, .unset]) rfl ?_
          show Steps p.tables e below (T51.setTop (mkF m 99 #[.val (.int p1), .val (.int p2), .val (.ref b1), .val (.int (0 : Int32)), .val (.int (1 : Int32)), .val (.int z12), .val (.int z14), .val (.int z16), .val (.int (1 : Int32)), .unset, .unset, .unset] [])) _
          refine XS.aloadN X51.here hx rfl (hb hby at_99) rfl rfl ?_
          show Steps p.tables e below (T51.setTop (mkF m 100 #[.val (.int p1), .val (.int p2), .val (.ref b1), .val (.int (0 : Int32)), .val (.int (1 : Int32)), .val (.int z12), .val (.int z14), .val (.int z16), .val (.int (1 : Int32)), .unset, .unset, .unset] [(.ref b1)])) _
          refine st55.trans ?_
          show Steps p.tables e below (T55.setTop (mkF m 103 #[.val (.int p1), .val (.int p2), .val (.ref b1), .val (.int (0 : Int32)), .val (.int (1 : Int32)), .val (.int z12), .val (.int z14), .val (.int z16), .val (.int (1 : Int32)), .unset, .unset, .unset] [(.int (0 : Int32))])) _
          refine XS.istore X55.here hx rfl (hb hby at_103) rfl (l' := #[.val (.int p1), .val (.int p2), .val (.ref b1), .val (.int (0 : Int32)), .val (.int (1 : Int32)), .val (.int z12), .val (.int z14), .val (.int z16), .val (.int (1 : Int32)), .val (.int (0 : Int32)), .unset, .unset]) rfl ?_
          show Steps p.tables e below (T55.setTop (mkF m 105 #[.val (.int p1), .val (.int p2), .val (.ref b1), .val (.int (0 : Int32)), .val (.int (1 : Int32)), .val (.int z12), .val (.int z14), .val (.int z16), .val (.int (1 : Int32)), .val (.int (0 : Int32)), .unset, .unset] [])) _
          refine XS.aloadN X55.here hx rfl (hb hby at_105) rfl rfl ?_
          show Steps p.tables e below (T55.setTop (mkF m 106 #[.val (.int p1), .val (.int p2), .val (.ref b1), .val (.int (0 : Int32)), .val (.int (1 : Int32)), .val (.int z12), .val (.int z14), .val (.int z16), .val (.int (1 : Int32)), .val (.int (0 : Int32)), .unset, .unset] [(.ref b1)])) _
          refine st59.trans ?_
          show Steps p.tables e below (T59.setTop (mkF m 109 #[.val (.int p1), .val (.int p2), .val (.ref b1), .val (.int (0 : Int32)), .val (.int (1 : Int32)), .val (.int z12), .val (.int z14), .val (.int z16), .val (.int (1 : Int32)), .val (.int (0 : Int32)), .unset, .unset] [(.int (1 : Int32))])) _
          refine XS.istore X59.here hx rfl (hb hby at_109) rfl (l' := #[.val (.int p1), .val (.int p2), .val (.ref b1), .val (.int (0 : Int32)), .val (.int (1 : Int32)), .val (.int z12), .val (.int z14), .val (.int z16), .val (.int (1 : Int32)), .val (.int (0 : Int32)), .val (.int (1 : Int32)), .unset]) rfl ?_
          show Steps p.tables e below (T59.setTop (mkF m 111 #[.val (.int p1), .val (.int p2), .val (.ref b1), .val (.int (0 : Int32)), .val (.int (1 : Int32)), .val (.int z12), .val (.int z14), .val (.int z16), .val (.int (1 : Int32)), .val (.int (0 : Int32)), .val (.int (1 : Int32)), .unset] [])) _
          refine XS.iload X59.here hx rfl (hb hby at_111) rfl ?_
          show Steps p.tables e below (T59.setTop (mkF m 113 #[.val (.int p1), .val (.int p2), .val (.ref b1), .val (.int (0 : Int32)), .val (.int (1 : Int32)), .val (.int z12), .val (.int z14), .val (.int z16), .val (.int (1 : Int32)), .val (.int (0 : Int32)), .val (.int (1 : Int32)), .unset] [(.int (1 : Int32))])) _
          refine XS.iconst X59.here hx rfl (hb hby at_113) ?_
          show Steps p.tables e below (T59.setTop (mkF m 114 #[.val (.int p1), .val (.int p2), .val (.ref b1), .val (.int (0 : Int32)), .val (.int (1 : Int32)), .val (.int z12), .val (.int z14), .val (.int z16), .val (.int (1 : Int32)), .val (.int (0 : Int32)), .val (.int (1 : Int32)), .unset] [(.int (1 : Int32)), (.int (1 : Int32))])) _
          refine XS.icmpNo X59.here hx rfl (hb hby at_114) rfl (flt (by decide : ¬ ((1 : Int32) < (1 : Int32)))).1 ?_
          show Steps p.tables e below (T59.setTop (mkF m 117 #[.val (.int p1), .val (.int p2), .val (.ref b1), .val (.int (0 : Int32)), .val (.int (1 : Int32)), .val (.int z12), .val (.int z14), .val (.int z16), .val (.int (1 : Int32)), .val (.int (0 : Int32)), .val (.int (1 : Int32)), .unset] [])) _
          refine XS.iconst X59.here hx rfl (hb hby at_117) ?_
          show Steps p.tables e below (T59.setTop (mkF m 118 #[.val (.int p1), .val (.int p2), .val (.ref b1), .val (.int (0 : Int32)), .val (.int (1 : Int32)), .val (.int z12), .val (.int z14), .val (.int z16), .val (.int (1 : Int32)), .val (.int (0 : Int32)), .val (.int (1 : Int32)), .unset] [(.int (1 : Int32))])) _
          refine XS.goto X59.here hx rfl (pc0 := 118) (pc' := 122) rfl (hb hby at_118) (by decide) (by decide) ?_
          show Steps p.tables e below (T59.setTop (mkF m 122 #[.val (.int p1), .val (.int p2), .val (.ref b1), .val (.int (0 : Int32)), .val (.int (1 : Int32)), .val (.int z12), .val (.int z14), .val (.int z16), .val (.int (1 : Int32)), .val (.int (0 : Int32)), .val (.int (1 : Int32)), .unset] [(.int (1 : Int32))])) _
          refine XS.istore X59.here hx rfl (hb hby at_122) rfl (l' := #[.val (.int p1), .val (.int p2), .val (.ref b1), .val (.int (0 : Int32)), .val (.int (1 : Int32)), .val (.int z12), .val (.int z14), .val (.int z16), .val (.int (1 : Int32)), .val (.int (0 : Int32)), .val (.int (1 : Int32)), .val (.int (1 : Int32))]) rfl ?_
          show Steps p.tables e below (T59.setTop (mkF m 124 #[.val (.int p1), .val (.int p2), .val (.ref b1), .val (.int (0 : Int32)), .val (.int (1 : Int32)), .val (.int z12), .val (.int z14), .val (.int z16), .val (.int (1 : Int32)), .val (.int (0 : Int32)), .val (.int (1 : Int32)), .val (.int (1 : Int32))] [])) _
          refine XS.iloadN X59.here hx rfl (hb hby at_124) rfl ?_
          show Steps p.tables e below (T59.setTop (mkF m 125 #[.val (.int p1), .val (.int p2), .val (.ref b1), .val (.int (0 : Int32)), .val (.int (1 : Int32)), .val (.int z12), .val (.int z14), .val (.int z16), .val (.int (1 : Int32)), .val (.int (0 : Int32)), .val (.int (1 : Int32)), .val (.int (1 : Int32))] [(.int (0 : Int32))])) _
          refine XS.ifNo X59.here hx rfl (hb hby at_125) rfl ((if0 _ _).trans (teq (by decide : (0 : Int32) = (0 : Int32))).2) ?_
          show Steps p.tables e below (T59.setTop (mkF m 128 #[.val (.int p1), .val (.int p2), .val (.ref b1), .val (.int (0 : Int32)), .val (.int (1 : Int32)), .val (.int z12), .val (.int z14), .val (.int z16), .val (.int (1 : Int32)), .val (.int (0 : Int32)), .val (.int (1 : Int32)), .val (.int (1 : Int32))] [])) _
          refine XS.iload X59.here hx rfl (hb hby at_128) rfl ?_
          show Steps p.tables e below (T59.setTop (mkF m 130 #[.val (.int p1), .val (.int p2), .val (.ref b1), .val (.int (0 : Int32)), .val (.int (1 : Int32)), .val (.int z12), .val (.int z14), .val (.int z16), .val (.int (1 : Int32)), .val (.int (0 : Int32)), .val (.int (1 : Int32)), .val (.int (1 : Int32))] [(.int (1 : Int32))])) _
          refine XS.iload X59.here hx rfl (hb hby at_130) rfl ?_
          show Steps p.tables e below (T59.setTop (mkF m 132 #[.val (.int p1), .val (.int p2), .val (.ref b1), .val (.int (0 : Int32)), .val (.int (1 : Int32)), .val (.int z12), .val (.int z14), .val (.int z16), .val (.int (1 : Int32)), .val (.int (0 : Int32)), .val (.int (1 : Int32)), .val (.int (1 : Int32))] [(.int (1 : Int32)), (.int (1 : Int32))])) _
          refine XS.icmpNo X59.here hx rfl (hb hby at_132) rfl (teq (by decide : (1 : Int32) = (1 : Int32))).2 ?_
          show Steps p.tables e below (T59.setTop (mkF m 135 #[.val (.int p1), .val (.int p2), .val (.ref b1), .val (.int (0 : Int32)), .val (.int (1 : Int32)), .val (.int z12), .val (.int z14), .val (.int z16), .val (.int (1 : Int32)), .val (.int (0 : Int32)), .val (.int (1 : Int32)), .val (.int (1 : Int32))] [])) _
          refine XS.iload X59.here hx rfl (hb hby at_135) rfl ?_
          show Steps p.tables e below (T59.setTop (mkF m 137 #[.val (.int p1), .val (.int p2), .val (.ref b1), .val (.int (0 : Int32)), .val (.int (1 : Int32)), .val (.int z12), .val (.int z14), .val (.int z16), .val (.int (1 : Int32)), .val (.int (0 : Int32)), .val (.int (1 : Int32)), .val (.int (1 : Int32))] [(.int (1 : Int32))])) _
          refine XS.iload X59.here hx rfl (hb hby at_137) rfl ?_
          show Steps p.tables e below (T59.setTop (mkF m 139 #[.val (.int p1), .val (.int p2), .val (.ref b1), .val (.int (0 : Int32)), .val (.int (1 : Int32)), .val (.int z12), .val (.int z14), .val (.int z16), .val (.int (1 : Int32)), .val (.int (0 : Int32)), .val (.int (1 : Int32)), .val (.int (1 : Int32))] [(.int (0 : Int32)), (.int (1 : Int32))])) _
          refine XS.ifNo X59.here hx rfl (hb hby at_139) rfl ((if0 _ _).trans (teq (by decide : (0 : Int32) = (0 : Int32))).2) ?_
          show Steps p.tables e below (T59.setTop (mkF m 142 #[.val (.int p1), .val (.int p2), .val (.ref b1), .val (.int (0 : Int32)), .val (.int (1 : Int32)), .val (.int z12), .val (.int z14), .val (.int z16), .val (.int (1 : Int32)), .val (.int (0 : Int32)), .val (.int (1 : Int32)), .val (.int (1 : Int32))] [(.int (1 : Int32))])) _
          refine XS.iload X59.here hx rfl (hb hby at_142) rfl ?_
          show Steps p.tables e below (T59.setTop (mkF m 144 #[.val (.int p1), .val (.int p2), .val (.ref b1), .val (.int (0 : Int32)), .val (.int (1 : Int32)), .val (.int z12), .val (.int z14), .val (.int z16), .val (.int (1 : Int32)), .val (.int (0 : Int32)), .val (.int (1 : Int32)), .val (.int (1 : Int32))] [(.int (1 : Int32)), (.int (1 : Int32))])) _
          refine XS.ifNo X59.here hx rfl (hb hby at_144) rfl ((if0 _ _).trans (feq (by decide : ¬ ((1 : Int32) = (0 : Int32)))).1) ?_
          show Steps p.tables e below (T59.setTop (mkF m 147 #[.val (.int p1), .val (.int p2), .val (.ref b1), .val (.int (0 : Int32)), .val (.int (1 : Int32)), .val (.int z12), .val (.int z14), .val (.int z16), .val (.int (1 : Int32)), .val (.int (0 : Int32)), .val (.int (1 : Int32)), .val (.int (1 : Int32))] [(.int (1 : Int32))])) _
          refine XS.iconst X59.here hx rfl (hb hby at_147) ?_
          show Steps p.tables e below (T59.setTop (mkF m 148 #[.val (.int p1), .val (.int p2), .val (.ref b1), .val (.int (0 : Int32)), .val (.int (1 : Int32)), .val (.int z12), .val (.int z14), .val (.int z16), .val (.int (1 : Int32)), .val (.int (0 : Int32)), .val (.int (1 : Int32)), .val (.int (1 : Int32))] [(.int (1 : Int32)), (.int (1 : Int32))])) _
          refine XS.goto X59.here hx rfl (pc0 := 148) (pc' := 152) rfl (hb hby at_148) (by decide) (by decide) ?_
          show Steps p.tables e below (T59.setTop (mkF m 152 #[.val (.int p1), .val (.int p2), .val (.ref b1), .val (.int (0 : Int32)), .val (.int (1 : Int32)), .val (.int z12), .val (.int z14), .val (.int z16), .val (.int (1 : Int32)), .val (.int (0 : Int32)), .val (.int (1 : Int32)), .val (.int (1 : Int32))] [(.int (1 : Int32)), (.int (1 : Int32))])) _
          refine XS.icmpNo X59.here hx rfl (hb hby at_152) rfl (teq (by decide : (1 : Int32) = (1 : Int32))).2 ?_
          show Steps p.tables e below (T59.setTop (mkF m 155 #[.val (.int p1), .val (.int p2), .val (.ref b1), .val (.int (0 : Int32)), .val (.int (1 : Int32)), .val (.int z12), .val (.int z14), .val (.int z16), .val (.int (1 : Int32)), .val (.int (0 : Int32)), .val (.int (1 : Int32)), .val (.int (1 : Int32))] [])) _
          refine XS.iconst X59.here hx rfl (hb hby at_155) ?_
          show Steps p.tables e below (T59.setTop (mkF m 156 #[.val (.int p1), .val (.int p2), .val (.ref b1), .val (.int (0 : Int32)), .val (.int (1 : Int32)), .val (.int z12), .val (.int z14), .val (.int z16), .val (.int (1 : Int32)), .val (.int (0 : Int32)), .val (.int (1 : Int32)), .val (.int (1 : Int32))] [(.int (1 : Int32))])) _
          refine XS.goto X59.here hx rfl (pc0 := 156) (pc' := 160) rfl (hb hby at_156) (by decide) (by decide) ?_
          show Steps p.tables e below (T59.setTop (mkF m 160 #[.val (.int p1), .val (.int p2), .val (.ref b1), .val (.int (0 : Int32)), .val (.int (1 : Int32)), .val (.int z12), .val (.int z14), .val (.int z16), .val (.int (1 : Int32)), .val (.int (0 : Int32)), .val (.int (1 : Int32)), .val (.int (1 : Int32))] [(.int (1 : Int32))])) _
          exact retN X59 hx (t := .boolean) hret (by simp) (hb hby at_160) hr
        ·
          show Q0 n0 _ T59.heap _
          rw [e61]
          exact ⟨rfl, N59⟩
      ·
        obtain ⟨cq62, kq62, q62a, q62b, q62c⟩ := isOf hZ rfl f39
        obtain ⟨_, _, ⟨T63, L63, c63, n63⟩, -, X63, ⟨Lc63, hQ63, l63, y63, z63⟩, st63⟩ := X34.virtualBack hx (y := (⟨"com/example/vorgang/vorgang/QueryTimeoutScope", "found", "(Z)V"⟩ : MethodName)) (z := (⟨"com/example/vorgang/vorgang/QueryTimeoutScope", "found", "(Z)V"⟩ : MethodName)) hown (mvT hZ (hw _ (List.mem_of_getElem? (i := 33) rfl))) (mvT hZ (hw _ (List.mem_of_getElem? (i := 34) rfl))) (notFace_of_selects (args := #[]) (mvT hZ (hw _ (List.mem_of_getElem? (i := 36) rfl)))) (mvT hZ (hw _ (List.mem_of_getElem? (i := 36) rfl))) (mvT hZ (hw _ (List.mem_of_getElem? (i := 35) rfl))) (by decide) (backOf (W := 0) (rm9 l Z a0 hw w1 w2 w3 G [] b1 z14 T34.heap n0 O34 g_b1 f39 f40) hZ (hw _ (List.mem_of_getElem? (i := 37) rfl)) (hw _ (List.mem_of_getElem? (i := 2) rfl)) (by decide) (by decide)) q62a q62c (g := (mkF m 78 #[.val (.int p1), .val (.int p2), .val (.ref b1), .val (.int (0 : Int32)), .val (.int (p1 &&& (3 : Int32))), .val (.int z12), .val (.int z14), .val (.int z16), .unset, .unset, .unset, .unset] [(.int z14), (.ref b1)])) rfl (by rw [hml]; rfl) (Steps.refl _) (argsL := [(.int z14)]) (rest := []) (lenOf pd2 rfl) rfl (by show 2 * 0 + _ ≤ _; exact Nat.le_of_eq rfl) (hb hby at_78) (fun _ _ => ⟨rfl, rfl, (by decide : 1 + 0 ≤ _), (by decide : 1 + 0 ≤ _)⟩)
        dsimp only [Pt.U, Pt.locs, Pt.cells, Pt.slots] at X63 l63 y63 z63 st63 hQ63
        subst l63 y63 z63
        have pre64 : ∀ t, Steps p.tables e below (T34.setTop (mkF m 78 #[.val (.int p1), .val (.int p2), .val (.ref b1), .val (.int (0 : Int32)), .val (.int (p1 &&& (3 : Int32))), .val (.int z12), .val (.int z14), .val (.int z16), .unset, .unset, .unset, .unset] [(.int z14), (.ref b1)])) t → Steps p.tables e below (s₁.setTop (entryFrame m #[(.int p1), (.int p2)] maxLocals)) t := fun t k => by
          refine pre46 _ ?_
          show Steps p.tables e below (T34.setTop (mkF m 72 #[.val (.int p1), .val (.int p2), .val (.ref b1), .val (.int (0 : Int32)), .val (.int (p1 &&& (3 : Int32))), .val (.int z12), .val (.int z14), .val (.int z16), .unset, .unset, .unset, .unset] [(.int (2 : Int32)), (.int (p1 &&& (3 : Int32)))])) _
          refine XS.icmpNo X34.here hx rfl (hb hby at_72) rfl (flt hc47).1 ?_
          show Steps p.tables e below (T34.setTop (mkF m 75 #[.val (.int p1), .val (.int p2), .val (.ref b1), .val (.int (0 : Int32)), .val (.int (p1 &&& (3 : Int32))), .val (.int z12), .val (.int z14), .val (.int z16), .unset, .unset, .unset, .unset] [])) _
          refine XS.aloadN X34.here hx rfl (hb hby at_75) rfl rfl ?_
          show Steps p.tables e below (T34.setTop (mkF m 76 #[.val (.int p1), .val (.int p2), .val (.ref b1), .val (.int (0 : Int32)), .val (.int (p1 &&& (3 : Int32))), .val (.int z12), .val (.int z14), .val (.int z16), .unset, .unset, .unset, .unset] [(.ref b1)])) _
          refine XS.iload X34.here hx rfl (hb hby at_76) rfl ?_
          exact k
        have X63 : Stand p l e room_1 s m #[(.int p1), (.int p2)] below meth c T63 _ 1 1 := X63
        rcases hQ63 with ⟨hc65, rfl, Nq66, K67, f68, f69⟩ | ⟨hc70, rfl, Nq71, K72, f73, f74⟩
        ·
          have N63 := Fr.app N34 Nq66
          have M63 : h0.size ≤ T63.heap.size := Nat.le_trans M34 K67.1
          have O63 := Old.keep O34 K67 (allS g_b1 all0)
          have pre75 : ∀ t, Steps p.tables e below (T63.setTop (mkF m 84 #[.val (.int p1), .val (.int p2), .val (.ref b1), .val (.int (0 : Int32)), .val (.int (p1 &&& (3 : Int32))), .val (.int z12), .val (.int z14), .val (.int z16), .unset, .unset, .unset, .unset] [(.int (3 : Int32)), (.int (p1 &&& (3 : Int32)))])) t → Steps p.tables e below (s₁.setTop (entryFrame m #[(.int p1), (.int p2)] maxLocals)) t := fun t k => by
            refine pre64 _ ?_
            show Steps p.tables e below (T34.setTop (mkF m 78 #[.val (.int p1), .val (.int p2), .val (.ref b1), .val (.int (0 : Int32)), .val (.int (p1 &&& (3 : Int32))), .val (.int z12), .val (.int z14), .val (.int z16), .unset, .unset, .unset, .unset] [(.int z14), (.ref b1)])) _
            refine st63.trans ?_
            show Steps p.tables e below (T63.setTop (mkF m 81 #[.val (.int p1), .val (.int p2), .val (.ref b1), .val (.int (0 : Int32)), .val (.int (p1 &&& (3 : Int32))), .val (.int z12), .val (.int z14), .val (.int z16), .unset, .unset, .unset, .unset] [])) _
            refine XS.iload X63.here hx rfl (hb hby at_81) rfl ?_
            show Steps p.tables e below (T63.setTop (mkF m 83 #[.val (.int p1), .val (.int p2), .val (.ref b1), .val (.int (0 : Int32)), .val (.int (p1 &&& (3 : Int32))), .val (.int z12), .val (.int z14), .val (.int z16), .unset, .unset, .unset, .unset] [(.int (p1 &&& (3 : Int32)))])) _
            refine XS.iconst X63.here hx rfl (hb hby at_83) ?_
            exact k
          by_cases hc76 : (p1 &&& (3 : Int32)) < (3 : Int32)
          ·
            have hq77 : (p1 &&& (3 : Int32)) = (2 : Int32) := (own_geq (n := 2) (k := (2 : Int32)) (by decide) (by have q0 := own_and (x := p1) (k := (3 : Int32)) (n := 3) (by decide) (by decide); have q1 := own_nlt1 (n := 1) (k := (1 : Int32)) (by decide) hc18; have q2 := own_nlt1 (n := 2) (k := (2 : Int32)) (by decide) hc47; have q3 := own_lt1 (n := 3) (k := (3 : Int32)) (by decide) hc76; omega))
            have pre78 : ∀ t, Steps p.tables e below (T63.setTop (mkF m 84 #[.val (.int p1), .val (.int p2), .val (.ref b1), .val (.int (0 : Int32)), .val (.int (2 : Int32)), .val (.int z12), .val (.int z14), .val (.int z16), .unset, .unset, .unset, .unset] [(.int (3 : Int32)), (.int (2 : Int32))])) t → Steps p.tables e below (s₁.setTop (entryFrame m #[(.int p1), (.int p2)] maxLocals)) t := fun t k => pre75 t (by rw [hq77]; exact k)
            obtain ⟨cq79, kq79, q79a, q79b, q79c⟩ := isOf hZ rfl f68
            obtain ⟨_, _, ⟨T80, L80, c80, n80⟩, -, X80, ⟨Lc80, hQ80, l80, y80, z80⟩, st80⟩ := X63.virtualBack hx (y := (⟨"com/example/vorgang/vorgang/QueryTimeoutScope", "isKnown", "()Z"⟩ : MethodName)) (z := (⟨"com/example/vorgang/vorgang/QueryTimeoutScope", "isKnown", "()Z"⟩ : MethodName)) hown (mvT hZ (hw _ (List.mem_of_getElem? (i := 14) rfl))) (mvT hZ (hw _ (List.mem_of_getElem? (i := 15) rfl))) (notFace_of_selects (args := #[]) (mvT hZ (hw _ (List.mem_of_getElem? (i := 17) rfl)))) (mvT hZ (hw _ (List.mem_of_getElem? (i := 17) rfl))) (mvT hZ (hw _ (List.mem_of_getElem? (i := 16) rfl))) (by decide) (backOf (W := 0) (rm6 l Z a0 hw w1 w2 w3 G [] b1 T63.heap n0 O63 g_b1 f69) hZ (hw _ (List.mem_of_getElem? (i := 18) rfl)) (hw _ (List.mem_of_getElem? (i := 2) rfl)) (by decide) (by decide)) q79a q79c (g := (mkF m 94 #[.val (.int p1), .val (.int p2), .val (.ref b1), .val (.int (0 : Int32)), .val (.int (2 : Int32)), .val (.int z12), .val (.int z14), .val (.int z16), .unset, .unset, .unset, .unset] [(.ref b1)])) rfl (by rw [hml]; rfl) (Steps.refl _) (argsL := []) (rest := []) (lenOf pd1 rfl) rfl (by show 2 * 0 + _ ≤ _; exact Nat.le_of_eq rfl) (hb hby at_94) (fun _ _ => ⟨rfl, rfl, (by decide : 1 + 0 ≤ _), (by decide : 1 + 0 ≤ _)⟩)
            dsimp only [Pt.U, Pt.locs, Pt.cells, Pt.slots] at X80 l80 y80 z80 st80 hQ80
            subst l80 y80 z80
            have X80 : Stand p l e room_1 s m #[(.int p1), (.int p2)] below meth c T80 _ 1 1 := X80
            obtain ⟨rfl, Nq81, e82⟩ := hQ80
            have N80 := Fr.app N63 Nq81
            obtain ⟨cq83, kq83, q83a, q83b, q83c⟩ := isOf hZ e82 f68
            obtain ⟨_, _, ⟨T84, L84, c84, n84⟩, -, X84, ⟨Lc84, hQ84, l84, y84, z84⟩, st84⟩ := X80.virtualBack hx (y := (⟨"com/example/vorgang/vorgang/QueryTimeoutScope", "isSession", "()Z"⟩ : MethodName)) (z := (⟨"com/example/vorgang/vorgang/QueryTimeoutScope", "isSession", "()Z"⟩ : MethodName)) hown (mvT hZ (hw _ (List.mem_of_getElem? (i := 19) rfl))) (mvT hZ (hw _ (List.mem_of_getElem? (i := 20) rfl))) (notFace_of_selects (args := #[]) (mvT hZ (hw _ (List.mem_of_getElem? (i := 22) rfl)))) (mvT hZ (hw _ (List.mem_of_getElem? (i := 22) rfl))) (mvT hZ (hw _ (List.mem_of_getElem? (i := 21) rfl))) (by decide) (backOf (W := 0) (rm7 l Z a0 hw w1 w2 w3 G [] b1 T63.heap n0 O63 g_b1 f69) hZ (hw _ (List.mem_of_getElem? (i := 23) rfl)) (hw _ (List.mem_of_getElem? (i := 2) rfl)) (by decide) (by decide)) q83a q83c (g := (mkF m 100 #[.val (.int p1), .val (.int p2), .val (.ref b1), .val (.int (0 : Int32)), .val (.int (2 : Int32)), .val (.int z12), .val (.int z14), .val (.int z16), .val (.int (1 : Int32)), .unset, .unset, .unset] [(.ref b1)])) rfl (by rw [hml]; rfl) (Steps.refl _) (argsL := []) (rest := []) (lenOf pd1 rfl) rfl (by show 2 * 0 + _ ≤ _; exact Nat.le_of_eq rfl) (hb hby at_100) (fun _ _ => ⟨rfl, e82, (by decide : 1 + 0 ≤ _), (by decide : 1 + 0 ≤ _)⟩)
            dsimp only [Pt.U, Pt.locs, Pt.cells, Pt.slots] at X84 l84 y84 z84 st84 hQ84
            subst l84 y84 z84
            have X84 : Stand p l e room_1 s m #[(.int p1), (.int p2)] below meth c T84 _ 1 1 := X84
            obtain ⟨rfl, Nq85, e86⟩ := hQ84
            have N84 := Fr.app N80 Nq85
            obtain ⟨cq87, kq87, q87a, q87b, q87c⟩ := isOf hZ e86 f68
            obtain ⟨_, _, ⟨T88, L88, c88, n88⟩, -, X88, ⟨Lc88, hQ88, l88, y88, z88⟩, st88⟩ := X84.virtualBack hx (y := (⟨"com/example/vorgang/vorgang/QueryTimeoutScope", "isStatement", "()Z"⟩ : MethodName)) (z := (⟨"com/example/vorgang/vorgang/QueryTimeoutScope", "isStatement", "()Z"⟩ : MethodName)) hown (mvT hZ (hw _ (List.mem_of_getElem? (i := 26) rfl))) (mvT hZ (hw _ (List.mem_of_getElem? (i := 27) rfl))) (notFace_of_selects (args := #[]) (mvT hZ (hw _ (List.mem_of_getElem? (i := 29) rfl)))) (mvT hZ (hw _ (List.mem_of_getElem? (i := 29) rfl))) (mvT hZ (hw _ (List.mem_of_getElem? (i := 28) rfl))) (by decide) (backOf (W := 0) (rm8 l Z a0 hw w1 w2 w3 G [] b1 T63.heap n0 O63 g_b1 f69) hZ (hw _ (List.mem_of_getElem? (i := 30) rfl)) (hw _ (List.mem_of_getElem? (i := 2) rfl)) (by decide) (by decide)) q87a q87c (g := (mkF m 106 #[.val (.int p1), .val (.int p2), .val (.ref b1), .val (.int (0 : Int32)), .val (.int (2 : Int32)), .val (.int z12), .val (.int z14), .val (.int z16), .val (.int (1 : Int32)), .val (.int (0 : Int32)), .unset, .unset] [(.ref b1)])) rfl (by rw [hml]; rfl) (Steps.refl _) (argsL := []) (rest := []) (lenOf pd1 rfl) rfl (by show 2 * 0 + _ ≤ _; exact Nat.le_of_eq rfl) (hb hby at_106) (fun _ _ => ⟨rfl, e86, (by decide : 1 + 0 ≤ _), (by decide : 1 + 0 ≤ _)⟩)
            dsimp only [Pt.U, Pt.locs, Pt.cells, Pt.slots] at X88 l88 y88 z88 st88 hQ88
            subst l88 y88 z88
            have X88 : Stand p l e room_1 s m #[(.int p1), (.int p2)] below meth c T88 _ 1 1 := X88
            obtain ⟨rfl, Nq89, e90⟩ := hQ88
            have N88 := Fr.app N84 Nq89
            obtain ⟨fs, hr, hrun, hended, hW, hsame⟩ := X88.leave (v := some (.int (1 : Int32))) (fun h => by rw [hret] at h; cases h)
            refine ⟨_, _, pre78 _ ?_, hrun, hended, _, _, rfl, ?_, ⟨_, rfl⟩, hW, hsame.mono (by decide) (by decide)⟩
            ·
              show Steps p.tables e below (T63.setTop (mkF m 84 #[.val (.int p1), .val (.int p2), .val (.ref b1), .val (.int (0 : Int32)), .val (.int (2 : Int32)), .val (.int z12), .val (.int z14), .val (.int z16), .unset, .unset, .unset, .unset] [(.int (3 : Int32)), (.int (2 : Int32))])) _
              refine XS.icmpYes X63.here hx rfl (pc0 := 84) (pc' := 93) rfl (hb hby at_84) rfl (tlt (by decide : (2 : Int32) < (3 : Int32))).1 (by decide) (by decide) ?_
              show Steps p.tables e below (T63.setTop (mkF m 93 #[.val (.int p1), .val (.int p2), .val (.ref b1), .val (.int (0 : Int32)), .val (.int (2 : Int32)), .val (.int z12), .val (.int z14), .val (.int z16), .unset, .unset, .unset, .unset] [])) _
              refine XS.aloadN X63.here hx rfl (hb hby at_93) rfl rfl ?_
              show Steps p.tables e below (T63.setTop (mkF m 94 #[.val (.int p1), .val (.int p2), .val (.ref b1), .val (.int (0 : Int32)), .val (.int (2 : Int32)), .val (.int z12), .val (.int z14), .val (.int z16), .unset, .unset, .unset, .unset] [(.ref b1)])) _
              refine st80.trans ?_
              show Steps p.tables e below (T80.setTop (mkF m 97 #[.val (.int p1), .val (.int p2), .val (.ref b1), .val (.int (0 : Int32)), .val (.int (2 : Int32)), .val (.int z12), .val (.int z14), .val (.int z16), .unset, .unset, .unset, .unset] [(.int (1 : Int32))])) _
              refine XS.istore X80.here hx rfl (hb hby at_97) rfl (l' := #[.val (.int p1), .val (.int p2), .val (.ref b1), .val (.int (0 : Int32)), .val (.int (2 : Int32)), .val (.int z12), .val (.int z14), .val (.int z16), .val (.int (1 : Int32)), .unset, .unset, .unset]) rfl ?_
              show Steps p.tables e below (T80.setTop (mkF m 99 #[.val (.int p1), .val (.int p2), .val (.ref b1), .val (.int (0 : Int32)), .val (.int (2 : Int32)), .val (.int z12), .val (.int z14), .val (.int z16), .val (.int (1 : Int32)), .unset, .unset, .unset] [])) _
              refine XS.aloadN X80.here hx rfl (hb hby at_99) rfl rfl ?_
              show Steps p.tables e below (T80.setTop (mkF m 100 #[.val (.int p1), .val (.int p2), .val (.ref b1), .val (.int (0 : Int32)), .val (.int (2 : Int32)), .val (.int z12), .val (.int z14), .val (.int z16), .val (.int (1 : Int32)), .unset, .unset, .unset] [(.ref b1)])) _
              refine st84.trans ?_
              show Steps p.tables e below (T84.setTop (mkF m 103 #[.val (.int p1), .val (.int p2), .val (.ref b1), .val (.int (0 : Int32)), .val (.int (2 : Int32)), .val (.int z12), .val (.int z14), .val (.int z16), .val (.int (1 : Int32)), .unset, .unset, .unset] [(.int (0 : Int32))])) _
              refine XS.istore X84.here hx rfl (hb hby at_103) rfl (l' := #[.val (.int p1), .val (.int p2), .val (.ref b1), .val (.int (0 : Int32)), .val (.int (2 : Int32)), .val (.int z12), .val (.int z14), .val (.int z16), .val (.int (1 : Int32)), .val (.int (0 : Int32)), .unset, .unset]) rfl ?_
              show Steps p.tables e below (T84.setTop (mkF m 105 #[.val (.int p1), .val (.int p2), .val (.ref b1), .val (.int (0 : Int32)), .val (.int (2 : Int32)), .val (.int z12), .val (.int z14), .val (.int z16), .val (.int (1 : Int32)), .val (.int (0 : Int32)), .unset, .unset] [])) _
              refine XS.aloadN X84.here hx rfl (hb hby at_105) rfl rfl ?_
              show Steps p.tables e below (T84.setTop (mkF m 106 #[.val (.int p1), .val (.int p2), .val (.ref b1), .val (.int (0 : Int32)), .val (.int (2 : Int32)), .val (.int z12), .val (.int z14), .val (.int z16), .val (.int (1 : Int32)), .val (.int (0 : Int32)), .unset, .unset] [(.ref b1)])) _
              refine st88.trans ?_
              show Steps p.tables e below (T88.setTop (mkF m 109 #[.val (.int p1), .val (.int p2), .val (.ref b1), .val (.int (0 : Int32)), .val (.int (2 : Int32)), .val (.int z12), .val (.int z14), .val (.int z16), .val (.int (1 : Int32)), .val (.int (0 : Int32)), .unset, .unset] [(.int (1 : Int32))])) _
              refine XS.istore X88.here hx rfl (hb hby at_109) rfl (l' := #[.val (.int p1), .val (.int p2), .val (.ref b1), .val (.int (0 : Int32)), .val (.int (2 : Int32)), .val (.int z12), .val (.int z14), .val (.int z16), .val (.int (1 : Int32)), .val (.int (0 : Int32)), .val (.int (1 : Int32)), .unset]) rfl ?_
              show Steps p.tables e below (T88.setTop (mkF m 111 #[.val (.int p1), .val (.int p2), .val (.ref b1), .val (.int (0 : Int32)), .val (.int (2 : Int32)), .val (.int z12), .val (.int z14), .val (.int z16), .val (.int (1 : Int32)), .val (.int (0 : Int32)), .val (.int (1 : Int32)), .unset] [])) _
              refine XS.iload X88.here hx rfl (hb hby at_111) rfl ?_
              show Steps p.tables e below (T88.setTop (mkF m 113 #[.val (.int p1), .val (.int p2), .val (.ref b1), .val (.int (0 : Int32)), .val (.int (2 : Int32)), .val (.int z12), .val (.int z14), .val (.int z16), .val (.int (1 : Int32)), .val (.int (0 : Int32)), .val (.int (1 : Int32)), .unset] [(.int (2 : Int32))])) _
              refine XS.iconst X88.here hx rfl (hb hby at_113) ?_
              show Steps p.tables e below (T88.setTop (mkF m 114 #[.val (.int p1), .val (.int p2), .val (.ref b1), .val (.int (0 : Int32)), .val (.int (2 : Int32)), .val (.int z12), .val (.int z14), .val (.int z16), .val (.int (1 : Int32)), .val (.int (0 : Int32)), .val (.int (1 : Int32)), .unset] [(.int (1 : Int32)), (.int (2 : Int32))])) _
              refine XS.icmpNo X88.here hx rfl (hb hby at_114) rfl (flt (by decide : ¬ ((2 : Int32) < (1 : Int32)))).1 ?_
              show Steps p.tables e below (T88.setTop (mkF m 117 #[.val (.int p1), .val (.int p2), .val (.ref b1), .val (.int (0 : Int32)), .val (.int (2 : Int32)), .val (.int z12), .val (.int z14), .val (.int z16), .val (.int (1 : Int32)), .val (.int (0 : Int32)), .val (.int (1 : Int32)), .unset] [])) _
              refine XS.iconst X88.here hx rfl (hb hby at_117) ?_
              show Steps p.tables e below (T88.setTop (mkF m 118 #[.val (.int p1), .val (.int p2), .val (.ref b1), .val (.int (0 : Int32)), .val (.int (2 : Int32)), .val (.int z12), .val (.int z14), .val (.int z16), .val (.int (1 : Int32)), .val (.int (0 : Int32)), .val (.int (1 : Int32)), .unset] [(.int (1 : Int32))])) _
              refine XS.goto X88.here hx rfl (pc0 := 118) (pc' := 122) rfl (hb hby at_118) (by decide) (by decide) ?_
              show Steps p.tables e below (T88.setTop (mkF m 122 #[.val (.int p1), .val (.int p2), .val (.ref b1), .val (.int (0 : Int32)), .val (.int (2 : Int32)), .val (.int z12), .val (.int z14), .val (.int z16), .val (.int (1 : Int32)), .val (.int (0 : Int32)), .val (.int (1 : Int32)), .unset] [(.int (1 : Int32))])) _
              refine XS.istore X88.here hx rfl (hb hby at_122) rfl (l' := #[.val (.int p1), .val (.int p2), .val (.ref b1), .val (.int (0 : Int32)), .val (.int (2 : Int32)), .val (.int z12), .val (.int z14), .val (.int z16), .val (.int (1 : Int32)), .val (.int (0 : Int32)), .val (.int (1 : Int32)), .val (.int (1 : Int32))]) rfl ?_
              show Steps p.tables e below (T88.setTop (mkF m 124 #[.val (.int p1), .val (.int p2), .val (.ref b1), .val (.int (0 : Int32)), .val (.int (2 : Int32)), .val (.int z12), .val (.int z14), .val (.int z16), .val (.int (1 : Int32)), .val (.int (0 : Int32)), .val (.int (1 : Int32)), .val (.int (1 : Int32))] [])) _
              refine XS.iloadN X88.here hx rfl (hb hby at_124) rfl ?_
              show Steps p.tables e below (T88.setTop (mkF m 125 #[.val (.int p1), .val (.int p2), .val (.ref b1), .val (.int (0 : Int32)), .val (.int (2 : Int32)), .val (.int z12), .val (.int z14), .val (.int z16), .val (.int (1 : Int32)), .val (.int (0 : Int32)), .val (.int (1 : Int32)), .val (.int (1 : Int32))] [(.int (0 : Int32))])) _
              refine XS.ifNo X88.here hx rfl (hb hby at_125) rfl ((if0 _ _).trans (teq (by decide : (0 : Int32) = (0 : Int32))).2) ?_
              show Steps p.tables e below (T88.setTop (mkF m 128 #[.val (.int p1), .val (.int p2), .val (.ref b1), .val (.int (0 : Int32)), .val (.int (2 : Int32)), .val (.int z12), .val (.int z14), .val (.int z16), .val (.int (1 : Int32)), .val (.int (0 : Int32)), .val (.int (1 : Int32)), .val (.int (1 : Int32))] [])) _
              refine XS.iload X88.here hx rfl (hb hby at_128) rfl ?_
              show Steps p.tables e below (T88.setTop (mkF m 130 #[.val (.int p1), .val (.int p2), .val (.ref b1), .val (.int (0 : Int32)), .val (.int (2 : Int32)), .val (.int z12), .val (.int z14), .val (.int z16), .val (.int (1 : Int32)), .val (.int (0 : Int32)), .val (.int (1 : Int32)), .val (.int (1 : Int32))] [(.int (1 : Int32))])) _
              refine XS.iload X88.here hx rfl (hb hby at_130) rfl ?_
              show Steps p.tables e below (T88.setTop (mkF m 132 #[.val (.int p1), .val (.int p2), .val (.ref b1), .val (.int (0 : Int32)), .val (.int (2 : Int32)), .val (.int z12), .val (.int z14), .val (.int z16), .val (.int (1 : Int32)), .val (.int (0 : Int32)), .val (.int (1 : Int32)), .val (.int (1 : Int32))] [(.int (1 : Int32)), (.int (1 : Int32))])) _
              refine XS.icmpNo X88.here hx rfl (hb hby at_132) rfl (teq (by decide : (1 : Int32) = (1 : Int32))).2 ?_
              show Steps p.tables e below (T88.setTop (mkF m 135 #[.val (.int p1), .val (.int p2), .val (.ref b1), .val (.int (0 : Int32)), .val (.int (2 : Int32)), .val (.int z12), .val (.int z14), .val (.int z16), .val (.int (1 : Int32)), .val (.int (0 : Int32)), .val (.int (1 : Int32)), .val (.int (1 : Int32))] [])) _
              refine XS.iload X88.here hx rfl (hb hby at_135) rfl ?_
              show Steps p.tables e below (T88.setTop (mkF m 137 #[.val (.int p1), .val (.int p2), .val (.ref b1), .val (.int (0 : Int32)), .val (.int (2 : Int32)), .val (.int z12), .val (.int z14), .val (.int z16), .val (.int (1 : Int32)), .val (.int (0 : Int32)), .val (.int (1 : Int32)), .val (.int (1 : Int32))] [(.int (1 : Int32))])) _
              refine XS.iload X88.here hx rfl (hb hby at_137) rfl ?_
              show Steps p.tables e below (T88.setTop (mkF m 139 #[.val (.int p1), .val (.int p2), .val (.ref b1), .val (.int (0 : Int32)), .val (.int (2 : Int32)), .val (.int z12), .val (.int z14), .val (.int z16), .val (.int (1 : Int32)), .val (.int (0 : Int32)), .val (.int (1 : Int32)), .val (.int (1 : Int32))] [(.int (0 : Int32)), (.int (1 : Int32))])) _
              refine XS.ifNo X88.here hx rfl (hb hby at_139) rfl ((if0 _ _).trans (teq (by decide : (0 : Int32) = (0 : Int32))).2) ?_
              show Steps p.tables e below (T88.setTop (mkF m 142 #[.val (.int p1), .val (.int p2), .val (.ref b1), .val (.int (0 : Int32)), .val (.int (2 : Int32)), .val (.int z12), .val (.int z14), .val (.int z16), .val (.int (1 : Int32)), .val (.int (0 : Int32)), .val (.int (1 : Int32)), .val (.int (1 : Int32))] [(.int (1 : Int32))])) _
              refine XS.iload X88.here hx rfl (hb hby at_142) rfl ?_
              show Steps p.tables e below (T88.setTop (mkF m 144 #[.val (.int p1), .val (.int p2), .val (.ref b1), .val (.int (0 : Int32)), .val (.int (2 : Int32)), .val (.int z12), .val (.int z14), .val (.int z16), .val (.int (1 : Int32)), .val (.int (0 : Int32)), .val (.int (1 : Int32)), .val (.int (1 : Int32))] [(.int (1 : Int32)), (.int (1 : Int32))])) _
              refine XS.ifNo X88.here hx rfl (hb hby at_144) rfl ((if0 _ _).trans (feq (by decide : ¬ ((1 : Int32) = (0 : Int32)))).1) ?_
              show Steps p.tables e below (T88.setTop (mkF m 147 #[.val (.int p1), .val (.int p2), .val (.ref b1), .val (.int (0 : Int32)), .val (.int (2 : Int32)), .val (.int z12), .val (.int z14), .val (.int z16), .val (.int (1 : Int32)), .val (.int (0 : Int32)), .val (.int (1 : Int32)), .val (.int (1 : Int32))] [(.int (1 : Int32))])) _
              refine XS.iconst X88.here hx rfl (hb hby at_147) ?_
              show Steps p.tables e below (T88.setTop (mkF m 148 #[.val (.int p1), .val (.int p2), .val (.ref b1), .val (.int (0 : Int32)), .val (.int (2 : Int32)), .val (.int z12), .val (.int z14), .val (.int z16), .val (.int (1 : Int32)), .val (.int (0 : Int32)), .val (.int (1 : Int32)), .val (.int (1 : Int32))] [(.int (1 : Int32)), (.int (1 : Int32))])) _
              refine XS.goto X88.here hx rfl (pc0 := 148) (pc' := 152) rfl (hb hby at_148) (by decide) (by decide) ?_
              show Steps p.tables e below (T88.setTop (mkF m 152 #[.val (.int p1), .val (.int p2), .val (.ref b1), .val (.int (0 : Int32)), .val (.int (2 : Int32)), .val (.int z12), .val (.int z14), .val (.int z16), .val (.int (1 : Int32)), .val (.int (0 : Int32)), .val (.int (1 : Int32)), .val (.int (1 : Int32))] [(.int (1 : Int32)), (.int (1 : Int32))])) _
              refine XS.icmpNo X88.here hx rfl (hb hby at_152) rfl (teq (by decide : (1 : Int32) = (1 : Int32))).2 ?_
              show Steps p.tables e below (T88.setTop (mkF m 155 #[.val (.int p1), .val (.int p2), .val (.ref b1), .val (.int (0 : Int32)), .val (.int (2 : Int32)), .val (.int z12), .val (.int z14), .val (.int z16), .val (.int (1 : Int32)), .val (.int (0 : Int32)), .val (.int (1 : Int32)), .val (.int (1 : Int32))] [])) _
              refine XS.iconst X88.here hx rfl (hb hby at_155) ?_
              show Steps p.tables e below (T88.setTop (mkF m 156 #[.val (.int p1), .val (.int p2), .val (.ref b1), .val (.int (0 : Int32)), .val (.int (2 : Int32)), .val (.int z12), .val (.int z14), .val (.int z16), .val (.int (1 : Int32)), .val (.int (0 : Int32)), .val (.int (1 : Int32)), .val (.int (1 : Int32))] [(.int (1 : Int32))])) _
              refine XS.goto X88.here hx rfl (pc0 := 156) (pc' := 160) rfl (hb hby at_156) (by decide) (by decide) ?_
              show Steps p.tables e below (T88.setTop (mkF m 160 #[.val (.int p1), .val (.int p2), .val (.ref b1), .val (.int (0 : Int32)), .val (.int (2 : Int32)), .val (.int z12), .val (.int z14), .val (.int z16), .val (.int (1 : Int32)), .val (.int (0 : Int32)), .val (.int (1 : Int32)), .val (.int (1 : Int32))] [(.int (1 : Int32))])) _
              exact retN X88 hx (t := .boolean) hret (by simp) (hb hby at_160) hr
            ·
              show Q0 n0 _ T88.heap _
              rw [e90]
              exact ⟨rfl, N88⟩
          ·
            have hq91 : (p1 &&& (3 : Int32)) = (3 : Int32) := (own_geq (n := 3) (k := (3 : Int32)) (by decide) (by have q0 := own_and (x := p1) (k := (3 : Int32)) (n := 3) (by decide) (by decide); have q1 := own_nlt1 (n := 1) (k := (1 : Int32)) (by decide) hc18; have q2 := own_nlt1 (n := 2) (k := (2 : Int32)) (by decide) hc47; have q3 := own_nlt1 (n := 3) (k := (3 : Int32)) (by decide) hc76; omega))
            have pre92 : ∀ t, Steps p.tables e below (T63.setTop (mkF m 84 #[.val (.int p1), .val (.int p2), .val (.ref b1), .val (.int (0 : Int32)), .val (.int (3 : Int32)), .val (.int z12), .val (.int z14), .val (.int z16), .unset, .unset, .unset, .unset] [(.int (3 : Int32)), (.int (3 : Int32))])) t → Steps p.tables e below (s₁.setTop (entryFrame m #[(.int p1), (.int p2)] maxLocals)) t := fun t k => pre75 t (by rw [hq91]; exact k)
            obtain ⟨cq93, kq93, q93a, q93b, q93c⟩ := isOf hZ rfl f68
            obtain ⟨_, _, ⟨T94, L94, c94, n94⟩, -, X94, ⟨Lc94, hQ94, l94, y94, z94⟩, st94⟩ := X63.virtualBack hx (y := (⟨"com/example/vorgang/vorgang/QueryTimeoutScope", "found", "(Z)V"⟩ : MethodName)) (z := (⟨"com/example/vorgang/vorgang/QueryTimeoutScope", "found", "(Z)V"⟩ : MethodName)) hown (mvT hZ (hw _ (List.mem_of_getElem? (i := 33) rfl))) (mvT hZ (hw _ (List.mem_of_getElem? (i := 34) rfl))) (notFace_of_selects (args := #[]) (mvT hZ (hw _ (List.mem_of_getElem? (i := 36) rfl)))) (mvT hZ (hw _ (List.mem_of_getElem? (i := 36) rfl))) (mvT hZ (hw _ (List.mem_of_getElem? (i := 35) rfl))) (by decide) (backOf (W := 0) (rm9 l Z a0 hw w1 w2 w3 G [] b1 z16 T63.heap n0 O63 g_b1 f68 f69) hZ (hw _ (List.mem_of_getElem? (i := 37) rfl)) (hw _ (List.mem_of_getElem? (i := 2) rfl)) (by decide) (by decide)) q93a q93c (g := (mkF m 90 #[.val (.int p1), .val (.int p2), .val (.ref b1), .val (.int (0 : Int32)), .val (.int (3 : Int32)), .val (.int z12), .val (.int z14), .val (.int z16), .unset, .unset, .unset, .unset] [(.int z16), (.ref b1)])) rfl (by rw [hml]; rfl) (Steps.refl _) (argsL := [(.int z16)]) (rest := []) (lenOf pd2 rfl) rfl (by show 2 * 0 + _ ≤ _; exact Nat.le_of_eq rfl) (hb hby at_90) (fun _ _ => ⟨rfl, rfl, (by decide : 1 + 0 ≤ _), (by decide : 1 + 0 ≤ _)⟩)
            dsimp only [Pt.U, Pt.locs, Pt.cells, Pt.slots] at X94 l94 y94 z94 st94 hQ94
            subst l94 y94 z94
            have pre95 : ∀ t, Steps p.tables e below (T63.setTop (mkF m 90 #[.val (.int p1), .val (.int p2), .val (.ref b1), .val (.int (0 : Int32)), .val (.int (3 : Int32)), .val (.int z12), .val (.int z14), .val (.int z16), .unset, .unset, .unset, .unset] [(.int z16), (.ref b1)])) t → Steps p.tables e below (s₁.setTop (entryFrame m #[(.int p1), (.int p2)] maxLocals)) t := fun t k => by
              refine pre92 _ ?_
              show Steps p.tables e below (T63.setTop (mkF m 84 #[.val (.int p1), .val (.int p2), .val (.ref b1), .val (.int (0 : Int32)), .val (.int (3 : Int32)), .val (.int z12), .val (.int z14), .val (.int z16), .unset, .unset, .unset, .unset] [(.int (3 : Int32)), (.int (3 : Int32))])) _
              refine XS.icmpNo X63.here hx rfl (hb hby at_84) rfl (flt (by decide : ¬ ((3 : Int32) < (3 : Int32)))).1 ?_
              show Steps p.tables e below (T63.setTop (mkF m 87 #[.val (.int p1), .val (.int p2), .val (.ref b1), .val (.int (0 : Int32)), .val (.int (3 : Int32)), .val (.int z12), .val (.int z14), .val (.int z16), .unset, .unset, .unset, .unset] [])) _
              refine XS.aloadN X63.here hx rfl (hb hby at_87) rfl rfl ?_
              show Steps p.tables e below (T63.setTop (mkF m 88 #[.val (.int p1), .val (.int p2), .val (.ref b1), .val (.int (0 : Int32)), .val (.int (3 : Int32)), .val (.int z12), .val (.int z14), .val (.int z16), .unset, .unset, .unset, .unset] [(.ref b1)])) _
              refine XS.iload X63.here hx rfl (hb hby at_88) rfl ?_
              exact k
            have X94 : Stand p l e room_1 s m #[(.int p1), (.int p2)] below meth c T94 _ 1 1 := X94
            rcases hQ94 with ⟨hc96, rfl, Nq97, K98, f99, f100⟩ | ⟨hc101, rfl, Nq102, K103, f104, f105⟩
            ·
              have N94 := Fr.app N63 Nq97
              have M94 : h0.size ≤ T94.heap.size := Nat.le_trans M63 K98.1
              have O94 := Old.keep O63 K98 (allS g_b1 all0)
              obtain ⟨cq106, kq106, q106a, q106b, q106c⟩ := isOf hZ rfl f99
              obtain ⟨_, _, ⟨T107, L107, c107, n107⟩, -, X107, ⟨Lc107, hQ107, l107, y107, z107⟩, st107⟩ := X94.virtualBack hx (y := (⟨"com/example/vorgang/vorgang/QueryTimeoutScope", "isKnown", "()Z"⟩ : MethodName)) (z := (⟨"com/example/vorgang/vorgang/QueryTimeoutScope", "isKnown", "()Z"⟩ : MethodName)) hown (mvT hZ (hw _ (List.mem_of_getElem? (i := 14) rfl))) (mvT hZ (hw _ (List.mem_of_getElem? (i := 15) rfl))) (notFace_of_selects (args := #[]) (mvT hZ (hw _ (List.mem_of_getElem? (i := 17) rfl)))) (mvT hZ (hw _ (List.mem_of_getElem? (i := 17) rfl))) (mvT hZ (hw _ (List.mem_of_getElem? (i := 16) rfl))) (by decide) (backOf (W := 0) (rm6 l Z a0 hw w1 w2 w3 G [] b1 T94.heap n0 O94 g_b1 f100) hZ (hw _ (List.mem_of_getElem? (i := 18) rfl)) (hw _ (List.mem_of_getElem? (i := 2) rfl)) (by decide) (by decide)) q106a q106c (g := (mkF m 94 #[.val (.int p1), .val (.int p2), .val (.ref b1), .val (.int (0 : Int32)), .val (.int (3 : Int32)), .val (.int z12), .val (.int z14), .val (.int z16), .unset, .unset, .unset, .unset] [(.ref b1)])) rfl (by rw [hml]; rfl) (Steps.refl _) (argsL := []) (rest := []) (lenOf pd1 rfl) rfl (by show 2 * 0 + _ ≤ _; exact Nat.le_of_eq rfl) (hb hby at_94) (fun _ _ => ⟨rfl, rfl, (by decide : 1 + 0 ≤ _), (by decide : 1 + 0 ≤ _)⟩)
              dsimp only [Pt.U, Pt.locs, Pt.cells, Pt.slots] at X107 l107 y107 z107 st107 hQ107
              subst l107 y107 z107
              have X107 : Stand p l e room_1 s m #[(.int p1), (.int p2)] below meth c T107 _ 1 1 := X107
              obtain ⟨rfl, Nq108, e109⟩ := hQ107
              have N107 := Fr.app N94 Nq108
              obtain ⟨cq110, kq110, q110a, q110b, q110c⟩ := isOf hZ e109 f99
              obtain ⟨_, _, ⟨T111, L111, c111, n111⟩, -, X111, ⟨Lc111, hQ111, l111, y111, z111⟩, st111⟩ := X107.virtualBack hx (y := (⟨"com/example/vorgang/vorgang/QueryTimeoutScope", "isSession", "()Z"⟩ : MethodName)) (z := (⟨"com/example/vorgang/vorgang/QueryTimeoutScope", "isSession", "()Z"⟩ : MethodName)) hown (mvT hZ (hw _ (List.mem_of_getElem? (i := 19) rfl))) (mvT hZ (hw _ (List.mem_of_getElem? (i := 20) rfl))) (notFace_of_selects (args := #[]) (mvT hZ (hw _ (List.mem_of_getElem? (i := 22) rfl)))) (mvT hZ (hw _ (List.mem_of_getElem? (i := 22) rfl))) (mvT hZ (hw _ (List.mem_of_getElem? (i := 21) rfl))) (by decide) (backOf (W := 0) (rm7 l Z a0 hw w1 w2 w3 G [] b1 T94.heap n0 O94 g_b1 f100) hZ (hw _ (List.mem_of_getElem? (i := 23) rfl)) (hw _ (List.mem_of_getElem? (i := 2) rfl)) (by decide) (by decide)) q110a q110c (g := (mkF m 100 #[.val (.int p1), .val (.int p2), .val (.ref b1), .val (.int (0 : Int32)), .val (.int (3 : Int32)), .val (.int z12), .val (.int z14), .val (.int z16), .val (.int (1 : Int32)), .unset, .unset, .unset] [(.ref b1)])) rfl (by rw [hml]; rfl) (Steps.refl _) (argsL := []) (rest := []) (lenOf pd1 rfl) rfl (by show 2 * 0 + _ ≤ _; exact Nat.le_of_eq rfl) (hb hby at_100) (fun _ _ => ⟨rfl, e109, (by decide : 1 + 0 ≤ _), (by decide : 1 + 0 ≤ _)⟩)
              dsimp only [Pt.U, Pt.locs, Pt.cells, Pt.slots] at X111 l111 y111 z111 st111 hQ111
              subst l111 y111 z111
              have X111 : Stand p l e room_1 s m #[(.int p1), (.int p2)] below meth c T111 _ 1 1 := X111
              obtain ⟨rfl, Nq112, e113⟩ := hQ111
              have N111 := Fr.app N107 Nq112
              obtain ⟨cq114, kq114, q114a, q114b, q114c⟩ := isOf hZ e113 f99
              obtain ⟨_, _, ⟨T115, L115, c115, n115⟩, -, X115, ⟨Lc115, hQ115, l115, y115, z115⟩, st115⟩ := X111.virtualBack hx (y := (⟨"com/example/vorgang/vorgang/QueryTimeoutScope", "isStatement", "()Z"⟩ : MethodName)) (z := (⟨"com/example/vorgang/vorgang/QueryTimeoutScope", "isStatement", "()Z"⟩ : MethodName)) hown (mvT hZ (hw _ (List.mem_of_getElem? (i := 26) rfl))) (mvT hZ (hw _ (List.mem_of_getElem? (i := 27) rfl))) (notFace_of_selects (args := #[]) (mvT hZ (hw _ (List.mem_of_getElem? (i := 29) rfl)))) (mvT hZ (hw _ (List.mem_of_getElem? (i := 29) rfl))) (mvT hZ (hw _ (List.mem_of_getElem? (i := 28) rfl))) (by decide) (backOf (W := 0) (rm8 l Z a0 hw w1 w2 w3 G [] b1 T94.heap n0 O94 g_b1 f100) hZ (hw _ (List.mem_of_getElem? (i := 30) rfl)) (hw _ (List.mem_of_getElem? (i := 2) rfl)) (by decide) (by decide)) q114a q114c (g := (mkF m 106 #[.val (.int p1), .val (.int p2), .val (.ref b1), .val (.int (0 : Int32)), .val (.int (3 : Int32)), .val (.int z12), .val (.int z14), .val (.int z16), .val (.int (1 : Int32)), .val (.int (0 : Int32)), .unset, .unset] [(.ref b1)])) rfl (by rw [hml]; rfl) (Steps.refl _) (argsL := []) (rest := []) (lenOf pd1 rfl) rfl (by show 2 * 0 + _ ≤ _; exact Nat.le_of_eq rfl) (hb hby at_106) (fun _ _ => ⟨rfl, e113, (by decide : 1 + 0 ≤ _), (by decide : 1 + 0 ≤ _)⟩)
              dsimp only [Pt.U, Pt.locs, Pt.cells, Pt.slots] at X115 l115 y115 z115 st115 hQ115
              subst l115 y115 z115
              have X115 : Stand p l e room_1 s m #[(.int p1), (.int p2)] below meth c T115 _ 1 1 := X115
              obtain ⟨rfl, Nq116, e117⟩ := hQ115
              have N115 := Fr.app N111 Nq116
              obtain ⟨fs, hr, hrun, hended, hW, hsame⟩ := X115.leave (v := some (.int (1 : Int32))) (fun h => by rw [hret] at h; cases h)
              refine ⟨_, _, pre95 _ ?_, hrun, hended, _, _, rfl, ?_, ⟨_, rfl⟩, hW, hsame.mono (by decide) (by decide)⟩
              ·
                show Steps p.tables e below (T63.setTop (mkF m 90 #[.val (.int p1), .val (.int p2), .val (.ref b1), .val (.int (0 : Int32)), .val (.int (3 : Int32)), .val (.int z12), .val (.int z14), .val (.int z16), .unset, .unset, .unset, .unset] [(.int z16), (.ref b1)])) _
                refine st94.trans ?_
                show Steps p.tables e below (T94.setTop (mkF m 93 #[.val (.int p1), .val (.int p2), .val (.ref b1), .val (.int (0 : Int32)), .val (.int (3 : Int32)), .val (.int z12), .val (.int z14), .val (.int z16), .unset, .unset, .unset, .unset] [])) _
                refine XS.aloadN X94.here hx rfl (hb hby at_93) rfl rfl ?_
                show Steps p.tables e below (T94.setTop (mkF m 94 #[.val (.int p1), .val (.int p2), .val (.ref b1), .val (.int (0 : Int32)), .val (.int (3 : Int32)), .val (.int z12), .val (.int z14), .val (.int z16), .unset, .unset, .unset, .unset] [(.ref b1)])) _
                refine st107.trans ?_
                show Steps p.tables e below (T107.setTop (mkF m 97 #[.val (.int p1), .val (.int p2), .val (.ref b1), .val (.int (0 : Int32)), .val (.int (3 : Int32)), .val (.int z12), .val (.int z14), .val (.int z16), .unset, .unset, .unset, .unset] [(.int (1 : Int32))])) _
                refine XS.istore X107.here hx rfl (hb hby at_97) rfl (l' := #[.val (.int p1), .val (.int p2), .val (.ref b1), .val (.int (0 : Int32)), .val (.int (3 : Int32)), .val (.int z12), .val (.int z14), .val (.int z16), .val (.int (1 : Int32)), .unset, .unset, .unset]) rfl ?_
                show Steps p.tables e below (T107.setTop (mkF m 99 #[.val (.int p1), .val (.int p2), .val (.ref b1), .val (.int (0 : Int32)), .val (.int (3 : Int32)), .val (.int z12), .val (.int z14), .val (.int z16), .val (.int (1 : Int32)), .unset, .unset, .unset] [])) _
                refine XS.aloadN X107.here hx rfl (hb hby at_99) rfl rfl ?_
                show Steps p.tables e below (T107.setTop (mkF m 100 #[.val (.int p1), .val (.int p2), .val (.ref b1), .val (.int (0 : Int32)), .val (.int (3 : Int32)), .val (.int z12), .val (.int z14), .val (.int z16), .val (.int (1 : Int32)), .unset, .unset, .unset] [(.ref b1)])) _
                refine st111.trans ?_
                show Steps p.tables e below (T111.setTop (mkF m 103 #[.val (.int p1), .val (.int p2), .val (.ref b1), .val (.int (0 : Int32)), .val (.int (3 : Int32)), .val (.int z12), .val (.int z14), .val (.int z16), .val (.int (1 : Int32)), .unset, .unset, .unset] [(.int (0 : Int32))])) _
                refine XS.istore X111.here hx rfl (hb hby at_103) rfl (l' := #[.val (.int p1), .val (.int p2), .val (.ref b1), .val (.int (0 : Int32)), .val (.int (3 : Int32)), .val (.int z12), .val (.int z14), .val (.int z16), .val (.int (1 : Int32)), .val (.int (0 : Int32)), .unset, .unset]) rfl ?_
                show Steps p.tables e below (T111.setTop (mkF m 105 #[.val (.int p1), .val (.int p2), .val (.ref b1), .val (.int (0 : Int32)), .val (.int (3 : Int32)), .val (.int z12), .val (.int z14), .val (.int z16), .val (.int (1 : Int32)), .val (.int (0 : Int32)), .unset, .unset] [])) _
                refine XS.aloadN X111.here hx rfl (hb hby at_105) rfl rfl ?_
                show Steps p.tables e below (T111.setTop (mkF m 106 #[.val (.int p1), .val (.int p2), .val (.ref b1), .val (.int (0 : Int32)), .val (.int (3 : Int32)), .val (.int z12), .val (.int z14), .val (.int z16), .val (.int (1 : Int32)), .val (.int (0 : Int32)), .unset, .unset] [(.ref b1)])) _
                refine st115.trans ?_
                show Steps p.tables e below (T115.setTop (mkF m 109 #[.val (.int p1), .val (.int p2), .val (.ref b1), .val (.int (0 : Int32)), .val (.int (3 : Int32)), .val (.int z12), .val (.int z14), .val (.int z16), .val (.int (1 : Int32)), .val (.int (0 : Int32)), .unset, .unset] [(.int (1 : Int32))])) _
                refine XS.istore X115.here hx rfl (hb hby at_109) rfl (l' := #[.val (.int p1), .val (.int p2), .val (.ref b1), .val (.int (0 : Int32)), .val (.int (3 : Int32)), .val (.int z12), .val (.int z14), .val (.int z16), .val (.int (1 : Int32)), .val (.int (0 : Int32)), .val (.int (1 : Int32)), .unset]) rfl ?_
                show Steps p.tables e below (T115.setTop (mkF m 111 #[.val (.int p1), .val (.int p2), .val (.ref b1), .val (.int (0 : Int32)), .val (.int (3 : Int32)), .val (.int z12), .val (.int z14), .val (.int z16), .val (.int (1 : Int32)), .val (.int (0 : Int32)), .val (.int (1 : Int32)), .unset] [])) _
                refine XS.iload X115.here hx rfl (hb hby at_111) rfl ?_
                show Steps p.tables e below (T115.setTop (mkF m 113 #[.val (.int p1), .val (.int p2), .val (.ref b1), .val (.int (0 : Int32)), .val (.int (3 : Int32)), .val (.int z12), .val (.int z14), .val (.int z16), .val (.int (1 : Int32)), .val (.int (0 : Int32)), .val (.int (1 : Int32)), .unset] [(.int (3 : Int32))])) _
                refine XS.iconst X115.here hx rfl (hb hby at_113) ?_
                show Steps p.tables e below (T115.setTop (mkF m 114 #[.val (.int p1), .val (.int p2), .val (.ref b1), .val (.int (0 : Int32)), .val (.int (3 : Int32)), .val (.int z12), .val (.int z14), .val (.int z16), .val (.int (1 : Int32)), .val (.int (0 : Int32)), .val (.int (1 : Int32)), .unset] [(.int (1 : Int32)), (.int (3 : Int32))])) _
                refine XS.icmpNo X115.here hx rfl (hb hby at_114) rfl (flt (by decide : ¬ ((3 : Int32) < (1 : Int32)))).1 ?_
                show Steps p.tables e below (T115.setTop (mkF m 117 #[.val (.int p1), .val (.int p2), .val (.ref b1), .val (.int (0 : Int32)), .val (.int (3 : Int32)), .val (.int z12), .val (.int z14), .val (.int z16), .val (.int (1 : Int32)), .val (.int (0 : Int32)), .val (.int (1 : Int32)), .unset] [])) _
                refine XS.iconst X115.here hx rfl (hb hby at_117) ?_
                show Steps p.tables e below (T115.setTop (mkF m 118 #[.val (.int p1), .val (.int p2), .val (.ref b1), .val (.int (0 : Int32)), .val (.int (3 : Int32)), .val (.int z12), .val (.int z14), .val (.int z16), .val (.int (1 : Int32)), .val (.int (0 : Int32)), .val (.int (1 : Int32)), .unset] [(.int (1 : Int32))])) _
                refine XS.goto X115.here hx rfl (pc0 := 118) (pc' := 122) rfl (hb hby at_118) (by decide) (by decide) ?_
                show Steps p.tables e below (T115.setTop (mkF m 122 #[.val (.int p1), .val (.int p2), .val (.ref b1), .val (.int (0 : Int32)), .val (.int (3 : Int32)), .val (.int z12), .val (.int z14), .val (.int z16), .val (.int (1 : Int32)), .val (.int (0 : Int32)), .val (.int (1 : Int32)), .unset] [(.int (1 : Int32))])) _
                refine XS.istore X115.here hx rfl (hb hby at_122) rfl (l' := #[.val (.int p1), .val (.int p2), .val (.ref b1), .val (.int (0 : Int32)), .val (.int (3 : Int32)), .val (.int z12), .val (.int z14), .val (.int z16), .val (.int (1 : Int32)), .val (.int (0 : Int32)), .val (.int (1 : Int32)), .val (.int (1 : Int32))]) rfl ?_
                show Steps p.tables e below (T115.setTop (mkF m 124 #[.val (.int p1), .val (.int p2), .val (.ref b1), .val (.int (0 : Int32)), .val (.int (3 : Int32)), .val (.int z12), .val (.int z14), .val (.int z16), .val (.int (1 : Int32)), .val (.int (0 : Int32)), .val (.int (1 : Int32)), .val (.int (1 : Int32))] [])) _
                refine XS.iloadN X115.here hx rfl (hb hby at_124) rfl ?_
                show Steps p.tables e below (T115.setTop (mkF m 125 #[.val (.int p1), .val (.int p2), .val (.ref b1), .val (.int (0 : Int32)), .val (.int (3 : Int32)), .val (.int z12), .val (.int z14), .val (.int z16), .val (.int (1 : Int32)), .val (.int (0 : Int32)), .val (.int (1 : Int32)), .val (.int (1 : Int32))] [(.int (0 : Int32))])) _
                refine XS.ifNo X115.here hx rfl (hb hby at_125) rfl ((if0 _ _).trans (teq (by decide : (0 : Int32) = (0 : Int32))).2) ?_
                show Steps p.tables e below (T115.setTop (mkF m 128 #[.val (.int p1), .val (.int p2), .val (.ref b1), .val (.int (0 : Int32)), .val (.int (3 : Int32)), .val (.int z12), .val (.int z14), .val (.int z16), .val (.int (1 : Int32)), .val (.int (0 : Int32)), .val (.int (1 : Int32)), .val (.int (1 : Int32))] [])) _
                refine XS.iload X115.here hx rfl (hb hby at_128) rfl ?_
                show Steps p.tables e below (T115.setTop (mkF m 130 #[.val (.int p1), .val (.int p2), .val (.ref b1), .val (.int (0 : Int32)), .val (.int (3 : Int32)), .val (.int z12), .val (.int z14), .val (.int z16), .val (.int (1 : Int32)), .val (.int (0 : Int32)), .val (.int (1 : Int32)), .val (.int (1 : Int32))] [(.int (1 : Int32))])) _
                refine XS.iload X115.here hx rfl (hb hby at_130) rfl ?_
                show Steps p.tables e below (T115.setTop (mkF m 132 #[.val (.int p1), .val (.int p2), .val (.ref b1), .val (.int (0 : Int32)), .val (.int (3 : Int32)), .val (.int z12), .val (.int z14), .val (.int z16), .val (.int (1 : Int32)), .val (.int (0 : Int32)), .val (.int (1 : Int32)), .val (.int (1 : Int32))] [(.int (1 : Int32)), (.int (1 : Int32))])) _
                refine XS.icmpNo X115.here hx rfl (hb hby at_132) rfl (teq (by decide : (1 : Int32) = (1 : Int32))).2 ?_
                show Steps p.tables e below (T115.setTop (mkF m 135 #[.val (.int p1), .val (.int p2), .val (.ref b1), .val (.int (0 : Int32)), .val (.int (3 : Int32)), .val (.int z12), .val (.int z14), .val (.int z16), .val (.int (1 : Int32)), .val (.int (0 : Int32)), .val (.int (1 : Int32)), .val (.int (1 : Int32))] [])) _
                refine XS.iload X115.here hx rfl (hb hby at_135) rfl ?_
                show Steps p.tables e below (T115.setTop (mkF m 137 #[.val (.int p1), .val (.int p2), .val (.ref b1), .val (.int (0 : Int32)), .val (.int (3 : Int32)), .val (.int z12), .val (.int z14), .val (.int z16), .val (.int (1 : Int32)), .val (.int (0 : Int32)), .val (.int (1 : Int32)), .val (.int (1 : Int32))] [(.int (1 : Int32))])) _
                refine XS.iload X115.here hx rfl (hb hby at_137) rfl ?_
                show Steps p.tables e below (T115.setTop (mkF m 139 #[.val (.int p1), .val (.int p2), .val (.ref b1), .val (.int (0 : Int32)), .val (.int (3 : Int32)), .val (.int z12), .val (.int z14), .val (.int z16), .val (.int (1 : Int32)), .val (.int (0 : Int32)), .val (.int (1 : Int32)), .val (.int (1 : Int32))] [(.int (0 : Int32)), (.int (1 : Int32))])) _
                refine XS.ifNo X115.here hx rfl (hb hby at_139) rfl ((if0 _ _).trans (teq (by decide : (0 : Int32) = (0 : Int32))).2) ?_
                show Steps p.tables e below (T115.setTop (mkF m 142 #[.val (.int p1), .val (.int p2), .val (.ref b1), .val (.int (0 : Int32)), .val (.int (3 : Int32)), .val (.int z12), .val (.int z14), .val (.int z16), .val (.int (1 : Int32)), .val (.int (0 : Int32)), .val (.int (1 : Int32)), .val (.int (1 : Int32))] [(.int (1 : Int32))])) _
                refine XS.iload X115.here hx rfl (hb hby at_142) rfl ?_
                show Steps p.tables e below (T115.setTop (mkF m 144 #[.val (.int p1), .val (.int p2), .val (.ref b1), .val (.int (0 : Int32)), .val (.int (3 : Int32)), .val (.int z12), .val (.int z14), .val (.int z16), .val (.int (1 : Int32)), .val (.int (0 : Int32)), .val (.int (1 : Int32)), .val (.int (1 : Int32))] [(.int (1 : Int32)), (.int (1 : Int32))])) _
                refine XS.ifNo X115.here hx rfl (hb hby at_144) rfl ((if0 _ _).trans (feq (by decide : ¬ ((1 : Int32) = (0 : Int32)))).1) ?_
                show Steps p.tables e below (T115.setTop (mkF m 147 #[.val (.int p1), .val (.int p2), .val (.ref b1), .val (.int (0 : Int32)), .val (.int (3 : Int32)), .val (.int z12), .val (.int z14), .val (.int z16), .val (.int (1 : Int32)), .val (.int (0 : Int32)), .val (.int (1 : Int32)), .val (.int (1 : Int32))] [(.int (1 : Int32))])) _
                refine XS.iconst X115.here hx rfl (hb hby at_147) ?_
                show Steps p.tables e below (T115.setTop (mkF m 148 #[.val (.int p1), .val (.int p2), .val (.ref b1), .val (.int (0 : Int32)), .val (.int (3 : Int32)), .val (.int z12), .val (.int z14), .val (.int z16), .val (.int (1 : Int32)), .val (.int (0 : Int32)), .val (.int (1 : Int32)), .val (.int (1 : Int32))] [(.int (1 : Int32)), (.int (1 : Int32))])) _
                refine XS.goto X115.here hx rfl (pc0 := 148) (pc' := 152) rfl (hb hby at_148) (by decide) (by decide) ?_
                show Steps p.tables e below (T115.setTop (mkF m 152 #[.val (.int p1), .val (.int p2), .val (.ref b1), .val (.int (0 : Int32)), .val (.int (3 : Int32)), .val (.int z12), .val (.int z14), .val (.int z16), .val (.int (1 : Int32)), .val (.int (0 : Int32)), .val (.int (1 : Int32)), .val (.int (1 : Int32))] [(.int (1 : Int32)), (.int (1 : Int32))])) _
                refine XS.icmpNo X115.here hx rfl (hb hby at_152) rfl (teq (by decide : (1 : Int32) = (1 : Int32))).2 ?_
                show Steps p.tables e below (T115.setTop (mkF m 155 #[.val (.int p1), .val (.int p2), .val (.ref b1), .val (.int (0 : Int32)), .val (.int (3 : Int32)), .val (.int z12), .val (.int z14), .val (.int z16), .val (.int (1 : Int32)), .val (.int (0 : Int32)), .val (.int (1 : Int32)), .val (.int (1 : Int32))] [])) _
                refine XS.iconst X115.here hx rfl (hb hby at_155) ?_
                show Steps p.tables e below (T115.setTop (mkF m 156 #[.val (.int p1), .val (.int p2), .val (.ref b1), .val (.int (0 : Int32)), .val (.int (3 : Int32)), .val (.int z12), .val (.int z14), .val (.int z16), .val (.int (1 : Int32)), .val (.int (0 : Int32)), .val (.int (1 : Int32)), .val (.int (1 : Int32))] [(.int (1 : Int32))])) _
                refine XS.goto X115.here hx rfl (pc0 := 156) (pc' := 160) rfl (hb hby at_156) (by decide) (by decide) ?_
                show Steps p.tables e below (T115.setTop (mkF m 160 #[.val (.int p1), .val (.int p2), .val (.ref b1), .val (.int (0 : Int32)), .val (.int (3 : Int32)), .val (.int z12), .val (.int z14), .val (.int z16), .val (.int (1 : Int32)), .val (.int (0 : Int32)), .val (.int (1 : Int32)), .val (.int (1 : Int32))] [(.int (1 : Int32))])) _
                exact retN X115 hx (t := .boolean) hret (by simp) (hb hby at_160) hr
              ·
                show Q0 n0 _ T115.heap _
                rw [e117]
                exact ⟨rfl, N115⟩
            ·
              have N94 := Fr.app N63 Nq102
              have M94 : h0.size ≤ T94.heap.size := Nat.le_trans M63 K103.1
              have O94 := Old.keep O63 K103 (allS g_b1 all0)
              obtain ⟨cq118, kq118, q118a, q118b, q118c⟩ := isOf hZ rfl f104
              obtain ⟨_, _, ⟨T119, L119, c119, n119⟩, -, X119, ⟨Lc119, hQ119, l119, y119, z119⟩, st119⟩ := X94.virtualBack hx (y := (⟨"com/example/vorgang/vorgang/QueryTimeoutScope", "isKnown", "()Z"⟩ : MethodName)) (z := (⟨"com/example/vorgang/vorgang/QueryTimeoutScope", "isKnown", "()Z"⟩ : MethodName)) hown (mvT hZ (hw _ (List.mem_of_getElem? (i := 14) rfl))) (mvT hZ (hw _ (List.mem_of_getElem? (i := 15) rfl))) (notFace_of_selects (args := #[]) (mvT hZ (hw _ (List.mem_of_getElem? (i := 17) rfl)))) (mvT hZ (hw _ (List.mem_of_getElem? (i := 17) rfl))) (mvT hZ (hw _ (List.mem_of_getElem? (i := 16) rfl))) (by decide) (backOf (W := 0) (rm10 l Z a0 hw w1 w2 w3 G [] b1 T94.heap n0 O94 g_b1 f105) hZ (hw _ (List.mem_of_getElem? (i := 18) rfl)) (hw _ (List.mem_of_getElem? (i := 2) rfl)) (by decide) (by decide)) q118a q118c (g := (mkF m 94 #[.val (.int p1), .val (.int p2), .val (.ref b1), .val (.int (0 : Int32)), .val (.int (3 : Int32)), .val (.int z12), .val (.int z14), .val (.int z16), .unset, .unset, .unset, .unset] [(.ref b1)])) rfl (by rw [hml]; rfl) (Steps.refl _) (argsL := []) (rest := []) (lenOf pd1 rfl) rfl (by show 2 * 0 + _ ≤ _; exact Nat.le_of_eq rfl) (hb hby at_94) (fun _ _ => ⟨rfl, rfl, (by decide : 1 + 0 ≤ _), (by decide : 1 + 0 ≤ _)⟩)
              dsimp only [Pt.U, Pt.locs, Pt.cells, Pt.slots] at X119 l119 y119 z119 st119 hQ119
              subst l119 y119 z119
              have X119 : Stand p l e room_1 s m #[(.int p1), (.int p2)] below meth c T119 _ 1 1 := X119
              obtain ⟨rfl, Nq120, e121⟩ := hQ119
              have N119 := Fr.app N94 Nq120
              obtain ⟨cq122, kq122, q122a, q122b, q122c⟩ := isOf hZ e121 f104
              obtain ⟨_, _, ⟨T123, L123, c123, n123⟩, -, X123, ⟨Lc123, hQ123, l123, y123, z123⟩, st123⟩ := X119.virtualBack hx (y := (⟨"com/example/vorgang/vorgang/QueryTimeoutScope", "isSession", "()Z"⟩ : MethodName)) (z := (⟨"com/example/vorgang/vorgang/QueryTimeoutScope", "isSession", "()Z"⟩ : MethodName)) hown (mvT hZ (hw _ (List.mem_of_getElem? (i := 19) rfl))) (mvT hZ (hw _ (List.mem_of_getElem? (i := 20) rfl))) (notFace_of_selects (args := #[]) (mvT hZ (hw _ (List.mem_of_getElem? (i := 22) rfl)))) (mvT hZ (hw _ (List.mem_of_getElem? (i := 22) rfl))) (mvT hZ (hw _ (List.mem_of_getElem? (i := 21) rfl))) (by decide) (backOf (W := 0) (rm11 l Z a0 hw w1 w2 w3 G [] b1 T94.heap n0 O94 g_b1 f105) hZ (hw _ (List.mem_of_getElem? (i := 23) rfl)) (hw _ (List.mem_of_getElem? (i := 2) rfl)) (by decide) (by decide)) q122a q122c (g := (mkF m 100 #[.val (.int p1), .val (.int p2), .val (.ref b1), .val (.int (0 : Int32)), .val (.int (3 : Int32)), .val (.int z12), .val (.int z14), .val (.int z16), .val (.int (1 : Int32)), .unset, .unset, .unset] [(.ref b1)])) rfl (by rw [hml]; rfl) (Steps.refl _) (argsL := []) (rest := []) (lenOf pd1 rfl) rfl (by show 2 * 0 + _ ≤ _; exact Nat.le_of_eq rfl) (hb hby at_100) (fun _ _ => ⟨rfl, e121, (by decide : 1 + 0 ≤ _), (by decide : 1 + 0 ≤ _)⟩)
              dsimp only [Pt.U, Pt.locs, Pt.cells, Pt.slots] at X123 l123 y123 z123 st123 hQ123
              subst l123 y123 z123
              have X123 : Stand p l e room_1 s m #[(.int p1), (.int p2)] below meth c T123 _ 1 1 := X123
              obtain ⟨rfl, Nq124, e125⟩ := hQ123
              have N123 := Fr.app N119 Nq124
              obtain ⟨cq126, kq126, q126a, q126b, q126c⟩ := isOf hZ e125 f104
              obtain ⟨_, _, ⟨T127, L127, c127, n127⟩, -, X127, ⟨Lc127, hQ127, l127, y127, z127⟩, st127⟩ := X123.virtualBack hx (y := (⟨"com/example/vorgang/vorgang/QueryTimeoutScope", "isStatement", "()Z"⟩ : MethodName)) (z := (⟨"com/example/vorgang/vorgang/QueryTimeoutScope", "isStatement", "()Z"⟩ : MethodName)) hown (mvT hZ (hw _ (List.mem_of_getElem? (i := 26) rfl))) (mvT hZ (hw _ (List.mem_of_getElem? (i := 27) rfl))) (notFace_of_selects (args := #[]) (mvT hZ (hw _ (List.mem_of_getElem? (i := 29) rfl)))) (mvT hZ (hw _ (List.mem_of_getElem? (i := 29) rfl))) (mvT hZ (hw _ (List.mem_of_getElem? (i := 28) rfl))) (by decide) (backOf (W := 0) (rm12 l Z a0 hw w1 w2 w3 G [] b1 T94.heap n0 O94 g_b1 f105) hZ (hw _ (List.mem_of_getElem? (i := 30) rfl)) (hw _ (List.mem_of_getElem? (i := 2) rfl)) (by decide) (by decide)) q126a q126c (g := (mkF m 106 #[.val (.int p1), .val (.int p2), .val (.ref b1), .val (.int (0 : Int32)), .val (.int (3 : Int32)), .val (.int z12), .val (.int z14), .val (.int z16), .val (.int (1 : Int32)), .val (.int (1 : Int32)), .unset, .unset] [(.ref b1)])) rfl (by rw [hml]; rfl) (Steps.refl _) (argsL := []) (rest := []) (lenOf pd1 rfl) rfl (by show 2 * 0 + _ ≤ _; exact Nat.le_of_eq rfl) (hb hby at_106) (fun _ _ => ⟨rfl, e125, (by decide : 1 + 0 ≤ _), (by decide : 1 + 0 ≤ _)⟩)
              dsimp only [Pt.U, Pt.locs, Pt.cells, Pt.slots] at X127 l127 y127 z127 st127 hQ127
              subst l127 y127 z127
              have X127 : Stand p l e room_1 s m #[(.int p1), (.int p2)] below meth c T127 _ 1 1 := X127
              obtain ⟨rfl, Nq128, e129⟩ := hQ127
              have N127 := Fr.app N123 Nq128
              obtain ⟨fs, hr, hrun, hended, hW, hsame⟩ := X127.leave (v := some (.int (1 : Int32))) (fun h => by rw [hret] at h; cases h)
              refine ⟨_, _, pre95 _ ?_, hrun, hended, _, _, rfl, ?_, ⟨_, rfl⟩, hW, hsame.mono (by decide) (by decide)⟩
              ·
                show Steps p.tables e below (T63.setTop (mkF m 90 #[.val (.int p1), .val (.int p2), .val (.ref b1), .val (.int (0 : Int32)), .val (.int (3 : Int32)), .val (.int z12), .val (.int z14), .val (.int z16), .unset, .unset, .unset, .unset] [(.int z16), (.ref b1)])) _
                refine st94.trans ?_
                show Steps p.tables e below (T94.setTop (mkF m 93 #[.val (.int p1), .val (.int p2), .val (.ref b1), .val (.int (0 : Int32)), .val (.int (3 : Int32)), .val (.int z12), .val (.int z14), .val (.int z16), .unset, .unset, .unset, .unset] [])) _
                refine XS.aloadN X94.here hx rfl (hb hby at_93) rfl rfl ?_
                show Steps p.tables e below (T94.setTop (mkF m 94 #[.val (.int p1), .val (.int p2), .val (.ref b1), .val (.int (0 : Int32)), .val (.int (3 : Int32)), .val (.int z12), .val (.int z14), .val (.int z16), .unset, .unset, .unset, .unset] [(.ref b1)])) _
                refine st119.trans ?_
                show Steps p.tables e below (T119.setTop (mkF m 97 #[.val (.int p1), .val (.int p2), .val (.ref b1), .val (.int (0 : Int32)), .val (.int (3 : Int32)), .val (.int z12), .val (.int z14), .val (.int z16), .unset, .unset, .unset, .unset] [(.int (1 : Int32))])) _
                refine XS.istore X119.here hx rfl (hb hby at_97) rfl (l' := #[.val (.int p1), .val (.int p2), .val (.ref b1), .val (.int (0 : Int32)), .val (.int (3 : Int32)), .val (.int z12), .val (.int z14), .val (.int z16), .val (.int (1 : Int32)), .unset, .unset, .unset]) rfl ?_
                show Steps p.tables e below (T119.setTop (mkF m 99 #[.val (.int p1), .val (.int p2), .val (.ref b1), .val (.int (0 : Int32)), .val (.int (3 : Int32)), .val (.int z12), .val (.int z14), .val (.int z16), .val (.int (1 : Int32)), .unset, .unset, .unset] [])) _
                refine XS.aloadN X119.here hx rfl (hb hby at_99) rfl rfl ?_
                show Steps p.tables e below (T119.setTop (mkF m 100 #[.val (.int p1), .val (.int p2), .val (.ref b1), .val (.int (0 : Int32)), .val (.int (3 : Int32)), .val (.int z12), .val (.int z14), .val (.int z16), .val (.int (1 : Int32)), .unset, .unset, .unset] [(.ref b1)])) _
                refine st123.trans ?_
                show Steps p.tables e below (T123.setTop (mkF m 103 #[.val (.int p1), .val (.int p2), .val (.ref b1), .val (.int (0 : Int32)), .val (.int (3 : Int32)), .val (.int z12), .val (.int z14), .val (.int z16), .val (.int (1 : Int32)), .unset, .unset, .unset] [(.int (1 : Int32))])) _
                refine XS.istore X123.here hx rfl (hb hby at_103) rfl (l' := #[.val (.int p1), .val (.int p2), .val (.ref b1), .val (.int (0 : Int32)), .val (.int (3 : Int32)), .val (.int z12), .val (.int z14), .val (.int z16), .val (.int (1 : Int32)), .val (.int (1 : Int32)), .unset, .unset]) rfl ?_
                show Steps p.tables e below (T123.setTop (mkF m 105 #[.val (.int p1), .val (.int p2), .val (.ref b1), .val (.int (0 : Int32)), .val (.int (3 : Int32)), .val (.int z12), .val (.int z14), .val (.int z16), .val (.int (1 : Int32)), .val (.int (1 : Int32)), .unset, .unset] [])) _
                refine XS.aloadN X123.here hx rfl (hb hby at_105) rfl rfl ?_
                show Steps p.tables e below (T123.setTop (mkF m 106 #[.val (.int p1), .val (.int p2), .val (.ref b1), .val (.int (0 : Int32)), .val (.int (3 : Int32)), .val (.int z12), .val (.int z14), .val (.int z16), .val (.int (1 : Int32)), .val (.int (1 : Int32)), .unset, .unset] [(.ref b1)])) _
                refine st127.trans ?_
                show Steps p.tables e below (T127.setTop (mkF m 109 #[.val (.int p1), .val (.int p2), .val (.ref b1), .val (.int (0 : Int32)), .val (.int (3 : Int32)), .val (.int z12), .val (.int z14), .val (.int z16), .val (.int (1 : Int32)), .val (.int (1 : Int32)), .unset, .unset] [(.int (0 : Int32))])) _
                refine XS.istore X127.here hx rfl (hb hby at_109) rfl (l' := #[.val (.int p1), .val (.int p2), .val (.ref b1), .val (.int (0 : Int32)), .val (.int (3 : Int32)), .val (.int z12), .val (.int z14), .val (.int z16), .val (.int (1 : Int32)), .val (.int (1 : Int32)), .val (.int (0 : Int32)), .unset]) rfl ?_
                show Steps p.tables e below (T127.setTop (mkF m 111 #[.val (.int p1), .val (.int p2), .val (.ref b1), .val (.int (0 : Int32)), .val (.int (3 : Int32)), .val (.int z12), .val (.int z14), .val (.int z16), .val (.int (1 : Int32)), .val (.int (1 : Int32)), .val (.int (0 : Int32)), .unset] [])) _
                refine XS.iload X127.here hx rfl (hb hby at_111) rfl ?_
                show Steps p.tables e below (T127.setTop (mkF m 113 #[.val (.int p1), .val (.int p2), .val (.ref b1), .val (.int (0 : Int32)), .val (.int (3 : Int32)), .val (.int z12), .val (.int z14), .val (.int z16), .val (.int (1 : Int32)), .val (.int (1 : Int32)), .val (.int (0 : Int32)), .unset] [(.int (3 : Int32))])) _
                refine XS.iconst X127.here hx rfl (hb hby at_113) ?_
                show Steps p.tables e below (T127.setTop (mkF m 114 #[.val (.int p1), .val (.int p2), .val (.ref b1), .val (.int (0 : Int32)), .val (.int (3 : Int32)), .val (.int z12), .val (.int z14), .val (.int z16), .val (.int (1 : Int32)), .val (.int (1 : Int32)), .val (.int (0 : Int32)), .unset] [(.int (1 : Int32)), (.int (3 : Int32))])) _
                refine XS.icmpNo X127.here hx rfl (hb hby at_114) rfl (flt (by decide : ¬ ((3 : Int32) < (1 : Int32)))).1 ?_
                show Steps p.tables e below (T127.setTop (mkF m 117 #[.val (.int p1), .val (.int p2), .val (.ref b1), .val (.int (0 : Int32)), .val (.int (3 : Int32)), .val (.int z12), .val (.int z14), .val (.int z16), .val (.int (1 : Int32)), .val (.int (1 : Int32)), .val (.int (0 : Int32)), .unset] [])) _
                refine XS.iconst X127.here hx rfl (hb hby at_117) ?_
                show Steps p.tables e below (T127.setTop (mkF m 118 #[.val (.int p1), .val (.int p2), .val (.ref b1), .val (.int (0 : Int32)), .val (.int (3 : Int32)), .val (.int z12), .val (.int z14), .val (.int z16), .val (.int (1 : Int32)), .val (.int (1 : Int32)), .val (.int (0 : Int32)), .unset] [(.int (1 : Int32))])) _
                refine XS.goto X127.here hx rfl (pc0 := 118) (pc' := 122) rfl (hb hby at_118) (by decide) (by decide) ?_
                show Steps p.tables e below (T127.setTop (mkF m 122 #[.val (.int p1), .val (.int p2), .val (.ref b1), .val (.int (0 : Int32)), .val (.int (3 : Int32)), .val (.int z12), .val (.int z14), .val (.int z16), .val (.int (1 : Int32)), .val (.int (1 : Int32)), .val (.int (0 : Int32)), .unset] [(.int (1 : Int32))])) _
                refine XS.istore X127.here hx rfl (hb hby at_122) rfl (l' := #[.val (.int p1), .val (.int p2), .val (.ref b1), .val (.int (0 : Int32)), .val (.int (3 : Int32)), .val (.int z12), .val (.int z14), .val (.int z16), .val (.int (1 : Int32)), .val (.int (1 : Int32)), .val (.int (0 : Int32)), .val (.int (1 : Int32))]) rfl ?_
                show Steps p.tables e below (T127.setTop (mkF m 124 #[.val (.int p1), .val (.int p2), .val (.ref b1), .val (.int (0 : Int32)), .val (.int (3 : Int32)), .val (.int z12), .val (.int z14), .val (.int z16), .val (.int (1 : Int32)), .val (.int (1 : Int32)), .val (.int (0 : Int32)), .val (.int (1 : Int32))] [])) _
                refine XS.iloadN X127.here hx rfl (hb hby at_124) rfl ?_
                show Steps p.tables e below (T127.setTop (mkF m 125 #[.val (.int p1), .val (.int p2), .val (.ref b1), .val (.int (0 : Int32)), .val (.int (3 : Int32)), .val (.int z12), .val (.int z14), .val (.int z16), .val (.int (1 : Int32)), .val (.int (1 : Int32)), .val (.int (0 : Int32)), .val (.int (1 : Int32))] [(.int (0 : Int32))])) _
                refine XS.ifNo X127.here hx rfl (hb hby at_125) rfl ((if0 _ _).trans (teq (by decide : (0 : Int32) = (0 : Int32))).2) ?_
                show Steps p.tables e below (T127.setTop (mkF m 128 #[.val (.int p1), .val (.int p2), .val (.ref b1), .val (.int (0 : Int32)), .val (.int (3 : Int32)), .val (.int z12), .val (.int z14), .val (.int z16), .val (.int (1 : Int32)), .val (.int (1 : Int32)), .val (.int (0 : Int32)), .val (.int (1 : Int32))] [])) _
                refine XS.iload X127.here hx rfl (hb hby at_128) rfl ?_
                show Steps p.tables e below (T127.setTop (mkF m 130 #[.val (.int p1), .val (.int p2), .val (.ref b1), .val (.int (0 : Int32)), .val (.int (3 : Int32)), .val (.int z12), .val (.int z14), .val (.int z16), .val (.int (1 : Int32)), .val (.int (1 : Int32)), .val (.int (0 : Int32)), .val (.int (1 : Int32))] [(.int (1 : Int32))])) _
                refine XS.iload X127.here hx rfl (hb hby at_130) rfl ?_
                show Steps p.tables e below (T127.setTop (mkF m 132 #[.val (.int p1), .val (.int p2), .val (.ref b1), .val (.int (0 : Int32)), .val (.int (3 : Int32)), .val (.int z12), .val (.int z14), .val (.int z16), .val (.int (1 : Int32)), .val (.int (1 : Int32)), .val (.int (0 : Int32)), .val (.int (1 : Int32))] [(.int (1 : Int32)), (.int (1 : Int32))])) _
                refine XS.icmpNo X127.here hx rfl (hb hby at_132) rfl (teq (by decide : (1 : Int32) = (1 : Int32))).2 ?_
                show Steps p.tables e below (T127.setTop (mkF m 135 #[.val (.int p1), .val (.int p2), .val (.ref b1), .val (.int (0 : Int32)), .val (.int (3 : Int32)), .val (.int z12), .val (.int z14), .val (.int z16), .val (.int (1 : Int32)), .val (.int (1 : Int32)), .val (.int (0 : Int32)), .val (.int (1 : Int32))] [])) _
                refine XS.iload X127.here hx rfl (hb hby at_135) rfl ?_
                show Steps p.tables e below (T127.setTop (mkF m 137 #[.val (.int p1), .val (.int p2), .val (.ref b1), .val (.int (0 : Int32)), .val (.int (3 : Int32)), .val (.int z12), .val (.int z14), .val (.int z16), .val (.int (1 : Int32)), .val (.int (1 : Int32)), .val (.int (0 : Int32)), .val (.int (1 : Int32))] [(.int (1 : Int32))])) _
                refine XS.iload X127.here hx rfl (hb hby at_137) rfl ?_
                show Steps p.tables e below (T127.setTop (mkF m 139 #[.val (.int p1), .val (.int p2), .val (.ref b1), .val (.int (0 : Int32)), .val (.int (3 : Int32)), .val (.int z12), .val (.int z14), .val (.int z16), .val (.int (1 : Int32)), .val (.int (1 : Int32)), .val (.int (0 : Int32)), .val (.int (1 : Int32))] [(.int (1 : Int32)), (.int (1 : Int32))])) _
                refine XS.ifYes X127.here hx rfl (pc0 := 139) (pc' := 147) rfl (hb hby at_139) rfl ((if0 _ _).trans (feq (by decide : ¬ ((1 : Int32) = (0 : Int32)))).2) (by decide) (by decide) ?_
                show Steps p.tables e below (T127.setTop (mkF m 147 #[.val (.int p1), .val (.int p2), .val (.ref b1), .val (.int (0 : Int32)), .val (.int (3 : Int32)), .val (.int z12), .val (.int z14), .val (.int z16), .val (.int (1 : Int32)), .val (.int (1 : Int32)), .val (.int (0 : Int32)), .val (.int (1 : Int32))] [(.int (1 : Int32))])) _
                refine XS.iconst X127.here hx rfl (hb hby at_147) ?_
                show Steps p.tables e below (T127.setTop (mkF m 148 #[.val (.int p1), .val (.int p2), .val (.ref b1), .val (.int (0 : Int32)), .val (.int (3 : Int32)), .val (.int z12), .val (.int z14), .val (.int z16), .val (.int (1 : Int32)), .val (.int (1 : Int32)), .val (.int (0 : Int32)), .val (.int (1 : Int32))] [(.int (1 : Int32)), (.int (1 : Int32))])) _
                refine XS.goto X127.here hx rfl (pc0 := 148) (pc' := 152) rfl (hb hby at_148) (by decide) (by decide) ?_
                show Steps p.tables e below (T127.setTop (mkF m 152 #[.val (.int p1), .val (.int p2), .val (.ref b1), .val (.int (0 : Int32)), .val (.int (3 : Int32)), .val (.int z12), .val (.int z14), .val (.int z16), .val (.int (1 : Int32)), .val (.int (1 : Int32)), .val (.int (0 : Int32)), .val (.int (1 : Int32))] [(.int (1 : Int32)), (.int (1 : Int32))])) _
                refine XS.icmpNo X127.here hx rfl (hb hby at_152) rfl (teq (by decide : (1 : Int32) = (1 : Int32))).2 ?_
                show Steps p.tables e below (T127.setTop (mkF m 155 #[.val (.int p1), .val (.int p2), .val (.ref b1), .val (.int (0 : Int32)), .val (.int (3 : Int32)), .val (.int z12), .val (.int z14), .val (.int z16), .val (.int (1 : Int32)), .val (.int (1 : Int32)), .val (.int (0 : Int32)), .val (.int (1 : Int32))] [])) _
                refine XS.iconst X127.here hx rfl (hb hby at_155) ?_
                show Steps p.tables e below (T127.setTop (mkF m 156 #[.val (.int p1), .val (.int p2), .val (.ref b1), .val (.int (0 : Int32)), .val (.int (3 : Int32)), .val (.int z12), .val (.int z14), .val (.int z16), .val (.int (1 : Int32)), .val (.int (1 : Int32)), .val (.int (0 : Int32)), .val (.int (1 : Int32))] [(.int (1 : Int32))])) _
                refine XS.goto X127.here hx rfl (pc0 := 156) (pc' := 160) rfl (hb hby at_156) (by decide) (by decide) ?_
                show Steps p.tables e below (T127.setTop (mkF m 160 #[.val (.int p1), .val (.int p2), .val (.ref b1), .val (.int (0 : Int32)), .val (.int (3 : Int32)), .val (.int z12), .val (.int z14), .val (.int z16), .val (.int (1 : Int32)), .val (.int (1 : Int32)), .val (.int (0 : Int32)), .val (.int (1 : Int32))] [(.int (1 : Int32))])) _
                exact retN X127 hx (t := .boolean) hret (by simp) (hb hby at_160) hr
              ·
                show Q0 n0 _ T127.heap _
                rw [e129]
                exact ⟨rfl, N127⟩
        ·
          have N63 := Fr.app N34 Nq71
          have M63 : h0.size ≤ T63.heap.size := Nat.le_trans M34 K72.1
          have O63 := Old.keep O34 K72 (allS g_b1 all0)
          have pre130 : ∀ t, Steps p.tables e below (T63.setTop (mkF m 84 #[.val (.int p1), .val (.int p2), .val (.ref b1), .val (.int (0 : Int32)), .val (.int (p1 &&& (3 : Int32))), .val (.int z12), .val (.int z14), .val (.int z16), .unset, .unset, .unset, .unset] [(.int (3 : Int32)), (.int (p1 &&& (3 : Int32)))])) t → Steps p.tables e below (s₁.setTop (entryFrame m #[(.int p1), (.int p2)] maxLocals)) t := fun t k => by
            refine pre64 _ ?_
            show Steps p.tables e below (T34.setTop (mkF m 78 #[.val (.int p1), .val (.int p2), .val (.ref b1), .val (.int (0 : Int32)), .val (.int (p1 &&& (3 : Int32))), .val (.int z12), .val (.int z14), .val (.int z16), .unset, .unset, .unset, .unset] [(.int z14), (.ref b1)])) _
            refine st63.trans ?_
            show Steps p.tables e below (T63.setTop (mkF m 81 #[.val (.int p1), .val (.int p2), .val (.ref b1), .val (.int (0 : Int32)), .val (.int (p1 &&& (3 : Int32))), .val (.int z12), .val (.int z14), .val (.int z16), .unset, .unset, .unset, .unset] [])) _
            refine XS.iload X63.here hx rfl (hb hby at_81) rfl ?_
            show Steps p.tables e below (T63.setTop (mkF m 83 #[.val (.int p1), .val (.int p2), .val (.ref b1), .val (.int (0 : Int32)), .val (.int (p1 &&& (3 : Int32))), .val (.int z12), .val (.int z14), .val (.int z16), .unset, .unset, .unset, .unset] [(.int (p1 &&& (3 : Int32)))])) _
            refine XS.iconst X63.here hx rfl (hb hby at_83) ?_
            exact k
          by_cases hc131 : (p1 &&& (3 : Int32)) < (3 : Int32)
          ·
            have hq132 : (p1 &&& (3 : Int32)) = (2 : Int32) := (own_geq (n := 2) (k := (2 : Int32)) (by decide) (by have q0 := own_and (x := p1) (k := (3 : Int32)) (n := 3) (by decide) (by decide); have q1 := own_nlt1 (n := 1) (k := (1 : Int32)) (by decide) hc18; have q2 := own_nlt1 (n := 2) (k := (2 : Int32)) (by decide) hc47; have q3 := own_lt1 (n := 3) (k := (3 : Int32)) (by decide) hc131; omega))
            have pre133 : ∀ t, Steps p.tables e below (T63.setTop (mkF m 84 #[.val (.int p1), .val (.int p2), .val (.ref b1), .val (.int (0 : Int32)), .val (.int (2 : Int32)), .val (.int z12), .val (.int z14), .val (.int z16), .unset, .unset, .unset, .unset] [(.int (3 : Int32)), (.int (2 : Int32))])) t → Steps p.tables e below (s₁.setTop (entryFrame m #[(.int p1), (.int p2)] maxLocals)) t := fun t k => pre130 t (by rw [hq132]; exact k)
            obtain ⟨cq134, kq134, q134a, q134b, q134c⟩ := isOf hZ rfl f73
            obtain ⟨_, _, ⟨T135, L135, c135, n135⟩, -, X135, ⟨Lc135, hQ135, l135, y135, z135⟩, st135⟩ := X63.virtualBack hx (y := (⟨"com/example/vorgang/vorgang/QueryTimeoutScope", "isKnown", "()Z"⟩ : MethodName)) (z := (⟨"com/example/vorgang/vorgang/QueryTimeoutScope", "isKnown", "()Z"⟩ : MethodName)) hown (mvT hZ (hw _ (List.mem_of_getElem? (i := 14) rfl))) (mvT hZ (hw _ (List.mem_of_getElem? (i := 15) rfl))) (notFace_of_selects (args := #[]) (mvT hZ (hw _ (List.mem_of_getElem? (i := 17) rfl)))) (mvT hZ (hw _ (List.mem_of_getElem? (i := 17) rfl))) (mvT hZ (hw _ (List.mem_of_getElem? (i := 16) rfl))) (by decide) (backOf (W := 0) (rm10 l Z a0 hw w1 w2 w3 G [] b1 T63.heap n0 O63 g_b1 f74) hZ (hw _ (List.mem_of_getElem? (i := 18) rfl)) (hw _ (List.mem_of_getElem? (i := 2) rfl)) (by decide) (by decide)) q134a q134c (g := (mkF m 94 #[.val (.int p1), .val (.int p2), .val (.ref b1), .val (.int (0 : Int32)), .val (.int (2 : Int32)), .val (.int z12), .val (.int z14), .val (.int z16), .unset, .unset, .unset, .unset] [(.ref b1)])) rfl (by rw [hml]; rfl) (Steps.refl _) (argsL := []) (rest := []) (lenOf pd1 rfl) rfl (by show 2 * 0 + _ ≤ _; exact Nat.le_of_eq rfl) (hb hby at_94) (fun _ _ => ⟨rfl, rfl, (by decide : 1 + 0 ≤ _), (by decide : 1 + 0 ≤ _)⟩)
            dsimp only [Pt.U, Pt.locs, Pt.cells, Pt.slots] at X135 l135 y135 z135 st135 hQ135
            subst l135 y135 z135
            have X135 : Stand p l e room_1 s m #[(.int p1), (.int p2)] below meth c T135 _ 1 1 := X135
            obtain ⟨rfl, Nq136, e137⟩ := hQ135
            have N135 := Fr.app N63 Nq136
            obtain ⟨cq138, kq138, q138a, q138b, q138c⟩ := isOf hZ e137 f73
            obtain ⟨_, _, ⟨T139, L139, c139, n139⟩, -, X139, ⟨Lc139, hQ139, l139, y139, z139⟩, st139⟩ := X135.virtualBack hx (y := (⟨"com/example/vorgang/vorgang/QueryTimeoutScope", "isSession", "()Z"⟩ : MethodName)) (z := (⟨"com/example/vorgang/vorgang/QueryTimeoutScope", "isSession", "()Z"⟩ : MethodName)) hown (mvT hZ (hw _ (List.mem_of_getElem? (i := 19) rfl))) (mvT hZ (hw _ (List.mem_of_getElem? (i := 20) rfl))) (notFace_of_selects (args := #[]) (mvT hZ (hw _ (List.mem_of_getElem? (i := 22) rfl)))) (mvT hZ (hw _ (List.mem_of_getElem? (i := 22) rfl))) (mvT hZ (hw _ (List.mem_of_getElem? (i := 21) rfl))) (by decide) (backOf (W := 0) (rm11 l Z a0 hw w1 w2 w3 G [] b1 T63.heap n0 O63 g_b1 f74) hZ (hw _ (List.mem_of_getElem? (i := 23) rfl)) (hw _ (List.mem_of_getElem? (i := 2) rfl)) (by decide) (by decide)) q138a q138c (g := (mkF m 100 #[.val (.int p1), .val (.int p2), .val (.ref b1), .val (.int (0 : Int32)), .val (.int (2 : Int32)), .val (.int z12), .val (.int z14), .val (.int z16), .val (.int (1 : Int32)), .unset, .unset, .unset] [(.ref b1)])) rfl (by rw [hml]; rfl) (Steps.refl _) (argsL := []) (rest := []) (lenOf pd1 rfl) rfl (by show 2 * 0 + _ ≤ _; exact Nat.le_of_eq rfl) (hb hby at_100) (fun _ _ => ⟨rfl, e137, (by decide : 1 + 0 ≤ _), (by decide : 1 + 0 ≤ _)⟩)
            dsimp only [Pt.U, Pt.locs, Pt.cells, Pt.slots] at X139 l139 y139 z139 st139 hQ139
            subst l139 y139 z139
            have X139 : Stand p l e room_1 s m #[(.int p1), (.int p2)] below meth c T139 _ 1 1 := X139
            obtain ⟨rfl, Nq140, e141⟩ := hQ139
            have N139 := Fr.app N135 Nq140
            obtain ⟨cq142, kq142, q142a, q142b, q142c⟩ := isOf hZ e141 f73
            obtain ⟨_, _, ⟨T143, L143, c143, n143⟩, -, X143, ⟨Lc143, hQ143, l143, y143, z143⟩, st143⟩ := X139.virtualBack hx (y := (⟨"com/example/vorgang/vorgang/QueryTimeoutScope", "isStatement", "()Z"⟩ : MethodName)) (z := (⟨"com/example/vorgang/vorgang/QueryTimeoutScope", "isStatement", "()Z"⟩ : MethodName)) hown (mvT hZ (hw _ (List.mem_of_getElem? (i := 26) rfl))) (mvT hZ (hw _ (List.mem_of_getElem? (i := 27) rfl))) (notFace_of_selects (args := #[]) (mvT hZ (hw _ (List.mem_of_getElem? (i := 29) rfl)))) (mvT hZ (hw _ (List.mem_of_getElem? (i := 29) rfl))) (mvT hZ (hw _ (List.mem_of_getElem? (i := 28) rfl))) (by decide) (backOf (W := 0) (rm12 l Z a0 hw w1 w2 w3 G [] b1 T63.heap n0 O63 g_b1 f74) hZ (hw _ (List.mem_of_getElem? (i := 30) rfl)) (hw _ (List.mem_of_getElem? (i := 2) rfl)) (by decide) (by decide)) q142a q142c (g := (mkF m 106 #[.val (.int p1), .val (.int p2), .val (.ref b1), .val (.int (0 : Int32)), .val (.int (2 : Int32)), .val (.int z12), .val (.int z14), .val (.int z16), .val (.int (1 : Int32)), .val (.int (1 : Int32)), .unset, .unset] [(.ref b1)])) rfl (by rw [hml]; rfl) (Steps.refl _) (argsL := []) (rest := []) (lenOf pd1 rfl) rfl (by show 2 * 0 + _ ≤ _; exact Nat.le_of_eq rfl) (hb hby at_106) (fun _ _ => ⟨rfl, e141, (by decide : 1 + 0 ≤ _), (by decide : 1 + 0 ≤ _)⟩)
            dsimp only [Pt.U, Pt.locs, Pt.cells, Pt.slots] at X143 l143 y143 z143 st143 hQ143
            subst l143 y143 z143
            have X143 : Stand p l e room_1 s m #[(.int p1), (.int p2)] below meth c T143 _ 1 1 := X143
            obtain ⟨rfl, Nq144, e145⟩ := hQ143
            have N143 := Fr.app N139 Nq144
            obtain ⟨fs, hr, hrun, hended, hW, hsame⟩ := X143.leave (v := some (.int (1 : Int32))) (fun h => by rw [hret] at h; cases h)
            refine ⟨_, _, pre133 _ ?_, hrun, hended, _, _, rfl, ?_, ⟨_, rfl⟩, hW, hsame.mono (by decide) (by decide)⟩
            ·
              show Steps p.tables e below (T63.setTop (mkF m 84 #[.val (.int p1), .val (.int p2), .val (.ref b1), .val (.int (0 : Int32)), .val (.int (2 : Int32)), .val (.int z12), .val (.int z14), .val (.int z16), .unset, .unset, .unset, .unset] [(.int (3 : Int32)), (.int (2 : Int32))])) _
              refine XS.icmpYes X63.here hx rfl (pc0 := 84) (pc' := 93) rfl (hb hby at_84) rfl (tlt (by decide : (2 : Int32) < (3 : Int32))).1 (by decide) (by decide) ?_
              show Steps p.tables e below (T63.setTop (mkF m 93 #[.val (.int p1), .val (.int p2), .val (.ref b1), .val (.int (0 : Int32)), .val (.int (2 : Int32)), .val (.int z12), .val (.int z14), .val (.int z16), .unset, .unset, .unset, .unset] [])) _
              refine XS.aloadN X63.here hx rfl (hb hby at_93) rfl rfl ?_
              show Steps p.tables e below (T63.setTop (mkF m 94 #[.val (.int p1), .val (.int p2), .val (.ref b1), .val (.int (0 : Int32)), .val (.int (2 : Int32)), .val (.int z12), .val (.int z14), .val (.int z16), .unset, .unset, .unset, .unset] [(.ref b1)])) _
              refine st135.trans ?_
              show Steps p.tables e below (T135.setTop (mkF m 97 #[.val (.int p1), .val (.int p2), .val (.ref b1), .val (.int (0 : Int32)), .val (.int (2 : Int32)), .val (.int z12), .val (.int z14), .val (.int z16), .unset, .unset, .unset, .unset] [(.int (1 : Int32))])) _
              refine XS.istore X135.here hx rfl (hb hby at_97) rfl (l' := #[.val (.int p1), .val (.int p2), .val (.ref b1), .val (.int (0 : Int32)), .val (.int (2 : Int32)), .val (.int z12), .val (.int z14), .val (.int z16), .val (.int (1 : Int32)), .unset, .unset, .unset]) rfl ?_
              show Steps p.tables e below (T135.setTop (mkF m 99 #[.val (.int p1), .val (.int p2), .val (.ref b1), .val (.int (0 : Int32)), .val (.int (2 : Int32)), .val (.int z12), .val (.int z14), .val (.int z16), .val (.int (1 : Int32)), .unset, .unset, .unset] [])) _
              refine XS.aloadN X135.here hx rfl (hb hby at_99) rfl rfl ?_
              show Steps p.tables e below (T135.setTop (mkF m 100 #[.val (.int p1), .val (.int p2), .val (.ref b1), .val (.int (0 : Int32)), .val (.int (2 : Int32)), .val (.int z12), .val (.int z14), .val (.int z16), .val (.int (1 : Int32)), .unset, .unset, .unset] [(.ref b1)])) _
              refine st139.trans ?_
              show Steps p.tables e below (T139.setTop (mkF m 103 #[.val (.int p1), .val (.int p2), .val (.ref b1), .val (.int (0 : Int32)), .val (.int (2 : Int32)), .val (.int z12), .val (.int z14), .val (.int z16), .val (.int (1 : Int32)), .unset, .unset, .unset] [(.int (1 : Int32))])) _
              refine XS.istore X139.here hx rfl (hb hby at_103) rfl (l' := #[.val (.int p1), .val (.int p2), .val (.ref b1), .val (.int (0 : Int32)), .val (.int (2 : Int32)), .val (.int z12), .val (.int z14), .val (.int z16), .val (.int (1 : Int32)), .val (.int (1 : Int32)), .unset, .unset]) rfl ?_
              show Steps p.tables e below (T139.setTop (mkF m 105 #[.val (.int p1), .val (.int p2), .val (.ref b1), .val (.int (0 : Int32)), .val (.int (2 : Int32)), .val (.int z12), .val (.int z14), .val (.int z16), .val (.int (1 : Int32)), .val (.int (1 : Int32)), .unset, .unset] [])) _
              refine XS.aloadN X139.here hx rfl (hb hby at_105) rfl rfl ?_
              show Steps p.tables e below (T139.setTop (mkF m 106 #[.val (.int p1), .val (.int p2), .val (.ref b1), .val (.int (0 : Int32)), .val (.int (2 : Int32)), .val (.int z12), .val (.int z14), .val (.int z16), .val (.int (1 : Int32)), .val (.int (1 : Int32)), .unset, .unset] [(.ref b1)])) _
              refine st143.trans ?_
              show Steps p.tables e below (T143.setTop (mkF m 109 #[.val (.int p1), .val (.int p2), .val (.ref b1), .val (.int (0 : Int32)), .val (.int (2 : Int32)), .val (.int z12), .val (.int z14), .val (.int z16), .val (.int (1 : Int32)), .val (.int (1 : Int32)), .unset, .unset] [(.int (0 : Int32))])) _
              refine XS.istore X143.here hx rfl (hb hby at_109) rfl (l' := #[.val (.int p1), .val (.int p2), .val (.ref b1), .val (.int (0 : Int32)), .val (.int (2 : Int32)), .val (.int z12), .val (.int z14), .val (.int z16), .val (.int (1 : Int32)), .val (.int (1 : Int32)), .val (.int (0 : Int32)), .unset]) rfl ?_
              show Steps p.tables e below (T143.setTop (mkF m 111 #[.val (.int p1), .val (.int p2), .val (.ref b1), .val (.int (0 : Int32)), .val (.int (2 : Int32)), .val (.int z12), .val (.int z14), .val (.int z16), .val (.int (1 : Int32)), .val (.int (1 : Int32)), .val (.int (0 : Int32)), .unset] [])) _
              refine XS.iload X143.here hx rfl (hb hby at_111) rfl ?_
              show Steps p.tables e below (T143.setTop (mkF m 113 #[.val (.int p1), .val (.int p2), .val (.ref b1), .val (.int (0 : Int32)), .val (.int (2 : Int32)), .val (.int z12), .val (.int z14), .val (.int z16), .val (.int (1 : Int32)), .val (.int (1 : Int32)), .val (.int (0 : Int32)), .unset] [(.int (2 : Int32))])) _
              refine XS.iconst X143.here hx rfl (hb hby at_113) ?_
              show Steps p.tables e below (T143.setTop (mkF m 114 #[.val (.int p1), .val (.int p2), .val (.ref b1), .val (.int (0 : Int32)), .val (.int (2 : Int32)), .val (.int z12), .val (.int z14), .val (.int z16), .val (.int (1 : Int32)), .val (.int (1 : Int32)), .val (.int (0 : Int32)), .unset] [(.int (1 : Int32)), (.int (2 : Int32))])) _
              refine XS.icmpNo X143.here hx rfl (hb hby at_114) rfl (flt (by decide : ¬ ((2 : Int32) < (1 : Int32)))).1 ?_
              show Steps p.tables e below (T143.setTop (mkF m 117 #[.val (.int p1), .val (.int p2), .val (.ref b1), .val (.int (0 : Int32)), .val (.int (2 : Int32)), .val (.int z12), .val (.int z14), .val (.int z16), .val (.int (1 : Int32)), .val (.int (1 : Int32)), .val (.int (0 : Int32)), .unset] [])) _
              refine XS.iconst X143.here hx rfl (hb hby at_117) ?_
              show Steps p.tables e below (T143.setTop (mkF m 118 #[.val (.int p1), .val (.int p2), .val (.ref b1), .val (.int (0 : Int32)), .val (.int (2 : Int32)), .val (.int z12), .val (.int z14), .val (.int z16), .val (.int (1 : Int32)), .val (.int (1 : Int32)), .val (.int (0 : Int32)), .unset] [(.int (1 : Int32))])) _
              refine XS.goto X143.here hx rfl (pc0 := 118) (pc' := 122) rfl (hb hby at_118) (by decide) (by decide) ?_
              show Steps p.tables e below (T143.setTop (mkF m 122 #[.val (.int p1), .val (.int p2), .val (.ref b1), .val (.int (0 : Int32)), .val (.int (2 : Int32)), .val (.int z12), .val (.int z14), .val (.int z16), .val (.int (1 : Int32)), .val (.int (1 : Int32)), .val (.int (0 : Int32)), .unset] [(.int (1 : Int32))])) _
              refine XS.istore X143.here hx rfl (hb hby at_122) rfl (l' := #[.val (.int p1), .val (.int p2), .val (.ref b1), .val (.int (0 : Int32)), .val (.int (2 : Int32)), .val (.int z12), .val (.int z14), .val (.int z16), .val (.int (1 : Int32)), .val (.int (1 : Int32)), .val (.int (0 : Int32)), .val (.int (1 : Int32))]) rfl ?_
              show Steps p.tables e below (T143.setTop (mkF m 124 #[.val (.int p1), .val (.int p2), .val (.ref b1), .val (.int (0 : Int32)), .val (.int (2 : Int32)), .val (.int z12), .val (.int z14), .val (.int z16), .val (.int (1 : Int32)), .val (.int (1 : Int32)), .val (.int (0 : Int32)), .val (.int (1 : Int32))] [])) _
              refine XS.iloadN X143.here hx rfl (hb hby at_124) rfl ?_
              show Steps p.tables e below (T143.setTop (mkF m 125 #[.val (.int p1), .val (.int p2), .val (.ref b1), .val (.int (0 : Int32)), .val (.int (2 : Int32)), .val (.int z12), .val (.int z14), .val (.int z16), .val (.int (1 : Int32)), .val (.int (1 : Int32)), .val (.int (0 : Int32)), .val (.int (1 : Int32))] [(.int (0 : Int32))])) _
              refine XS.ifNo X143.here hx rfl (hb hby at_125) rfl ((if0 _ _).trans (teq (by decide : (0 : Int32) = (0 : Int32))).2) ?_
              show Steps p.tables e below (T143.setTop (mkF m 128 #[.val (.int p1), .val (.int p2), .val (.ref b1), .val (.int (0 : Int32)), .val (.int (2 : Int32)), .val (.int z12), .val (.int z14), .val (.int z16), .val (.int (1 : Int32)), .val (.int (1 : Int32)), .val (.int (0 : Int32)), .val (.int (1 : Int32))] [])) _
              refine XS.iload X143.here hx rfl (hb hby at_128) rfl ?_
              show Steps p.tables e below (T143.setTop (mkF m 130 #[.val (.int p1), .val (.int p2), .val (.ref b1), .val (.int (0 : Int32)), .val (.int (2 : Int32)), .val (.int z12), .val (.int z14), .val (.int z16), .val (.int (1 : Int32)), .val (.int (1 : Int32)), .val (.int (0 : Int32)), .val (.int (1 : Int32))] [(.int (1 : Int32))])) _
              refine XS.iload X143.here hx rfl (hb hby at_130) rfl ?_
              show Steps p.tables e below (T143.setTop (mkF m 132 #[.val (.int p1), .val (.int p2), .val (.ref b1), .val (.int (0 : Int32)), .val (.int (2 : Int32)), .val (.int z12), .val (.int z14), .val (.int z16), .val (.int (1 : Int32)), .val (.int (1 : Int32)), .val (.int (0 : Int32)), .val (.int (1 : Int32))] [(.int (1 : Int32)), (.int (1 : Int32))])) _
              refine XS.icmpNo X143.here hx rfl (hb hby at_132) rfl (teq (by decide : (1 : Int32) = (1 : Int32))).2 ?_
              show Steps p.tables e below (T143.setTop (mkF m 135 #[.val (.int p1), .val (.int p2), .val (.ref b1), .val (.int (0 : Int32)), .val (.int (2 : Int32)), .val (.int z12), .val (.int z14), .val (.int z16), .val (.int (1 : Int32)), .val (.int (1 : Int32)), .val (.int (0 : Int32)), .val (.int (1 : Int32))] [])) _
              refine XS.iload X143.here hx rfl (hb hby at_135) rfl ?_
              show Steps p.tables e below (T143.setTop (mkF m 137 #[.val (.int p1), .val (.int p2), .val (.ref b1), .val (.int (0 : Int32)), .val (.int (2 : Int32)), .val (.int z12), .val (.int z14), .val (.int z16), .val (.int (1 : Int32)), .val (.int (1 : Int32)), .val (.int (0 : Int32)), .val (.int (1 : Int32))] [(.int (1 : Int32))])) _
              refine XS.iload X143.here hx rfl (hb hby at_137) rfl ?_
              show Steps p.tables e below (T143.setTop (mkF m 139 #[.val (.int p1), .val (.int p2), .val (.ref b1), .val (.int (0 : Int32)), .val (.int (2 : Int32)), .val (.int z12), .val (.int z14), .val (.int z16), .val (.int (1 : Int32)), .val (.int (1 : Int32)), .val (.int (0 : Int32)), .val (.int (1 : Int32))] [(.int (1 : Int32)), (.int (1 : Int32))])) _
              refine XS.ifYes X143.here hx rfl (pc0 := 139) (pc' := 147) rfl (hb hby at_139) rfl ((if0 _ _).trans (feq (by decide : ¬ ((1 : Int32) = (0 : Int32)))).2) (by decide) (by decide) ?_
              show Steps p.tables e below (T143.setTop (mkF m 147 #[.val (.int p1), .val (.int p2), .val (.ref b1), .val (.int (0 : Int32)), .val (.int (2 : Int32)), .val (.int z12), .val (.int z14), .val (.int z16), .val (.int (1 : Int32)), .val (.int (1 : Int32)), .val (.int (0 : Int32)), .val (.int (1 : Int32))] [(.int (1 : Int32))])) _
              refine XS.iconst X143.here hx rfl (hb hby at_147) ?_
              show Steps p.tables e below (T143.setTop (mkF m 148 #[.val (.int p1), .val (.int p2), .val (.ref b1), .val (.int (0 : Int32)), .val (.int (2 : Int32)), .val (.int z12), .val (.int z14), .val (.int z16), .val (.int (1 : Int32)), .val (.int (1 : Int32)), .val (.int (0 : Int32)), .val (.int (1 : Int32))] [(.int (1 : Int32)), (.int (1 : Int32))])) _
              refine XS.goto X143.here hx rfl (pc0 := 148) (pc' := 152) rfl (hb hby at_148) (by decide) (by decide) ?_
              show Steps p.tables e below (T143.setTop (mkF m 152 #[.val (.int p1), .val (.int p2), .val (.ref b1), .val (.int (0 : Int32)), .val (.int (2 : Int32)), .val (.int z12), .val (.int z14), .val (.int z16), .val (.int (1 : Int32)), .val (.int (1 : Int32)), .val (.int (0 : Int32)), .val (.int (1 : Int32))] [(.int (1 : Int32)), (.int (1 : Int32))])) _
              refine XS.icmpNo X143.here hx rfl (hb hby at_152) rfl (teq (by decide : (1 : Int32) = (1 : Int32))).2 ?_
              show Steps p.tables e below (T143.setTop (mkF m 155 #[.val (.int p1), .val (.int p2), .val (.ref b1), .val (.int (0 : Int32)), .val (.int (2 : Int32)), .val (.int z12), .val (.int z14), .val (.int z16), .val (.int (1 : Int32)), .val (.int (1 : Int32)), .val (.int (0 : Int32)), .val (.int (1 : Int32))] [])) _
              refine XS.iconst X143.here hx rfl (hb hby at_155) ?_
              show Steps p.tables e below (T143.setTop (mkF m 156 #[.val (.int p1), .val (.int p2), .val (.ref b1), .val (.int (0 : Int32)), .val (.int (2 : Int32)), .val (.int z12), .val (.int z14), .val (.int z16), .val (.int (1 : Int32)), .val (.int (1 : Int32)), .val (.int (0 : Int32)), .val (.int (1 : Int32))] [(.int (1 : Int32))])) _
              refine XS.goto X143.here hx rfl (pc0 := 156) (pc' := 160) rfl (hb hby at_156) (by decide) (by decide) ?_
              show Steps p.tables e below (T143.setTop (mkF m 160 #[.val (.int p1), .val (.int p2), .val (.ref b1), .val (.int (0 : Int32)), .val (.int (2 : Int32)), .val (.int z12), .val (.int z14), .val (.int z16), .val (.int (1 : Int32)), .val (.int (1 : Int32)), .val (.int (0 : Int32)), .val (.int (1 : Int32))] [(.int (1 : Int32))])) _
              exact retN X143 hx (t := .boolean) hret (by simp) (hb hby at_160) hr
            ·
              show Q0 n0 _ T143.heap _
              rw [e145]
              exact ⟨rfl, N143⟩
          ·
            have hq146 : (p1 &&& (3 : Int32)) = (3 : Int32) := (own_geq (n := 3) (k := (3 : Int32)) (by decide) (by have q0 := own_and (x := p1) (k := (3 : Int32)) (n := 3) (by decide) (by decide); have q1 := own_nlt1 (n := 1) (k := (1 : Int32)) (by decide) hc18; have q2 := own_nlt1 (n := 2) (k := (2 : Int32)) (by decide) hc47; have q3 := own_nlt1 (n := 3) (k := (3 : Int32)) (by decide) hc131; omega))
            have pre147 : ∀ t, Steps p.tables e below (T63.setTop (mkF m 84 #[.val (.int p1), .val (.int p2), .val (.ref b1), .val (.int (0 : Int32)), .val (.int (3 : Int32)), .val (.int z12), .val (.int z14), .val (.int z16), .unset, .unset, .unset, .unset] [(.int (3 : Int32)), (.int (3 : Int32))])) t → Steps p.tables e below (s₁.setTop (entryFrame m #[(.int p1), (.int p2)] maxLocals)) t := fun t k => pre130 t (by rw [hq146]; exact k)
            obtain ⟨cq148, kq148, q148a, q148b, q148c⟩ := isOf hZ rfl f73
            obtain ⟨_, _, ⟨T149, L149, c149, n149⟩, -, X149, ⟨Lc149, hQ149, l149, y149, z149⟩, st149⟩ := X63.virtualBack hx (y := (⟨"com/example/vorgang/vorgang/QueryTimeoutScope", "found", "(Z)V"⟩ : MethodName)) (z := (⟨"com/example/vorgang/vorgang/QueryTimeoutScope", "found", "(Z)V"⟩ : MethodName)) hown (mvT hZ (hw _ (List.mem_of_getElem? (i := 33) rfl))) (mvT hZ (hw _ (List.mem_of_getElem? (i := 34) rfl))) (notFace_of_selects (args := #[]) (mvT hZ (hw _ (List.mem_of_getElem? (i := 36) rfl)))) (mvT hZ (hw _ (List.mem_of_getElem? (i := 36) rfl))) (mvT hZ (hw _ (List.mem_of_getElem? (i := 35) rfl))) (by decide) (backOf (W := 0) (rm13 l Z a0 hw w1 w2 w3 G [] b1 z16 T63.heap n0 O63 g_b1 f73 f74) hZ (hw _ (List.mem_of_getElem? (i := 37) rfl)) (hw _ (List.mem_of_getElem? (i := 2) rfl)) (by decide) (by decide)) q148a q148c (g := (mkF m 90 #[.val (.int p1), .val (.int p2), .val (.ref b1), .val (.int (0 : Int32)), .val (.int (3 : Int32)), .val (.int z12), .val (.int z14), .val (.int z16), .unset, .unset, .unset, .unset] [(.int z16), (.ref b1)])) rfl (by rw [hml]; rfl) (Steps.refl _) (argsL := [(.int z16)]) (rest := []) (lenOf pd2 rfl) rfl (by show 2 * 0 + _ ≤ _; exact Nat.le_of_eq rfl) (hb hby at_90) (fun _ _ => ⟨rfl, rfl, (by decide : 1 + 0 ≤ _), (by decide : 1 + 0 ≤ _)⟩)
            dsimp only [Pt.U, Pt.locs, Pt.cells, Pt.slots] at X149 l149 y149 z149 st149 hQ149
            subst l149 y149 z149
            have pre150 : ∀ t, Steps p.tables e below (T63.setTop (mkF m 90 #[.val (.int p1), .val (.int p2), .val (.ref b1), .val (.int (0 : Int32)), .val (.int (3 : Int32)), .val (.int z12), .val (.int z14), .val (.int z16), .unset, .unset, .unset, .unset] [(.int z16), (.ref b1)])) t → Steps p.tables e below (s₁.setTop (entryFrame m #[(.int p1), (.int p2)] maxLocals)) t := fun t k => by
              refine pre147 _ ?_
              show Steps p.tables e below (T63.setTop (mkF m 84 #[.val (.int p1), .val (.int p2), .val (.ref b1), .val (.int (0 : Int32)), .val (.int (3 : Int32)), .val (.int z12), .val (.int z14), .val (.int z16), .unset, .unset, .unset, .unset] [(.int (3 : Int32)), (.int (3 : Int32))])) _
              refine XS.icmpNo X63.here hx rfl (hb hby at_84) rfl (flt (by decide : ¬ ((3 : Int32) < (3 : Int32)))).1 ?_
              show Steps p.tables e below (T63.setTop (mkF m 87 #[.val (.int p1), .val (.int p2), .val (.ref b1), .val (.int (0 : Int32)), .val (.int (3 : Int32)), .val (.int z12), .val (.int z14), .val (.int z16), .unset, .unset, .unset, .unset] [])) _
              refine XS.aloadN X63.here hx rfl (hb hby at_87) rfl rfl ?_
              show Steps p.tables e below (T63.setTop (mkF m 88 #[.val (.int p1), .val (.int p2), .val (.ref b1), .val (.int (0 : Int32)), .val (.int (3 : Int32)), .val (.int z12), .val (.int z14), .val (.int z16), .unset, .unset, .unset, .unset] [(.ref b1)])) _
              refine XS.iload X63.here hx rfl (hb hby at_88) rfl ?_
              exact k
            have X149 : Stand p l e room_1 s m #[(.int p1), (.int p2)] below meth c T149 _ 1 1 := X149
            rcases hQ149 with ⟨hc151, rfl, Nq152, K153, f154, f155⟩ | ⟨hc156, rfl, Nq157, K158, f159, f160⟩
            ·
              have N149 := Fr.app N63 Nq152
              have M149 : h0.size ≤ T149.heap.size := Nat.le_trans M63 K153.1
              have O149 := Old.keep O63 K153 (allS g_b1 all0)
              obtain ⟨cq161, kq161, q161a, q161b, q161c⟩ := isOf hZ rfl f154
              obtain ⟨_, _, ⟨T162, L162, c162, n162⟩, -, X162, ⟨Lc162, hQ162, l162, y162, z162⟩, st162⟩ := X149.virtualBack hx (y := (⟨"com/example/vorgang/vorgang/QueryTimeoutScope", "isKnown", "()Z"⟩ : MethodName)) (z := (⟨"com/example/vorgang/vorgang/QueryTimeoutScope", "isKnown", "()Z"⟩ : MethodName)) hown (mvT hZ (hw _ (List.mem_of_getElem? (i := 14) rfl))) (mvT hZ (hw _ (List.mem_of_getElem? (i := 15) rfl))) (notFace_of_selects (args := #[]) (mvT hZ (hw _ (List.mem_of_getElem? (i := 17) rfl)))) (mvT hZ (hw _ (List.mem_of_getElem? (i := 17) rfl))) (mvT hZ (hw _ (List.mem_of_getElem? (i := 16) rfl))) (by decide) (backOf (W := 0) (rm6 l Z a0 hw w1 w2 w3 G [] b1 T149.heap n0 O149 g_b1 f155) hZ (hw _ (List.mem_of_getElem? (i := 18) rfl)) (hw _ (List.mem_of_getElem? (i := 2) rfl)) (by decide) (by decide)) q161a q161c (g := (mkF m 94 #[.val (.int p1), .val (.int p2), .val (.ref b1), .val (.int (0 : Int32)), .val (.int (3 : Int32)), .val (.int z12), .val (.int z14), .val (.int z16), .unset, .unset, .unset, .unset] [(.ref b1)])) rfl (by rw [hml]; rfl) (Steps.refl _) (argsL := []) (rest := []) (lenOf pd1 rfl) rfl (by show 2 * 0 + _ ≤ _; exact Nat.le_of_eq rfl) (hb hby at_94) (fun _ _ => ⟨rfl, rfl, (by decide : 1 + 0 ≤ _), (by decide : 1 + 0 ≤ _)⟩)
              dsimp only [Pt.U, Pt.locs, Pt.cells, Pt.slots] at X162 l162 y162 z162 st162 hQ162
              subst l162 y162 z162
              have X162 : Stand p l e room_1 s m #[(.int p1), (.int p2)] below meth c T162 _ 1 1 := X162
              obtain ⟨rfl, Nq163, e164⟩ := hQ162
              have N162 := Fr.app N149 Nq163
              obtain ⟨cq165, kq165, q165a, q165b, q165c⟩ := isOf hZ e164 f154
              obtain ⟨_, _, ⟨T166, L166, c166, n166⟩, -, X166, ⟨Lc166, hQ166, l166, y166, z166⟩, st166⟩ := X162.virtualBack hx (y := (⟨"com/example/vorgang/vorgang/QueryTimeoutScope", "isSession", "()Z"⟩ : MethodName)) (z := (⟨"com/example/vorgang/vorgang/QueryTimeoutScope", "isSession", "()Z"⟩ : MethodName)) hown (mvT hZ (hw _ (List.mem_of_getElem? (i := 19) rfl))) (mvT hZ (hw _ (List.mem_of_getElem? (i := 20) rfl))) (notFace_of_selects (args := #[]) (mvT hZ (hw _ (List.mem_of_getElem? (i := 22) rfl)))) (mvT hZ (hw _ (List.mem_of_getElem? (i := 22) rfl))) (mvT hZ (hw _ (List.mem_of_getElem? (i := 21) rfl))) (by decide) (backOf (W := 0) (rm7 l Z a0 hw w1 w2 w3 G [] b1 T149.heap n0 O149 g_b1 f155) hZ (hw _ (List.mem_of_getElem? (i := 23) rfl)) (hw _ (List.mem_of_getElem? (i := 2) rfl)) (by decide) (by decide)) q165a q165c (g := (mkF m 100 #[.val (.int p1), .val (.int p2), .val (.ref b1), .val (.int (0 : Int32)), .val (.int (3 : Int32)), .val (.int z12), .val (.int z14), .val (.int z16), .val (.int (1 : Int32)), .unset, .unset, .unset] [(.ref b1)])) rfl (by rw [hml]; rfl) (Steps.refl _) (argsL := []) (rest := []) (lenOf pd1 rfl) rfl (by show 2 * 0 + _ ≤ _; exact Nat.le_of_eq rfl) (hb hby at_100) (fun _ _ => ⟨rfl, e164, (by decide : 1 + 0 ≤ _), (by decide : 1 + 0 ≤ _)⟩)
              dsimp only [Pt.U, Pt.locs, Pt.cells, Pt.slots] at X166 l166 y166 z166 st166 hQ166
              subst l166 y166 z166
              have X166 : Stand p l e room_1 s m #[(.int p1), (.int p2)] below meth c T166 _ 1 1 := X166
              obtain ⟨rfl, Nq167, e168⟩ := hQ166
              have N166 := Fr.app N162 Nq167
              obtain ⟨cq169, kq169, q169a, q169b, q169c⟩ := isOf hZ e168 f154
              obtain ⟨_, _, ⟨T170, L170, c170, n170⟩, -, X170, ⟨Lc170, hQ170, l170, y170, z170⟩, st170⟩ := X166.virtualBack hx (y := (⟨"com/example/vorgang/vorgang/QueryTimeoutScope", "isStatement", "()Z"⟩ : MethodName)) (z := (⟨"com/example/vorgang/vorgang/QueryTimeoutScope", "isStatement", "()Z"⟩ : MethodName)) hown (mvT hZ (hw _ (List.mem_of_getElem? (i := 26) rfl))) (mvT hZ (hw _ (List.mem_of_getElem? (i := 27) rfl))) (notFace_of_selects (args := #[]) (mvT hZ (hw _ (List.mem_of_getElem? (i := 29) rfl)))) (mvT hZ (hw _ (List.mem_of_getElem? (i := 29) rfl))) (mvT hZ (hw _ (List.mem_of_getElem? (i := 28) rfl))) (by decide) (backOf (W := 0) (rm8 l Z a0 hw w1 w2 w3 G [] b1 T149.heap n0 O149 g_b1 f155) hZ (hw _ (List.mem_of_getElem? (i := 30) rfl)) (hw _ (List.mem_of_getElem? (i := 2) rfl)) (by decide) (by decide)) q169a q169c (g := (mkF m 106 #[.val (.int p1), .val (.int p2), .val (.ref b1), .val (.int (0 : Int32)), .val (.int (3 : Int32)), .val (.int z12), .val (.int z14), .val (.int z16), .val (.int (1 : Int32)), .val (.int (0 : Int32)), .unset, .unset] [(.ref b1)])) rfl (by rw [hml]; rfl) (Steps.refl _) (argsL := []) (rest := []) (lenOf pd1 rfl) rfl (by show 2 * 0 + _ ≤ _; exact Nat.le_of_eq rfl) (hb hby at_106) (fun _ _ => ⟨rfl, e168, (by decide : 1 + 0 ≤ _), (by decide : 1 + 0 ≤ _)⟩)
              dsimp only [Pt.U, Pt.locs, Pt.cells, Pt.slots] at X170 l170 y170 z170 st170 hQ170
              subst l170 y170 z170
              have X170 : Stand p l e room_1 s m #[(.int p1), (.int p2)] below meth c T170 _ 1 1 := X170
              obtain ⟨rfl, Nq171, e172⟩ := hQ170
              have N170 := Fr.app N166 Nq171
              obtain ⟨fs, hr, hrun, hended, hW, hsame⟩ := X170.leave (v := some (.int (1 : Int32))) (fun h => by rw [hret] at h; cases h)
              refine ⟨_, _, pre150 _ ?_, hrun, hended, _, _, rfl, ?_, ⟨_, rfl⟩, hW, hsame.mono (by decide) (by decide)⟩
              ·
                show Steps p.tables e below (T63.setTop (mkF m 90 #[.val (.int p1), .val (.int p2), .val (.ref b1), .val (.int (0 : Int32)), .val (.int (3 : Int32)), .val (.int z12), .val (.int z14), .val (.int z16), .unset, .unset, .unset, .unset] [(.int z16), (.ref b1)])) _
                refine st149.trans ?_
                show Steps p.tables e below (T149.setTop (mkF m 93 #[.val (.int p1), .val (.int p2), .val (.ref b1), .val (.int (0 : Int32)), .val (.int (3 : Int32)), .val (.int z12), .val (.int z14), .val (.int z16), .unset, .unset, .unset, .unset] [])) _
                refine XS.aloadN X149.here hx rfl (hb hby at_93) rfl rfl ?_
                show Steps p.tables e below (T149.setTop (mkF m 94 #[.val (.int p1), .val (.int p2), .val (.ref b1), .val (.int (0 : Int32)), .val (.int (3 : Int32)), .val (.int z12), .val (.int z14), .val (.int z16), .unset, .unset, .unset, .unset] [(.ref b1)])) _
                refine st162.trans ?_
                show Steps p.tables e below (T162.setTop (mkF m 97 #[.val (.int p1), .val (.int p2), .val (.ref b1), .val (.int (0 : Int32)), .val (.int (3 : Int32)), .val (.int z12), .val (.int z14), .val (.int z16), .unset, .unset, .unset, .unset] [(.int (1 : Int32))])) _
                refine XS.istore X162.here hx rfl (hb hby at_97) rfl (l' := #[.val (.int p1), .val (.int p2), .val (.ref b1), .val (.int (0 : Int32)), .val (.int (3 : Int32)), .val (.int z12), .val (.int z14), .val (.int z16), .val (.int (1 : Int32)), .unset, .unset, .unset]) rfl ?_
                show Steps p.tables e below (T162.setTop (mkF m 99 #[.val (.int p1), .val (.int p2), .val (.ref b1), .val (.int (0 : Int32)), .val (.int (3 : Int32)), .val (.int z12), .val (.int z14), .val (.int z16), .val (.int (1 : Int32)), .unset, .unset, .unset] [])) _
                refine XS.aloadN X162.here hx rfl (hb hby at_99) rfl rfl ?_
                show Steps p.tables e below (T162.setTop (mkF m 100 #[.val (.int p1), .val (.int p2), .val (.ref b1), .val (.int (0 : Int32)), .val (.int (3 : Int32)), .val (.int z12), .val (.int z14), .val (.int z16), .val (.int (1 : Int32)), .unset, .unset, .unset] [(.ref b1)])) _
                refine st166.trans ?_
                show Steps p.tables e below (T166.setTop (mkF m 103 #[.val (.int p1), .val (.int p2), .val (.ref b1), .val (.int (0 : Int32)), .val (.int (3 : Int32)), .val (.int z12), .val (.int z14), .val (.int z16), .val (.int (1 : Int32)), .unset, .unset, .unset] [(.int (0 : Int32))])) _
                refine XS.istore X166.here hx rfl (hb hby at_103) rfl (l' := #[.val (.int p1), .val (.int p2), .val (.ref b1), .val (.int (0 : Int32)), .val (.int (3 : Int32)), .val (.int z12), .val (.int z14), .val (.int z16), .val (.int (1 : Int32)), .val (.int (0 : Int32)), .unset, .unset]) rfl ?_
                show Steps p.tables e below (T166.setTop (mkF m 105 #[.val (.int p1), .val (.int p2), .val (.ref b1), .val (.int (0 : Int32)), .val (.int (3 : Int32)), .val (.int z12), .val (.int z14), .val (.int z16), .val (.int (1 : Int32)), .val (.int (0 : Int32)), .unset, .unset] [])) _
                refine XS.aloadN X166.here hx rfl (hb hby at_105) rfl rfl ?_
                show Steps p.tables e below (T166.setTop (mkF m 106 #[.val (.int p1), .val (.int p2), .val (.ref b1), .val (.int (0 : Int32)), .val (.int (3 : Int32)), .val (.int z12), .val (.int z14), .val (.int z16), .val (.int (1 : Int32)), .val (.int (0 : Int32)), .unset, .unset] [(.ref b1)])) _
                refine st170.trans ?_
                show Steps p.tables e below (T170.setTop (mkF m 109 #[.val (.int p1), .val (.int p2), .val (.ref b1), .val (.int (0 : Int32)), .val (.int (3 : Int32)), .val (.int z12), .val (.int z14), .val (.int z16), .val (.int (1 : Int32)), .val (.int (0 : Int32)), .unset, .unset] [(.int (1 : Int32))])) _
                refine XS.istore X170.here hx rfl (hb hby at_109) rfl (l' := #[.val (.int p1), .val (.int p2), .val (.ref b1), .val (.int (0 : Int32)), .val (.int (3 : Int32)), .val (.int z12), .val (.int z14), .val (.int z16), .val (.int (1 : Int32)), .val (.int (0 : Int32)), .val (.int (1 : Int32)), .unset]) rfl ?_
                show Steps p.tables e below (T170.setTop (mkF m 111 #[.val (.int p1), .val (.int p2), .val (.ref b1), .val (.int (0 : Int32)), .val (.int (3 : Int32)), .val (.int z12), .val (.int z14), .val (.int z16), .val (.int (1 : Int32)), .val (.int (0 : Int32)), .val (.int (1 : Int32)), .unset] [])) _
                refine XS.iload X170.here hx rfl (hb hby at_111) rfl ?_
                show Steps p.tables e below (T170.setTop (mkF m 113 #[.val (.int p1), .val (.int p2), .val (.ref b1), .val (.int (0 : Int32)), .val (.int (3 : Int32)), .val (.int z12), .val (.int z14), .val (.int z16), .val (.int (1 : Int32)), .val (.int (0 : Int32)), .val (.int (1 : Int32)), .unset] [(.int (3 : Int32))])) _
                refine XS.iconst X170.here hx rfl (hb hby at_113) ?_
                show Steps p.tables e below (T170.setTop (mkF m 114 #[.val (.int p1), .val (.int p2), .val (.ref b1), .val (.int (0 : Int32)), .val (.int (3 : Int32)), .val (.int z12), .val (.int z14), .val (.int z16), .val (.int (1 : Int32)), .val (.int (0 : Int32)), .val (.int (1 : Int32)), .unset] [(.int (1 : Int32)), (.int (3 : Int32))])) _
                refine XS.icmpNo X170.here hx rfl (hb hby at_114) rfl (flt (by decide : ¬ ((3 : Int32) < (1 : Int32)))).1 ?_
                show Steps p.tables e below (T170.setTop (mkF m 117 #[.val (.int p1), .val (.int p2), .val (.ref b1), .val (.int (0 : Int32)), .val (.int (3 : Int32)), .val (.int z12), .val (.int z14), .val (.int z16), .val (.int (1 : Int32)), .val (.int (0 : Int32)), .val (.int (1 : Int32)), .unset] [])) _
                refine XS.iconst X170.here hx rfl (hb hby at_117) ?_
                show Steps p.tables e below (T170.setTop (mkF m 118 #[.val (.int p1), .val (.int p2), .val (.ref b1), .val (.int (0 : Int32)), .val (.int (3 : Int32)), .val (.int z12), .val (.int z14), .val (.int z16), .val (.int (1 : Int32)), .val (.int (0 : Int32)), .val (.int (1 : Int32)), .unset] [(.int (1 : Int32))])) _
                refine XS.goto X170.here hx rfl (pc0 := 118) (pc' := 122) rfl (hb hby at_118) (by decide) (by decide) ?_
                show Steps p.tables e below (T170.setTop (mkF m 122 #[.val (.int p1), .val (.int p2), .val (.ref b1), .val (.int (0 : Int32)), .val (.int (3 : Int32)), .val (.int z12), .val (.int z14), .val (.int z16), .val (.int (1 : Int32)), .val (.int (0 : Int32)), .val (.int (1 : Int32)), .unset] [(.int (1 : Int32))])) _
                refine XS.istore X170.here hx rfl (hb hby at_122) rfl (l' := #[.val (.int p1), .val (.int p2), .val (.ref b1), .val (.int (0 : Int32)), .val (.int (3 : Int32)), .val (.int z12), .val (.int z14), .val (.int z16), .val (.int (1 : Int32)), .val (.int (0 : Int32)), .val (.int (1 : Int32)), .val (.int (1 : Int32))]) rfl ?_
                show Steps p.tables e below (T170.setTop (mkF m 124 #[.val (.int p1), .val (.int p2), .val (.ref b1), .val (.int (0 : Int32)), .val (.int (3 : Int32)), .val (.int z12), .val (.int z14), .val (.int z16), .val (.int (1 : Int32)), .val (.int (0 : Int32)), .val (.int (1 : Int32)), .val (.int (1 : Int32))] [])) _
                refine XS.iloadN X170.here hx rfl (hb hby at_124) rfl ?_
                show Steps p.tables e below (T170.setTop (mkF m 125 #[.val (.int p1), .val (.int p2), .val (.ref b1), .val (.int (0 : Int32)), .val (.int (3 : Int32)), .val (.int z12), .val (.int z14), .val (.int z16), .val (.int (1 : Int32)), .val (.int (0 : Int32)), .val (.int (1 : Int32)), .val (.int (1 : Int32))] [(.int (0 : Int32))])) _
                refine XS.ifNo X170.here hx rfl (hb hby at_125) rfl ((if0 _ _).trans (teq (by decide : (0 : Int32) = (0 : Int32))).2) ?_
                show Steps p.tables e below (T170.setTop (mkF m 128 #[.val (.int p1), .val (.int p2), .val (.ref b1), .val (.int (0 : Int32)), .val (.int (3 : Int32)), .val (.int z12), .val (.int z14), .val (.int z16), .val (.int (1 : Int32)), .val (.int (0 : Int32)), .val (.int (1 : Int32)), .val (.int (1 : Int32))] [])) _
                refine XS.iload X170.here hx rfl (hb hby at_128) rfl ?_
                show Steps p.tables e below (T170.setTop (mkF m 130 #[.val (.int p1), .val (.int p2), .val (.ref b1), .val (.int (0 : Int32)), .val (.int (3 : Int32)), .val (.int z12), .val (.int z14), .val (.int z16), .val (.int (1 : Int32)), .val (.int (0 : Int32)), .val (.int (1 : Int32)), .val (.int (1 : Int32))] [(.int (1 : Int32))])) _
                refine XS.iload X170.here hx rfl (hb hby at_130) rfl ?_
                show Steps p.tables e below (T170.setTop (mkF m 132 #[.val (.int p1), .val (.int p2), .val (.ref b1), .val (.int (0 : Int32)), .val (.int (3 : Int32)), .val (.int z12), .val (.int z14), .val (.int z16), .val (.int (1 : Int32)), .val (.int (0 : Int32)), .val (.int (1 : Int32)), .val (.int (1 : Int32))] [(.int (1 : Int32)), (.int (1 : Int32))])) _
                refine XS.icmpNo X170.here hx rfl (hb hby at_132) rfl (teq (by decide : (1 : Int32) = (1 : Int32))).2 ?_
                show Steps p.tables e below (T170.setTop (mkF m 135 #[.val (.int p1), .val (.int p2), .val (.ref b1), .val (.int (0 : Int32)), .val (.int (3 : Int32)), .val (.int z12), .val (.int z14), .val (.int z16), .val (.int (1 : Int32)), .val (.int (0 : Int32)), .val (.int (1 : Int32)), .val (.int (1 : Int32))] [])) _
                refine XS.iload X170.here hx rfl (hb hby at_135) rfl ?_
                show Steps p.tables e below (T170.setTop (mkF m 137 #[.val (.int p1), .val (.int p2), .val (.ref b1), .val (.int (0 : Int32)), .val (.int (3 : Int32)), .val (.int z12), .val (.int z14), .val (.int z16), .val (.int (1 : Int32)), .val (.int (0 : Int32)), .val (.int (1 : Int32)), .val (.int (1 : Int32))] [(.int (1 : Int32))])) _
                refine XS.iload X170.here hx rfl (hb hby at_137) rfl ?_
                show Steps p.tables e below (T170.setTop (mkF m 139 #[.val (.int p1), .val (.int p2), .val (.ref b1), .val (.int (0 : Int32)), .val (.int (3 : Int32)), .val (.int z12), .val (.int z14), .val (.int z16), .val (.int (1 : Int32)), .val (.int (0 : Int32)), .val (.int (1 : Int32)), .val (.int (1 : Int32))] [(.int (0 : Int32)), (.int (1 : Int32))])) _
                refine XS.ifNo X170.here hx rfl (hb hby at_139) rfl ((if0 _ _).trans (teq (by decide : (0 : Int32) = (0 : Int32))).2) ?_
                show Steps p.tables e below (T170.setTop (mkF m 142 #[.val (.int p1), .val (.int p2), .val (.ref b1), .val (.int (0 : Int32)), .val (.int (3 : Int32)), .val (.int z12), .val (.int z14), .val (.int z16), .val (.int (1 : Int32)), .val (.int (0 : Int32)), .val (.int (1 : Int32)), .val (.int (1 : Int32))] [(.int (1 : Int32))])) _
                refine XS.iload X170.here hx rfl (hb hby at_142) rfl ?_
                show Steps p.tables e below (T170.setTop (mkF m 144 #[.val (.int p1), .val (.int p2), .val (.ref b1), .val (.int (0 : Int32)), .val (.int (3 : Int32)), .val (.int z12), .val (.int z14), .val (.int z16), .val (.int (1 : Int32)), .val (.int (0 : Int32)), .val (.int (1 : Int32)), .val (.int (1 : Int32))] [(.int (1 : Int32)), (.int (1 : Int32))])) _
                refine XS.ifNo X170.here hx rfl (hb hby at_144) rfl ((if0 _ _).trans (feq (by decide : ¬ ((1 : Int32) = (0 : Int32)))).1) ?_
                show Steps p.tables e below (T170.setTop (mkF m 147 #[.val (.int p1), .val (.int p2), .val (.ref b1), .val (.int (0 : Int32)), .val (.int (3 : Int32)), .val (.int z12), .val (.int z14), .val (.int z16), .val (.int (1 : Int32)), .val (.int (0 : Int32)), .val (.int (1 : Int32)), .val (.int (1 : Int32))] [(.int (1 : Int32))])) _
                refine XS.iconst X170.here hx rfl (hb hby at_147) ?_
                show Steps p.tables e below (T170.setTop (mkF m 148 #[.val (.int p1), .val (.int p2), .val (.ref b1), .val (.int (0 : Int32)), .val (.int (3 : Int32)), .val (.int z12), .val (.int z14), .val (.int z16), .val (.int (1 : Int32)), .val (.int (0 : Int32)), .val (.int (1 : Int32)), .val (.int (1 : Int32))] [(.int (1 : Int32)), (.int (1 : Int32))])) _
                refine XS.goto X170.here hx rfl (pc0 := 148) (pc' := 152) rfl (hb hby at_148) (by decide) (by decide) ?_
                show Steps p.tables e below (T170.setTop (mkF m 152 #[.val (.int p1), .val (.int p2), .val (.ref b1), .val (.int (0 : Int32)), .val (.int (3 : Int32)), .val (.int z12), .val (.int z14), .val (.int z16), .val (.int (1 : Int32)), .val (.int (0 : Int32)), .val (.int (1 : Int32)), .val (.int (1 : Int32))] [(.int (1 : Int32)), (.int (1 : Int32))])) _
                refine XS.icmpNo X170.here hx rfl (hb hby at_152) rfl (teq (by decide : (1 : Int32) = (1 : Int32))).2 ?_
                show Steps p.tables e below (T170.setTop (mkF m 155 #[.val (.int p1), .val (.int p2), .val (.ref b1), .val (.int (0 : Int32)), .val (.int (3 : Int32)), .val (.int z12), .val (.int z14), .val (.int z16), .val (.int (1 : Int32)), .val (.int (0 : Int32)), .val (.int (1 : Int32)), .val (.int (1 : Int32))] [])) _
                refine XS.iconst X170.here hx rfl (hb hby at_155) ?_
                show Steps p.tables e below (T170.setTop (mkF m 156 #[.val (.int p1), .val (.int p2), .val (.ref b1), .val (.int (0 : Int32)), .val (.int (3 : Int32)), .val (.int z12), .val (.int z14), .val (.int z16), .val (.int (1 : Int32)), .val (.int (0 : Int32)), .val (.int (1 : Int32)), .val (.int (1 : Int32))] [(.int (1 : Int32))])) _
                refine XS.goto X170.here hx rfl (pc0 := 156) (pc' := 160) rfl (hb hby at_156) (by decide) (by decide) ?_
                show Steps p.tables e below (T170.setTop (mkF m 160 #[.val (.int p1), .val (.int p2), .val (.ref b1), .val (.int (0 : Int32)), .val (.int (3 : Int32)), .val (.int z12), .val (.int z14), .val (.int z16), .val (.int (1 : Int32)), .val (.int (0 : Int32)), .val (.int (1 : Int32)), .val (.int (1 : Int32))] [(.int (1 : Int32))])) _
                exact retN X170 hx (t := .boolean) hret (by simp) (hb hby at_160) hr
              ·
                show Q0 n0 _ T170.heap _
                rw [e172]
                exact ⟨rfl, N170⟩
            ·
              have N149 := Fr.app N63 Nq157
              have M149 : h0.size ≤ T149.heap.size := Nat.le_trans M63 K158.1
              have O149 := Old.keep O63 K158 (allS g_b1 all0)
              obtain ⟨cq173, kq173, q173a, q173b, q173c⟩ := isOf hZ rfl f159
              obtain ⟨_, _, ⟨T174, L174, c174, n174⟩, -, X174, ⟨Lc174, hQ174, l174, y174, z174⟩, st174⟩ := X149.virtualBack hx (y := (⟨"com/example/vorgang/vorgang/QueryTimeoutScope", "isKnown", "()Z"⟩ : MethodName)) (z := (⟨"com/example/vorgang/vorgang/QueryTimeoutScope", "isKnown", "()Z"⟩ : MethodName)) hown (mvT hZ (hw _ (List.mem_of_getElem? (i := 14) rfl))) (mvT hZ (hw _ (List.mem_of_getElem? (i := 15) rfl))) (notFace_of_selects (args := #[]) (mvT hZ (hw _ (List.mem_of_getElem? (i := 17) rfl)))) (mvT hZ (hw _ (List.mem_of_getElem? (i := 17) rfl))) (mvT hZ (hw _ (List.mem_of_getElem? (i := 16) rfl))) (by decide) (backOf (W := 0) (rm10 l Z a0 hw w1 w2 w3 G [] b1 T149.heap n0 O149 g_b1 f160) hZ (hw _ (List.mem_of_getElem? (i := 18) rfl)) (hw _ (List.mem_of_getElem? (i := 2) rfl)) (by decide) (by decide)) q173a q173c (g := (mkF m 94 #[.val (.int p1), .val (.int p2), .val (.ref b1), .val (.int (0 : Int32)), .val (.int (3 : Int32)), .val (.int z12), .val (.int z14), .val (.int z16), .unset, .unset, .unset, .unset] [(.ref b1)])) rfl (by rw [hml]; rfl) (Steps.refl _) (argsL := []) (rest := []) (lenOf pd1 rfl) rfl (by show 2 * 0 + _ ≤ _; exact Nat.le_of_eq rfl) (hb hby at_94) (fun _ _ => ⟨rfl, rfl, (by decide : 1 + 0 ≤ _), (by decide : 1 + 0 ≤ _)⟩)
              dsimp only [Pt.U, Pt.locs, Pt.cells, Pt.slots] at X174 l174 y174 z174 st174 hQ174
              subst l174 y174 z174
              have X174 : Stand p l e room_1 s m #[(.int p1), (.int p2)] below meth c T174 _ 1 1 := X174
              obtain ⟨rfl, Nq175, e176⟩ := hQ174
              have N174 := Fr.app N149 Nq175
              obtain ⟨cq177, kq177, q177a, q177b, q177c⟩ := isOf hZ e176 f159
              obtain ⟨_, _, ⟨T178, L178, c178, n178⟩, -, X178, ⟨Lc178, hQ178, l178, y178, z178⟩, st178⟩ := X174.virtualBack hx (y := (⟨"com/example/vorgang/vorgang/QueryTimeoutScope", "isSession", "()Z"⟩ : MethodName)) (z := (⟨"com/example/vorgang/vorgang/QueryTimeoutScope", "isSession", "()Z"⟩ : MethodName)) hown (mvT hZ (hw _ (List.mem_of_getElem? (i := 19) rfl))) (mvT hZ (hw _ (List.mem_of_getElem? (i := 20) rfl))) (notFace_of_selects (args := #[]) (mvT hZ (hw _ (List.mem_of_getElem? (i := 22) rfl)))) (mvT hZ (hw _ (List.mem_of_getElem? (i := 22) rfl))) (mvT hZ (hw _ (List.mem_of_getElem? (i := 21) rfl))) (by decide) (backOf (W := 0) (rm11 l Z a0 hw w1 w2 w3 G [] b1 T149.heap n0 O149 g_b1 f160) hZ (hw _ (List.mem_of_getElem? (i := 23) rfl)) (hw _ (List.mem_of_getElem? (i := 2) rfl)) (by decide) (by decide)) q177a q177c (g := (mkF m 100 #[.val (.int p1), .val (.int p2), .val (.ref b1), .val (.int (0 : Int32)), .val (.int (3 : Int32)), .val (.int z12), .val (.int z14), .val (.int z16), .val (.int (1 : Int32)), .unset, .unset, .unset] [(.ref b1)])) rfl (by rw [hml]; rfl) (Steps.refl _) (argsL := []) (rest := []) (lenOf pd1 rfl) rfl (by show 2 * 0 + _ ≤ _; exact Nat.le_of_eq rfl) (hb hby at_100) (fun _ _ => ⟨rfl, e176, (by decide : 1 + 0 ≤ _), (by decide : 1 + 0 ≤ _)⟩)
              dsimp only [Pt.U, Pt.locs, Pt.cells, Pt.slots] at X178 l178 y178 z178 st178 hQ178
              subst l178 y178 z178
              have X178 : Stand p l e room_1 s m #[(.int p1), (.int p2)] below meth c T178 _ 1 1 := X178
              obtain ⟨rfl, Nq179, e180⟩ := hQ178
              have N178 := Fr.app N174 Nq179
              obtain ⟨cq181, kq181, q181a, q181b, q181c⟩ := isOf hZ e180 f159
              obtain ⟨_, _, ⟨T182, L182, c182, n182⟩, -, X182, ⟨Lc182, hQ182, l182, y182, z182⟩, st182⟩ := X178.virtualBack hx (y := (⟨"com/example/vorgang/vorgang/QueryTimeoutScope", "isStatement", "()Z"⟩ : MethodName)) (z := (⟨"com/example/vorgang/vorgang/QueryTimeoutScope", "isStatement", "()Z"⟩ : MethodName)) hown (mvT hZ (hw _ (List.mem_of_getElem? (i := 26) rfl))) (mvT hZ (hw _ (List.mem_of_getElem? (i := 27) rfl))) (notFace_of_selects (args := #[]) (mvT hZ (hw _ (List.mem_of_getElem? (i := 29) rfl)))) (mvT hZ (hw _ (List.mem_of_getElem? (i := 29) rfl))) (mvT hZ (hw _ (List.mem_of_getElem? (i := 28) rfl))) (by decide) (backOf (W := 0) (rm12 l Z a0 hw w1 w2 w3 G [] b1 T149.heap n0 O149 g_b1 f160) hZ (hw _ (List.mem_of_getElem? (i := 30) rfl)) (hw _ (List.mem_of_getElem? (i := 2) rfl)) (by decide) (by decide)) q181a q181c (g := (mkF m 106 #[.val (.int p1), .val (.int p2), .val (.ref b1), .val (.int (0 : Int32)), .val (.int (3 : Int32)), .val (.int z12), .val (.int z14), .val (.int z16), .val (.int (1 : Int32)), .val (.int (1 : Int32)), .unset, .unset] [(.ref b1)])) rfl (by rw [hml]; rfl) (Steps.refl _) (argsL := []) (rest := []) (lenOf pd1 rfl) rfl (by show 2 * 0 + _ ≤ _; exact Nat.le_of_eq rfl) (hb hby at_106) (fun _ _ => ⟨rfl, e180, (by decide : 1 + 0 ≤ _), (by decide : 1 + 0 ≤ _)⟩)
              dsimp only [Pt.U, Pt.locs, Pt.cells, Pt.slots] at X182 l182 y182 z182 st182 hQ182
              subst l182 y182 z182
              have X182 : Stand p l e room_1 s m #[(.int p1), (.int p2)] below meth c T182 _ 1 1 := X182
              obtain ⟨rfl, Nq183, e184⟩ := hQ182
              have N182 := Fr.app N178 Nq183
              obtain ⟨fs, hr, hrun, hended, hW, hsame⟩ := X182.leave (v := some (.int (1 : Int32))) (fun h => by rw [hret] at h; cases h)
              refine ⟨_, _, pre150 _ ?_, hrun, hended, _, _, rfl, ?_, ⟨_, rfl⟩, hW, hsame.mono (by decide) (by decide)⟩
              ·
                show Steps p.tables e below (T63.setTop (mkF m 90 #[.val (.int p1), .val (.int p2), .val (.ref b1), .val (.int (0 : Int32)), .val (.int (3 : Int32)), .val (.int z12), .val (.int z14), .val (.int z16), .unset, .unset, .unset, .unset] [(.int z16), (.ref b1)])) _
                refine st149.trans ?_
                show Steps p.tables e below (T149.setTop (mkF m 93 #[.val (.int p1), .val (.int p2), .val (.ref b1), .val (.int (0 : Int32)), .val (.int (3 : Int32)), .val (.int z12), .val (.int z14), .val (.int z16), .unset, .unset, .unset, .unset] [])) _
                refine XS.aloadN X149.here hx rfl (hb hby at_93) rfl rfl ?_
                show Steps p.tables e below (T149.setTop (mkF m 94 #[.val (.int p1), .val (.int p2), .val (.ref b1), .val (.int (0 : Int32)), .val (.int (3 : Int32)), .val (.int z12), .val (.int z14), .val (.int z16), .unset, .unset, .unset, .unset] [(.ref b1)])) _
                refine st174.trans ?_
                show Steps p.tables e below (T174.setTop (mkF m 97 #[.val (.int p1), .val (.int p2), .val (.ref b1), .val (.int (0 : Int32)), .val (.int (3 : Int32)), .val (.int z12), .val (.int z14), .val (.int z16), .unset, .unset, .unset, .unset] [(.int (1 : Int32))])) _
                refine XS.istore X174.here hx rfl (hb hby at_97) rfl (l' := #[.val (.int p1), .val (.int p2), .val (.ref b1), .val (.int (0 : Int32)), .val (.int (3 : Int32)), .val (.int z12), .val (.int z14), .val (.int z16), .val (.int (1 : Int32)), .unset, .unset, .unset]) rfl ?_
                show Steps p.tables e below (T174.setTop (mkF m 99 #[.val (.int p1), .val (.int p2), .val (.ref b1), .val (.int (0 : Int32)), .val (.int (3 : Int32)), .val (.int z12), .val (.int z14), .val (.int z16), .val (.int (1 : Int32)), .unset, .unset, .unset] [])) _
                refine XS.aloadN X174.here hx rfl (hb hby at_99) rfl rfl ?_
                show Steps p.tables e below (T174.setTop (mkF m 100 #[.val (.int p1), .val (.int p2), .val (.ref b1), .val (.int (0 : Int32)), .val (.int (3 : Int32)), .val (.int z12), .val (.int z14), .val (.int z16), .val (.int (1 : Int32)), .unset, .unset, .unset] [(.ref b1)])) _
                refine st178.trans ?_
                show Steps p.tables e below (T178.setTop (mkF m 103 #[.val (.int p1), .val (.int p2), .val (.ref b1), .val (.int (0 : Int32)), .val (.int (3 : Int32)), .val (.int z12), .val (.int z14), .val (.int z16), .val (.int (1 : Int32)), .unset, .unset, .unset] [(.int (1 : Int32))])) _
                refine XS.istore X178.here hx rfl (hb hby at_103) rfl (l' := #[.val (.int p1), .val (.int p2), .val (.ref b1), .val (.int (0 : Int32)), .val (.int (3 : Int32)), .val (.int z12), .val (.int z14), .val (.int z16), .val (.int (1 : Int32)), .val (.int (1 : Int32)), .unset, .unset]) rfl ?_
                show Steps p.tables e below (T178.setTop (mkF m 105 #[.val (.int p1), .val (.int p2), .val (.ref b1), .val (.int (0 : Int32)), .val (.int (3 : Int32)), .val (.int z12), .val (.int z14), .val (.int z16), .val (.int (1 : Int32)), .val (.int (1 : Int32)), .unset, .unset] [])) _
                refine XS.aloadN X178.here hx rfl (hb hby at_105) rfl rfl ?_
                show Steps p.tables e below (T178.setTop (mkF m 106 #[.val (.int p1), .val (.int p2), .val (.ref b1), .val (.int (0 : Int32)), .val (.int (3 : Int32)), .val (.int z12), .val (.int z14), .val (.int z16), .val (.int (1 : Int32)), .val (.int (1 : Int32)), .unset, .unset] [(.ref b1)])) _
                refine st182.trans ?_
                show Steps p.tables e below (T182.setTop (mkF m 109 #[.val (.int p1), .val (.int p2), .val (.ref b1), .val (.int (0 : Int32)), .val (.int (3 : Int32)), .val (.int z12), .val (.int z14), .val (.int z16), .val (.int (1 : Int32)), .val (.int (1 : Int32)), .unset, .unset] [(.int (0 : Int32))])) _
                refine XS.istore X182.here hx rfl (hb hby at_109) rfl (l' := #[.val (.int p1), .val (.int p2), .val (.ref b1), .val (.int (0 : Int32)), .val (.int (3 : Int32)), .val (.int z12), .val (.int z14), .val (.int z16), .val (.int (1 : Int32)), .val (.int (1 : Int32)), .val (.int (0 : Int32)), .unset]) rfl ?_
                show Steps p.tables e below (T182.setTop (mkF m 111 #[.val (.int p1), .val (.int p2), .val (.ref b1), .val (.int (0 : Int32)), .val (.int (3 : Int32)), .val (.int z12), .val (.int z14), .val (.int z16), .val (.int (1 : Int32)), .val (.int (1 : Int32)), .val (.int (0 : Int32)), .unset] [])) _
                refine XS.iload X182.here hx rfl (hb hby at_111) rfl ?_
                show Steps p.tables e below (T182.setTop (mkF m 113 #[.val (.int p1), .val (.int p2), .val (.ref b1), .val (.int (0 : Int32)), .val (.int (3 : Int32)), .val (.int z12), .val (.int z14), .val (.int z16), .val (.int (1 : Int32)), .val (.int (1 : Int32)), .val (.int (0 : Int32)), .unset] [(.int (3 : Int32))])) _
                refine XS.iconst X182.here hx rfl (hb hby at_113) ?_
                show Steps p.tables e below (T182.setTop (mkF m 114 #[.val (.int p1), .val (.int p2), .val (.ref b1), .val (.int (0 : Int32)), .val (.int (3 : Int32)), .val (.int z12), .val (.int z14), .val (.int z16), .val (.int (1 : Int32)), .val (.int (1 : Int32)), .val (.int (0 : Int32)), .unset] [(.int (1 : Int32)), (.int (3 : Int32))])) _
                refine XS.icmpNo X182.here hx rfl (hb hby at_114) rfl (flt (by decide : ¬ ((3 : Int32) < (1 : Int32)))).1 ?_
                show Steps p.tables e below (T182.setTop (mkF m 117 #[.val (.int p1), .val (.int p2), .val (.ref b1), .val (.int (0 : Int32)), .val (.int (3 : Int32)), .val (.int z12), .val (.int z14), .val (.int z16), .val (.int (1 : Int32)), .val (.int (1 : Int32)), .val (.int (0 : Int32)), .unset] [])) _
                refine XS.iconst X182.here hx rfl (hb hby at_117) ?_
                show Steps p.tables e below (T182.setTop (mkF m 118 #[.val (.int p1), .val (.int p2), .val (.ref b1), .val (.int (0 : Int32)), .val (.int (3 : Int32)), .val (.int z12), .val (.int z14), .val (.int z16), .val (.int (1 : Int32)), .val (.int (1 : Int32)), .val (.int (0 : Int32)), .unset] [(.int (1 : Int32))])) _
                refine XS.goto X182.here hx rfl (pc0 := 118) (pc' := 122) rfl (hb hby at_118) (by decide) (by decide) ?_
                show Steps p.tables e below (T182.setTop (mkF m 122 #[.val (.int p1), .val (.int p2), .val (.ref b1), .val (.int (0 : Int32)), .val (.int (3 : Int32)), .val (.int z12), .val (.int z14), .val (.int z16), .val (.int (1 : Int32)), .val (.int (1 : Int32)), .val (.int (0 : Int32)), .unset] [(.int (1 : Int32))])) _
                refine XS.istore X182.here hx rfl (hb hby at_122) rfl (l' := #[.val (.int p1), .val (.int p2), .val (.ref b1), .val (.int (0 : Int32)), .val (.int (3 : Int32)), .val (.int z12), .val (.int z14), .val (.int z16), .val (.int (1 : Int32)), .val (.int (1 : Int32)), .val (.int (0 : Int32)), .val (.int (1 : Int32))]) rfl ?_
                show Steps p.tables e below (T182.setTop (mkF m 124 #[.val (.int p1), .val (.int p2), .val (.ref b1), .val (.int (0 : Int32)), .val (.int (3 : Int32)), .val (.int z12), .val (.int z14), .val (.int z16), .val (.int (1 : Int32)), .val (.int (1 : Int32)), .val (.int (0 : Int32)), .val (.int (1 : Int32))] [])) _
                refine XS.iloadN X182.here hx rfl (hb hby at_124) rfl ?_
                show Steps p.tables e below (T182.setTop (mkF m 125 #[.val (.int p1), .val (.int p2), .val (.ref b1), .val (.int (0 : Int32)), .val (.int (3 : Int32)), .val (.int z12), .val (.int z14), .val (.int z16), .val (.int (1 : Int32)), .val (.int (1 : Int32)), .val (.int (0 : Int32)), .val (.int (1 : Int32))] [(.int (0 : Int32))])) _
                refine XS.ifNo X182.here hx rfl (hb hby at_125) rfl ((if0 _ _).trans (teq (by decide : (0 : Int32) = (0 : Int32))).2) ?_
                show Steps p.tables e below (T182.setTop (mkF m 128 #[.val (.int p1), .val (.int p2), .val (.ref b1), .val (.int (0 : Int32)), .val (.int (3 : Int32)), .val (.int z12), .val (.int z14), .val (.int z16), .val (.int (1 : Int32)), .val (.int (1 : Int32)), .val (.int (0 : Int32)), .val (.int (1 : Int32))] [])) _
                refine XS.iload X182.here hx rfl (hb hby at_128) rfl ?_
                show Steps p.tables e below (T182.setTop (mkF m 130 #[.val (.int p1), .val (.int p2), .val (.ref b1), .val (.int (0 : Int32)), .val (.int (3 : Int32)), .val (.int z12), .val (.int z14), .val (.int z16), .val (.int (1 : Int32)), .val (.int (1 : Int32)), .val (.int (0 : Int32)), .val (.int (1 : Int32))] [(.int (1 : Int32))])) _
                refine XS.iload X182.here hx rfl (hb hby at_130) rfl ?_
                show Steps p.tables e below (T182.setTop (mkF m 132 #[.val (.int p1), .val (.int p2), .val (.ref b1), .val (.int (0 : Int32)), .val (.int (3 : Int32)), .val (.int z12), .val (.int z14), .val (.int z16), .val (.int (1 : Int32)), .val (.int (1 : Int32)), .val (.int (0 : Int32)), .val (.int (1 : Int32))] [(.int (1 : Int32)), (.int (1 : Int32))])) _
                refine XS.icmpNo X182.here hx rfl (hb hby at_132) rfl (teq (by decide : (1 : Int32) = (1 : Int32))).2 ?_
                show Steps p.tables e below (T182.setTop (mkF m 135 #[.val (.int p1), .val (.int p2), .val (.ref b1), .val (.int (0 : Int32)), .val (.int (3 : Int32)), .val (.int z12), .val (.int z14), .val (.int z16), .val (.int (1 : Int32)), .val (.int (1 : Int32)), .val (.int (0 : Int32)), .val (.int (1 : Int32))] [])) _
                refine XS.iload X182.here hx rfl (hb hby at_135) rfl ?_
                show Steps p.tables e below (T182.setTop (mkF m 137 #[.val (.int p1), .val (.int p2), .val (.ref b1), .val (.int (0 : Int32)), .val (.int (3 : Int32)), .val (.int z12), .val (.int z14), .val (.int z16), .val (.int (1 : Int32)), .val (.int (1 : Int32)), .val (.int (0 : Int32)), .val (.int (1 : Int32))] [(.int (1 : Int32))])) _
                refine XS.iload X182.here hx rfl (hb hby at_137) rfl ?_
                show Steps p.tables e below (T182.setTop (mkF m 139 #[.val (.int p1), .val (.int p2), .val (.ref b1), .val (.int (0 : Int32)), .val (.int (3 : Int32)), .val (.int z12), .val (.int z14), .val (.int z16), .val (.int (1 : Int32)), .val (.int (1 : Int32)), .val (.int (0 : Int32)), .val (.int (1 : Int32))] [(.int (1 : Int32)), (.int (1 : Int32))])) _
                refine XS.ifYes X182.here hx rfl (pc0 := 139) (pc' := 147) rfl (hb hby at_139) rfl ((if0 _ _).trans (feq (by decide : ¬ ((1 : Int32) = (0 : Int32)))).2) (by decide) (by decide) ?_
                show Steps p.tables e below (T182.setTop (mkF m 147 #[.val (.int p1), .val (.int p2), .val (.ref b1), .val (.int (0 : Int32)), .val (.int (3 : Int32)), .val (.int z12), .val (.int z14), .val (.int z16), .val (.int (1 : Int32)), .val (.int (1 : Int32)), .val (.int (0 : Int32)), .val (.int (1 : Int32))] [(.int (1 : Int32))])) _
                refine XS.iconst X182.here hx rfl (hb hby at_147) ?_
                show Steps p.tables e below (T182.setTop (mkF m 148 #[.val (.int p1), .val (.int p2), .val (.ref b1), .val (.int (0 : Int32)), .val (.int (3 : Int32)), .val (.int z12), .val (.int z14), .val (.int z16), .val (.int (1 : Int32)), .val (.int (1 : Int32)), .val (.int (0 : Int32)), .val (.int (1 : Int32))] [(.int (1 : Int32)), (.int (1 : Int32))])) _
                refine XS.goto X182.here hx rfl (pc0 := 148) (pc' := 152) rfl (hb hby at_148) (by decide) (by decide) ?_
                show Steps p.tables e below (T182.setTop (mkF m 152 #[.val (.int p1), .val (.int p2), .val (.ref b1), .val (.int (0 : Int32)), .val (.int (3 : Int32)), .val (.int z12), .val (.int z14), .val (.int z16), .val (.int (1 : Int32)), .val (.int (1 : Int32)), .val (.int (0 : Int32)), .val (.int (1 : Int32))] [(.int (1 : Int32)), (.int (1 : Int32))])) _
                refine XS.icmpNo X182.here hx rfl (hb hby at_152) rfl (teq (by decide : (1 : Int32) = (1 : Int32))).2 ?_
                show Steps p.tables e below (T182.setTop (mkF m 155 #[.val (.int p1), .val (.int p2), .val (.ref b1), .val (.int (0 : Int32)), .val (.int (3 : Int32)), .val (.int z12), .val (.int z14), .val (.int z16), .val (.int (1 : Int32)), .val (.int (1 : Int32)), .val (.int (0 : Int32)), .val (.int (1 : Int32))] [])) _
                refine XS.iconst X182.here hx rfl (hb hby at_155) ?_
                show Steps p.tables e below (T182.setTop (mkF m 156 #[.val (.int p1), .val (.int p2), .val (.ref b1), .val (.int (0 : Int32)), .val (.int (3 : Int32)), .val (.int z12), .val (.int z14), .val (.int z16), .val (.int (1 : Int32)), .val (.int (1 : Int32)), .val (.int (0 : Int32)), .val (.int (1 : Int32))] [(.int (1 : Int32))])) _
                refine XS.goto X182.here hx rfl (pc0 := 156) (pc' := 160) rfl (hb hby at_156) (by decide) (by decide) ?_
                show Steps p.tables e below (T182.setTop (mkF m 160 #[.val (.int p1), .val (.int p2), .val (.ref b1), .val (.int (0 : Int32)), .val (.int (3 : Int32)), .val (.int z12), .val (.int z14), .val (.int z16), .val (.int (1 : Int32)), .val (.int (1 : Int32)), .val (.int (0 : Int32)), .val (.int (1 : Int32))] [(.int (1 : Int32))])) _
                exact retN X182 hx (t := .boolean) hret (by simp) (hb hby at_160) hr
              ·
                show Q0 n0 _ T182.heap _
                rw [e184]
                exact ⟨rfl, N182⟩
    ·
      have N34 := Fr.app N8 Nq42
      have M34 : h0.size ≤ T34.heap.size := Nat.le_trans M2 K43.1
      have O34 := Old.keep O2 K43 (allS g_b1 all0)
      have pre185 : ∀ t, Steps p.tables e below (T34.setTop (mkF m 72 #[.val (.int p1), .val (.int p2), .val (.ref b1), .val (.int (0 : Int32)), .val (.int (p1 &&& (3 : Int32))), .val (.int z12), .val (.int z14), .val (.int z16), .unset, .unset, .unset, .unset] [(.int (2 : Int32)), (.int (p1 &&& (3 : Int32)))])) t → Steps p.tables e below (s₁.setTop (entryFrame m #[(.int p1), (.int p2)] maxLocals)) t := fun t k => by
        refine pre35 _ ?_
        show Steps p.tables e below (T8.setTop (mkF m 66 #[.val (.int p1), .val (.int p2), .val (.ref b1), .val (.int (0 : Int32)), .val (.int (p1 &&& (3 : Int32))), .val (.int z12), .val (.int z14), .val (.int z16), .unset, .unset, .unset, .unset] [(.int z12), (.ref b1)])) _
        refine st34.trans ?_
        show Steps p.tables e below (T34.setTop (mkF m 69 #[.val (.int p1), .val (.int p2), .val (.ref b1), .val (.int (0 : Int32)), .val (.int (p1 &&& (3 : Int32))), .val (.int z12), .val (.int z14), .val (.int z16), .unset, .unset, .unset, .unset] [])) _
        refine XS.iload X34.here hx rfl (hb hby at_69) rfl ?_
        show Steps p.tables e below (T34.setTop (mkF m 71 #[.val (.int p1), .val (.int p2), .val (.ref b1), .val (.int (0 : Int32)), .val (.int (p1 &&& (3 : Int32))), .val (.int z12), .val (.int z14), .val (.int z16), .unset, .unset, .unset, .unset] [(.int (p1 &&& (3 : Int32)))])) _
        refine XS.iconst X34.here hx rfl (hb hby at_71) ?_
        exact k
      by_cases hc186 : (p1 &&& (3 : Int32)) < (2 : Int32)
      ·
        have hq187 : (p1 &&& (3 : Int32)) = (1 : Int32) := (own_geq (n := 1) (k := (1 : Int32)) (by decide) (by have q0 := own_and (x := p1) (k := (3 : Int32)) (n := 3) (by decide) (by decide); have q1 := own_nlt1 (n := 1) (k := (1 : Int32)) (by decide) hc18; have q2 := own_lt1 (n := 2) (k := (2 : Int32)) (by decide) hc186; omega))
        have pre188 : ∀ t, Steps p.tables e below (T34.setTop (mkF m 72 #[.val (.int p1), .val (.int p2), .val (.ref b1), .val (.int (0 : Int32)), .val (.int (1 : Int32)), .val (.int z12), .val (.int z14), .val (.int z16), .unset, .unset, .unset, .unset] [(.int (2 : Int32)), (.int (1 : Int32))])) t → Steps p.tables e below (s₁.setTop (entryFrame m #[(.int p1), (.int p2)] maxLocals)) t := fun t k => pre185 t (by rw [hq187]; exact k)
        obtain ⟨cq189, kq189, q189a, q189b, q189c⟩ := isOf hZ rfl f44
        obtain ⟨_, _, ⟨T190, L190, c190, n190⟩, -, X190, ⟨Lc190, hQ190, l190, y190, z190⟩, st190⟩ := X34.virtualBack hx (y := (⟨"com/example/vorgang/vorgang/QueryTimeoutScope", "isKnown", "()Z"⟩ : MethodName)) (z := (⟨"com/example/vorgang/vorgang/QueryTimeoutScope", "isKnown", "()Z"⟩ : MethodName)) hown (mvT hZ (hw _ (List.mem_of_getElem? (i := 14) rfl))) (mvT hZ (hw _ (List.mem_of_getElem? (i := 15) rfl))) (notFace_of_selects (args := #[]) (mvT hZ (hw _ (List.mem_of_getElem? (i := 17) rfl)))) (mvT hZ (hw _ (List.mem_of_getElem? (i := 17) rfl))) (mvT hZ (hw _ (List.mem_of_getElem? (i := 16) rfl))) (by decide) (backOf (W := 0) (rm10 l Z a0 hw w1 w2 w3 G [] b1 T34.heap n0 O34 g_b1 f45) hZ (hw _ (List.mem_of_getElem? (i := 18) rfl)) (hw _ (List.mem_of_getElem? (i := 2) rfl)) (by decide) (by decide)) q189a q189c (g := (mkF m 94 #[.val (.int p1), .val (.int p2), .val (.ref b1), .val (.int (0 : Int32)), .val (.int (1 : Int32)), .val (.int z12), .val (.int z14), .val (.int z16), .unset, .unset, .unset, .unset] [(.ref b1)])) rfl (by rw [hml]; rfl) (Steps.refl _) (argsL := []) (rest := []) (lenOf pd1 rfl) rfl (by show 2 * 0 + _ ≤ _; exact Nat.le_of_eq rfl) (hb hby at_94) (fun _ _ => ⟨rfl, rfl, (by decide : 1 + 0 ≤ _), (by decide : 1 + 0 ≤ _)⟩)
        dsimp only [Pt.U, Pt.locs, Pt.cells, Pt.slots] at X190 l190 y190 z190 st190 hQ190
        subst l190 y190 z190
        have X190 : Stand p l e room_1 s m #[(.int p1), (.int p2)] below meth c T190 _ 1 1 := X190
        obtain ⟨rfl, Nq191, e192⟩ := hQ190
        have N190 := Fr.app N34 Nq191
        obtain ⟨cq193, kq193, q193a, q193b, q193c⟩ := isOf hZ e192 f44
        obtain ⟨_, _, ⟨T194, L194, c194, n194⟩, -, X194, ⟨Lc194, hQ194, l194, y194, z194⟩, st194⟩ := X190.virtualBack hx (y := (⟨"com/example/vorgang/vorgang/QueryTimeoutScope", "isSession", "()Z"⟩ : MethodName)) (z := (⟨"com/example/vorgang/vorgang/QueryTimeoutScope", "isSession", "()Z"⟩ : MethodName)) hown (mvT hZ (hw _ (List.mem_of_getElem? (i := 19) rfl))) (mvT hZ (hw _ (List.mem_of_getElem? (i := 20) rfl))) (notFace_of_selects (args := #[]) (mvT hZ (hw _ (List.mem_of_getElem? (i := 22) rfl)))) (mvT hZ (hw _ (List.mem_of_getElem? (i := 22) rfl))) (mvT hZ (hw _ (List.mem_of_getElem? (i := 21) rfl))) (by decide) (backOf (W := 0) (rm11 l Z a0 hw w1 w2 w3 G [] b1 T34.heap n0 O34 g_b1 f45) hZ (hw _ (List.mem_of_getElem? (i := 23) rfl)) (hw _ (List.mem_of_getElem? (i := 2) rfl)) (by decide) (by decide)) q193a q193c (g := (mkF m 100 #[.val (.int p1), .val (.int p2), .val (.ref b1), .val (.int (0 : Int32)), .val (.int (1 : Int32)), .val (.int z12), .val (.int z14), .val (.int z16), .val (.int (1 : Int32)), .unset, .unset, .unset] [(.ref b1)])) rfl (by rw [hml]; rfl) (Steps.refl _) (argsL := []) (rest := []) (lenOf pd1 rfl) rfl (by show 2 * 0 + _ ≤ _; exact Nat.le_of_eq rfl) (hb hby at_100) (fun _ _ => ⟨rfl, e192, (by decide : 1 + 0 ≤ _), (by decide : 1 + 0 ≤ _)⟩)
        dsimp only [Pt.U, Pt.locs, Pt.cells, Pt.slots] at X194 l194 y194 z194 st194 hQ194
        subst l194 y194 z194
        have X194 : Stand p l e room_1 s m #[(.int p1), (.int p2)] below meth c T194 _ 1 1 := X194
        obtain ⟨rfl, Nq195, e196⟩ := hQ194
        have N194 := Fr.app N190 Nq195
        obtain ⟨cq197, kq197, q197a, q197b, q197c⟩ := isOf hZ e196 f44
        obtain ⟨_, _, ⟨T198, L198, c198, n198⟩, -, X198, ⟨Lc198, hQ198, l198, y198, z198⟩, st198⟩ := X194.virtualBack hx (y := (⟨"com/example/vorgang/vorgang/QueryTimeoutScope", "isStatement", "()Z"⟩ : MethodName)) (z := (⟨"com/example/vorgang/vorgang/QueryTimeoutScope", "isStatement", "()Z"⟩ : MethodName)) hown (mvT hZ (hw _ (List.mem_of_getElem? (i := 26) rfl))) (mvT hZ (hw _ (List.mem_of_getElem? (i := 27) rfl))) (notFace_of_selects (args := #[]) (mvT hZ (hw _ (List.mem_of_getElem? (i := 29) rfl)))) (mvT hZ (hw _ (List.mem_of_getElem? (i := 29) rfl))) (mvT hZ (hw _ (List.mem_of_getElem? (i := 28) rfl))) (by decide) (backOf (W := 0) (rm12 l Z a0 hw w1 w2 w3 G [] b1 T34.heap n0 O34 g_b1 f45) hZ (hw _ (List.mem_of_getElem? (i := 30) rfl)) (hw _ (List.mem_of_getElem? (i := 2) rfl)) (by decide) (by decide)) q197a q197c (g := (mkF m 106 #[.val (.int p1), .val (.int p2), .val (.ref b1), .val (.int (0 : Int32)), .val (.int (1 : Int32)), .val (.int z12), .val (.int z14), .val (.int z16), .val (.int (1 : Int32)), .val (.int (1 : Int32)), .unset, .unset] [(.ref b1)])) rfl (by rw [hml]; rfl) (Steps.refl _) (argsL := []) (rest := []) (lenOf pd1 rfl) rfl (by show 2 * 0 + _ ≤ _; exact Nat.le_of_eq rfl) (hb hby at_106) (fun _ _ => ⟨rfl, e196, (by decide : 1 + 0 ≤ _), (by decide : 1 + 0 ≤ _)⟩)
        dsimp only [Pt.U, Pt.locs, Pt.cells, Pt.slots] at X198 l198 y198 z198 st198 hQ198
        subst l198 y198 z198
        have X198 : Stand p l e room_1 s m #[(.int p1), (.int p2)] below meth c T198 _ 1 1 := X198
        obtain ⟨rfl, Nq199, e200⟩ := hQ198
        have N198 := Fr.app N194 Nq199
        obtain ⟨fs, hr, hrun, hended, hW, hsame⟩ := X198.leave (v := some (.int (1 : Int32))) (fun h => by rw [hret] at h; cases h)
        refine ⟨_, _, pre188 _ ?_, hrun, hended, _, _, rfl, ?_, ⟨_, rfl⟩, hW, hsame.mono (by decide) (by decide)⟩
        ·
          show Steps p.tables e below (T34.setTop (mkF m 72 #[.val (.int p1), .val (.int p2), .val (.ref b1), .val (.int (0 : Int32)), .val (.int (1 : Int32)), .val (.int z12), .val (.int z14), .val (.int z16), .unset, .unset, .unset, .unset] [(.int (2 : Int32)), (.int (1 : Int32))])) _
          refine XS.icmpYes X34.here hx rfl (pc0 := 72) (pc' := 81) rfl (hb hby at_72) rfl (tlt (by decide : (1 : Int32) < (2 : Int32))).1 (by decide) (by decide) ?_
          show Steps p.tables e below (T34.setTop (mkF m 81 #[.val (.int p1), .val (.int p2), .val (.ref b1), .val (.int (0 : Int32)), .val (.int (1 : Int32)), .val (.int z12), .val (.int z14), .val (.int z16), .unset, .unset, .unset, .unset] [])) _
          refine XS.iload X34.here hx rfl (hb hby at_81) rfl ?_
          show Steps p.tables e below (T34.setTop (mkF m 83 #[.val (.int p1), .val (.int p2), .val (.ref b1), .val (.int (0 : Int32)), .val (.int (1 : Int32)), .val (.int z12), .val (.int z14), .val (.int z16), .unset, .unset, .unset, .unset] [(.int (1 : Int32))])) _
          refine XS.iconst X34.here hx rfl (hb hby at_83) ?_
          show Steps p.tables e below (T34.setTop (mkF m 84 #[.val (.int p1), .val (.int p2), .val (.ref b1), .val (.int (0 : Int32)), .val (.int (1 : Int32)), .val (.int z12), .val (.int z14), .val (.int z16), .unset, .unset, .unset, .unset] [(.int (3 : Int32)), (.int (1 : Int32))])) _
          refine XS.icmpYes X34.here hx rfl (pc0 := 84) (pc' := 93) rfl (hb hby at_84) rfl (tlt (by decide : (1 : Int32) < (3 : Int32))).1 (by decide) (by decide) ?_
          show Steps p.tables e below (T34.setTop (mkF m 93 #[.val (.int p1), .val (.int p2), .val (.ref b1), .val (.int (0 : Int32)), .val (.int (1 : Int32)), .val (.int z12), .val (.int z14), .val (.int z16), .unset, .unset, .unset, .unset] [])) _
          refine XS.aloadN X34.here hx rfl (hb hby at_93) rfl rfl ?_
          show Steps p.tables e below (T34.setTop (mkF m 94 #[.val (.int p1), .val (.int p2), .val (.ref b1), .val (.int (0 : Int32)), .val (.int (1 : Int32)), .val (.int z12), .val (.int z14), .val (.int z16), .unset, .unset, .unset, .unset] [(.ref b1)])) _
          refine st190.trans ?_
          show Steps p.tables e below (T190.setTop (mkF m 97 #[.val (.int p1), .val (.int p2), .val (.ref b1), .val (.int (0 : Int32)), .val (.int (1 : Int32)), .val (.int z12), .val (.int z14), .val (.int z16), .unset, .unset, .unset, .unset] [(.int (1 : Int32))])) _
          refine XS.istore X190.here hx rfl (hb hby at_97) rfl (l' := #[.val (.int p1), .val (.int p2), .val (.ref b1), .val (.int (0 : Int32)), .val (.int (1 : Int32)), .val (.int z12), .val (.int z14), .val (.int z16), .val (.int (1 : Int32)), .unset, .unset, .unset]) rfl ?_
          show Steps p.tables e below (T190.setTop (mkF m 99 #[.val (.int p1), .val (.int p2), .val (.ref b1), .val (.int (0 : Int32)), .val (.int (1 : Int32)), .val (.int z12), .val (.int z14), .val (.int z16), .val (.int (1 : Int32)), .unset, .unset, .unset] [])) _
          refine XS.aloadN X190.here hx rfl (hb hby at_99) rfl rfl ?_
          show Steps p.tables e below (T190.setTop (mkF m 100 #[.val (.int p1), .val (.int p2), .val (.ref b1), .val (.int (0 : Int32)), .val (.int (1 : Int32)), .val (.int z12), .val (.int z14), .val (.int z16), .val (.int (1 : Int32)), .unset, .unset, .unset] [(.ref b1)])) _
          refine st194.trans ?_
          show Steps p.tables e below (T194.setTop (mkF m 103 #[.val (.int p1), .val (.int p2), .val (.ref b1), .val (.int (0 : Int32)), .val (.int (1 : Int32)), .val (.int z12), .val (.int z14), .val (.int z16), .val (.int (1 : Int32)), .unset, .unset, .unset] [(.int (1 : Int32))])) _
          refine XS.istore X194.here hx rfl (hb hby at_103) rfl (l' := #[.val (.int p1), .val (.int p2), .val (.ref b1), .val (.int (0 : Int32)), .val (.int (1 : Int32)), .val (.int z12), .val (.int z14), .val (.int z16), .val (.int (1 : Int32)), .val (.int (1 : Int32)), .unset, .unset]) rfl ?_
          show Steps p.tables e below (T194.setTop (mkF m 105 #[.val (.int p1), .val (.int p2), .val (.ref b1), .val (.int (0 : Int32)), .val (.int (1 : Int32)), .val (.int z12), .val (.int z14), .val (.int z16), .val (.int (1 : Int32)), .val (.int (1 : Int32)), .unset, .unset] [])) _
          refine XS.aloadN X194.here hx rfl (hb hby at_105) rfl rfl ?_
          show Steps p.tables e below (T194.setTop (mkF m 106 #[.val (.int p1), .val (.int p2), .val (.ref b1), .val (.int (0 : Int32)), .val (.int (1 : Int32)), .val (.int z12), .val (.int z14), .val (.int z16), .val (.int (1 : Int32)), .val (.int (1 : Int32)), .unset, .unset] [(.ref b1)])) _
          refine st198.trans ?_
          show Steps p.tables e below (T198.setTop (mkF m 109 #[.val (.int p1), .val (.int p2), .val (.ref b1), .val (.int (0 : Int32)), .val (.int (1 : Int32)), .val (.int z12), .val (.int z14), .val (.int z16), .val (.int (1 : Int32)), .val (.int (1 : Int32)), .unset, .unset] [(.int (0 : Int32))])) _
          refine XS.istore X198.here hx rfl (hb hby at_109) rfl (l' := #[.val (.int p1), .val (.int p2), .val (.ref b1), .val (.int (0 : Int32)), .val (.int (1 : Int32)), .val (.int z12), .val (.int z14), .val (.int z16), .val (.int (1 : Int32)), .val (.int (1 : Int32)), .val (.int (0 : Int32)), .unset]) rfl ?_
          show Steps p.tables e below (T198.setTop (mkF m 111 #[.val (.int p1), .val (.int p2), .val (.ref b1), .val (.int (0 : Int32)), .val (.int (1 : Int32)), .val (.int z12), .val (.int z14), .val (.int z16), .val (.int (1 : Int32)), .val (.int (1 : Int32)), .val (.int (0 : Int32)), .unset] [])) _
          refine XS.iload X198.here hx rfl (hb hby at_111) rfl ?_
          show Steps p.tables e below (T198.setTop (mkF m 113 #[.val (.int p1), .val (.int p2), .val (.ref b1), .val (.int (0 : Int32)), .val (.int (1 : Int32)), .val (.int z12), .val (.int z14), .val (.int z16), .val (.int (1 : Int32)), .val (.int (1 : Int32)), .val (.int (0 : Int32)), .unset] [(.int (1 : Int32))])) _
          refine XS.iconst X198.here hx rfl (hb hby at_113) ?_
          show Steps p.tables e below (T198.setTop (mkF m 114 #[.val (.int p1), .val (.int p2), .val (.ref b1), .val (.int (0 : Int32)), .val (.int (1 : Int32)), .val (.int z12), .val (.int z14), .val (.int z16), .val (.int (1 : Int32)), .val (.int (1 : Int32)), .val (.int (0 : Int32)), .unset] [(.int (1 : Int32)), (.int (1 : Int32))])) _
          refine XS.icmpNo X198.here hx rfl (hb hby at_114) rfl (flt (by decide : ¬ ((1 : Int32) < (1 : Int32)))).1 ?_
          show Steps p.tables e below (T198.setTop (mkF m 117 #[.val (.int p1), .val (.int p2), .val (.ref b1), .val (.int (0 : Int32)), .val (.int (1 : Int32)), .val (.int z12), .val (.int z14), .val (.int z16), .val (.int (1 : Int32)), .val (.int (1 : Int32)), .val (.int (0 : Int32)), .unset] [])) _
          refine XS.iconst X198.here hx rfl (hb hby at_117) ?_
          show Steps p.tables e below (T198.setTop (mkF m 118 #[.val (.int p1), .val (.int p2), .val (.ref b1), .val (.int (0 : Int32)), .val (.int (1 : Int32)), .val (.int z12), .val (.int z14), .val (.int z16), .val (.int (1 : Int32)), .val (.int (1 : Int32)), .val (.int (0 : Int32)), .unset] [(.int (1 : Int32))])) _
          refine XS.goto X198.here hx rfl (pc0 := 118) (pc' := 122) rfl (hb hby at_118) (by decide) (by decide) ?_
          show Steps p.tables e below (T198.setTop (mkF m 122 #[.val (.int p1), .val (.int p2), .val (.ref b1), .val (.int (0 : Int32)), .val (.int (1 : Int32)), .val (.int z12), .val (.int z14), .val (.int z16), .val (.int (1 : Int32)), .val (.int (1 : Int32)), .val (.int (0 : Int32)), .unset] [(.int (1 : Int32))])) _
          refine XS.istore X198.here hx rfl (hb hby at_122) rfl (l' := #[.val (.int p1), .val (.int p2), .val (.ref b1), .val (.int (0 : Int32)), .val (.int (1 : Int32)), .val (.int z12), .val (.int z14), .val (.int z16), .val (.int (1 : Int32)), .val (.int (1 : Int32)), .val (.int (0 : Int32)), .val (.int (1 : Int32))]) rfl ?_
          show Steps p.tables e below (T198.setTop (mkF m 124 #[.val (.int p1), .val (.int p2), .val (.ref b1), .val (.int (0 : Int32)), .val (.int (1 : Int32)), .val (.int z12), .val (.int z14), .val (.int z16), .val (.int (1 : Int32)), .val (.int (1 : Int32)), .val (.int (0 : Int32)), .val (.int (1 : Int32))] [])) _
          refine XS.iloadN X198.here hx rfl (hb hby at_124) rfl ?_
          show Steps p.tables e below (T198.setTop (mkF m 125 #[.val (.int p1), .val (.int p2), .val (.ref b1), .val (.int (0 : Int32)), .val (.int (1 : Int32)), .val (.int z12), .val (.int z14), .val (.int z16), .val (.int (1 : Int32)), .val (.int (1 : Int32)), .val (.int (0 : Int32)), .val (.int (1 : Int32))] [(.int (0 : Int32))])) _
          refine XS.ifNo X198.here hx rfl (hb hby at_125) rfl ((if0 _ _).trans (teq (by decide : (0 : Int32) = (0 : Int32))).2) ?_
          show Steps p.tables e below (T198.setTop (mkF m 128 #[.val (.int p1), .val (.int p2), .val (.ref b1), .val (.int (0 : Int32)), .val (.int (1 : Int32)), .val (.int z12), .val (.int z14), .val (.int z16), .val (.int (1 : Int32)), .val (.int (1 : Int32)), .val (.int (0 : Int32)), .val (.int (1 : Int32))] [])) _
          refine XS.iload X198.here hx rfl (hb hby at_128) rfl ?_
          show Steps p.tables e below (T198.setTop (mkF m 130 #[.val (.int p1), .val (.int p2), .val (.ref b1), .val (.int (0 : Int32)), .val (.int (1 : Int32)), .val (.int z12), .val (.int z14), .val (.int z16), .val (.int (1 : Int32)), .val (.int (1 : Int32)), .val (.int (0 : Int32)), .val (.int (1 : Int32))] [(.int (1 : Int32))])) _
          refine XS.iload X198.here hx rfl (hb hby at_130) rfl ?_
          show Steps p.tables e below (T198.setTop (mkF m 132 #[.val (.int p1), .val (.int p2), .val (.ref b1), .val (.int (0 : Int32)), .val (.int (1 : Int32)), .val (.int z12), .val (.int z14), .val (.int z16), .val (.int (1 : Int32)), .val (.int (1 : Int32)), .val (.int (0 : Int32)), .val (.int (1 : Int32))] [(.int (1 : Int32)), (.int (1 : Int32))])) _
          refine XS.icmpNo X198.here hx rfl (hb hby at_132) rfl (teq (by decide : (1 : Int32) = (1 : Int32))).2 ?_
          show Steps p.tables e below (T198.setTop (mkF m 135 #[.val (.int p1), .val (.int p2), .val (.ref b1), .val (.int (0 : Int32)), .val (.int (1 : Int32)), .val (.int z12), .val (.int z14), .val (.int z16), .val (.int (1 : Int32)), .val (.int (1 : Int32)), .val (.int (0 : Int32)), .val (.int (1 : Int32))] [])) _
          refine XS.iload X198.here hx rfl (hb hby at_135) rfl ?_
          show Steps p.tables e below (T198.setTop (mkF m 137 #[.val (.int p1), .val (.int p2), .val (.ref b1), .val (.int (0 : Int32)), .val (.int (1 : Int32)), .val (.int z12), .val (.int z14), .val (.int z16), .val (.int (1 : Int32)), .val (.int (1 : Int32)), .val (.int (0 : Int32)), .val (.int (1 : Int32))] [(.int (1 : Int32))])) _
          refine XS.iload X198.here hx rfl (hb hby at_137) rfl ?_
          show Steps p.tables e below (T198.setTop (mkF m 139 #[.val (.int p1), .val (.int p2), .val (.ref b1), .val (.int (0 : Int32)), .val (.int (1 : Int32)), .val (.int z12), .val (.int z14), .val (.int z16), .val (.int (1 : Int32)), .val (.int (1 : Int32)), .val (.int (0 : Int32)), .val (.int (1 : Int32))] [(.int (1 : Int32)), (.int (1 : Int32))])) _
          refine XS.ifYes X198.here hx rfl (pc0 := 139) (pc' := 147) rfl (hb hby at_139) rfl ((if0 _ _).trans (feq (by decide : ¬ ((1 : Int32) = (0 : Int32)))).2) (by decide) (by decide) ?_
          show Steps p.tables e below (T198.setTop (mkF m 147 #[.val (.int p1), .val (.int p2), .val (.ref b1), .val (.int (0 : Int32)), .val (.int (1 : Int32)), .val (.int z12), .val (.int z14), .val (.int z16), .val (.int (1 : Int32)), .val (.int (1 : Int32)), .val (.int (0 : Int32)), .val (.int (1 : Int32))] [(.int (1 : Int32))])) _
          refine XS.iconst X198.here hx rfl (hb hby at_147) ?_
          show Steps p.tables e below (T198.setTop (mkF m 148 #[.val (.int p1), .val (.int p2), .val (.ref b1), .val (.int (0 : Int32)), .val (.int (1 : Int32)), .val (.int z12), .val (.int z14), .val (.int z16), .val (.int (1 : Int32)), .val (.int (1 : Int32)), .val (.int (0 : Int32)), .val (.int (1 : Int32))] [(.int (1 : Int32)), (.int (1 : Int32))])) _
          refine XS.goto X198.here hx rfl (pc0 := 148) (pc' := 152) rfl (hb hby at_148) (by decide) (by decide) ?_
          show Steps p.tables e below (T198.setTop (mkF m 152 #[.val (.int p1), .val (.int p2), .val (.ref b1), .val (.int (0 : Int32)), .val (.int (1 : Int32)), .val (.int z12), .val (.int z14), .val (.int z16), .val (.int (1 : Int32)), .val (.int (1 : Int32)), .val (.int (0 : Int32)), .val (.int (1 : Int32))] [(.int (1 : Int32)), (.int (1 : Int32))])) _
          refine XS.icmpNo X198.here hx rfl (hb hby at_152) rfl (teq (by decide : (1 : Int32) = (1 : Int32))).2 ?_
          show Steps p.tables e below (T198.setTop (mkF m 155 #[.val (.int p1), .val (.int p2), .val (.ref b1), .val (.int (0 : Int32)), .val (.int (1 : Int32)), .val (.int z12), .val (.int z14), .val (.int z16), .val (.int (1 : Int32)), .val (.int (1 : Int32)), .val (.int (0 : Int32)), .val (.int (1 : Int32))] [])) _
          refine XS.iconst X198.here hx rfl (hb hby at_155) ?_
          show Steps p.tables e below (T198.setTop (mkF m 156 #[.val (.int p1), .val (.int p2), .val (.ref b1), .val (.int (0 : Int32)), .val (.int (1 : Int32)), .val (.int z12), .val (.int z14), .val (.int z16), .val (.int (1 : Int32)), .val (.int (1 : Int32)), .val (.int (0 : Int32)), .val (.int (1 : Int32))] [(.int (1 : Int32))])) _
          refine XS.goto X198.here hx rfl (pc0 := 156) (pc' := 160) rfl (hb hby at_156) (by decide) (by decide) ?_
          show Steps p.tables e below (T198.setTop (mkF m 160 #[.val (.int p1), .val (.int p2), .val (.ref b1), .val (.int (0 : Int32)), .val (.int (1 : Int32)), .val (.int z12), .val (.int z14), .val (.int z16), .val (.int (1 : Int32)), .val (.int (1 : Int32)), .val (.int (0 : Int32)), .val (.int (1 : Int32))] [(.int (1 : Int32))])) _
          exact retN X198 hx (t := .boolean) hret (by simp) (hb hby at_160) hr
        ·
          show Q0 n0 _ T198.heap _
          rw [e200]
          exact ⟨rfl, N198⟩
      ·
        obtain ⟨cq201, kq201, q201a, q201b, q201c⟩ := isOf hZ rfl f44
        obtain ⟨_, _, ⟨T202, L202, c202, n202⟩, -, X202, ⟨Lc202, hQ202, l202, y202, z202⟩, st202⟩ := X34.virtualBack hx (y := (⟨"com/example/vorgang/vorgang/QueryTimeoutScope", "found", "(Z)V"⟩ : MethodName)) (z := (⟨"com/example/vorgang/vorgang/QueryTimeoutScope", "found", "(Z)V"⟩ : MethodName)) hown (mvT hZ (hw _ (List.mem_of_getElem? (i := 33) rfl))) (mvT hZ (hw _ (List.mem_of_getElem? (i := 34) rfl))) (notFace_of_selects (args := #[]) (mvT hZ (hw _ (List.mem_of_getElem? (i := 36) rfl)))) (mvT hZ (hw _ (List.mem_of_getElem? (i := 36) rfl))) (mvT hZ (hw _ (List.mem_of_getElem? (i := 35) rfl))) (by decide) (backOf (W := 0) (rm13 l Z a0 hw w1 w2 w3 G [] b1 z14 T34.heap n0 O34 g_b1 f44 f45) hZ (hw _ (List.mem_of_getElem? (i := 37) rfl)) (hw _ (List.mem_of_getElem? (i := 2) rfl)) (by decide) (by decide)) q201a q201c (g := (mkF m 78 #[.val (.int p1), .val (.int p2), .val (.ref b1), .val (.int (0 : Int32)), .val (.int (p1 &&& (3 : Int32))), .val (.int z12), .val (.int z14), .val (.int z16), .unset, .unset, .unset, .unset] [(.int z14), (.ref b1)])) rfl (by rw [hml]; rfl) (Steps.refl _) (argsL := [(.int z14)]) (rest := []) (lenOf pd2 rfl) rfl (by show 2 * 0 + _ ≤ _; exact Nat.le_of_eq rfl) (hb hby at_78) (fun _ _ => ⟨rfl, rfl, (by decide : 1 + 0 ≤ _), (by decide : 1 + 0 ≤ _)⟩)
        dsimp only [Pt.U, Pt.locs, Pt.cells, Pt.slots] at X202 l202 y202 z202 st202 hQ202
        subst l202 y202 z202
        have pre203 : ∀ t, Steps p.tables e below (T34.setTop (mkF m 78 #[.val (.int p1), .val (.int p2), .val (.ref b1), .val (.int (0 : Int32)), .val (.int (p1 &&& (3 : Int32))), .val (.int z12), .val (.int z14), .val (.int z16), .unset, .unset, .unset, .unset] [(.int z14), (.ref b1)])) t → Steps p.tables e below (s₁.setTop (entryFrame m #[(.int p1), (.int p2)] maxLocals)) t := fun t k => by
          refine pre185 _ ?_
          show Steps p.tables e below (T34.setTop (mkF m 72 #[.val (.int p1), .val (.int p2), .val (.ref b1), .val (.int (0 : Int32)), .val (.int (p1 &&& (3 : Int32))), .val (.int z12), .val (.int z14), .val (.int z16), .unset, .unset, .unset, .unset] [(.int (2 : Int32)), (.int (p1 &&& (3 : Int32)))])) _
          refine XS.icmpNo X34.here hx rfl (hb hby at_72) rfl (flt hc186).1 ?_
          show Steps p.tables e below (T34.setTop (mkF m 75 #[.val (.int p1), .val (.int p2), .val (.ref b1), .val (.int (0 : Int32)), .val (.int (p1 &&& (3 : Int32))), .val (.int z12), .val (.int z14), .val (.int z16), .unset, .unset, .unset, .unset] [])) _
          refine XS.aloadN X34.here hx rfl (hb hby at_75) rfl rfl ?_
          show Steps p.tables e below (T34.setTop (mkF m 76 #[.val (.int p1), .val (.int p2), .val (.ref b1), .val (.int (0 : Int32)), .val (.int (p1 &&& (3 : Int32))), .val (.int z12), .val (.int z14), .val (.int z16), .unset, .unset, .unset, .unset] [(.ref b1)])) _
          refine XS.iload X34.here hx rfl (hb hby at_76) rfl ?_
          exact k
        have X202 : Stand p l e room_1 s m #[(.int p1), (.int p2)] below meth c T202 _ 1 1 := X202
        rcases hQ202 with ⟨hc204, rfl, Nq205, K206, f207, f208⟩ | ⟨hc209, rfl, Nq210, K211, f212, f213⟩
        ·
          have N202 := Fr.app N34 Nq205
          have M202 : h0.size ≤ T202.heap.size := Nat.le_trans M34 K206.1
          have O202 := Old.keep O34 K206 (allS g_b1 all0)
          have pre214 : ∀ t, Steps p.tables e below (T202.setTop (mkF m 84 #[.val (.int p1), .val (.int p2), .val (.ref b1), .val (.int (0 : Int32)), .val (.int (p1 &&& (3 : Int32))), .val (.int z12), .val (.int z14), .val (.int z16), .unset, .unset, .unset, .unset] [(.int (3 : Int32)), (.int (p1 &&& (3 : Int32)))])) t → Steps p.tables e below (s₁.setTop (entryFrame m #[(.int p1), (.int p2)] maxLocals)) t := fun t k => by
            refine pre203 _ ?_
            show Steps p.tables e below (T34.setTop (mkF m 78 #[.val (.int p1), .val (.int p2), .val (.ref b1), .val (.int (0 : Int32)), .val (.int (p1 &&& (3 : Int32))), .val (.int z12), .val (.int z14), .val (.int z16), .unset, .unset, .unset, .unset] [(.int z14), (.ref b1)])) _
            refine st202.trans ?_
            show Steps p.tables e below (T202.setTop (mkF m 81 #[.val (.int p1), .val (.int p2), .val (.ref b1), .val (.int (0 : Int32)), .val (.int (p1 &&& (3 : Int32))), .val (.int z12), .val (.int z14), .val (.int z16), .unset, .unset, .unset, .unset] [])) _
            refine XS.iload X202.here hx rfl (hb hby at_81) rfl ?_
            show Steps p.tables e below (T202.setTop (mkF m 83 #[.val (.int p1), .val (.int p2), .val (.ref b1), .val (.int (0 : Int32)), .val (.int (p1 &&& (3 : Int32))), .val (.int z12), .val (.int z14), .val (.int z16), .unset, .unset, .unset, .unset] [(.int (p1 &&& (3 : Int32)))])) _
            refine XS.iconst X202.here hx rfl (hb hby at_83) ?_
            exact k
          by_cases hc215 : (p1 &&& (3 : Int32)) < (3 : Int32)
          ·
            have hq216 : (p1 &&& (3 : Int32)) = (2 : Int32) := (own_geq (n := 2) (k := (2 : Int32)) (by decide) (by have q0 := own_and (x := p1) (k := (3 : Int32)) (n := 3) (by decide) (by decide); have q1 := own_nlt1 (n := 1) (k := (1 : Int32)) (by decide) hc18; have q2 := own_nlt1 (n := 2) (k := (2 : Int32)) (by decide) hc186; have q3 := own_lt1 (n := 3) (k := (3 : Int32)) (by decide) hc215; omega))
            have pre217 : ∀ t, Steps p.tables e below (T202.setTop (mkF m 84 #[.val (.int p1), .val (.int p2), .val (.ref b1), .val (.int (0 : Int32)), .val (.int (2 : Int32)), .val (.int z12), .val (.int z14), .val (.int z16), .unset, .unset, .unset, .unset] [(.int (3 : Int32)), (.int (2 : Int32))])) t → Steps p.tables e below (s₁.setTop (entryFrame m #[(.int p1), (.int p2)] maxLocals)) t := fun t k => pre214 t (by rw [hq216]; exact k)
            obtain ⟨cq218, kq218, q218a, q218b, q218c⟩ := isOf hZ rfl f207
            obtain ⟨_, _, ⟨T219, L219, c219, n219⟩, -, X219, ⟨Lc219, hQ219, l219, y219, z219⟩, st219⟩ := X202.virtualBack hx (y := (⟨"com/example/vorgang/vorgang/QueryTimeoutScope", "isKnown", "()Z"⟩ : MethodName)) (z := (⟨"com/example/vorgang/vorgang/QueryTimeoutScope", "isKnown", "()Z"⟩ : MethodName)) hown (mvT hZ (hw _ (List.mem_of_getElem? (i := 14) rfl))) (mvT hZ (hw _ (List.mem_of_getElem? (i := 15) rfl))) (notFace_of_selects (args := #[]) (mvT hZ (hw _ (List.mem_of_getElem? (i := 17) rfl)))) (mvT hZ (hw _ (List.mem_of_getElem? (i := 17) rfl))) (mvT hZ (hw _ (List.mem_of_getElem? (i := 16) rfl))) (by decide) (backOf (W := 0) (rm6 l Z a0 hw w1 w2 w3 G [] b1 T202.heap n0 O202 g_b1 f208) hZ (hw _ (List.mem_of_getElem? (i := 18) rfl)) (hw _ (List.mem_of_getElem? (i := 2) rfl)) (by decide) (by decide)) q218a q218c (g := (mkF m 94 #[.val (.int p1), .val (.int p2), .val (.ref b1), .val (.int (0 : Int32)), .val (.int (2 : Int32)), .val (.int z12), .val (.int z14), .val (.int z16), .unset, .unset, .unset, .unset] [(.ref b1)])) rfl (by rw [hml]; rfl) (Steps.refl _) (argsL := []) (rest := []) (lenOf pd1 rfl) rfl (by show 2 * 0 + _ ≤ _; exact Nat.le_of_eq rfl) (hb hby at_94) (fun _ _ => ⟨rfl, rfl, (by decide : 1 + 0 ≤ _), (by decide : 1 + 0 ≤ _)⟩)
            dsimp only [Pt.U, Pt.locs, Pt.cells, Pt.slots] at X219 l219 y219 z219 st219 hQ219
            subst l219 y219 z219
            have X219 : Stand p l e room_1 s m #[(.int p1), (.int p2)] below meth c T219 _ 1 1 := X219
            obtain ⟨rfl, Nq220, e221⟩ := hQ219
            have N219 := Fr.app N202 Nq220
            obtain ⟨cq222, kq222, q222a, q222b, q222c⟩ := isOf hZ e221 f207
            obtain ⟨_, _, ⟨T223, L223, c223, n223⟩, -, X223, ⟨Lc223, hQ223, l223, y223, z223⟩, st223⟩ := X219.virtualBack hx (y := (⟨"com/example/vorgang/vorgang/QueryTimeoutScope", "isSession", "()Z"⟩ : MethodName)) (z := (⟨"com/example/vorgang/vorgang/QueryTimeoutScope", "isSession", "()Z"⟩ : MethodName)) hown (mvT hZ (hw _ (List.mem_of_getElem? (i := 19) rfl))) (mvT hZ (hw _ (List.mem_of_getElem? (i := 20) rfl))) (notFace_of_selects (args := #[]) (mvT hZ (hw _ (List.mem_of_getElem? (i := 22) rfl)))) (mvT hZ (hw _ (List.mem_of_getElem? (i := 22) rfl))) (mvT hZ (hw _ (List.mem_of_getElem? (i := 21) rfl))) (by decide) (backOf (W := 0) (rm7 l Z a0 hw w1 w2 w3 G [] b1 T202.heap n0 O202 g_b1 f208) hZ (hw _ (List.mem_of_getElem? (i := 23) rfl)) (hw _ (List.mem_of_getElem? (i := 2) rfl)) (by decide) (by decide)) q222a q222c (g := (mkF m 100 #[.val (.int p1), .val (.int p2), .val (.ref b1), .val (.int (0 : Int32)), .val (.int (2 : Int32)), .val (.int z12), .val (.int z14), .val (.int z16), .val (.int (1 : Int32)), .unset, .unset, .unset] [(.ref b1)])) rfl (by rw [hml]; rfl) (Steps.refl _) (argsL := []) (rest := []) (lenOf pd1 rfl) rfl (by show 2 * 0 + _ ≤ _; exact Nat.le_of_eq rfl) (hb hby at_100) (fun _ _ => ⟨rfl, e221, (by decide : 1 + 0 ≤ _), (by decide : 1 + 0 ≤ _)⟩)
            dsimp only [Pt.U, Pt.locs, Pt.cells, Pt.slots] at X223 l223 y223 z223 st223 hQ223
            subst l223 y223 z223
            have X223 : Stand p l e room_1 s m #[(.int p1), (.int p2)] below meth c T223 _ 1 1 := X223
            obtain ⟨rfl, Nq224, e225⟩ := hQ223
            have N223 := Fr.app N219 Nq224
            obtain ⟨cq226, kq226, q226a, q226b, q226c⟩ := isOf hZ e225 f207
            obtain ⟨_, _, ⟨T227, L227, c227, n227⟩, -, X227, ⟨Lc227, hQ227, l227, y227, z227⟩, st227⟩ := X223.virtualBack hx (y := (⟨"com/example/vorgang/vorgang/QueryTimeoutScope", "isStatement", "()Z"⟩ : MethodName)) (z := (⟨"com/example/vorgang/vorgang/QueryTimeoutScope", "isStatement", "()Z"⟩ : MethodName)) hown (mvT hZ (hw _ (List.mem_of_getElem? (i := 26) rfl))) (mvT hZ (hw _ (List.mem_of_getElem? (i := 27) rfl))) (notFace_of_selects (args := #[]) (mvT hZ (hw _ (List.mem_of_getElem? (i := 29) rfl)))) (mvT hZ (hw _ (List.mem_of_getElem? (i := 29) rfl))) (mvT hZ (hw _ (List.mem_of_getElem? (i := 28) rfl))) (by decide) (backOf (W := 0) (rm8 l Z a0 hw w1 w2 w3 G [] b1 T202.heap n0 O202 g_b1 f208) hZ (hw _ (List.mem_of_getElem? (i := 30) rfl)) (hw _ (List.mem_of_getElem? (i := 2) rfl)) (by decide) (by decide)) q226a q226c (g := (mkF m 106 #[.val (.int p1), .val (.int p2), .val (.ref b1), .val (.int (0 : Int32)), .val (.int (2 : Int32)), .val (.int z12), .val (.int z14), .val (.int z16), .val (.int (1 : Int32)), .val (.int (0 : Int32)), .unset, .unset] [(.ref b1)])) rfl (by rw [hml]; rfl) (Steps.refl _) (argsL := []) (rest := []) (lenOf pd1 rfl) rfl (by show 2 * 0 + _ ≤ _; exact Nat.le_of_eq rfl) (hb hby at_106) (fun _ _ => ⟨rfl, e225, (by decide : 1 + 0 ≤ _), (by decide : 1 + 0 ≤ _)⟩)
            dsimp only [Pt.U, Pt.locs, Pt.cells, Pt.slots] at X227 l227 y227 z227 st227 hQ227
            subst l227 y227 z227
            have X227 : Stand p l e room_1 s m #[(.int p1), (.int p2)] below meth c T227 _ 1 1 := X227
            obtain ⟨rfl, Nq228, e229⟩ := hQ227
            have N227 := Fr.app N223 Nq228
            obtain ⟨fs, hr, hrun, hended, hW, hsame⟩ := X227.leave (v := some (.int (1 : Int32))) (fun h => by rw [hret] at h; cases h)
            refine ⟨_, _, pre217 _ ?_, hrun, hended, _, _, rfl, ?_, ⟨_, rfl⟩, hW, hsame.mono (by decide) (by decide)⟩
            ·
              show Steps p.tables e below (T202.setTop (mkF m 84 #[.val (.int p1), .val (.int p2), .val (.ref b1), .val (.int (0 : Int32)), .val (.int (2 : Int32)), .val (.int z12), .val (.int z14), .val (.int z16), .unset, .unset, .unset, .unset] [(.int (3 : Int32)), (.int (2 : Int32))])) _
              refine XS.icmpYes X202.here hx rfl (pc0 := 84) (pc' := 93) rfl (hb hby at_84) rfl (tlt (by decide : (2 : Int32) < (3 : Int32))).1 (by decide) (by decide) ?_
              show Steps p.tables e below (T202.setTop (mkF m 93 #[.val (.int p1), .val (.int p2), .val (.ref b1), .val (.int (0 : Int32)), .val (.int (2 : Int32)), .val (.int z12), .val (.int z14), .val (.int z16), .unset, .unset, .unset, .unset] [])) _
              refine XS.aloadN X202.here hx rfl (hb hby at_93) rfl rfl ?_
              show Steps p.tables e below (T202.setTop (mkF m 94 #[.val (.int p1), .val (.int p2), .val (.ref b1), .val (.int (0 : Int32)), .val (.int (2 : Int32)), .val (.int z12), .val (.int z14), .val (.int z16), .unset, .unset, .unset, .unset] [(.ref b1)])) _
              refine st219.trans ?_
              show Steps p.tables e below (T219.setTop (mkF m 97 #[.val (.int p1), .val (.int p2), .val (.ref b1), .val (.int (0 : Int32)), .val (.int (2 : Int32)), .val (.int z12), .val (.int z14), .val (.int z16), .unset, .unset, .unset, .unset] [(.int (1 : Int32))])) _
              refine XS.istore X219.here hx rfl (hb hby at_97) rfl (l' := #[.val (.int p1), .val (.int p2), .val (.ref b1), .val (.int (0 : Int32)), .val (.int (2 : Int32)), .val (.int z12), .val (.int z14), .val (.int z16), .val (.int (1 : Int32)), .unset, .unset, .unset]) rfl ?_
              show Steps p.tables e below (T219.setTop (mkF m 99 #[.val (.int p1), .val (.int p2), .val (.ref b1), .val (.int (0 : Int32)), .val (.int (2 : Int32)), .val (.int z12), .val (.int z14), .val (.int z16), .val (.int (1 : Int32)), .unset, .unset, .unset] [])) _
              refine XS.aloadN X219.here hx rfl (hb hby at_99) rfl rfl ?_
              show Steps p.tables e below (T219.setTop (mkF m 100 #[.val (.int p1), .val (.int p2), .val (.ref b1), .val (.int (0 : Int32)), .val (.int (2 : Int32)), .val (.int z12), .val (.int z14), .val (.int z16), .val (.int (1 : Int32)), .unset, .unset, .unset] [(.ref b1)])) _
              refine st223.trans ?_
              show Steps p.tables e below (T223.setTop (mkF m 103 #[.val (.int p1), .val (.int p2), .val (.ref b1), .val (.int (0 : Int32)), .val (.int (2 : Int32)), .val (.int z12), .val (.int z14), .val (.int z16), .val (.int (1 : Int32)), .unset, .unset, .unset] [(.int (0 : Int32))])) _
              refine XS.istore X223.here hx rfl (hb hby at_103) rfl (l' := #[.val (.int p1), .val (.int p2), .val (.ref b1), .val (.int (0 : Int32)), .val (.int (2 : Int32)), .val (.int z12), .val (.int z14), .val (.int z16), .val (.int (1 : Int32)), .val (.int (0 : Int32)), .unset, .unset]) rfl ?_
              show Steps p.tables e below (T223.setTop (mkF m 105 #[.val (.int p1), .val (.int p2), .val (.ref b1), .val (.int (0 : Int32)), .val (.int (2 : Int32)), .val (.int z12), .val (.int z14), .val (.int z16), .val (.int (1 : Int32)), .val (.int (0 : Int32)), .unset, .unset] [])) _
              refine XS.aloadN X223.here hx rfl (hb hby at_105) rfl rfl ?_
              show Steps p.tables e below (T223.setTop (mkF m 106 #[.val (.int p1), .val (.int p2), .val (.ref b1), .val (.int (0 : Int32)), .val (.int (2 : Int32)), .val (.int z12), .val (.int z14), .val (.int z16), .val (.int (1 : Int32)), .val (.int (0 : Int32)), .unset, .unset] [(.ref b1)])) _
              refine st227.trans ?_
              show Steps p.tables e below (T227.setTop (mkF m 109 #[.val (.int p1), .val (.int p2), .val (.ref b1), .val (.int (0 : Int32)), .val (.int (2 : Int32)), .val (.int z12), .val (.int z14), .val (.int z16), .val (.int (1 : Int32)), .val (.int (0 : Int32)), .unset, .unset] [(.int (1 : Int32))])) _
              refine XS.istore X227.here hx rfl (hb hby at_109) rfl (l' := #[.val (.int p1), .val (.int p2), .val (.ref b1), .val (.int (0 : Int32)), .val (.int (2 : Int32)), .val (.int z12), .val (.int z14), .val (.int z16), .val (.int (1 : Int32)), .val (.int (0 : Int32)), .val (.int (1 : Int32)), .unset]) rfl ?_
              show Steps p.tables e below (T227.setTop (mkF m 111 #[.val (.int p1), .val (.int p2), .val (.ref b1), .val (.int (0 : Int32)), .val (.int (2 : Int32)), .val (.int z12), .val (.int z14), .val (.int z16), .val (.int (1 : Int32)), .val (.int (0 : Int32)), .val (.int (1 : Int32)), .unset] [])) _
              refine XS.iload X227.here hx rfl (hb hby at_111) rfl ?_
              show Steps p.tables e below (T227.setTop (mkF m 113 #[.val (.int p1), .val (.int p2), .val (.ref b1), .val (.int (0 : Int32)), .val (.int (2 : Int32)), .val (.int z12), .val (.int z14), .val (.int z16), .val (.int (1 : Int32)), .val (.int (0 : Int32)), .val (.int (1 : Int32)), .unset] [(.int (2 : Int32))])) _
              refine XS.iconst X227.here hx rfl (hb hby at_113) ?_
              show Steps p.tables e below (T227.setTop (mkF m 114 #[.val (.int p1), .val (.int p2), .val (.ref b1), .val (.int (0 : Int32)), .val (.int (2 : Int32)), .val (.int z12), .val (.int z14), .val (.int z16), .val (.int (1 : Int32)), .val (.int (0 : Int32)), .val (.int (1 : Int32)), .unset] [(.int (1 : Int32)), (.int (2 : Int32))])) _
              refine XS.icmpNo X227.here hx rfl (hb hby at_114) rfl (flt (by decide : ¬ ((2 : Int32) < (1 : Int32)))).1 ?_
              show Steps p.tables e below (T227.setTop (mkF m 117 #[.val (.int p1), .val (.int p2), .val (.ref b1), .val (.int (0 : Int32)), .val (.int (2 : Int32)), .val (.int z12), .val (.int z14), .val (.int z16), .val (.int (1 : Int32)), .val (.int (0 : Int32)), .val (.int (1 : Int32)), .unset] [])) _
              refine XS.iconst X227.here hx rfl (hb hby at_117) ?_
              show Steps p.tables e below (T227.setTop (mkF m 118 #[.val (.int p1), .val (.int p2), .val (.ref b1), .val (.int (0 : Int32)), .val (.int (2 : Int32)), .val (.int z12), .val (.int z14), .val (.int z16), .val (.int (1 : Int32)), .val (.int (0 : Int32)), .val (.int (1 : Int32)), .unset] [(.int (1 : Int32))])) _
              refine XS.goto X227.here hx rfl (pc0 := 118) (pc' := 122) rfl (hb hby at_118) (by decide) (by decide) ?_
              show Steps p.tables e below (T227.setTop (mkF m 122 #[.val (.int p1), .val (.int p2), .val (.ref b1), .val (.int (0 : Int32)), .val (.int (2 : Int32)), .val (.int z12), .val (.int z14), .val (.int z16), .val (.int (1 : Int32)), .val (.int (0 : Int32)), .val (.int (1 : Int32)), .unset] [(.int (1 : Int32))])) _
              refine XS.istore X227.here hx rfl (hb hby at_122) rfl (l' := #[.val (.int p1), .val (.int p2), .val (.ref b1), .val (.int (0 : Int32)), .val (.int (2 : Int32)), .val (.int z12), .val (.int z14), .val (.int z16), .val (.int (1 : Int32)), .val (.int (0 : Int32)), .val (.int (1 : Int32)), .val (.int (1 : Int32))]) rfl ?_
              show Steps p.tables e below (T227.setTop (mkF m 124 #[.val (.int p1), .val (.int p2), .val (.ref b1), .val (.int (0 : Int32)), .val (.int (2 : Int32)), .val (.int z12), .val (.int z14), .val (.int z16), .val (.int (1 : Int32)), .val (.int (0 : Int32)), .val (.int (1 : Int32)), .val (.int (1 : Int32))] [])) _
              refine XS.iloadN X227.here hx rfl (hb hby at_124) rfl ?_
              show Steps p.tables e below (T227.setTop (mkF m 125 #[.val (.int p1), .val (.int p2), .val (.ref b1), .val (.int (0 : Int32)), .val (.int (2 : Int32)), .val (.int z12), .val (.int z14), .val (.int z16), .val (.int (1 : Int32)), .val (.int (0 : Int32)), .val (.int (1 : Int32)), .val (.int (1 : Int32))] [(.int (0 : Int32))])) _
              refine XS.ifNo X227.here hx rfl (hb hby at_125) rfl ((if0 _ _).trans (teq (by decide : (0 : Int32) = (0 : Int32))).2) ?_
              show Steps p.tables e below (T227.setTop (mkF m 128 #[.val (.int p1), .val (.int p2), .val (.ref b1), .val (.int (0 : Int32)), .val (.int (2 : Int32)), .val (.int z12), .val (.int z14), .val (.int z16), .val (.int (1 : Int32)), .val (.int (0 : Int32)), .val (.int (1 : Int32)), .val (.int (1 : Int32))] [])) _
              refine XS.iload X227.here hx rfl (hb hby at_128) rfl ?_
              show Steps p.tables e below (T227.setTop (mkF m 130 #[.val (.int p1), .val (.int p2), .val (.ref b1), .val (.int (0 : Int32)), .val (.int (2 : Int32)), .val (.int z12), .val (.int z14), .val (.int z16), .val (.int (1 : Int32)), .val (.int (0 : Int32)), .val (.int (1 : Int32)), .val (.int (1 : Int32))] [(.int (1 : Int32))])) _
              refine XS.iload X227.here hx rfl (hb hby at_130) rfl ?_
              show Steps p.tables e below (T227.setTop (mkF m 132 #[.val (.int p1), .val (.int p2), .val (.ref b1), .val (.int (0 : Int32)), .val (.int (2 : Int32)), .val (.int z12), .val (.int z14), .val (.int z16), .val (.int (1 : Int32)), .val (.int (0 : Int32)), .val (.int (1 : Int32)), .val (.int (1 : Int32))] [(.int (1 : Int32)), (.int (1 : Int32))])) _
              refine XS.icmpNo X227.here hx rfl (hb hby at_132) rfl (teq (by decide : (1 : Int32) = (1 : Int32))).2 ?_
              show Steps p.tables e below (T227.setTop (mkF m 135 #[.val (.int p1), .val (.int p2), .val (.ref b1), .val (.int (0 : Int32)), .val (.int (2 : Int32)), .val (.int z12), .val (.int z14), .val (.int z16), .val (.int (1 : Int32)), .val (.int (0 : Int32)), .val (.int (1 : Int32)), .val (.int (1 : Int32))] [])) _
              refine XS.iload X227.here hx rfl (hb hby at_135) rfl ?_
              show Steps p.tables e below (T227.setTop (mkF m 137 #[.val (.int p1), .val (.int p2), .val (.ref b1), .val (.int (0 : Int32)), .val (.int (2 : Int32)), .val (.int z12), .val (.int z14), .val (.int z16), .val (.int (1 : Int32)), .val (.int (0 : Int32)), .val (.int (1 : Int32)), .val (.int (1 : Int32))] [(.int (1 : Int32))])) _
              refine XS.iload X227.here hx rfl (hb hby at_137) rfl ?_
              show Steps p.tables e below (T227.setTop (mkF m 139 #[.val (.int p1), .val (.int p2), .val (.ref b1), .val (.int (0 : Int32)), .val (.int (2 : Int32)), .val (.int z12), .val (.int z14), .val (.int z16), .val (.int (1 : Int32)), .val (.int (0 : Int32)), .val (.int (1 : Int32)), .val (.int (1 : Int32))] [(.int (0 : Int32)), (.int (1 : Int32))])) _
              refine XS.ifNo X227.here hx rfl (hb hby at_139) rfl ((if0 _ _).trans (teq (by decide : (0 : Int32) = (0 : Int32))).2) ?_
              show Steps p.tables e below (T227.setTop (mkF m 142 #[.val (.int p1), .val (.int p2), .val (.ref b1), .val (.int (0 : Int32)), .val (.int (2 : Int32)), .val (.int z12), .val (.int z14), .val (.int z16), .val (.int (1 : Int32)), .val (.int (0 : Int32)), .val (.int (1 : Int32)), .val (.int (1 : Int32))] [(.int (1 : Int32))])) _
              refine XS.iload X227.here hx rfl (hb hby at_142) rfl ?_
              show Steps p.tables e below (T227.setTop (mkF m 144 #[.val (.int p1), .val (.int p2), .val (.ref b1), .val (.int (0 : Int32)), .val (.int (2 : Int32)), .val (.int z12), .val (.int z14), .val (.int z16), .val (.int (1 : Int32)), .val (.int (0 : Int32)), .val (.int (1 : Int32)), .val (.int (1 : Int32))] [(.int (1 : Int32)), (.int (1 : Int32))])) _
              refine XS.ifNo X227.here hx rfl (hb hby at_144) rfl ((if0 _ _).trans (feq (by decide : ¬ ((1 : Int32) = (0 : Int32)))).1) ?_
              show Steps p.tables e below (T227.setTop (mkF m 147 #[.val (.int p1), .val (.int p2), .val (.ref b1), .val (.int (0 : Int32)), .val (.int (2 : Int32)), .val (.int z12), .val (.int z14), .val (.int z16), .val (.int (1 : Int32)), .val (.int (0 : Int32)), .val (.int (1 : Int32)), .val (.int (1 : Int32))] [(.int (1 : Int32))])) _
              refine XS.iconst X227.here hx rfl (hb hby at_147) ?_
              show Steps p.tables e below (T227.setTop (mkF m 148 #[.val (.int p1), .val (.int p2), .val (.ref b1), .val (.int (0 : Int32)), .val (.int (2 : Int32)), .val (.int z12), .val (.int z14), .val (.int z16), .val (.int (1 : Int32)), .val (.int (0 : Int32)), .val (.int (1 : Int32)), .val (.int (1 : Int32))] [(.int (1 : Int32)), (.int (1 : Int32))])) _
              refine XS.goto X227.here hx rfl (pc0 := 148) (pc' := 152) rfl (hb hby at_148) (by decide) (by decide) ?_
              show Steps p.tables e below (T227.setTop (mkF m 152 #[.val (.int p1), .val (.int p2), .val (.ref b1), .val (.int (0 : Int32)), .val (.int (2 : Int32)), .val (.int z12), .val (.int z14), .val (.int z16), .val (.int (1 : Int32)), .val (.int (0 : Int32)), .val (.int (1 : Int32)), .val (.int (1 : Int32))] [(.int (1 : Int32)), (.int (1 : Int32))])) _
              refine XS.icmpNo X227.here hx rfl (hb hby at_152) rfl (teq (by decide : (1 : Int32) = (1 : Int32))).2 ?_
              show Steps p.tables e below (T227.setTop (mkF m 155 #[.val (.int p1), .val (.int p2), .val (.ref b1), .val (.int (0 : Int32)), .val (.int (2 : Int32)), .val (.int z12), .val (.int z14), .val (.int z16), .val (.int (1 : Int32)), .val (.int (0 : Int32)), .val (.int (1 : Int32)), .val (.int (1 : Int32))] [])) _
              refine XS.iconst X227.here hx rfl (hb hby at_155) ?_
              show Steps p.tables e below (T227.setTop (mkF m 156 #[.val (.int p1), .val (.int p2), .val (.ref b1), .val (.int (0 : Int32)), .val (.int (2 : Int32)), .val (.int z12), .val (.int z14), .val (.int z16), .val (.int (1 : Int32)), .val (.int (0 : Int32)), .val (.int (1 : Int32)), .val (.int (1 : Int32))] [(.int (1 : Int32))])) _
              refine XS.goto X227.here hx rfl (pc0 := 156) (pc' := 160) rfl (hb hby at_156) (by decide) (by decide) ?_
              show Steps p.tables e below (T227.setTop (mkF m 160 #[.val (.int p1), .val (.int p2), .val (.ref b1), .val (.int (0 : Int32)), .val (.int (2 : Int32)), .val (.int z12), .val (.int z14), .val (.int z16), .val (.int (1 : Int32)), .val (.int (0 : Int32)), .val (.int (1 : Int32)), .val (.int (1 : Int32))] [(.int (1 : Int32))])) _
              exact retN X227 hx (t := .boolean) hret (by simp) (hb hby at_160) hr
            ·
              show Q0 n0 _ T227.heap _
              rw [e229]
              exact ⟨rfl, N227⟩
          ·
            have hq230 : (p1 &&& (3 : Int32)) = (3 : Int32) := (own_geq (n := 3) (k := (3 : Int32)) (by decide) (by have q0 := own_and (x := p1) (k := (3 : Int32)) (n := 3) (by decide) (by decide); have q1 := own_nlt1 (n := 1) (k := (1 : Int32)) (by decide) hc18; have q2 := own_nlt1 (n := 2) (k := (2 : Int32)) (by decide) hc186; have q3 := own_nlt1 (n := 3) (k := (3 : Int32)) (by decide) hc215; omega))
            have pre231 : ∀ t, Steps p.tables e below (T202.setTop (mkF m 84 #[.val (.int p1), .val (.int p2), .val (.ref b1), .val (.int (0 : Int32)), .val (.int (3 : Int32)), .val (.int z12), .val (.int z14), .val (.int z16), .unset, .unset, .unset, .unset] [(.int (3 : Int32)), (.int (3 : Int32))])) t → Steps p.tables e below (s₁.setTop (entryFrame m #[(.int p1), (.int p2)] maxLocals)) t := fun t k => pre214 t (by rw [hq230]; exact k)
            obtain ⟨cq232, kq232, q232a, q232b, q232c⟩ := isOf hZ rfl f207
            obtain ⟨_, _, ⟨T233, L233, c233, n233⟩, -, X233, ⟨Lc233, hQ233, l233, y233, z233⟩, st233⟩ := X202.virtualBack hx (y := (⟨"com/example/vorgang/vorgang/QueryTimeoutScope", "found", "(Z)V"⟩ : MethodName)) (z := (⟨"com/example/vorgang/vorgang/QueryTimeoutScope", "found", "(Z)V"⟩ : MethodName)) hown (mvT hZ (hw _ (List.mem_of_getElem? (i := 33) rfl))) (mvT hZ (hw _ (List.mem_of_getElem? (i := 34) rfl))) (notFace_of_selects (args := #[]) (mvT hZ (hw _ (List.mem_of_getElem? (i := 36) rfl)))) (mvT hZ (hw _ (List.mem_of_getElem? (i := 36) rfl))) (mvT hZ (hw _ (List.mem_of_getElem? (i := 35) rfl))) (by decide) (backOf (W := 0) (rm9 l Z a0 hw w1 w2 w3 G [] b1 z16 T202.heap n0 O202 g_b1 f207 f208) hZ (hw _ (List.mem_of_getElem? (i := 37) rfl)) (hw _ (List.mem_of_getElem? (i := 2) rfl)) (by decide) (by decide)) q232a q232c (g := (mkF m 90 #[.val (.int p1), .val (.int p2), .val (.ref b1), .val (.int (0 : Int32)), .val (.int (3 : Int32)), .val (.int z12), .val (.int z14), .val (.int z16), .unset, .unset, .unset, .unset] [(.int z16), (.ref b1)])) rfl (by rw [hml]; rfl) (Steps.refl _) (argsL := [(.int z16)]) (rest := []) (lenOf pd2 rfl) rfl (by show 2 * 0 + _ ≤ _; exact Nat.le_of_eq rfl) (hb hby at_90) (fun _ _ => ⟨rfl, rfl, (by decide : 1 + 0 ≤ _), (by decide : 1 + 0 ≤ _)⟩)
            dsimp only [Pt.U, Pt.locs, Pt.cells, Pt.slots] at X233 l233 y233 z233 st233 hQ233
            subst l233 y233 z233
            have pre234 : ∀ t, Steps p.tables e below (T202.setTop (mkF m 90 #[.val (.int p1), .val (.int p2), .val (.ref b1), .val (.int (0 : Int32)), .val (.int (3 : Int32)), .val (.int z12), .val (.int z14), .val (.int z16), .unset, .unset, .unset, .unset] [(.int z16), (.ref b1)])) t → Steps p.tables e below (s₁.setTop (entryFrame m #[(.int p1), (.int p2)] maxLocals)) t := fun t k => by
              refine pre231 _ ?_
              show Steps p.tables e below (T202.setTop (mkF m 84 #[.val (.int p1), .val (.int p2), .val (.ref b1), .val (.int (0 : Int32)), .val (.int (3 : Int32)), .val (.int z12), .val (.int z14), .val (.int z16), .unset, .unset, .unset, .unset] [(.int (3 : Int32)), (.int (3 : Int32))])) _
              refine XS.icmpNo X202.here hx rfl (hb hby at_84) rfl (flt (by decide : ¬ ((3 : Int32) < (3 : Int32)))).1 ?_
              show Steps p.tables e below (T202.setTop (mkF m 87 #[.val (.int p1), .val (.int p2), .val (.ref b1), .val (.int (0 : Int32)), .val (.int (3 : Int32)), .val (.int z12), .val (.int z14), .val (.int z16), .unset, .unset, .unset, .unset] [])) _
              refine XS.aloadN X202.here hx rfl (hb hby at_87) rfl rfl ?_
              show Steps p.tables e below (T202.setTop (mkF m 88 #[.val (.int p1), .val (.int p2), .val (.ref b1), .val (.int (0 : Int32)), .val (.int (3 : Int32)), .val (.int z12), .val (.int z14), .val (.int z16), .unset, .unset, .unset, .unset] [(.ref b1)])) _
              refine XS.iload X202.here hx rfl (hb hby at_88) rfl ?_
              exact k
            have X233 : Stand p l e room_1 s m #[(.int p1), (.int p2)] below meth c T233 _ 1 1 := X233
            rcases hQ233 with ⟨hc235, rfl, Nq236, K237, f238, f239⟩ | ⟨hc240, rfl, Nq241, K242, f243, f244⟩
            ·
              have N233 := Fr.app N202 Nq236
              have M233 : h0.size ≤ T233.heap.size := Nat.le_trans M202 K237.1
              have O233 := Old.keep O202 K237 (allS g_b1 all0)
              obtain ⟨cq245, kq245, q245a, q245b, q245c⟩ := isOf hZ rfl f238
              obtain ⟨_, _, ⟨T246, L246, c246, n246⟩, -, X246, ⟨Lc246, hQ246, l246, y246, z246⟩, st246⟩ := X233.virtualBack hx (y := (⟨"com/example/vorgang/vorgang/QueryTimeoutScope", "isKnown", "()Z"⟩ : MethodName)) (z := (⟨"com/example/vorgang/vorgang/QueryTimeoutScope", "isKnown", "()Z"⟩ : MethodName)) hown (mvT hZ (hw _ (List.mem_of_getElem? (i := 14) rfl))) (mvT hZ (hw _ (List.mem_of_getElem? (i := 15) rfl))) (notFace_of_selects (args := #[]) (mvT hZ (hw _ (List.mem_of_getElem? (i := 17) rfl)))) (mvT hZ (hw _ (List.mem_of_getElem? (i := 17) rfl))) (mvT hZ (hw _ (List.mem_of_getElem? (i := 16) rfl))) (by decide) (backOf (W := 0) (rm6 l Z a0 hw w1 w2 w3 G [] b1 T233.heap n0 O233 g_b1 f239) hZ (hw _ (List.mem_of_getElem? (i := 18) rfl)) (hw _ (List.mem_of_getElem? (i := 2) rfl)) (by decide) (by decide)) q245a q245c (g := (mkF m 94 #[.val (.int p1), .val (.int p2), .val (.ref b1), .val (.int (0 : Int32)), .val (.int (3 : Int32)), .val (.int z12), .val (.int z14), .val (.int z16), .unset, .unset, .unset, .unset] [(.ref b1)])) rfl (by rw [hml]; rfl) (Steps.refl _) (argsL := []) (rest := []) (lenOf pd1 rfl) rfl (by show 2 * 0 + _ ≤ _; exact Nat.le_of_eq rfl) (hb hby at_94) (fun _ _ => ⟨rfl, rfl, (by decide : 1 + 0 ≤ _), (by decide : 1 + 0 ≤ _)⟩)
              dsimp only [Pt.U, Pt.locs, Pt.cells, Pt.slots] at X246 l246 y246 z246 st246 hQ246
              subst l246 y246 z246
              have X246 : Stand p l e room_1 s m #[(.int p1), (.int p2)] below meth c T246 _ 1 1 := X246
              obtain ⟨rfl, Nq247, e248⟩ := hQ246
              have N246 := Fr.app N233 Nq247
              obtain ⟨cq249, kq249, q249a, q249b, q249c⟩ := isOf hZ e248 f238
              obtain ⟨_, _, ⟨T250, L250, c250, n250⟩, -, X250, ⟨Lc250, hQ250, l250, y250, z250⟩, st250⟩ := X246.virtualBack hx (y := (⟨"com/example/vorgang/vorgang/QueryTimeoutScope", "isSession", "()Z"⟩ : MethodName)) (z := (⟨"com/example/vorgang/vorgang/QueryTimeoutScope", "isSession", "()Z"⟩ : MethodName)) hown (mvT hZ (hw _ (List.mem_of_getElem? (i := 19) rfl))) (mvT hZ (hw _ (List.mem_of_getElem? (i := 20) rfl))) (notFace_of_selects (args := #[]) (mvT hZ (hw _ (List.mem_of_getElem? (i := 22) rfl)))) (mvT hZ (hw _ (List.mem_of_getElem? (i := 22) rfl))) (mvT hZ (hw _ (List.mem_of_getElem? (i := 21) rfl))) (by decide) (backOf (W := 0) (rm7 l Z a0 hw w1 w2 w3 G [] b1 T233.heap n0 O233 g_b1 f239) hZ (hw _ (List.mem_of_getElem? (i := 23) rfl)) (hw _ (List.mem_of_getElem? (i := 2) rfl)) (by decide) (by decide)) q249a q249c (g := (mkF m 100 #[.val (.int p1), .val (.int p2), .val (.ref b1), .val (.int (0 : Int32)), .val (.int (3 : Int32)), .val (.int z12), .val (.int z14), .val (.int z16), .val (.int (1 : Int32)), .unset, .unset, .unset] [(.ref b1)])) rfl (by rw [hml]; rfl) (Steps.refl _) (argsL := []) (rest := []) (lenOf pd1 rfl) rfl (by show 2 * 0 + _ ≤ _; exact Nat.le_of_eq rfl) (hb hby at_100) (fun _ _ => ⟨rfl, e248, (by decide : 1 + 0 ≤ _), (by decide : 1 + 0 ≤ _)⟩)
              dsimp only [Pt.U, Pt.locs, Pt.cells, Pt.slots] at X250 l250 y250 z250 st250 hQ250
              subst l250 y250 z250
              have X250 : Stand p l e room_1 s m #[(.int p1), (.int p2)] below meth c T250 _ 1 1 := X250
              obtain ⟨rfl, Nq251, e252⟩ := hQ250
              have N250 := Fr.app N246 Nq251
              obtain ⟨cq253, kq253, q253a, q253b, q253c⟩ := isOf hZ e252 f238
              obtain ⟨_, _, ⟨T254, L254, c254, n254⟩, -, X254, ⟨Lc254, hQ254, l254, y254, z254⟩, st254⟩ := X250.virtualBack hx (y := (⟨"com/example/vorgang/vorgang/QueryTimeoutScope", "isStatement", "()Z"⟩ : MethodName)) (z := (⟨"com/example/vorgang/vorgang/QueryTimeoutScope", "isStatement", "()Z"⟩ : MethodName)) hown (mvT hZ (hw _ (List.mem_of_getElem? (i := 26) rfl))) (mvT hZ (hw _ (List.mem_of_getElem? (i := 27) rfl))) (notFace_of_selects (args := #[]) (mvT hZ (hw _ (List.mem_of_getElem? (i := 29) rfl)))) (mvT hZ (hw _ (List.mem_of_getElem? (i := 29) rfl))) (mvT hZ (hw _ (List.mem_of_getElem? (i := 28) rfl))) (by decide) (backOf (W := 0) (rm8 l Z a0 hw w1 w2 w3 G [] b1 T233.heap n0 O233 g_b1 f239) hZ (hw _ (List.mem_of_getElem? (i := 30) rfl)) (hw _ (List.mem_of_getElem? (i := 2) rfl)) (by decide) (by decide)) q253a q253c (g := (mkF m 106 #[.val (.int p1), .val (.int p2), .val (.ref b1), .val (.int (0 : Int32)), .val (.int (3 : Int32)), .val (.int z12), .val (.int z14), .val (.int z16), .val (.int (1 : Int32)), .val (.int (0 : Int32)), .unset, .unset] [(.ref b1)])) rfl (by rw [hml]; rfl) (Steps.refl _) (argsL := []) (rest := []) (lenOf pd1 rfl) rfl (by show 2 * 0 + _ ≤ _; exact Nat.le_of_eq rfl) (hb hby at_106) (fun _ _ => ⟨rfl, e252, (by decide : 1 + 0 ≤ _), (by decide : 1 + 0 ≤ _)⟩)
              dsimp only [Pt.U, Pt.locs, Pt.cells, Pt.slots] at X254 l254 y254 z254 st254 hQ254
              subst l254 y254 z254
              have X254 : Stand p l e room_1 s m #[(.int p1), (.int p2)] below meth c T254 _ 1 1 := X254
              obtain ⟨rfl, Nq255, e256⟩ := hQ254
              have N254 := Fr.app N250 Nq255
              obtain ⟨fs, hr, hrun, hended, hW, hsame⟩ := X254.leave (v := some (.int (1 : Int32))) (fun h => by rw [hret] at h; cases h)
              refine ⟨_, _, pre234 _ ?_, hrun, hended, _, _, rfl, ?_, ⟨_, rfl⟩, hW, hsame.mono (by decide) (by decide)⟩
              ·
                show Steps p.tables e below (T202.setTop (mkF m 90 #[.val (.int p1), .val (.int p2), .val (.ref b1), .val (.int (0 : Int32)), .val (.int (3 : Int32)), .val (.int z12), .val (.int z14), .val (.int z16), .unset, .unset, .unset, .unset] [(.int z16), (.ref b1)])) _
                refine st233.trans ?_
                show Steps p.tables e below (T233.setTop (mkF m 93 #[.val (.int p1), .val (.int p2), .val (.ref b1), .val (.int (0 : Int32)), .val (.int (3 : Int32)), .val (.int z12), .val (.int z14), .val (.int z16), .unset, .unset, .unset, .unset] [])) _
                refine XS.aloadN X233.here hx rfl (hb hby at_93) rfl rfl ?_
                show Steps p.tables e below (T233.setTop (mkF m 94 #[.val (.int p1), .val (.int p2), .val (.ref b1), .val (.int (0 : Int32)), .val (.int (3 : Int32)), .val (.int z12), .val (.int z14), .val (.int z16), .unset, .unset, .unset, .unset] [(.ref b1)])) _
                refine st246.trans ?_
                show Steps p.tables e below (T246.setTop (mkF m 97 #[.val (.int p1), .val (.int p2), .val (.ref b1), .val (.int (0 : Int32)), .val (.int (3 : Int32)), .val (.int z12), .val (.int z14), .val (.int z16), .unset, .unset, .unset, .unset] [(.int (1 : Int32))])) _
                refine XS.istore X246.here hx rfl (hb hby at_97) rfl (l' := #[.val (.int p1), .val (.int p2), .val (.ref b1), .val (.int (0 : Int32)), .val (.int (3 : Int32)), .val (.int z12), .val (.int z14), .val (.int z16), .val (.int (1 : Int32)), .unset, .unset, .unset]) rfl ?_
                show Steps p.tables e below (T246.setTop (mkF m 99 #[.val (.int p1), .val (.int p2), .val (.ref b1), .val (.int (0 : Int32)), .val (.int (3 : Int32)), .val (.int z12), .val (.int z14), .val (.int z16), .val (.int (1 : Int32)), .unset, .unset, .unset] [])) _
                refine XS.aloadN X246.here hx rfl (hb hby at_99) rfl rfl ?_
                show Steps p.tables e below (T246.setTop (mkF m 100 #[.val (.int p1), .val (.int p2), .val (.ref b1), .val (.int (0 : Int32)), .val (.int (3 : Int32)), .val (.int z12), .val (.int z14), .val (.int z16), .val (.int (1 : Int32)), .unset, .unset, .unset] [(.ref b1)])) _
                refine st250.trans ?_
                show Steps p.tables e below (T250.setTop (mkF m 103 #[.val (.int p1), .val (.int p2), .val (.ref b1), .val (.int (0 : Int32)), .val (.int (3 : Int32)), .val (.int z12), .val (.int z14), .val (.int z16), .val (.int (1 : Int32)), .unset, .unset, .unset] [(.int (0 : Int32))])) _
                refine XS.istore X250.here hx rfl (hb hby at_103) rfl (l' := #[.val (.int p1), .val (.int p2), .val (.ref b1), .val (.int (0 : Int32)), .val (.int (3 : Int32)), .val (.int z12), .val (.int z14), .val (.int z16), .val (.int (1 : Int32)), .val (.int (0 : Int32)), .unset, .unset]) rfl ?_
                show Steps p.tables e below (T250.setTop (mkF m 105 #[.val (.int p1), .val (.int p2), .val (.ref b1), .val (.int (0 : Int32)), .val (.int (3 : Int32)), .val (.int z12), .val (.int z14), .val (.int z16), .val (.int (1 : Int32)), .val (.int (0 : Int32)), .unset, .unset] [])) _
                refine XS.aloadN X250.here hx rfl (hb hby at_105) rfl rfl ?_
                show Steps p.tables e below (T250.setTop (mkF m 106 #[.val (.int p1), .val (.int p2), .val (.ref b1), .val (.int (0 : Int32)), .val (.int (3 : Int32)), .val (.int z12), .val (.int z14), .val (.int z16), .val (.int (1 : Int32)), .val (.int (0 : Int32)), .unset, .unset] [(.ref b1)])) _
                refine st254.trans ?_
                show Steps p.tables e below (T254.setTop (mkF m 109 #[.val (.int p1), .val (.int p2), .val (.ref b1), .val (.int (0 : Int32)), .val (.int (3 : Int32)), .val (.int z12), .val (.int z14), .val (.int z16), .val (.int (1 : Int32)), .val (.int (0 : Int32)), .unset, .unset] [(.int (1 : Int32))])) _
                refine XS.istore X254.here hx rfl (hb hby at_109) rfl (l' := #[.val (.int p1), .val (.int p2), .val (.ref b1), .val (.int (0 : Int32)), .val (.int (3 : Int32)), .val (.int z12), .val (.int z14), .val (.int z16), .val (.int (1 : Int32)), .val (.int (0 : Int32)), .val (.int (1 : Int32)), .unset]) rfl ?_
                show Steps p.tables e below (T254.setTop (mkF m 111 #[.val (.int p1), .val (.int p2), .val (.ref b1), .val (.int (0 : Int32)), .val (.int (3 : Int32)), .val (.int z12), .val (.int z14), .val (.int z16), .val (.int (1 : Int32)), .val (.int (0 : Int32)), .val (.int (1 : Int32)), .unset] [])) _
                refine XS.iload X254.here hx rfl (hb hby at_111) rfl ?_
                show Steps p.tables e below (T254.setTop (mkF m 113 #[.val (.int p1), .val (.int p2), .val (.ref b1), .val (.int (0 : Int32)), .val (.int (3 : Int32)), .val (.int z12), .val (.int z14), .val (.int z16), .val (.int (1 : Int32)), .val (.int (0 : Int32)), .val (.int (1 : Int32)), .unset] [(.int (3 : Int32))])) _
                refine XS.iconst X254.here hx rfl (hb hby at_113) ?_
                show Steps p.tables e below (T254.setTop (mkF m 114 #[.val (.int p1), .val (.int p2), .val (.ref b1), .val (.int (0 : Int32)), .val (.int (3 : Int32)), .val (.int z12), .val (.int z14), .val (.int z16), .val (.int (1 : Int32)), .val (.int (0 : Int32)), .val (.int (1 : Int32)), .unset] [(.int (1 : Int32)), (.int (3 : Int32))])) _
                refine XS.icmpNo X254.here hx rfl (hb hby at_114) rfl (flt (by decide : ¬ ((3 : Int32) < (1 : Int32)))).1 ?_
                show Steps p.tables e below (T254.setTop (mkF m 117 #[.val (.int p1), .val (.int p2), .val (.ref b1), .val (.int (0 : Int32)), .val (.int (3 : Int32)), .val (.int z12), .val (.int z14), .val (.int z16), .val (.int (1 : Int32)), .val (.int (0 : Int32)), .val (.int (1 : Int32)), .unset] [])) _
                refine XS.iconst X254.here hx rfl (hb hby at_117) ?_
                show Steps p.tables e below (T254.setTop (mkF m 118 #[.val (.int p1), .val (.int p2), .val (.ref b1), .val (.int (0 : Int32)), .val (.int (3 : Int32)), .val (.int z12), .val (.int z14), .val (.int z16), .val (.int (1 : Int32)), .val (.int (0 : Int32)), .val (.int (1 : Int32)), .unset] [(.int (1 : Int32))])) _
                refine XS.goto X254.here hx rfl (pc0 := 118) (pc' := 122) rfl (hb hby at_118) (by decide) (by decide) ?_
                show Steps p.tables e below (T254.setTop (mkF m 122 #[.val (.int p1), .val (.int p2), .val (.ref b1), .val (.int (0 : Int32)), .val (.int (3 : Int32)), .val (.int z12), .val (.int z14), .val (.int z16), .val (.int (1 : Int32)), .val (.int (0 : Int32)), .val (.int (1 : Int32)), .unset] [(.int (1 : Int32))])) _
                refine XS.istore X254.here hx rfl (hb hby at_122) rfl (l' := #[.val (.int p1), .val (.int p2), .val (.ref b1), .val (.int (0 : Int32)), .val (.int (3 : Int32)), .val (.int z12), .val (.int z14), .val (.int z16), .val (.int (1 : Int32)), .val (.int (0 : Int32)), .val (.int (1 : Int32)), .val (.int (1 : Int32))]) rfl ?_
                show Steps p.tables e below (T254.setTop (mkF m 124 #[.val (.int p1), .val (.int p2), .val (.ref b1), .val (.int (0 : Int32)), .val (.int (3 : Int32)), .val (.int z12), .val (.int z14), .val (.int z16), .val (.int (1 : Int32)), .val (.int (0 : Int32)), .val (.int (1 : Int32)), .val (.int (1 : Int32))] [])) _
                refine XS.iloadN X254.here hx rfl (hb hby at_124) rfl ?_
                show Steps p.tables e below (T254.setTop (mkF m 125 #[.val (.int p1), .val (.int p2), .val (.ref b1), .val (.int (0 : Int32)), .val (.int (3 : Int32)), .val (.int z12), .val (.int z14), .val (.int z16), .val (.int (1 : Int32)), .val (.int (0 : Int32)), .val (.int (1 : Int32)), .val (.int (1 : Int32))] [(.int (0 : Int32))])) _
                refine XS.ifNo X254.here hx rfl (hb hby at_125) rfl ((if0 _ _).trans (teq (by decide : (0 : Int32) = (0 : Int32))).2) ?_
                show Steps p.tables e below (T254.setTop (mkF m 128 #[.val (.int p1), .val (.int p2), .val (.ref b1), .val (.int (0 : Int32)), .val (.int (3 : Int32)), .val (.int z12), .val (.int z14), .val (.int z16), .val (.int (1 : Int32)), .val (.int (0 : Int32)), .val (.int (1 : Int32)), .val (.int (1 : Int32))] [])) _
                refine XS.iload X254.here hx rfl (hb hby at_128) rfl ?_
                show Steps p.tables e below (T254.setTop (mkF m 130 #[.val (.int p1), .val (.int p2), .val (.ref b1), .val (.int (0 : Int32)), .val (.int (3 : Int32)), .val (.int z12), .val (.int z14), .val (.int z16), .val (.int (1 : Int32)), .val (.int (0 : Int32)), .val (.int (1 : Int32)), .val (.int (1 : Int32))] [(.int (1 : Int32))])) _
                refine XS.iload X254.here hx rfl (hb hby at_130) rfl ?_
                show Steps p.tables e below (T254.setTop (mkF m 132 #[.val (.int p1), .val (.int p2), .val (.ref b1), .val (.int (0 : Int32)), .val (.int (3 : Int32)), .val (.int z12), .val (.int z14), .val (.int z16), .val (.int (1 : Int32)), .val (.int (0 : Int32)), .val (.int (1 : Int32)), .val (.int (1 : Int32))] [(.int (1 : Int32)), (.int (1 : Int32))])) _
                refine XS.icmpNo X254.here hx rfl (hb hby at_132) rfl (teq (by decide : (1 : Int32) = (1 : Int32))).2 ?_
                show Steps p.tables e below (T254.setTop (mkF m 135 #[.val (.int p1), .val (.int p2), .val (.ref b1), .val (.int (0 : Int32)), .val (.int (3 : Int32)), .val (.int z12), .val (.int z14), .val (.int z16), .val (.int (1 : Int32)), .val (.int (0 : Int32)), .val (.int (1 : Int32)), .val (.int (1 : Int32))] [])) _
                refine XS.iload X254.here hx rfl (hb hby at_135) rfl ?_
                show Steps p.tables e below (T254.setTop (mkF m 137 #[.val (.int p1), .val (.int p2), .val (.ref b1), .val (.int (0 : Int32)), .val (.int (3 : Int32)), .val (.int z12), .val (.int z14), .val (.int z16), .val (.int (1 : Int32)), .val (.int (0 : Int32)), .val (.int (1 : Int32)), .val (.int (1 : Int32))] [(.int (1 : Int32))])) _
                refine XS.iload X254.here hx rfl (hb hby at_137) rfl ?_
                show Steps p.tables e below (T254.setTop (mkF m 139 #[.val (.int p1), .val (.int p2), .val (.ref b1), .val (.int (0 : Int32)), .val (.int (3 : Int32)), .val (.int z12), .val (.int z14), .val (.int z16), .val (.int (1 : Int32)), .val (.int (0 : Int32)), .val (.int (1 : Int32)), .val (.int (1 : Int32))] [(.int (0 : Int32)), (.int (1 : Int32))])) _
                refine XS.ifNo X254.here hx rfl (hb hby at_139) rfl ((if0 _ _).trans (teq (by decide : (0 : Int32) = (0 : Int32))).2) ?_
                show Steps p.tables e below (T254.setTop (mkF m 142 #[.val (.int p1), .val (.int p2), .val (.ref b1), .val (.int (0 : Int32)), .val (.int (3 : Int32)), .val (.int z12), .val (.int z14), .val (.int z16), .val (.int (1 : Int32)), .val (.int (0 : Int32)), .val (.int (1 : Int32)), .val (.int (1 : Int32))] [(.int (1 : Int32))])) _
                refine XS.iload X254.here hx rfl (hb hby at_142) rfl ?_
                show Steps p.tables e below (T254.setTop (mkF m 144 #[.val (.int p1), .val (.int p2), .val (.ref b1), .val (.int (0 : Int32)), .val (.int (3 : Int32)), .val (.int z12), .val (.int z14), .val (.int z16), .val (.int (1 : Int32)), .val (.int (0 : Int32)), .val (.int (1 : Int32)), .val (.int (1 : Int32))] [(.int (1 : Int32)), (.int (1 : Int32))])) _
                refine XS.ifNo X254.here hx rfl (hb hby at_144) rfl ((if0 _ _).trans (feq (by decide : ¬ ((1 : Int32) = (0 : Int32)))).1) ?_
                show Steps p.tables e below (T254.setTop (mkF m 147 #[.val (.int p1), .val (.int p2), .val (.ref b1), .val (.int (0 : Int32)), .val (.int (3 : Int32)), .val (.int z12), .val (.int z14), .val (.int z16), .val (.int (1 : Int32)), .val (.int (0 : Int32)), .val (.int (1 : Int32)), .val (.int (1 : Int32))] [(.int (1 : Int32))])) _
                refine XS.iconst X254.here hx rfl (hb hby at_147) ?_
                show Steps p.tables e below (T254.setTop (mkF m 148 #[.val (.int p1), .val (.int p2), .val (.ref b1), .val (.int (0 : Int32)), .val (.int (3 : Int32)), .val (.int z12), .val (.int z14), .val (.int z16), .val (.int (1 : Int32)), .val (.int (0 : Int32)), .val (.int (1 : Int32)), .val (.int (1 : Int32))] [(.int (1 : Int32)), (.int (1 : Int32))])) _
                refine XS.goto X254.here hx rfl (pc0 := 148) (pc' := 152) rfl (hb hby at_148) (by decide) (by decide) ?_
                show Steps p.tables e below (T254.setTop (mkF m 152 #[.val (.int p1), .val (.int p2), .val (.ref b1), .val (.int (0 : Int32)), .val (.int (3 : Int32)), .val (.int z12), .val (.int z14), .val (.int z16), .val (.int (1 : Int32)), .val (.int (0 : Int32)), .val (.int (1 : Int32)), .val (.int (1 : Int32))] [(.int (1 : Int32)), (.int (1 : Int32))])) _
                refine XS.icmpNo X254.here hx rfl (hb hby at_152) rfl (teq (by decide : (1 : Int32) = (1 : Int32))).2 ?_
                show Steps p.tables e below (T254.setTop (mkF m 155 #[.val (.int p1), .val (.int p2), .val (.ref b1), .val (.int (0 : Int32)), .val (.int (3 : Int32)), .val (.int z12), .val (.int z14), .val (.int z16), .val (.int (1 : Int32)), .val (.int (0 : Int32)), .val (.int (1 : Int32)), .val (.int (1 : Int32))] [])) _
                refine XS.iconst X254.here hx rfl (hb hby at_155) ?_
                show Steps p.tables e below (T254.setTop (mkF m 156 #[.val (.int p1), .val (.int p2), .val (.ref b1), .val (.int (0 : Int32)), .val (.int (3 : Int32)), .val (.int z12), .val (.int z14), .val (.int z16), .val (.int (1 : Int32)), .val (.int (0 : Int32)), .val (.int (1 : Int32)), .val (.int (1 : Int32))] [(.int (1 : Int32))])) _
                refine XS.goto X254.here hx rfl (pc0 := 156) (pc' := 160) rfl (hb hby at_156) (by decide) (by decide) ?_
                show Steps p.tables e below (T254.setTop (mkF m 160 #[.val (.int p1), .val (.int p2), .val (.ref b1), .val (.int (0 : Int32)), .val (.int (3 : Int32)), .val (.int z12), .val (.int z14), .val (.int z16), .val (.int (1 : Int32)), .val (.int (0 : Int32)), .val (.int (1 : Int32)), .val (.int (1 : Int32))] [(.int (1 : Int32))])) _
                exact retN X254 hx (t := .boolean) hret (by simp) (hb hby at_160) hr
              ·
                show Q0 n0 _ T254.heap _
                rw [e256]
                exact ⟨rfl, N254⟩
            ·
              have N233 := Fr.app N202 Nq241
              have M233 : h0.size ≤ T233.heap.size := Nat.le_trans M202 K242.1
              have O233 := Old.keep O202 K242 (allS g_b1 all0)
              obtain ⟨cq257, kq257, q257a, q257b, q257c⟩ := isOf hZ rfl f243
              obtain ⟨_, _, ⟨T258, L258, c258, n258⟩, -, X258, ⟨Lc258, hQ258, l258, y258, z258⟩, st258⟩ := X233.virtualBack hx (y := (⟨"com/example/vorgang/vorgang/QueryTimeoutScope", "isKnown", "()Z"⟩ : MethodName)) (z := (⟨"com/example/vorgang/vorgang/QueryTimeoutScope", "isKnown", "()Z"⟩ : MethodName)) hown (mvT hZ (hw _ (List.mem_of_getElem? (i := 14) rfl))) (mvT hZ (hw _ (List.mem_of_getElem? (i := 15) rfl))) (notFace_of_selects (args := #[]) (mvT hZ (hw _ (List.mem_of_getElem? (i := 17) rfl)))) (mvT hZ (hw _ (List.mem_of_getElem? (i := 17) rfl))) (mvT hZ (hw _ (List.mem_of_getElem? (i := 16) rfl))) (by decide) (backOf (W := 0) (rm10 l Z a0 hw w1 w2 w3 G [] b1 T233.heap n0 O233 g_b1 f244) hZ (hw _ (List.mem_of_getElem? (i := 18) rfl)) (hw _ (List.mem_of_getElem? (i := 2) rfl)) (by decide) (by decide)) q257a q257c (g := (mkF m 94 #[.val (.int p1), .val (.int p2), .val (.ref b1), .val (.int (0 : Int32)), .val (.int (3 : Int32)), .val (.int z12), .val (.int z14), .val (.int z16), .unset, .unset, .unset, .unset] [(.ref b1)])) rfl (by rw [hml]; rfl) (Steps.refl _) (argsL := []) (rest := []) (lenOf pd1 rfl) rfl (by show 2 * 0 + _ ≤ _; exact Nat.le_of_eq rfl) (hb hby at_94) (fun _ _ => ⟨rfl, rfl, (by decide : 1 + 0 ≤ _), (by decide : 1 + 0 ≤ _)⟩)
              dsimp only [Pt.U, Pt.locs, Pt.cells, Pt.slots] at X258 l258 y258 z258 st258 hQ258
              subst l258 y258 z258
              have X258 : Stand p l e room_1 s m #[(.int p1), (.int p2)] below meth c T258 _ 1 1 := X258
              obtain ⟨rfl, Nq259, e260⟩ := hQ258
              have N258 := Fr.app N233 Nq259
              obtain ⟨cq261, kq261, q261a, q261b, q261c⟩ := isOf hZ e260 f243
              obtain ⟨_, _, ⟨T262, L262, c262, n262⟩, -, X262, ⟨Lc262, hQ262, l262, y262, z262⟩, st262⟩ := X258.virtualBack hx (y := (⟨"com/example/vorgang/vorgang/QueryTimeoutScope", "isSession", "()Z"⟩ : MethodName)) (z := (⟨"com/example/vorgang/vorgang/QueryTimeoutScope", "isSession", "()Z"⟩ : MethodName)) hown (mvT hZ (hw _ (List.mem_of_getElem? (i := 19) rfl))) (mvT hZ (hw _ (List.mem_of_getElem? (i := 20) rfl))) (notFace_of_selects (args := #[]) (mvT hZ (hw _ (List.mem_of_getElem? (i := 22) rfl)))) (mvT hZ (hw _ (List.mem_of_getElem? (i := 22) rfl))) (mvT hZ (hw _ (List.mem_of_getElem? (i := 21) rfl))) (by decide) (backOf (W := 0) (rm11 l Z a0 hw w1 w2 w3 G [] b1 T233.heap n0 O233 g_b1 f244) hZ (hw _ (List.mem_of_getElem? (i := 23) rfl)) (hw _ (List.mem_of_getElem? (i := 2) rfl)) (by decide) (by decide)) q261a q261c (g := (mkF m 100 #[.val (.int p1), .val (.int p2), .val (.ref b1), .val (.int (0 : Int32)), .val (.int (3 : Int32)), .val (.int z12), .val (.int z14), .val (.int z16), .val (.int (1 : Int32)), .unset, .unset, .unset] [(.ref b1)])) rfl (by rw [hml]; rfl) (Steps.refl _) (argsL := []) (rest := []) (lenOf pd1 rfl) rfl (by show 2 * 0 + _ ≤ _; exact Nat.le_of_eq rfl) (hb hby at_100) (fun _ _ => ⟨rfl, e260, (by decide : 1 + 0 ≤ _), (by decide : 1 + 0 ≤ _)⟩)
              dsimp only [Pt.U, Pt.locs, Pt.cells, Pt.slots] at X262 l262 y262 z262 st262 hQ262
              subst l262 y262 z262
              have X262 : Stand p l e room_1 s m #[(.int p1), (.int p2)] below meth c T262 _ 1 1 := X262
              obtain ⟨rfl, Nq263, e264⟩ := hQ262
              have N262 := Fr.app N258 Nq263
              obtain ⟨cq265, kq265, q265a, q265b, q265c⟩ := isOf hZ e264 f243
              obtain ⟨_, _, ⟨T266, L266, c266, n266⟩, -, X266, ⟨Lc266, hQ266, l266, y266, z266⟩, st266⟩ := X262.virtualBack hx (y := (⟨"com/example/vorgang/vorgang/QueryTimeoutScope", "isStatement", "()Z"⟩ : MethodName)) (z := (⟨"com/example/vorgang/vorgang/QueryTimeoutScope", "isStatement", "()Z"⟩ : MethodName)) hown (mvT hZ (hw _ (List.mem_of_getElem? (i := 26) rfl))) (mvT hZ (hw _ (List.mem_of_getElem? (i := 27) rfl))) (notFace_of_selects (args := #[]) (mvT hZ (hw _ (List.mem_of_getElem? (i := 29) rfl)))) (mvT hZ (hw _ (List.mem_of_getElem? (i := 29) rfl))) (mvT hZ (hw _ (List.mem_of_getElem? (i := 28) rfl))) (by decide) (backOf (W := 0) (rm12 l Z a0 hw w1 w2 w3 G [] b1 T233.heap n0 O233 g_b1 f244) hZ (hw _ (List.mem_of_getElem? (i := 30) rfl)) (hw _ (List.mem_of_getElem? (i := 2) rfl)) (by decide) (by decide)) q265a q265c (g := (mkF m 106 #[.val (.int p1), .val (.int p2), .val (.ref b1), .val (.int (0 : Int32)), .val (.int (3 : Int32)), .val (.int z12), .val (.int z14), .val (.int z16), .val (.int (1 : Int32)), .val (.int (1 : Int32)), .unset, .unset] [(.ref b1)])) rfl (by rw [hml]; rfl) (Steps.refl _) (argsL := []) (rest := []) (lenOf pd1 rfl) rfl (by show 2 * 0 + _ ≤ _; exact Nat.le_of_eq rfl) (hb hby at_106) (fun _ _ => ⟨rfl, e264, (by decide : 1 + 0 ≤ _), (by decide : 1 + 0 ≤ _)⟩)
              dsimp only [Pt.U, Pt.locs, Pt.cells, Pt.slots] at X266 l266 y266 z266 st266 hQ266
              subst l266 y266 z266
              have X266 : Stand p l e room_1 s m #[(.int p1), (.int p2)] below meth c T266 _ 1 1 := X266
              obtain ⟨rfl, Nq267, e268⟩ := hQ266
              have N266 := Fr.app N262 Nq267
              obtain ⟨fs, hr, hrun, hended, hW, hsame⟩ := X266.leave (v := some (.int (1 : Int32))) (fun h => by rw [hret] at h; cases h)
              refine ⟨_, _, pre234 _ ?_, hrun, hended, _, _, rfl, ?_, ⟨_, rfl⟩, hW, hsame.mono (by decide) (by decide)⟩
              ·
                show Steps p.tables e below (T202.setTop (mkF m 90 #[.val (.int p1), .val (.int p2), .val (.ref b1), .val (.int (0 : Int32)), .val (.int (3 : Int32)), .val (.int z12), .val (.int z14), .val (.int z16), .unset, .unset, .unset, .unset] [(.int z16), (.ref b1)])) _
                refine st233.trans ?_
                show Steps p.tables e below (T233.setTop (mkF m 93 #[.val (.int p1), .val (.int p2), .val (.ref b1), .val (.int (0 : Int32)), .val (.int (3 : Int32)), .val (.int z12), .val (.int z14), .val (.int z16), .unset, .unset, .unset, .unset] [])) _
                refine XS.aloadN X233.here hx rfl (hb hby at_93) rfl rfl ?_
                show Steps p.tables e below (T233.setTop (mkF m 94 #[.val (.int p1), .val (.int p2), .val (.ref b1), .val (.int (0 : Int32)), .val (.int (3 : Int32)), .val (.int z12), .val (.int z14), .val (.int z16), .unset, .unset, .unset, .unset] [(.ref b1)])) _
                refine st258.trans ?_
                show Steps p.tables e below (T258.setTop (mkF m 97 #[.val (.int p1), .val (.int p2), .val (.ref b1), .val (.int (0 : Int32)), .val (.int (3 : Int32)), .val (.int z12), .val (.int z14), .val (.int z16), .unset, .unset, .unset, .unset] [(.int (1 : Int32))])) _
                refine XS.istore X258.here hx rfl (hb hby at_97) rfl (l' := #[.val (.int p1), .val (.int p2), .val (.ref b1), .val (.int (0 : Int32)), .val (.int (3 : Int32)), .val (.int z12), .val (.int z14), .val (.int z16), .val (.int (1 : Int32)), .unset, .unset, .unset]) rfl ?_
                show Steps p.tables e below (T258.setTop (mkF m 99 #[.val (.int p1), .val (.int p2), .val (.ref b1), .val (.int (0 : Int32)), .val (.int (3 : Int32)), .val (.int z12), .val (.int z14), .val (.int z16), .val (.int (1 : Int32)), .unset, .unset, .unset] [])) _
                refine XS.aloadN X258.here hx rfl (hb hby at_99) rfl rfl ?_
                show Steps p.tables e below (T258.setTop (mkF m 100 #[.val (.int p1), .val (.int p2), .val (.ref b1), .val (.int (0 : Int32)), .val (.int (3 : Int32)), .val (.int z12), .val (.int z14), .val (.int z16), .val (.int (1 : Int32)), .unset, .unset, .unset] [(.ref b1)])) _
                refine st262.trans ?_
                show Steps p.tables e below (T262.setTop (mkF m 103 #[.val (.int p1), .val (.int p2), .val (.ref b1), .val (.int (0 : Int32)), .val (.int (3 : Int32)), .val (.int z12), .val (.int z14), .val (.int z16), .val (.int (1 : Int32)), .unset, .unset, .unset] [(.int (1 : Int32))])) _
                refine XS.istore X262.here hx rfl (hb hby at_103) rfl (l' := #[.val (.int p1), .val (.int p2), .val (.ref b1), .val (.int (0 : Int32)), .val (.int (3 : Int32)), .val (.int z12), .val (.int z14), .val (.int z16), .val (.int (1 : Int32)), .val (.int (1 : Int32)), .unset, .unset]) rfl ?_
                show Steps p.tables e below (T262.setTop (mkF m 105 #[.val (.int p1), .val (.int p2), .val (.ref b1), .val (.int (0 : Int32)), .val (.int (3 : Int32)), .val (.int z12), .val (.int z14), .val (.int z16), .val (.int (1 : Int32)), .val (.int (1 : Int32)), .unset, .unset] [])) _
                refine XS.aloadN X262.here hx rfl (hb hby at_105) rfl rfl ?_
                show Steps p.tables e below (T262.setTop (mkF m 106 #[.val (.int p1), .val (.int p2), .val (.ref b1), .val (.int (0 : Int32)), .val (.int (3 : Int32)), .val (.int z12), .val (.int z14), .val (.int z16), .val (.int (1 : Int32)), .val (.int (1 : Int32)), .unset, .unset] [(.ref b1)])) _
                refine st266.trans ?_
                show Steps p.tables e below (T266.setTop (mkF m 109 #[.val (.int p1), .val (.int p2), .val (.ref b1), .val (.int (0 : Int32)), .val (.int (3 : Int32)), .val (.int z12), .val (.int z14), .val (.int z16), .val (.int (1 : Int32)), .val (.int (1 : Int32)), .unset, .unset] [(.int (0 : Int32))])) _
                refine XS.istore X266.here hx rfl (hb hby at_109) rfl (l' := #[.val (.int p1), .val (.int p2), .val (.ref b1), .val (.int (0 : Int32)), .val (.int (3 : Int32)), .val (.int z12), .val (.int z14), .val (.int z16), .val (.int (1 : Int32)), .val (.int (1 : Int32)), .val (.int (0 : Int32)), .unset]) rfl ?_
                show Steps p.tables e below (T266.setTop (mkF m 111 #[.val (.int p1), .val (.int p2), .val (.ref b1), .val (.int (0 : Int32)), .val (.int (3 : Int32)), .val (.int z12), .val (.int z14), .val (.int z16), .val (.int (1 : Int32)), .val (.int (1 : Int32)), .val (.int (0 : Int32)), .unset] [])) _
                refine XS.iload X266.here hx rfl (hb hby at_111) rfl ?_
                show Steps p.tables e below (T266.setTop (mkF m 113 #[.val (.int p1), .val (.int p2), .val (.ref b1), .val (.int (0 : Int32)), .val (.int (3 : Int32)), .val (.int z12), .val (.int z14), .val (.int z16), .val (.int (1 : Int32)), .val (.int (1 : Int32)), .val (.int (0 : Int32)), .unset] [(.int (3 : Int32))])) _
                refine XS.iconst X266.here hx rfl (hb hby at_113) ?_
                show Steps p.tables e below (T266.setTop (mkF m 114 #[.val (.int p1), .val (.int p2), .val (.ref b1), .val (.int (0 : Int32)), .val (.int (3 : Int32)), .val (.int z12), .val (.int z14), .val (.int z16), .val (.int (1 : Int32)), .val (.int (1 : Int32)), .val (.int (0 : Int32)), .unset] [(.int (1 : Int32)), (.int (3 : Int32))])) _
                refine XS.icmpNo X266.here hx rfl (hb hby at_114) rfl (flt (by decide : ¬ ((3 : Int32) < (1 : Int32)))).1 ?_
                show Steps p.tables e below (T266.setTop (mkF m 117 #[.val (.int p1), .val (.int p2), .val (.ref b1), .val (.int (0 : Int32)), .val (.int (3 : Int32)), .val (.int z12), .val (.int z14), .val (.int z16), .val (.int (1 : Int32)), .val (.int (1 : Int32)), .val (.int (0 : Int32)), .unset] [])) _
                refine XS.iconst X266.here hx rfl (hb hby at_117) ?_
                show Steps p.tables e below (T266.setTop (mkF m 118 #[.val (.int p1), .val (.int p2), .val (.ref b1), .val (.int (0 : Int32)), .val (.int (3 : Int32)), .val (.int z12), .val (.int z14), .val (.int z16), .val (.int (1 : Int32)), .val (.int (1 : Int32)), .val (.int (0 : Int32)), .unset] [(.int (1 : Int32))])) _
                refine XS.goto X266.here hx rfl (pc0 := 118) (pc' := 122) rfl (hb hby at_118) (by decide) (by decide) ?_
                show Steps p.tables e below (T266.setTop (mkF m 122 #[.val (.int p1), .val (.int p2), .val (.ref b1), .val (.int (0 : Int32)), .val (.int (3 : Int32)), .val (.int z12), .val (.int z14), .val (.int z16), .val (.int (1 : Int32)), .val (.int (1 : Int32)), .val (.int (0 : Int32)), .unset] [(.int (1 : Int32))])) _
                refine XS.istore X266.here hx rfl (hb hby at_122) rfl (l' := #[.val (.int p1), .val (.int p2), .val (.ref b1), .val (.int (0 : Int32)), .val (.int (3 : Int32)), .val (.int z12), .val (.int z14), .val (.int z16), .val (.int (1 : Int32)), .val (.int (1 : Int32)), .val (.int (0 : Int32)), .val (.int (1 : Int32))]) rfl ?_
                show Steps p.tables e below (T266.setTop (mkF m 124 #[.val (.int p1), .val (.int p2), .val (.ref b1), .val (.int (0 : Int32)), .val (.int (3 : Int32)), .val (.int z12), .val (.int z14), .val (.int z16), .val (.int (1 : Int32)), .val (.int (1 : Int32)), .val (.int (0 : Int32)), .val (.int (1 : Int32))] [])) _
                refine XS.iloadN X266.here hx rfl (hb hby at_124) rfl ?_
                show Steps p.tables e below (T266.setTop (mkF m 125 #[.val (.int p1), .val (.int p2), .val (.ref b1), .val (.int (0 : Int32)), .val (.int (3 : Int32)), .val (.int z12), .val (.int z14), .val (.int z16), .val (.int (1 : Int32)), .val (.int (1 : Int32)), .val (.int (0 : Int32)), .val (.int (1 : Int32))] [(.int (0 : Int32))])) _
                refine XS.ifNo X266.here hx rfl (hb hby at_125) rfl ((if0 _ _).trans (teq (by decide : (0 : Int32) = (0 : Int32))).2) ?_
                show Steps p.tables e below (T266.setTop (mkF m 128 #[.val (.int p1), .val (.int p2), .val (.ref b1), .val (.int (0 : Int32)), .val (.int (3 : Int32)), .val (.int z12), .val (.int z14), .val (.int z16), .val (.int (1 : Int32)), .val (.int (1 : Int32)), .val (.int (0 : Int32)), .val (.int (1 : Int32))] [])) _
                refine XS.iload X266.here hx rfl (hb hby at_128) rfl ?_
                show Steps p.tables e below (T266.setTop (mkF m 130 #[.val (.int p1), .val (.int p2), .val (.ref b1), .val (.int (0 : Int32)), .val (.int (3 : Int32)), .val (.int z12), .val (.int z14), .val (.int z16), .val (.int (1 : Int32)), .val (.int (1 : Int32)), .val (.int (0 : Int32)), .val (.int (1 : Int32))] [(.int (1 : Int32))])) _
                refine XS.iload X266.here hx rfl (hb hby at_130) rfl ?_
                show Steps p.tables e below (T266.setTop (mkF m 132 #[.val (.int p1), .val (.int p2), .val (.ref b1), .val (.int (0 : Int32)), .val (.int (3 : Int32)), .val (.int z12), .val (.int z14), .val (.int z16), .val (.int (1 : Int32)), .val (.int (1 : Int32)), .val (.int (0 : Int32)), .val (.int (1 : Int32))] [(.int (1 : Int32)), (.int (1 : Int32))])) _
                refine XS.icmpNo X266.here hx rfl (hb hby at_132) rfl (teq (by decide : (1 : Int32) = (1 : Int32))).2 ?_
                show Steps p.tables e below (T266.setTop (mkF m 135 #[.val (.int p1), .val (.int p2), .val (.ref b1), .val (.int (0 : Int32)), .val (.int (3 : Int32)), .val (.int z12), .val (.int z14), .val (.int z16), .val (.int (1 : Int32)), .val (.int (1 : Int32)), .val (.int (0 : Int32)), .val (.int (1 : Int32))] [])) _
                refine XS.iload X266.here hx rfl (hb hby at_135) rfl ?_
                show Steps p.tables e below (T266.setTop (mkF m 137 #[.val (.int p1), .val (.int p2), .val (.ref b1), .val (.int (0 : Int32)), .val (.int (3 : Int32)), .val (.int z12), .val (.int z14), .val (.int z16), .val (.int (1 : Int32)), .val (.int (1 : Int32)), .val (.int (0 : Int32)), .val (.int (1 : Int32))] [(.int (1 : Int32))])) _
                refine XS.iload X266.here hx rfl (hb hby at_137) rfl ?_
                show Steps p.tables e below (T266.setTop (mkF m 139 #[.val (.int p1), .val (.int p2), .val (.ref b1), .val (.int (0 : Int32)), .val (.int (3 : Int32)), .val (.int z12), .val (.int z14), .val (.int z16), .val (.int (1 : Int32)), .val (.int (1 : Int32)), .val (.int (0 : Int32)), .val (.int (1 : Int32))] [(.int (1 : Int32)), (.int (1 : Int32))])) _
                refine XS.ifYes X266.here hx rfl (pc0 := 139) (pc' := 147) rfl (hb hby at_139) rfl ((if0 _ _).trans (feq (by decide : ¬ ((1 : Int32) = (0 : Int32)))).2) (by decide) (by decide) ?_
                show Steps p.tables e below (T266.setTop (mkF m 147 #[.val (.int p1), .val (.int p2), .val (.ref b1), .val (.int (0 : Int32)), .val (.int (3 : Int32)), .val (.int z12), .val (.int z14), .val (.int z16), .val (.int (1 : Int32)), .val (.int (1 : Int32)), .val (.int (0 : Int32)), .val (.int (1 : Int32))] [(.int (1 : Int32))])) _
                refine XS.iconst X266.here hx rfl (hb hby at_147) ?_
                show Steps p.tables e below (T266.setTop (mkF m 148 #[.val (.int p1), .val (.int p2), .val (.ref b1), .val (.int (0 : Int32)), .val (.int (3 : Int32)), .val (.int z12), .val (.int z14), .val (.int z16), .val (.int (1 : Int32)), .val (.int (1 : Int32)), .val (.int (0 : Int32)), .val (.int (1 : Int32))] [(.int (1 : Int32)), (.int (1 : Int32))])) _
                refine XS.goto X266.here hx rfl (pc0 := 148) (pc' := 152) rfl (hb hby at_148) (by decide) (by decide) ?_
                show Steps p.tables e below (T266.setTop (mkF m 152 #[.val (.int p1), .val (.int p2), .val (.ref b1), .val (.int (0 : Int32)), .val (.int (3 : Int32)), .val (.int z12), .val (.int z14), .val (.int z16), .val (.int (1 : Int32)), .val (.int (1 : Int32)), .val (.int (0 : Int32)), .val (.int (1 : Int32))] [(.int (1 : Int32)), (.int (1 : Int32))])) _
                refine XS.icmpNo X266.here hx rfl (hb hby at_152) rfl (teq (by decide : (1 : Int32) = (1 : Int32))).2 ?_
                show Steps p.tables e below (T266.setTop (mkF m 155 #[.val (.int p1), .val (.int p2), .val (.ref b1), .val (.int (0 : Int32)), .val (.int (3 : Int32)), .val (.int z12), .val (.int z14), .val (.int z16), .val (.int (1 : Int32)), .val (.int (1 : Int32)), .val (.int (0 : Int32)), .val (.int (1 : Int32))] [])) _
                refine XS.iconst X266.here hx rfl (hb hby at_155) ?_
                show Steps p.tables e below (T266.setTop (mkF m 156 #[.val (.int p1), .val (.int p2), .val (.ref b1), .val (.int (0 : Int32)), .val (.int (3 : Int32)), .val (.int z12), .val (.int z14), .val (.int z16), .val (.int (1 : Int32)), .val (.int (1 : Int32)), .val (.int (0 : Int32)), .val (.int (1 : Int32))] [(.int (1 : Int32))])) _
                refine XS.goto X266.here hx rfl (pc0 := 156) (pc' := 160) rfl (hb hby at_156) (by decide) (by decide) ?_
                show Steps p.tables e below (T266.setTop (mkF m 160 #[.val (.int p1), .val (.int p2), .val (.ref b1), .val (.int (0 : Int32)), .val (.int (3 : Int32)), .val (.int z12), .val (.int z14), .val (.int z16), .val (.int (1 : Int32)), .val (.int (1 : Int32)), .val (.int (0 : Int32)), .val (.int (1 : Int32))] [(.int (1 : Int32))])) _
                exact retN X266 hx (t := .boolean) hret (by simp) (hb hby at_160) hr
              ·
                show Q0 n0 _ T266.heap _
                rw [e268]
                exact ⟨rfl, N266⟩
        ·
          have N202 := Fr.app N34 Nq210
          have M202 : h0.size ≤ T202.heap.size := Nat.le_trans M34 K211.1
          have O202 := Old.keep O34 K211 (allS g_b1 all0)
          have pre269 : ∀ t, Steps p.tables e below (T202.setTop (mkF m 84 #[.val (.int p1), .val (.int p2), .val (.ref b1), .val (.int (0 : Int32)), .val (.int (p1 &&& (3 : Int32))), .val (.int z12), .val (.int z14), .val (.int z16), .unset, .unset, .unset, .unset] [(.int (3 : Int32)), (.int (p1 &&& (3 : Int32)))])) t → Steps p.tables e below (s₁.setTop (entryFrame m #[(.int p1), (.int p2)] maxLocals)) t := fun t k => by
            refine pre203 _ ?_
            show Steps p.tables e below (T34.setTop (mkF m 78 #[.val (.int p1), .val (.int p2), .val (.ref b1), .val (.int (0 : Int32)), .val (.int (p1 &&& (3 : Int32))), .val (.int z12), .val (.int z14), .val (.int z16), .unset, .unset, .unset, .unset] [(.int z14), (.ref b1)])) _
            refine st202.trans ?_
            show Steps p.tables e below (T202.setTop (mkF m 81 #[.val (.int p1), .val (.int p2), .val (.ref b1), .val (.int (0 : Int32)), .val (.int (p1 &&& (3 : Int32))), .val (.int z12), .val (.int z14), .val (.int z16), .unset, .unset, .unset, .unset] [])) _
            refine XS.iload X202.here hx rfl (hb hby at_81) rfl ?_
            show Steps p.tables e below (T202.setTop (mkF m 83 #[.val (.int p1), .val (.int p2), .val (.ref b1), .val (.int (0 : Int32)), .val (.int (p1 &&& (3 : Int32))), .val (.int z12), .val (.int z14), .val (.int z16), .unset, .unset, .unset, .unset] [(.int (p1 &&& (3 : Int32)))])) _
            refine XS.iconst X202.here hx rfl (hb hby at_83) ?_
            exact k
          by_cases hc270 : (p1 &&& (3 : Int32)) < (3 : Int32)
          ·
            have hq271 : (p1 &&& (3 : Int32)) = (2 : Int32) := (own_geq (n := 2) (k := (2 : Int32)) (by decide) (by have q0 := own_and (x := p1) (k := (3 : Int32)) (n := 3) (by decide) (by decide); have q1 := own_nlt1 (n := 1) (k := (1 : Int32)) (by decide) hc18; have q2 := own_nlt1 (n := 2) (k := (2 : Int32)) (by decide) hc186; have q3 := own_lt1 (n := 3) (k := (3 : Int32)) (by decide) hc270; omega))
            have pre272 : ∀ t, Steps p.tables e below (T202.setTop (mkF m 84 #[.val (.int p1), .val (.int p2), .val (.ref b1), .val (.int (0 : Int32)), .val (.int (2 : Int32)), .val (.int z12), .val (.int z14), .val (.int z16), .unset, .unset, .unset, .unset] [(.int (3 : Int32)), (.int (2 : Int32))])) t → Steps p.tables e below (s₁.setTop (entryFrame m #[(.int p1), (.int p2)] maxLocals)) t := fun t k => pre269 t (by rw [hq271]; exact k)
            obtain ⟨cq273, kq273, q273a, q273b, q273c⟩ := isOf hZ rfl f212
            obtain ⟨_, _, ⟨T274, L274, c274, n274⟩, -, X274, ⟨Lc274, hQ274, l274, y274, z274⟩, st274⟩ := X202.virtualBack hx (y := (⟨"com/example/vorgang/vorgang/QueryTimeoutScope", "isKnown", "()Z"⟩ : MethodName)) (z := (⟨"com/example/vorgang/vorgang/QueryTimeoutScope", "isKnown", "()Z"⟩ : MethodName)) hown (mvT hZ (hw _ (List.mem_of_getElem? (i := 14) rfl))) (mvT hZ (hw _ (List.mem_of_getElem? (i := 15) rfl))) (notFace_of_selects (args := #[]) (mvT hZ (hw _ (List.mem_of_getElem? (i := 17) rfl)))) (mvT hZ (hw _ (List.mem_of_getElem? (i := 17) rfl))) (mvT hZ (hw _ (List.mem_of_getElem? (i := 16) rfl))) (by decide) (backOf (W := 0) (rm10 l Z a0 hw w1 w2 w3 G [] b1 T202.heap n0 O202 g_b1 f213) hZ (hw _ (List.mem_of_getElem? (i := 18) rfl)) (hw _ (List.mem_of_getElem? (i := 2) rfl)) (by decide) (by decide)) q273a q273c (g := (mkF m 94 #[.val (.int p1), .val (.int p2), .val (.ref b1), .val (.int (0 : Int32)), .val (.int (2 : Int32)), .val (.int z12), .val (.int z14), .val (.int z16), .unset, .unset, .unset, .unset] [(.ref b1)])) rfl (by rw [hml]; rfl) (Steps.refl _) (argsL := []) (rest := []) (lenOf pd1 rfl) rfl (by show 2 * 0 + _ ≤ _; exact Nat.le_of_eq rfl) (hb hby at_94) (fun _ _ => ⟨rfl, rfl, (by decide : 1 + 0 ≤ _), (by decide : 1 + 0 ≤ _)⟩)
            dsimp only [Pt.U, Pt.locs, Pt.cells, Pt.slots] at X274 l274 y274 z274 st274 hQ274
            subst l274 y274 z274
            have X274 : Stand p l e room_1 s m #[(.int p1), (.int p2)] below meth c T274 _ 1 1 := X274
            obtain ⟨rfl, Nq275, e276⟩ := hQ274
            have N274 := Fr.app N202 Nq275
            obtain ⟨cq277, kq277, q277a, q277b, q277c⟩ := isOf hZ e276 f212
            obtain ⟨_, _, ⟨T278, L278, c278, n278⟩, -, X278, ⟨Lc278, hQ278, l278, y278, z278⟩, st278⟩ := X274.virtualBack hx (y := (⟨"com/example/vorgang/vorgang/QueryTimeoutScope", "isSession", "()Z"⟩ : MethodName)) (z := (⟨"com/example/vorgang/vorgang/QueryTimeoutScope", "isSession", "()Z"⟩ : MethodName)) hown (mvT hZ (hw _ (List.mem_of_getElem? (i := 19) rfl))) (mvT hZ (hw _ (List.mem_of_getElem? (i := 20) rfl))) (notFace_of_selects (args := #[]) (mvT hZ (hw _ (List.mem_of_getElem? (i := 22) rfl)))) (mvT hZ (hw _ (List.mem_of_getElem? (i := 22) rfl))) (mvT hZ (hw _ (List.mem_of_getElem? (i := 21) rfl))) (by decide) (backOf (W := 0) (rm11 l Z a0 hw w1 w2 w3 G [] b1 T202.heap n0 O202 g_b1 f213) hZ (hw _ (List.mem_of_getElem? (i := 23) rfl)) (hw _ (List.mem_of_getElem? (i := 2) rfl)) (by decide) (by decide)) q277a q277c (g := (mkF m 100 #[.val (.int p1), .val (.int p2), .val (.ref b1), .val (.int (0 : Int32)), .val (.int (2 : Int32)), .val (.int z12), .val (.int z14), .val (.int z16), .val (.int (1 : Int32)), .unset, .unset, .unset] [(.ref b1)])) rfl (by rw [hml]; rfl) (Steps.refl _) (argsL := []) (rest := []) (lenOf pd1 rfl) rfl (by show 2 * 0 + _ ≤ _; exact Nat.le_of_eq rfl) (hb hby at_100) (fun _ _ => ⟨rfl, e276, (by decide : 1 + 0 ≤ _), (by decide : 1 + 0 ≤ _)⟩)
            dsimp only [Pt.U, Pt.locs, Pt.cells, Pt.slots] at X278 l278 y278 z278 st278 hQ278
            subst l278 y278 z278
            have X278 : Stand p l e room_1 s m #[(.int p1), (.int p2)] below meth c T278 _ 1 1 := X278
            obtain ⟨rfl, Nq279, e280⟩ := hQ278
            have N278 := Fr.app N274 Nq279
            obtain ⟨cq281, kq281, q281a, q281b, q281c⟩ := isOf hZ e280 f212
            obtain ⟨_, _, ⟨T282, L282, c282, n282⟩, -, X282, ⟨Lc282, hQ282, l282, y282, z282⟩, st282⟩ := X278.virtualBack hx (y := (⟨"com/example/vorgang/vorgang/QueryTimeoutScope", "isStatement", "()Z"⟩ : MethodName)) (z := (⟨"com/example/vorgang/vorgang/QueryTimeoutScope", "isStatement", "()Z"⟩ : MethodName)) hown (mvT hZ (hw _ (List.mem_of_getElem? (i := 26) rfl))) (mvT hZ (hw _ (List.mem_of_getElem? (i := 27) rfl))) (notFace_of_selects (args := #[]) (mvT hZ (hw _ (List.mem_of_getElem? (i := 29) rfl)))) (mvT hZ (hw _ (List.mem_of_getElem? (i := 29) rfl))) (mvT hZ (hw _ (List.mem_of_getElem? (i := 28) rfl))) (by decide) (backOf (W := 0) (rm12 l Z a0 hw w1 w2 w3 G [] b1 T202.heap n0 O202 g_b1 f213) hZ (hw _ (List.mem_of_getElem? (i := 30) rfl)) (hw _ (List.mem_of_getElem? (i := 2) rfl)) (by decide) (by decide)) q281a q281c (g := (mkF m 106 #[.val (.int p1), .val (.int p2), .val (.ref b1), .val (.int (0 : Int32)), .val (.int (2 : Int32)), .val (.int z12), .val (.int z14), .val (.int z16), .val (.int (1 : Int32)), .val (.int (1 : Int32)), .unset, .unset] [(.ref b1)])) rfl (by rw [hml]; rfl) (Steps.refl _) (argsL := []) (rest := []) (lenOf pd1 rfl) rfl (by show 2 * 0 + _ ≤ _; exact Nat.le_of_eq rfl) (hb hby at_106) (fun _ _ => ⟨rfl, e280, (by decide : 1 + 0 ≤ _), (by decide : 1 + 0 ≤ _)⟩)
            dsimp only [Pt.U, Pt.locs, Pt.cells, Pt.slots] at X282 l282 y282 z282 st282 hQ282
            subst l282 y282 z282
            have X282 : Stand p l e room_1 s m #[(.int p1), (.int p2)] below meth c T282 _ 1 1 := X282
            obtain ⟨rfl, Nq283, e284⟩ := hQ282
            have N282 := Fr.app N278 Nq283
            obtain ⟨fs, hr, hrun, hended, hW, hsame⟩ := X282.leave (v := some (.int (1 : Int32))) (fun h => by rw [hret] at h; cases h)
            refine ⟨_, _, pre272 _ ?_, hrun, hended, _, _, rfl, ?_, ⟨_, rfl⟩, hW, hsame.mono (by decide) (by decide)⟩
            ·
              show Steps p.tables e below (T202.setTop (mkF m 84 #[.val (.int p1), .val (.int p2), .val (.ref b1), .val (.int (0 : Int32)), .val (.int (2 : Int32)), .val (.int z12), .val (.int z14), .val (.int z16), .unset, .unset, .unset, .unset] [(.int (3 : Int32)), (.int (2 : Int32))])) _
              refine XS.icmpYes X202.here hx rfl (pc0 := 84) (pc' := 93) rfl (hb hby at_84) rfl (tlt (by decide : (2 : Int32) < (3 : Int32))).1 (by decide) (by decide) ?_
              show Steps p.tables e below (T202.setTop (mkF m 93 #[.val (.int p1), .val (.int p2), .val (.ref b1), .val (.int (0 : Int32)), .val (.int (2 : Int32)), .val (.int z12), .val (.int z14), .val (.int z16), .unset, .unset, .unset, .unset] [])) _
              refine XS.aloadN X202.here hx rfl (hb hby at_93) rfl rfl ?_
              show Steps p.tables e below (T202.setTop (mkF m 94 #[.val (.int p1), .val (.int p2), .val (.ref b1), .val (.int (0 : Int32)), .val (.int (2 : Int32)), .val (.int z12), .val (.int z14), .val (.int z16), .unset, .unset, .unset, .unset] [(.ref b1)])) _
              refine st274.trans ?_
              show Steps p.tables e below (T274.setTop (mkF m 97 #[.val (.int p1), .val (.int p2), .val (.ref b1), .val (.int (0 : Int32)), .val (.int (2 : Int32)), .val (.int z12), .val (.int z14), .val (.int z16), .unset, .unset, .unset, .unset] [(.int (1 : Int32))])) _
              refine XS.istore X274.here hx rfl (hb hby at_97) rfl (l' := #[.val (.int p1), .val (.int p2), .val (.ref b1), .val (.int (0 : Int32)), .val (.int (2 : Int32)), .val (.int z12), .val (.int z14), .val (.int z16), .val (.int (1 : Int32)), .unset, .unset, .unset]) rfl ?_
              show Steps p.tables e below (T274.setTop (mkF m 99 #[.val (.int p1), .val (.int p2), .val (.ref b1), .val (.int (0 : Int32)), .val (.int (2 : Int32)), .val (.int z12), .val (.int z14), .val (.int z16), .val (.int (1 : Int32)), .unset, .unset, .unset] [])) _
              refine XS.aloadN X274.here hx rfl (hb hby at_99) rfl rfl ?_
              show Steps p.tables e below (T274.setTop (mkF m 100 #[.val (.int p1), .val (.int p2), .val (.ref b1), .val (.int (0 : Int32)), .val (.int (2 : Int32)), .val (.int z12), .val (.int z14), .val (.int z16), .val (.int (1 : Int32)), .unset, .unset, .unset] [(.ref b1)])) _
              refine st278.trans ?_
              show Steps p.tables e below (T278.setTop (mkF m 103 #[.val (.int p1), .val (.int p2), .val (.ref b1), .val (.int (0 : Int32)), .val (.int (2 : Int32)), .val (.int z12), .val (.int z14), .val (.int z16), .val (.int (1 : Int32)), .unset, .unset, .unset] [(.int (1 : Int32))])) _
              refine XS.istore X278.here hx rfl (hb hby at_103) rfl (l' := #[.val (.int p1), .val (.int p2), .val (.ref b1), .val (.int (0 : Int32)), .val (.int (2 : Int32)), .val (.int z12), .val (.int z14), .val (.int z16), .val (.int (1 : Int32)), .val (.int (1 : Int32)), .unset, .unset]) rfl ?_
              show Steps p.tables e below (T278.setTop (mkF m 105 #[.val (.int p1), .val (.int p2), .val (.ref b1), .val (.int (0 : Int32)), .val (.int (2 : Int32)), .val (.int z12), .val (.int z14), .val (.int z16), .val (.int (1 : Int32)), .val (.int (1 : Int32)), .unset, .unset] [])) _
              refine XS.aloadN X278.here hx rfl (hb hby at_105) rfl rfl ?_
              show Steps p.tables e below (T278.setTop (mkF m 106 #[.val (.int p1), .val (.int p2), .val (.ref b1), .val (.int (0 : Int32)), .val (.int (2 : Int32)), .val (.int z12), .val (.int z14), .val (.int z16), .val (.int (1 : Int32)), .val (.int (1 : Int32)), .unset, .unset] [(.ref b1)])) _
              refine st282.trans ?_
              show Steps p.tables e below (T282.setTop (mkF m 109 #[.val (.int p1), .val (.int p2), .val (.ref b1), .val (.int (0 : Int32)), .val (.int (2 : Int32)), .val (.int z12), .val (.int z14), .val (.int z16), .val (.int (1 : Int32)), .val (.int (1 : Int32)), .unset, .unset] [(.int (0 : Int32))])) _
              refine XS.istore X282.here hx rfl (hb hby at_109) rfl (l' := #[.val (.int p1), .val (.int p2), .val (.ref b1), .val (.int (0 : Int32)), .val (.int (2 : Int32)), .val (.int z12), .val (.int z14), .val (.int z16), .val (.int (1 : Int32)), .val (.int (1 : Int32)), .val (.int (0 : Int32)), .unset]) rfl ?_
              show Steps p.tables e below (T282.setTop (mkF m 111 #[.val (.int p1), .val (.int p2), .val (.ref b1), .val (.int (0 : Int32)), .val (.int (2 : Int32)), .val (.int z12), .val (.int z14), .val (.int z16), .val (.int (1 : Int32)), .val (.int (1 : Int32)), .val (.int (0 : Int32)), .unset] [])) _
              refine XS.iload X282.here hx rfl (hb hby at_111) rfl ?_
              show Steps p.tables e below (T282.setTop (mkF m 113 #[.val (.int p1), .val (.int p2), .val (.ref b1), .val (.int (0 : Int32)), .val (.int (2 : Int32)), .val (.int z12), .val (.int z14), .val (.int z16), .val (.int (1 : Int32)), .val (.int (1 : Int32)), .val (.int (0 : Int32)), .unset] [(.int (2 : Int32))])) _
              refine XS.iconst X282.here hx rfl (hb hby at_113) ?_
              show Steps p.tables e below (T282.setTop (mkF m 114 #[.val (.int p1), .val (.int p2), .val (.ref b1), .val (.int (0 : Int32)), .val (.int (2 : Int32)), .val (.int z12), .val (.int z14), .val (.int z16), .val (.int (1 : Int32)), .val (.int (1 : Int32)), .val (.int (0 : Int32)), .unset] [(.int (1 : Int32)), (.int (2 : Int32))])) _
              refine XS.icmpNo X282.here hx rfl (hb hby at_114) rfl (flt (by decide : ¬ ((2 : Int32) < (1 : Int32)))).1 ?_
              show Steps p.tables e below (T282.setTop (mkF m 117 #[.val (.int p1), .val (.int p2), .val (.ref b1), .val (.int (0 : Int32)), .val (.int (2 : Int32)), .val (.int z12), .val (.int z14), .val (.int z16), .val (.int (1 : Int32)), .val (.int (1 : Int32)), .val (.int (0 : Int32)), .unset] [])) _
              refine XS.iconst X282.here hx rfl (hb hby at_117) ?_
              show Steps p.tables e below (T282.setTop (mkF m 118 #[.val (.int p1), .val (.int p2), .val (.ref b1), .val (.int (0 : Int32)), .val (.int (2 : Int32)), .val (.int z12), .val (.int z14), .val (.int z16), .val (.int (1 : Int32)), .val (.int (1 : Int32)), .val (.int (0 : Int32)), .unset] [(.int (1 : Int32))])) _
              refine XS.goto X282.here hx rfl (pc0 := 118) (pc' := 122) rfl (hb hby at_118) (by decide) (by decide) ?_
              show Steps p.tables e below (T282.setTop (mkF m 122 #[.val (.int p1), .val (.int p2), .val (.ref b1), .val (.int (0 : Int32)), .val (.int (2 : Int32)), .val (.int z12), .val (.int z14), .val (.int z16), .val (.int (1 : Int32)), .val (.int (1 : Int32)), .val (.int (0 : Int32)), .unset] [(.int (1 : Int32))])) _
              refine XS.istore X282.here hx rfl (hb hby at_122) rfl (l' := #[.val (.int p1), .val (.int p2), .val (.ref b1), .val (.int (0 : Int32)), .val (.int (2 : Int32)), .val (.int z12), .val (.int z14), .val (.int z16), .val (.int (1 : Int32)), .val (.int (1 : Int32)), .val (.int (0 : Int32)), .val (.int (1 : Int32))]) rfl ?_
              show Steps p.tables e below (T282.setTop (mkF m 124 #[.val (.int p1), .val (.int p2), .val (.ref b1), .val (.int (0 : Int32)), .val (.int (2 : Int32)), .val (.int z12), .val (.int z14), .val (.int z16), .val (.int (1 : Int32)), .val (.int (1 : Int32)), .val (.int (0 : Int32)), .val (.int (1 : Int32))] [])) _
              refine XS.iloadN X282.here hx rfl (hb hby at_124) rfl ?_
              show Steps p.tables e below (T282.setTop (mkF m 125 #[.val (.int p1), .val (.int p2), .val (.ref b1), .val (.int (0 : Int32)), .val (.int (2 : Int32)), .val (.int z12), .val (.int z14), .val (.int z16), .val (.int (1 : Int32)), .val (.int (1 : Int32)), .val (.int (0 : Int32)), .val (.int (1 : Int32))] [(.int (0 : Int32))])) _
              refine XS.ifNo X282.here hx rfl (hb hby at_125) rfl ((if0 _ _).trans (teq (by decide : (0 : Int32) = (0 : Int32))).2) ?_
              show Steps p.tables e below (T282.setTop (mkF m 128 #[.val (.int p1), .val (.int p2), .val (.ref b1), .val (.int (0 : Int32)), .val (.int (2 : Int32)), .val (.int z12), .val (.int z14), .val (.int z16), .val (.int (1 : Int32)), .val (.int (1 : Int32)), .val (.int (0 : Int32)), .val (.int (1 : Int32))] [])) _
              refine XS.iload X282.here hx rfl (hb hby at_128) rfl ?_
              show Steps p.tables e below (T282.setTop (mkF m 130 #[.val (.int p1), .val (.int p2), .val (.ref b1), .val (.int (0 : Int32)), .val (.int (2 : Int32)), .val (.int z12), .val (.int z14), .val (.int z16), .val (.int (1 : Int32)), .val (.int (1 : Int32)), .val (.int (0 : Int32)), .val (.int (1 : Int32))] [(.int (1 : Int32))])) _
              refine XS.iload X282.here hx rfl (hb hby at_130) rfl ?_
              show Steps p.tables e below (T282.setTop (mkF m 132 #[.val (.int p1), .val (.int p2), .val (.ref b1), .val (.int (0 : Int32)), .val (.int (2 : Int32)), .val (.int z12), .val (.int z14), .val (.int z16), .val (.int (1 : Int32)), .val (.int (1 : Int32)), .val (.int (0 : Int32)), .val (.int (1 : Int32))] [(.int (1 : Int32)), (.int (1 : Int32))])) _
              refine XS.icmpNo X282.here hx rfl (hb hby at_132) rfl (teq (by decide : (1 : Int32) = (1 : Int32))).2 ?_
              show Steps p.tables e below (T282.setTop (mkF m 135 #[.val (.int p1), .val (.int p2), .val (.ref b1), .val (.int (0 : Int32)), .val (.int (2 : Int32)), .val (.int z12), .val (.int z14), .val (.int z16), .val (.int (1 : Int32)), .val (.int (1 : Int32)), .val (.int (0 : Int32)), .val (.int (1 : Int32))] [])) _
              refine XS.iload X282.here hx rfl (hb hby at_135) rfl ?_
              show Steps p.tables e below (T282.setTop (mkF m 137 #[.val (.int p1), .val (.int p2), .val (.ref b1), .val (.int (0 : Int32)), .val (.int (2 : Int32)), .val (.int z12), .val (.int z14), .val (.int z16), .val (.int (1 : Int32)), .val (.int (1 : Int32)), .val (.int (0 : Int32)), .val (.int (1 : Int32))] [(.int (1 : Int32))])) _
              refine XS.iload X282.here hx rfl (hb hby at_137) rfl ?_
              show Steps p.tables e below (T282.setTop (mkF m 139 #[.val (.int p1), .val (.int p2), .val (.ref b1), .val (.int (0 : Int32)), .val (.int (2 : Int32)), .val (.int z12), .val (.int z14), .val (.int z16), .val (.int (1 : Int32)), .val (.int (1 : Int32)), .val (.int (0 : Int32)), .val (.int (1 : Int32))] [(.int (1 : Int32)), (.int (1 : Int32))])) _
              refine XS.ifYes X282.here hx rfl (pc0 := 139) (pc' := 147) rfl (hb hby at_139) rfl ((if0 _ _).trans (feq (by decide : ¬ ((1 : Int32) = (0 : Int32)))).2) (by decide) (by decide) ?_
              show Steps p.tables e below (T282.setTop (mkF m 147 #[.val (.int p1), .val (.int p2), .val (.ref b1), .val (.int (0 : Int32)), .val (.int (2 : Int32)), .val (.int z12), .val (.int z14), .val (.int z16), .val (.int (1 : Int32)), .val (.int (1 : Int32)), .val (.int (0 : Int32)), .val (.int (1 : Int32))] [(.int (1 : Int32))])) _
              refine XS.iconst X282.here hx rfl (hb hby at_147) ?_
              show Steps p.tables e below (T282.setTop (mkF m 148 #[.val (.int p1), .val (.int p2), .val (.ref b1), .val (.int (0 : Int32)), .val (.int (2 : Int32)), .val (.int z12), .val (.int z14), .val (.int z16), .val (.int (1 : Int32)), .val (.int (1 : Int32)), .val (.int (0 : Int32)), .val (.int (1 : Int32))] [(.int (1 : Int32)), (.int (1 : Int32))])) _
              refine XS.goto X282.here hx rfl (pc0 := 148) (pc' := 152) rfl (hb hby at_148) (by decide) (by decide) ?_
              show Steps p.tables e below (T282.setTop (mkF m 152 #[.val (.int p1), .val (.int p2), .val (.ref b1), .val (.int (0 : Int32)), .val (.int (2 : Int32)), .val (.int z12), .val (.int z14), .val (.int z16), .val (.int (1 : Int32)), .val (.int (1 : Int32)), .val (.int (0 : Int32)), .val (.int (1 : Int32))] [(.int (1 : Int32)), (.int (1 : Int32))])) _
              refine XS.icmpNo X282.here hx rfl (hb hby at_152) rfl (teq (by decide : (1 : Int32) = (1 : Int32))).2 ?_
              show Steps p.tables e below (T282.setTop (mkF m 155 #[.val (.int p1), .val (.int p2), .val (.ref b1), .val (.int (0 : Int32)), .val (.int (2 : Int32)), .val (.int z12), .val (.int z14), .val (.int z16), .val (.int (1 : Int32)), .val (.int (1 : Int32)), .val (.int (0 : Int32)), .val (.int (1 : Int32))] [])) _
              refine XS.iconst X282.here hx rfl (hb hby at_155) ?_
              show Steps p.tables e below (T282.setTop (mkF m 156 #[.val (.int p1), .val (.int p2), .val (.ref b1), .val (.int (0 : Int32)), .val (.int (2 : Int32)), .val (.int z12), .val (.int z14), .val (.int z16), .val (.int (1 : Int32)), .val (.int (1 : Int32)), .val (.int (0 : Int32)), .val (.int (1 : Int32))] [(.int (1 : Int32))])) _
              refine XS.goto X282.here hx rfl (pc0 := 156) (pc' := 160) rfl (hb hby at_156) (by decide) (by decide) ?_
              show Steps p.tables e below (T282.setTop (mkF m 160 #[.val (.int p1), .val (.int p2), .val (.ref b1), .val (.int (0 : Int32)), .val (.int (2 : Int32)), .val (.int z12), .val (.int z14), .val (.int z16), .val (.int (1 : Int32)), .val (.int (1 : Int32)), .val (.int (0 : Int32)), .val (.int (1 : Int32))] [(.int (1 : Int32))])) _
              exact retN X282 hx (t := .boolean) hret (by simp) (hb hby at_160) hr
            ·
              show Q0 n0 _ T282.heap _
              rw [e284]
              exact ⟨rfl, N282⟩
          ·
            have hq285 : (p1 &&& (3 : Int32)) = (3 : Int32) := (own_geq (n := 3) (k := (3 : Int32)) (by decide) (by have q0 := own_and (x := p1) (k := (3 : Int32)) (n := 3) (by decide) (by decide); have q1 := own_nlt1 (n := 1) (k := (1 : Int32)) (by decide) hc18; have q2 := own_nlt1 (n := 2) (k := (2 : Int32)) (by decide) hc186; have q3 := own_nlt1 (n := 3) (k := (3 : Int32)) (by decide) hc270; omega))
            have pre286 : ∀ t, Steps p.tables e below (T202.setTop (mkF m 84 #[.val (.int p1), .val (.int p2), .val (.ref b1), .val (.int (0 : Int32)), .val (.int (3 : Int32)), .val (.int z12), .val (.int z14), .val (.int z16), .unset, .unset, .unset, .unset] [(.int (3 : Int32)), (.int (3 : Int32))])) t → Steps p.tables e below (s₁.setTop (entryFrame m #[(.int p1), (.int p2)] maxLocals)) t := fun t k => pre269 t (by rw [hq285]; exact k)
            obtain ⟨cq287, kq287, q287a, q287b, q287c⟩ := isOf hZ rfl f212
            obtain ⟨_, _, ⟨T288, L288, c288, n288⟩, -, X288, ⟨Lc288, hQ288, l288, y288, z288⟩, st288⟩ := X202.virtualBack hx (y := (⟨"com/example/vorgang/vorgang/QueryTimeoutScope", "found", "(Z)V"⟩ : MethodName)) (z := (⟨"com/example/vorgang/vorgang/QueryTimeoutScope", "found", "(Z)V"⟩ : MethodName)) hown (mvT hZ (hw _ (List.mem_of_getElem? (i := 33) rfl))) (mvT hZ (hw _ (List.mem_of_getElem? (i := 34) rfl))) (notFace_of_selects (args := #[]) (mvT hZ (hw _ (List.mem_of_getElem? (i := 36) rfl)))) (mvT hZ (hw _ (List.mem_of_getElem? (i := 36) rfl))) (mvT hZ (hw _ (List.mem_of_getElem? (i := 35) rfl))) (by decide) (backOf (W := 0) (rm13 l Z a0 hw w1 w2 w3 G [] b1 z16 T202.heap n0 O202 g_b1 f212 f213) hZ (hw _ (List.mem_of_getElem? (i := 37) rfl)) (hw _ (List.mem_of_getElem? (i := 2) rfl)) (by decide) (by decide)) q287a q287c (g := (mkF m 90 #[.val (.int p1), .val (.int p2), .val (.ref b1), .val (.int (0 : Int32)), .val (.int (3 : Int32)), .val (.int z12), .val (.int z14), .val (.int z16), .unset, .unset, .unset, .unset] [(.int z16), (.ref b1)])) rfl (by rw [hml]; rfl) (Steps.refl _) (argsL := [(.int z16)]) (rest := []) (lenOf pd2 rfl) rfl (by show 2 * 0 + _ ≤ _; exact Nat.le_of_eq rfl) (hb hby at_90) (fun _ _ => ⟨rfl, rfl, (by decide : 1 + 0 ≤ _), (by decide : 1 + 0 ≤ _)⟩)
            dsimp only [Pt.U, Pt.locs, Pt.cells, Pt.slots] at X288 l288 y288 z288 st288 hQ288
            subst l288 y288 z288
            have pre289 : ∀ t, Steps p.tables e below (T202.setTop (mkF m 90 #[.val (.int p1), .val (.int p2), .val (.ref b1), .val (.int (0 : Int32)), .val (.int (3 : Int32)), .val (.int z12), .val (.int z14), .val (.int z16), .unset, .unset, .unset, .unset] [(.int z16), (.ref b1)])) t → Steps p.tables e below (s₁.setTop (entryFrame m #[(.int p1), (.int p2)] maxLocals)) t := fun t k => by
              refine pre286 _ ?_
              show Steps p.tables e below (T202.setTop (mkF m 84 #[.val (.int p1), .val (.int p2), .val (.ref b1), .val (.int (0 : Int32)), .val (.int (3 : Int32)), .val (.int z12), .val (.int z14), .val (.int z16), .unset, .unset, .unset, .unset] [(.int (3 : Int32)), (.int (3 : Int32))])) _
              refine XS.icmpNo X202.here hx rfl (hb hby at_84) rfl (flt (by decide : ¬ ((3 : Int32) < (3 : Int32)))).1 ?_
              show Steps p.tables e below (T202.setTop (mkF m 87 #[.val (.int p1), .val (.int p2), .val (.ref b1), .val (.int (0 : Int32)), .val (.int (3 : Int32)), .val (.int z12), .val (.int z14), .val (.int z16), .unset, .unset, .unset, .unset] [])) _
              refine XS.aloadN X202.here hx rfl (hb hby at_87) rfl rfl ?_
              show Steps p.tables e below (T202.setTop (mkF m 88 #[.val (.int p1), .val (.int p2), .val (.ref b1), .val (.int (0 : Int32)), .val (.int (3 : Int32)), .val (.int z12), .val (.int z14), .val (.int z16), .unset, .unset, .unset, .unset] [(.ref b1)])) _
              refine XS.iload X202.here hx rfl (hb hby at_88) rfl ?_
              exact k
            have X288 : Stand p l e room_1 s m #[(.int p1), (.int p2)] below meth c T288 _ 1 1 := X288
            rcases hQ288 with ⟨hc290, rfl, Nq291, K292, f293, f294⟩ | ⟨hc295, rfl, Nq296, K297, f298, f299⟩
            ·
              have N288 := Fr.app N202 Nq291
              have M288 : h0.size ≤ T288.heap.size := Nat.le_trans M202 K292.1
              have O288 := Old.keep O202 K292 (allS g_b1 all0)
              obtain ⟨cq300, kq300, q300a, q300b, q300c⟩ := isOf hZ rfl f293
              obtain ⟨_, _, ⟨T301, L301, c301, n301⟩, -, X301, ⟨Lc301, hQ301, l301, y301, z301⟩, st301⟩ := X288.virtualBack hx (y := (⟨"com/example/vorgang/vorgang/QueryTimeoutScope", "isKnown", "()Z"⟩ : MethodName)) (z := (⟨"com/example/vorgang/vorgang/QueryTimeoutScope", "isKnown", "()Z"⟩ : MethodName)) hown (mvT hZ (hw _ (List.mem_of_getElem? (i := 14) rfl))) (mvT hZ (hw _ (List.mem_of_getElem? (i := 15) rfl))) (notFace_of_selects (args := #[]) (mvT hZ (hw _ (List.mem_of_getElem? (i := 17) rfl)))) (mvT hZ (hw _ (List.mem_of_getElem? (i := 17) rfl))) (mvT hZ (hw _ (List.mem_of_getElem? (i := 16) rfl))) (by decide) (backOf (W := 0) (rm6 l Z a0 hw w1 w2 w3 G [] b1 T288.heap n0 O288 g_b1 f294) hZ (hw _ (List.mem_of_getElem? (i := 18) rfl)) (hw _ (List.mem_of_getElem? (i := 2) rfl)) (by decide) (by decide)) q300a q300c (g := (mkF m 94 #[.val (.int p1), .val (.int p2), .val (.ref b1), .val (.int (0 : Int32)), .val (.int (3 : Int32)), .val (.int z12), .val (.int z14), .val (.int z16), .unset, .unset, .unset, .unset] [(.ref b1)])) rfl (by rw [hml]; rfl) (Steps.refl _) (argsL := []) (rest := []) (lenOf pd1 rfl) rfl (by show 2 * 0 + _ ≤ _; exact Nat.le_of_eq rfl) (hb hby at_94) (fun _ _ => ⟨rfl, rfl, (by decide : 1 + 0 ≤ _), (by decide : 1 + 0 ≤ _)⟩)
              dsimp only [Pt.U, Pt.locs, Pt.cells, Pt.slots] at X301 l301 y301 z301 st301 hQ301
              subst l301 y301 z301
              have X301 : Stand p l e room_1 s m #[(.int p1), (.int p2)] below meth c T301 _ 1 1 := X301
              obtain ⟨rfl, Nq302, e303⟩ := hQ301
              have N301 := Fr.app N288 Nq302
              obtain ⟨cq304, kq304, q304a, q304b, q304c⟩ := isOf hZ e303 f293
              obtain ⟨_, _, ⟨T305, L305, c305, n305⟩, -, X305, ⟨Lc305, hQ305, l305, y305, z305⟩, st305⟩ := X301.virtualBack hx (y := (⟨"com/example/vorgang/vorgang/QueryTimeoutScope", "isSession", "()Z"⟩ : MethodName)) (z := (⟨"com/example/vorgang/vorgang/QueryTimeoutScope", "isSession", "()Z"⟩ : MethodName)) hown (mvT hZ (hw _ (List.mem_of_getElem? (i := 19) rfl))) (mvT hZ (hw _ (List.mem_of_getElem? (i := 20) rfl))) (notFace_of_selects (args := #[]) (mvT hZ (hw _ (List.mem_of_getElem? (i := 22) rfl)))) (mvT hZ (hw _ (List.mem_of_getElem? (i := 22) rfl))) (mvT hZ (hw _ (List.mem_of_getElem? (i := 21) rfl))) (by decide) (backOf (W := 0) (rm7 l Z a0 hw w1 w2 w3 G [] b1 T288.heap n0 O288 g_b1 f294) hZ (hw _ (List.mem_of_getElem? (i := 23) rfl)) (hw _ (List.mem_of_getElem? (i := 2) rfl)) (by decide) (by decide)) q304a q304c (g := (mkF m 100 #[.val (.int p1), .val (.int p2), .val (.ref b1), .val (.int (0 : Int32)), .val (.int (3 : Int32)), .val (.int z12), .val (.int z14), .val (.int z16), .val (.int (1 : Int32)), .unset, .unset, .unset] [(.ref b1)])) rfl (by rw [hml]; rfl) (Steps.refl _) (argsL := []) (rest := []) (lenOf pd1 rfl) rfl (by show 2 * 0 + _ ≤ _; exact Nat.le_of_eq rfl) (hb hby at_100) (fun _ _ => ⟨rfl, e303, (by decide : 1 + 0 ≤ _), (by decide : 1 + 0 ≤ _)⟩)
              dsimp only [Pt.U, Pt.locs, Pt.cells, Pt.slots] at X305 l305 y305 z305 st305 hQ305
              subst l305 y305 z305
              have X305 : Stand p l e room_1 s m #[(.int p1), (.int p2)] below meth c T305 _ 1 1 := X305
              obtain ⟨rfl, Nq306, e307⟩ := hQ305
              have N305 := Fr.app N301 Nq306
              obtain ⟨cq308, kq308, q308a, q308b, q308c⟩ := isOf hZ e307 f293
              obtain ⟨_, _, ⟨T309, L309, c309, n309⟩, -, X309, ⟨Lc309, hQ309, l309, y309, z309⟩, st309⟩ := X305.virtualBack hx (y := (⟨"com/example/vorgang/vorgang/QueryTimeoutScope", "isStatement", "()Z"⟩ : MethodName)) (z := (⟨"com/example/vorgang/vorgang/QueryTimeoutScope", "isStatement", "()Z"⟩ : MethodName)) hown (mvT hZ (hw _ (List.mem_of_getElem? (i := 26) rfl))) (mvT hZ (hw _ (List.mem_of_getElem? (i := 27) rfl))) (notFace_of_selects (args := #[]) (mvT hZ (hw _ (List.mem_of_getElem? (i := 29) rfl)))) (mvT hZ (hw _ (List.mem_of_getElem? (i := 29) rfl))) (mvT hZ (hw _ (List.mem_of_getElem? (i := 28) rfl))) (by decide) (backOf (W := 0) (rm8 l Z a0 hw w1 w2 w3 G [] b1 T288.heap n0 O288 g_b1 f294) hZ (hw _ (List.mem_of_getElem? (i := 30) rfl)) (hw _ (List.mem_of_getElem? (i := 2) rfl)) (by decide) (by decide)) q308a q308c (g := (mkF m 106 #[.val (.int p1), .val (.int p2), .val (.ref b1), .val (.int (0 : Int32)), .val (.int (3 : Int32)), .val (.int z12), .val (.int z14), .val (.int z16), .val (.int (1 : Int32)), .val (.int (0 : Int32)), .unset, .unset] [(.ref b1)])) rfl (by rw [hml]; rfl) (Steps.refl _) (argsL := []) (rest := []) (lenOf pd1 rfl) rfl (by show 2 * 0 + _ ≤ _; exact Nat.le_of_eq rfl) (hb hby at_106) (fun _ _ => ⟨rfl, e307, (by decide : 1 + 0 ≤ _), (by decide : 1 + 0 ≤ _)⟩)
              dsimp only [Pt.U, Pt.locs, Pt.cells, Pt.slots] at X309 l309 y309 z309 st309 hQ309
              subst l309 y309 z309
              have X309 : Stand p l e room_1 s m #[(.int p1), (.int p2)] below meth c T309 _ 1 1 := X309
              obtain ⟨rfl, Nq310, e311⟩ := hQ309
              have N309 := Fr.app N305 Nq310
              obtain ⟨fs, hr, hrun, hended, hW, hsame⟩ := X309.leave (v := some (.int (1 : Int32))) (fun h => by rw [hret] at h; cases h)
              refine ⟨_, _, pre289 _ ?_, hrun, hended, _, _, rfl, ?_, ⟨_, rfl⟩, hW, hsame.mono (by decide) (by decide)⟩
              ·
                show Steps p.tables e below (T202.setTop (mkF m 90 #[.val (.int p1), .val (.int p2), .val (.ref b1), .val (.int (0 : Int32)), .val (.int (3 : Int32)), .val (.int z12), .val (.int z14), .val (.int z16), .unset, .unset, .unset, .unset] [(.int z16), (.ref b1)])) _
                refine st288.trans ?_
                show Steps p.tables e below (T288.setTop (mkF m 93 #[.val (.int p1), .val (.int p2), .val (.ref b1), .val (.int (0 : Int32)), .val (.int (3 : Int32)), .val (.int z12), .val (.int z14), .val (.int z16), .unset, .unset, .unset, .unset] [])) _
                refine XS.aloadN X288.here hx rfl (hb hby at_93) rfl rfl ?_
                show Steps p.tables e below (T288.setTop (mkF m 94 #[.val (.int p1), .val (.int p2), .val (.ref b1), .val (.int (0 : Int32)), .val (.int (3 : Int32)), .val (.int z12), .val (.int z14), .val (.int z16), .unset, .unset, .unset, .unset] [(.ref b1)])) _
                refine st301.trans ?_
                show Steps p.tables e below (T301.setTop (mkF m 97 #[.val (.int p1), .val (.int p2), .val (.ref b1), .val (.int (0 : Int32)), .val (.int (3 : Int32)), .val (.int z12), .val (.int z14), .val (.int z16), .unset, .unset, .unset, .unset] [(.int (1 : Int32))])) _
                refine XS.istore X301.here hx rfl (hb hby at_97) rfl (l' := #[.val (.int p1), .val (.int p2), .val (.ref b1), .val (.int (0 : Int32)), .val (.int (3 : Int32)), .val (.int z12), .val (.int z14), .val (.int z16), .val (.int (1 : Int32)), .unset, .unset, .unset]) rfl ?_
                show Steps p.tables e below (T301.setTop (mkF m 99 #[.val (.int p1), .val (.int p2), .val (.ref b1), .val (.int (0 : Int32)), .val (.int (3 : Int32)), .val (.int z12), .val (.int z14), .val (.int z16), .val (.int (1 : Int32)), .unset, .unset, .unset] [])) _
                refine XS.aloadN X301.here hx rfl (hb hby at_99) rfl rfl ?_
                show Steps p.tables e below (T301.setTop (mkF m 100 #[.val (.int p1), .val (.int p2), .val (.ref b1), .val (.int (0 : Int32)), .val (.int (3 : Int32)), .val (.int z12), .val (.int z14), .val (.int z16), .val (.int (1 : Int32)), .unset, .unset, .unset] [(.ref b1)])) _
                refine st305.trans ?_
                show Steps p.tables e below (T305.setTop (mkF m 103 #[.val (.int p1), .val (.int p2), .val (.ref b1), .val (.int (0 : Int32)), .val (.int (3 : Int32)), .val (.int z12), .val (.int z14), .val (.int z16), .val (.int (1 : Int32)), .unset, .unset, .unset] [(.int (0 : Int32))])) _
                refine XS.istore X305.here hx rfl (hb hby at_103) rfl (l' := #[.val (.int p1), .val (.int p2), .val (.ref b1), .val (.int (0 : Int32)), .val (.int (3 : Int32)), .val (.int z12), .val (.int z14), .val (.int z16), .val (.int (1 : Int32)), .val (.int (0 : Int32)), .unset, .unset]) rfl ?_
                show Steps p.tables e below (T305.setTop (mkF m 105 #[.val (.int p1), .val (.int p2), .val (.ref b1), .val (.int (0 : Int32)), .val (.int (3 : Int32)), .val (.int z12), .val (.int z14), .val (.int z16), .val (.int (1 : Int32)), .val (.int (0 : Int32)), .unset, .unset] [])) _
                refine XS.aloadN X305.here hx rfl (hb hby at_105) rfl rfl ?_
                show Steps p.tables e below (T305.setTop (mkF m 106 #[.val (.int p1), .val (.int p2), .val (.ref b1), .val (.int (0 : Int32)), .val (.int (3 : Int32)), .val (.int z12), .val (.int z14), .val (.int z16), .val (.int (1 : Int32)), .val (.int (0 : Int32)), .unset, .unset] [(.ref b1)])) _
                refine st309.trans ?_
                show Steps p.tables e below (T309.setTop (mkF m 109 #[.val (.int p1), .val (.int p2), .val (.ref b1), .val (.int (0 : Int32)), .val (.int (3 : Int32)), .val (.int z12), .val (.int z14), .val (.int z16), .val (.int (1 : Int32)), .val (.int (0 : Int32)), .unset, .unset] [(.int (1 : Int32))])) _
                refine XS.istore X309.here hx rfl (hb hby at_109) rfl (l' := #[.val (.int p1), .val (.int p2), .val (.ref b1), .val (.int (0 : Int32)), .val (.int (3 : Int32)), .val (.int z12), .val (.int z14), .val (.int z16), .val (.int (1 : Int32)), .val (.int (0 : Int32)), .val (.int (1 : Int32)), .unset]) rfl ?_
                show Steps p.tables e below (T309.setTop (mkF m 111 #[.val (.int p1), .val (.int p2), .val (.ref b1), .val (.int (0 : Int32)), .val (.int (3 : Int32)), .val (.int z12), .val (.int z14), .val (.int z16), .val (.int (1 : Int32)), .val (.int (0 : Int32)), .val (.int (1 : Int32)), .unset] [])) _
                refine XS.iload X309.here hx rfl (hb hby at_111) rfl ?_
                show Steps p.tables e below (T309.setTop (mkF m 113 #[.val (.int p1), .val (.int p2), .val (.ref b1), .val (.int (0 : Int32)), .val (.int (3 : Int32)), .val (.int z12), .val (.int z14), .val (.int z16), .val (.int (1 : Int32)), .val (.int (0 : Int32)), .val (.int (1 : Int32)), .unset] [(.int (3 : Int32))])) _
                refine XS.iconst X309.here hx rfl (hb hby at_113) ?_
                show Steps p.tables e below (T309.setTop (mkF m 114 #[.val (.int p1), .val (.int p2), .val (.ref b1), .val (.int (0 : Int32)), .val (.int (3 : Int32)), .val (.int z12), .val (.int z14), .val (.int z16), .val (.int (1 : Int32)), .val (.int (0 : Int32)), .val (.int (1 : Int32)), .unset] [(.int (1 : Int32)), (.int (3 : Int32))])) _
                refine XS.icmpNo X309.here hx rfl (hb hby at_114) rfl (flt (by decide : ¬ ((3 : Int32) < (1 : Int32)))).1 ?_
                show Steps p.tables e below (T309.setTop (mkF m 117 #[.val (.int p1), .val (.int p2), .val (.ref b1), .val (.int (0 : Int32)), .val (.int (3 : Int32)), .val (.int z12), .val (.int z14), .val (.int z16), .val (.int (1 : Int32)), .val (.int (0 : Int32)), .val (.int (1 : Int32)), .unset] [])) _
                refine XS.iconst X309.here hx rfl (hb hby at_117) ?_
                show Steps p.tables e below (T309.setTop (mkF m 118 #[.val (.int p1), .val (.int p2), .val (.ref b1), .val (.int (0 : Int32)), .val (.int (3 : Int32)), .val (.int z12), .val (.int z14), .val (.int z16), .val (.int (1 : Int32)), .val (.int (0 : Int32)), .val (.int (1 : Int32)), .unset] [(.int (1 : Int32))])) _
                refine XS.goto X309.here hx rfl (pc0 := 118) (pc' := 122) rfl (hb hby at_118) (by decide) (by decide) ?_
                show Steps p.tables e below (T309.setTop (mkF m 122 #[.val (.int p1), .val (.int p2), .val (.ref b1), .val (.int (0 : Int32)), .val (.int (3 : Int32)), .val (.int z12), .val (.int z14), .val (.int z16), .val (.int (1 : Int32)), .val (.int (0 : Int32)), .val (.int (1 : Int32)), .unset] [(.int (1 : Int32))])) _
                refine XS.istore X309.here hx rfl (hb hby at_122) rfl (l' := #[.val (.int p1), .val (.int p2), .val (.ref b1), .val (.int (0 : Int32)), .val (.int (3 : Int32)), .val (.int z12), .val (.int z14), .val (.int z16), .val (.int (1 : Int32)), .val (.int (0 : Int32)), .val (.int (1 : Int32)), .val (.int (1 : Int32))]) rfl ?_
                show Steps p.tables e below (T309.setTop (mkF m 124 #[.val (.int p1), .val (.int p2), .val (.ref b1), .val (.int (0 : Int32)), .val (.int (3 : Int32)), .val (.int z12), .val (.int z14), .val (.int z16), .val (.int (1 : Int32)), .val (.int (0 : Int32)), .val (.int (1 : Int32)), .val (.int (1 : Int32))] [])) _
                refine XS.iloadN X309.here hx rfl (hb hby at_124) rfl ?_
                show Steps p.tables e below (T309.setTop (mkF m 125 #[.val (.int p1), .val (.int p2), .val (.ref b1), .val (.int (0 : Int32)), .val (.int (3 : Int32)), .val (.int z12), .val (.int z14), .val (.int z16), .val (.int (1 : Int32)), .val (.int (0 : Int32)), .val (.int (1 : Int32)), .val (.int (1 : Int32))] [(.int (0 : Int32))])) _
                refine XS.ifNo X309.here hx rfl (hb hby at_125) rfl ((if0 _ _).trans (teq (by decide : (0 : Int32) = (0 : Int32))).2) ?_
                show Steps p.tables e below (T309.setTop (mkF m 128 #[.val (.int p1), .val (.int p2), .val (.ref b1), .val (.int (0 : Int32)), .val (.int (3 : Int32)), .val (.int z12), .val (.int z14), .val (.int z16), .val (.int (1 : Int32)), .val (.int (0 : Int32)), .val (.int (1 : Int32)), .val (.int (1 : Int32))] [])) _
                refine XS.iload X309.here hx rfl (hb hby at_128) rfl ?_
                show Steps p.tables e below (T309.setTop (mkF m 130 #[.val (.int p1), .val (.int p2), .val (.ref b1), .val (.int (0 : Int32)), .val (.int (3 : Int32)), .val (.int z12), .val (.int z14), .val (.int z16), .val (.int (1 : Int32)), .val (.int (0 : Int32)), .val (.int (1 : Int32)), .val (.int (1 : Int32))] [(.int (1 : Int32))])) _
                refine XS.iload X309.here hx rfl (hb hby at_130) rfl ?_
                show Steps p.tables e below (T309.setTop (mkF m 132 #[.val (.int p1), .val (.int p2), .val (.ref b1), .val (.int (0 : Int32)), .val (.int (3 : Int32)), .val (.int z12), .val (.int z14), .val (.int z16), .val (.int (1 : Int32)), .val (.int (0 : Int32)), .val (.int (1 : Int32)), .val (.int (1 : Int32))] [(.int (1 : Int32)), (.int (1 : Int32))])) _
                refine XS.icmpNo X309.here hx rfl (hb hby at_132) rfl (teq (by decide : (1 : Int32) = (1 : Int32))).2 ?_
                show Steps p.tables e below (T309.setTop (mkF m 135 #[.val (.int p1), .val (.int p2), .val (.ref b1), .val (.int (0 : Int32)), .val (.int (3 : Int32)), .val (.int z12), .val (.int z14), .val (.int z16), .val (.int (1 : Int32)), .val (.int (0 : Int32)), .val (.int (1 : Int32)), .val (.int (1 : Int32))] [])) _
                refine XS.iload X309.here hx rfl (hb hby at_135) rfl ?_
                show Steps p.tables e below (T309.setTop (mkF m 137 #[.val (.int p1), .val (.int p2), .val (.ref b1), .val (.int (0 : Int32)), .val (.int (3 : Int32)), .val (.int z12), .val (.int z14), .val (.int z16), .val (.int (1 : Int32)), .val (.int (0 : Int32)), .val (.int (1 : Int32)), .val (.int (1 : Int32))] [(.int (1 : Int32))])) _
                refine XS.iload X309.here hx rfl (hb hby at_137) rfl ?_
                show Steps p.tables e below (T309.setTop (mkF m 139 #[.val (.int p1), .val (.int p2), .val (.ref b1), .val (.int (0 : Int32)), .val (.int (3 : Int32)), .val (.int z12), .val (.int z14), .val (.int z16), .val (.int (1 : Int32)), .val (.int (0 : Int32)), .val (.int (1 : Int32)), .val (.int (1 : Int32))] [(.int (0 : Int32)), (.int (1 : Int32))])) _
                refine XS.ifNo X309.here hx rfl (hb hby at_139) rfl ((if0 _ _).trans (teq (by decide : (0 : Int32) = (0 : Int32))).2) ?_
                show Steps p.tables e below (T309.setTop (mkF m 142 #[.val (.int p1), .val (.int p2), .val (.ref b1), .val (.int (0 : Int32)), .val (.int (3 : Int32)), .val (.int z12), .val (.int z14), .val (.int z16), .val (.int (1 : Int32)), .val (.int (0 : Int32)), .val (.int (1 : Int32)), .val (.int (1 : Int32))] [(.int (1 : Int32))])) _
                refine XS.iload X309.here hx rfl (hb hby at_142) rfl ?_
                show Steps p.tables e below (T309.setTop (mkF m 144 #[.val (.int p1), .val (.int p2), .val (.ref b1), .val (.int (0 : Int32)), .val (.int (3 : Int32)), .val (.int z12), .val (.int z14), .val (.int z16), .val (.int (1 : Int32)), .val (.int (0 : Int32)), .val (.int (1 : Int32)), .val (.int (1 : Int32))] [(.int (1 : Int32)), (.int (1 : Int32))])) _
                refine XS.ifNo X309.here hx rfl (hb hby at_144) rfl ((if0 _ _).trans (feq (by decide : ¬ ((1 : Int32) = (0 : Int32)))).1) ?_
                show Steps p.tables e below (T309.setTop (mkF m 147 #[.val (.int p1), .val (.int p2), .val (.ref b1), .val (.int (0 : Int32)), .val (.int (3 : Int32)), .val (.int z12), .val (.int z14), .val (.int z16), .val (.int (1 : Int32)), .val (.int (0 : Int32)), .val (.int (1 : Int32)), .val (.int (1 : Int32))] [(.int (1 : Int32))])) _
                refine XS.iconst X309.here hx rfl (hb hby at_147) ?_
                show Steps p.tables e below (T309.setTop (mkF m 148 #[.val (.int p1), .val (.int p2), .val (.ref b1), .val (.int (0 : Int32)), .val (.int (3 : Int32)), .val (.int z12), .val (.int z14), .val (.int z16), .val (.int (1 : Int32)), .val (.int (0 : Int32)), .val (.int (1 : Int32)), .val (.int (1 : Int32))] [(.int (1 : Int32)), (.int (1 : Int32))])) _
                refine XS.goto X309.here hx rfl (pc0 := 148) (pc' := 152) rfl (hb hby at_148) (by decide) (by decide) ?_
                show Steps p.tables e below (T309.setTop (mkF m 152 #[.val (.int p1), .val (.int p2), .val (.ref b1), .val (.int (0 : Int32)), .val (.int (3 : Int32)), .val (.int z12), .val (.int z14), .val (.int z16), .val (.int (1 : Int32)), .val (.int (0 : Int32)), .val (.int (1 : Int32)), .val (.int (1 : Int32))] [(.int (1 : Int32)), (.int (1 : Int32))])) _
                refine XS.icmpNo X309.here hx rfl (hb hby at_152) rfl (teq (by decide : (1 : Int32) = (1 : Int32))).2 ?_
                show Steps p.tables e below (T309.setTop (mkF m 155 #[.val (.int p1), .val (.int p2), .val (.ref b1), .val (.int (0 : Int32)), .val (.int (3 : Int32)), .val (.int z12), .val (.int z14), .val (.int z16), .val (.int (1 : Int32)), .val (.int (0 : Int32)), .val (.int (1 : Int32)), .val (.int (1 : Int32))] [])) _
                refine XS.iconst X309.here hx rfl (hb hby at_155) ?_
                show Steps p.tables e below (T309.setTop (mkF m 156 #[.val (.int p1), .val (.int p2), .val (.ref b1), .val (.int (0 : Int32)), .val (.int (3 : Int32)), .val (.int z12), .val (.int z14), .val (.int z16), .val (.int (1 : Int32)), .val (.int (0 : Int32)), .val (.int (1 : Int32)), .val (.int (1 : Int32))] [(.int (1 : Int32))])) _
                refine XS.goto X309.here hx rfl (pc0 := 156) (pc' := 160) rfl (hb hby at_156) (by decide) (by decide) ?_
                show Steps p.tables e below (T309.setTop (mkF m 160 #[.val (.int p1), .val (.int p2), .val (.ref b1), .val (.int (0 : Int32)), .val (.int (3 : Int32)), .val (.int z12), .val (.int z14), .val (.int z16), .val (.int (1 : Int32)), .val (.int (0 : Int32)), .val (.int (1 : Int32)), .val (.int (1 : Int32))] [(.int (1 : Int32))])) _
                exact retN X309 hx (t := .boolean) hret (by simp) (hb hby at_160) hr
              ·
                show Q0 n0 _ T309.heap _
                rw [e311]
                exact ⟨rfl, N309⟩
            ·
              have N288 := Fr.app N202 Nq296
              have M288 : h0.size ≤ T288.heap.size := Nat.le_trans M202 K297.1
              have O288 := Old.keep O202 K297 (allS g_b1 all0)
              obtain ⟨cq312, kq312, q312a, q312b, q312c⟩ := isOf hZ rfl f298
              obtain ⟨_, _, ⟨T313, L313, c313, n313⟩, -, X313, ⟨Lc313, hQ313, l313, y313, z313⟩, st313⟩ := X288.virtualBack hx (y := (⟨"com/example/vorgang/vorgang/QueryTimeoutScope", "isKnown", "()Z"⟩ : MethodName)) (z := (⟨"com/example/vorgang/vorgang/QueryTimeoutScope", "isKnown", "()Z"⟩ : MethodName)) hown (mvT hZ (hw _ (List.mem_of_getElem? (i := 14) rfl))) (mvT hZ (hw _ (List.mem_of_getElem? (i := 15) rfl))) (notFace_of_selects (args := #[]) (mvT hZ (hw _ (List.mem_of_getElem? (i := 17) rfl)))) (mvT hZ (hw _ (List.mem_of_getElem? (i := 17) rfl))) (mvT hZ (hw _ (List.mem_of_getElem? (i := 16) rfl))) (by decide) (backOf (W := 0) (rm10 l Z a0 hw w1 w2 w3 G [] b1 T288.heap n0 O288 g_b1 f299) hZ (hw _ (List.mem_of_getElem? (i := 18) rfl)) (hw _ (List.mem_of_getElem? (i := 2) rfl)) (by decide) (by decide)) q312a q312c (g := (mkF m 94 #[.val (.int p1), .val (.int p2), .val (.ref b1), .val (.int (0 : Int32)), .val (.int (3 : Int32)), .val (.int z12), .val (.int z14), .val (.int z16), .unset, .unset, .unset, .unset] [(.ref b1)])) rfl (by rw [hml]; rfl) (Steps.refl _) (argsL := []) (rest := []) (lenOf pd1 rfl) rfl (by show 2 * 0 + _ ≤ _; exact Nat.le_of_eq rfl) (hb hby at_94) (fun _ _ => ⟨rfl, rfl, (by decide : 1 + 0 ≤ _), (by decide : 1 + 0 ≤ _)⟩)
              dsimp only [Pt.U, Pt.locs, Pt.cells, Pt.slots] at X313 l313 y313 z313 st313 hQ313
              subst l313 y313 z313
              have X313 : Stand p l e room_1 s m #[(.int p1), (.int p2)] below meth c T313 _ 1 1 := X313
              obtain ⟨rfl, Nq314, e315⟩ := hQ313
              have N313 := Fr.app N288 Nq314
              obtain ⟨cq316, kq316, q316a, q316b, q316c⟩ := isOf hZ e315 f298
              obtain ⟨_, _, ⟨T317, L317, c317, n317⟩, -, X317, ⟨Lc317, hQ317, l317, y317, z317⟩, st317⟩ := X313.virtualBack hx (y := (⟨"com/example/vorgang/vorgang/QueryTimeoutScope", "isSession", "()Z"⟩ : MethodName)) (z := (⟨"com/example/vorgang/vorgang/QueryTimeoutScope", "isSession", "()Z"⟩ : MethodName)) hown (mvT hZ (hw _ (List.mem_of_getElem? (i := 19) rfl))) (mvT hZ (hw _ (List.mem_of_getElem? (i := 20) rfl))) (notFace_of_selects (args := #[]) (mvT hZ (hw _ (List.mem_of_getElem? (i := 22) rfl)))) (mvT hZ (hw _ (List.mem_of_getElem? (i := 22) rfl))) (mvT hZ (hw _ (List.mem_of_getElem? (i := 21) rfl))) (by decide) (backOf (W := 0) (rm11 l Z a0 hw w1 w2 w3 G [] b1 T288.heap n0 O288 g_b1 f299) hZ (hw _ (List.mem_of_getElem? (i := 23) rfl)) (hw _ (List.mem_of_getElem? (i := 2) rfl)) (by decide) (by decide)) q316a q316c (g := (mkF m 100 #[.val (.int p1), .val (.int p2), .val (.ref b1), .val (.int (0 : Int32)), .val (.int (3 : Int32)), .val (.int z12), .val (.int z14), .val (.int z16), .val (.int (1 : Int32)), .unset, .unset, .unset] [(.ref b1)])) rfl (by rw [hml]; rfl) (Steps.refl _) (argsL := []) (rest := []) (lenOf pd1 rfl) rfl (by show 2 * 0 + _ ≤ _; exact Nat.le_of_eq rfl) (hb hby at_100) (fun _ _ => ⟨rfl, e315, (by decide : 1 + 0 ≤ _), (by decide : 1 + 0 ≤ _)⟩)
              dsimp only [Pt.U, Pt.locs, Pt.cells, Pt.slots] at X317 l317 y317 z317 st317 hQ317
              subst l317 y317 z317
              have X317 : Stand p l e room_1 s m #[(.int p1), (.int p2)] below meth c T317 _ 1 1 := X317
              obtain ⟨rfl, Nq318, e319⟩ := hQ317
              have N317 := Fr.app N313 Nq318
              obtain ⟨cq320, kq320, q320a, q320b, q320c⟩ := isOf hZ e319 f298
              obtain ⟨_, _, ⟨T321, L321, c321, n321⟩, -, X321, ⟨Lc321, hQ321, l321, y321, z321⟩, st321⟩ := X317.virtualBack hx (y := (⟨"com/example/vorgang/vorgang/QueryTimeoutScope", "isStatement", "()Z"⟩ : MethodName)) (z := (⟨"com/example/vorgang/vorgang/QueryTimeoutScope", "isStatement", "()Z"⟩ : MethodName)) hown (mvT hZ (hw _ (List.mem_of_getElem? (i := 26) rfl))) (mvT hZ (hw _ (List.mem_of_getElem? (i := 27) rfl))) (notFace_of_selects (args := #[]) (mvT hZ (hw _ (List.mem_of_getElem? (i := 29) rfl)))) (mvT hZ (hw _ (List.mem_of_getElem? (i := 29) rfl))) (mvT hZ (hw _ (List.mem_of_getElem? (i := 28) rfl))) (by decide) (backOf (W := 0) (rm12 l Z a0 hw w1 w2 w3 G [] b1 T288.heap n0 O288 g_b1 f299) hZ (hw _ (List.mem_of_getElem? (i := 30) rfl)) (hw _ (List.mem_of_getElem? (i := 2) rfl)) (by decide) (by decide)) q320a q320c (g := (mkF m 106 #[.val (.int p1), .val (.int p2), .val (.ref b1), .val (.int (0 : Int32)), .val (.int (3 : Int32)), .val (.int z12), .val (.int z14), .val (.int z16), .val (.int (1 : Int32)), .val (.int (1 : Int32)), .unset, .unset] [(.ref b1)])) rfl (by rw [hml]; rfl) (Steps.refl _) (argsL := []) (rest := []) (lenOf pd1 rfl) rfl (by show 2 * 0 + _ ≤ _; exact Nat.le_of_eq rfl) (hb hby at_106) (fun _ _ => ⟨rfl, e319, (by decide : 1 + 0 ≤ _), (by decide : 1 + 0 ≤ _)⟩)
              dsimp only [Pt.U, Pt.locs, Pt.cells, Pt.slots] at X321 l321 y321 z321 st321 hQ321
              subst l321 y321 z321
              have X321 : Stand p l e room_1 s m #[(.int p1), (.int p2)] below meth c T321 _ 1 1 := X321
              obtain ⟨rfl, Nq322, e323⟩ := hQ321
              have N321 := Fr.app N317 Nq322
              obtain ⟨fs, hr, hrun, hended, hW, hsame⟩ := X321.leave (v := some (.int (1 : Int32))) (fun h => by rw [hret] at h; cases h)
              refine ⟨_, _, pre289 _ ?_, hrun, hended, _, _, rfl, ?_, ⟨_, rfl⟩, hW, hsame.mono (by decide) (by decide)⟩
              ·
                show Steps p.tables e below (T202.setTop (mkF m 90 #[.val (.int p1), .val (.int p2), .val (.ref b1), .val (.int (0 : Int32)), .val (.int (3 : Int32)), .val (.int z12), .val (.int z14), .val (.int z16), .unset, .unset, .unset, .unset] [(.int z16), (.ref b1)])) _
                refine st288.trans ?_
                show Steps p.tables e below (T288.setTop (mkF m 93 #[.val (.int p1), .val (.int p2), .val (.ref b1), .val (.int (0 : Int32)), .val (.int (3 : Int32)), .val (.int z12), .val (.int z14), .val (.int z16), .unset, .unset, .unset, .unset] [])) _
                refine XS.aloadN X288.here hx rfl (hb hby at_93) rfl rfl ?_
                show Steps p.tables e below (T288.setTop (mkF m 94 #[.val (.int p1), .val (.int p2), .val (.ref b1), .val (.int (0 : Int32)), .val (.int (3 : Int32)), .val (.int z12), .val (.int z14), .val (.int z16), .unset, .unset, .unset, .unset] [(.ref b1)])) _
                refine st313.trans ?_
                show Steps p.tables e below (T313.setTop (mkF m 97 #[.val (.int p1), .val (.int p2), .val (.ref b1), .val (.int (0 : Int32)), .val (.int (3 : Int32)), .val (.int z12), .val (.int z14), .val (.int z16), .unset, .unset, .unset, .unset] [(.int (1 : Int32))])) _
                refine XS.istore X313.here hx rfl (hb hby at_97) rfl (l' := #[.val (.int p1), .val (.int p2), .val (.ref b1), .val (.int (0 : Int32)), .val (.int (3 : Int32)), .val (.int z12), .val (.int z14), .val (.int z16), .val (.int (1 : Int32)), .unset, .unset, .unset]) rfl ?_
                show Steps p.tables e below (T313.setTop (mkF m 99 #[.val (.int p1), .val (.int p2), .val (.ref b1), .val (.int (0 : Int32)), .val (.int (3 : Int32)), .val (.int z12), .val (.int z14), .val (.int z16), .val (.int (1 : Int32)), .unset, .unset, .unset] [])) _
                refine XS.aloadN X313.here hx rfl (hb hby at_99) rfl rfl ?_
                show Steps p.tables e below (T313.setTop (mkF m 100 #[.val (.int p1), .val (.int p2), .val (.ref b1), .val (.int (0 : Int32)), .val (.int (3 : Int32)), .val (.int z12), .val (.int z14), .val (.int z16), .val (.int (1 : Int32)), .unset, .unset, .unset] [(.ref b1)])) _
                refine st317.trans ?_
                show Steps p.tables e below (T317.setTop (mkF m 103 #[.val (.int p1), .val (.int p2), .val (.ref b1), .val (.int (0 : Int32)), .val (.int (3 : Int32)), .val (.int z12), .val (.int z14), .val (.int z16), .val (.int (1 : Int32)), .unset, .unset, .unset] [(.int (1 : Int32))])) _
                refine XS.istore X317.here hx rfl (hb hby at_103) rfl (l' := #[.val (.int p1), .val (.int p2), .val (.ref b1), .val (.int (0 : Int32)), .val (.int (3 : Int32)), .val (.int z12), .val (.int z14), .val (.int z16), .val (.int (1 : Int32)), .val (.int (1 : Int32)), .unset, .unset]) rfl ?_
                show Steps p.tables e below (T317.setTop (mkF m 105 #[.val (.int p1), .val (.int p2), .val (.ref b1), .val (.int (0 : Int32)), .val (.int (3 : Int32)), .val (.int z12), .val (.int z14), .val (.int z16), .val (.int (1 : Int32)), .val (.int (1 : Int32)), .unset, .unset] [])) _
                refine XS.aloadN X317.here hx rfl (hb hby at_105) rfl rfl ?_
                show Steps p.tables e below (T317.setTop (mkF m 106 #[.val (.int p1), .val (.int p2), .val (.ref b1), .val (.int (0 : Int32)), .val (.int (3 : Int32)), .val (.int z12), .val (.int z14), .val (.int z16), .val (.int (1 : Int32)), .val (.int (1 : Int32)), .unset, .unset] [(.ref b1)])) _
                refine st321.trans ?_
                show Steps p.tables e below (T321.setTop (mkF m 109 #[.val (.int p1), .val (.int p2), .val (.ref b1), .val (.int (0 : Int32)), .val (.int (3 : Int32)), .val (.int z12), .val (.int z14), .val (.int z16), .val (.int (1 : Int32)), .val (.int (1 : Int32)), .unset, .unset] [(.int (0 : Int32))])) _
                refine XS.istore X321.here hx rfl (hb hby at_109) rfl (l' := #[.val (.int p1), .val (.int p2), .val (.ref b1), .val (.int (0 : Int32)), .val (.int (3 : Int32)), .val (.int z12), .val (.int z14), .val (.int z16), .val (.int (1 : Int32)), .val (.int (1 : Int32)), .val (.int (0 : Int32)), .unset]) rfl ?_
                show Steps p.tables e below (T321.setTop (mkF m 111 #[.val (.int p1), .val (.int p2), .val (.ref b1), .val (.int (0 : Int32)), .val (.int (3 : Int32)), .val (.int z12), .val (.int z14), .val (.int z16), .val (.int (1 : Int32)), .val (.int (1 : Int32)), .val (.int (0 : Int32)), .unset] [])) _
                refine XS.iload X321.here hx rfl (hb hby at_111) rfl ?_
                show Steps p.tables e below (T321.setTop (mkF m 113 #[.val (.int p1), .val (.int p2), .val (.ref b1), .val (.int (0 : Int32)), .val (.int (3 : Int32)), .val (.int z12), .val (.int z14), .val (.int z16), .val (.int (1 : Int32)), .val (.int (1 : Int32)), .val (.int (0 : Int32)), .unset] [(.int (3 : Int32))])) _
                refine XS.iconst X321.here hx rfl (hb hby at_113) ?_
                show Steps p.tables e below (T321.setTop (mkF m 114 #[.val (.int p1), .val (.int p2), .val (.ref b1), .val (.int (0 : Int32)), .val (.int (3 : Int32)), .val (.int z12), .val (.int z14), .val (.int z16), .val (.int (1 : Int32)), .val (.int (1 : Int32)), .val (.int (0 : Int32)), .unset] [(.int (1 : Int32)), (.int (3 : Int32))])) _
                refine XS.icmpNo X321.here hx rfl (hb hby at_114) rfl (flt (by decide : ¬ ((3 : Int32) < (1 : Int32)))).1 ?_
                show Steps p.tables e below (T321.setTop (mkF m 117 #[.val (.int p1), .val (.int p2), .val (.ref b1), .val (.int (0 : Int32)), .val (.int (3 : Int32)), .val (.int z12), .val (.int z14), .val (.int z16), .val (.int (1 : Int32)), .val (.int (1 : Int32)), .val (.int (0 : Int32)), .unset] [])) _
                refine XS.iconst X321.here hx rfl (hb hby at_117) ?_
                show Steps p.tables e below (T321.setTop (mkF m 118 #[.val (.int p1), .val (.int p2), .val (.ref b1), .val (.int (0 : Int32)), .val (.int (3 : Int32)), .val (.int z12), .val (.int z14), .val (.int z16), .val (.int (1 : Int32)), .val (.int (1 : Int32)), .val (.int (0 : Int32)), .unset] [(.int (1 : Int32))])) _
                refine XS.goto X321.here hx rfl (pc0 := 118) (pc' := 122) rfl (hb hby at_118) (by decide) (by decide) ?_
                show Steps p.tables e below (T321.setTop (mkF m 122 #[.val (.int p1), .val (.int p2), .val (.ref b1), .val (.int (0 : Int32)), .val (.int (3 : Int32)), .val (.int z12), .val (.int z14), .val (.int z16), .val (.int (1 : Int32)), .val (.int (1 : Int32)), .val (.int (0 : Int32)), .unset] [(.int (1 : Int32))])) _
                refine XS.istore X321.here hx rfl (hb hby at_122) rfl (l' := #[.val (.int p1), .val (.int p2), .val (.ref b1), .val (.int (0 : Int32)), .val (.int (3 : Int32)), .val (.int z12), .val (.int z14), .val (.int z16), .val (.int (1 : Int32)), .val (.int (1 : Int32)), .val (.int (0 : Int32)), .val (.int (1 : Int32))]) rfl ?_
                show Steps p.tables e below (T321.setTop (mkF m 124 #[.val (.int p1), .val (.int p2), .val (.ref b1), .val (.int (0 : Int32)), .val (.int (3 : Int32)), .val (.int z12), .val (.int z14), .val (.int z16), .val (.int (1 : Int32)), .val (.int (1 : Int32)), .val (.int (0 : Int32)), .val (.int (1 : Int32))] [])) _
                refine XS.iloadN X321.here hx rfl (hb hby at_124) rfl ?_
                show Steps p.tables e below (T321.setTop (mkF m 125 #[.val (.int p1), .val (.int p2), .val (.ref b1), .val (.int (0 : Int32)), .val (.int (3 : Int32)), .val (.int z12), .val (.int z14), .val (.int z16), .val (.int (1 : Int32)), .val (.int (1 : Int32)), .val (.int (0 : Int32)), .val (.int (1 : Int32))] [(.int (0 : Int32))])) _
                refine XS.ifNo X321.here hx rfl (hb hby at_125) rfl ((if0 _ _).trans (teq (by decide : (0 : Int32) = (0 : Int32))).2) ?_
                show Steps p.tables e below (T321.setTop (mkF m 128 #[.val (.int p1), .val (.int p2), .val (.ref b1), .val (.int (0 : Int32)), .val (.int (3 : Int32)), .val (.int z12), .val (.int z14), .val (.int z16), .val (.int (1 : Int32)), .val (.int (1 : Int32)), .val (.int (0 : Int32)), .val (.int (1 : Int32))] [])) _
                refine XS.iload X321.here hx rfl (hb hby at_128) rfl ?_
                show Steps p.tables e below (T321.setTop (mkF m 130 #[.val (.int p1), .val (.int p2), .val (.ref b1), .val (.int (0 : Int32)), .val (.int (3 : Int32)), .val (.int z12), .val (.int z14), .val (.int z16), .val (.int (1 : Int32)), .val (.int (1 : Int32)), .val (.int (0 : Int32)), .val (.int (1 : Int32))] [(.int (1 : Int32))])) _
                refine XS.iload X321.here hx rfl (hb hby at_130) rfl ?_
                show Steps p.tables e below (T321.setTop (mkF m 132 #[.val (.int p1), .val (.int p2), .val (.ref b1), .val (.int (0 : Int32)), .val (.int (3 : Int32)), .val (.int z12), .val (.int z14), .val (.int z16), .val (.int (1 : Int32)), .val (.int (1 : Int32)), .val (.int (0 : Int32)), .val (.int (1 : Int32))] [(.int (1 : Int32)), (.int (1 : Int32))])) _
                refine XS.icmpNo X321.here hx rfl (hb hby at_132) rfl (teq (by decide : (1 : Int32) = (1 : Int32))).2 ?_
                show Steps p.tables e below (T321.setTop (mkF m 135 #[.val (.int p1), .val (.int p2), .val (.ref b1), .val (.int (0 : Int32)), .val (.int (3 : Int32)), .val (.int z12), .val (.int z14), .val (.int z16), .val (.int (1 : Int32)), .val (.int (1 : Int32)), .val (.int (0 : Int32)), .val (.int (1 : Int32))] [])) _
                refine XS.iload X321.here hx rfl (hb hby at_135) rfl ?_
                show Steps p.tables e below (T321.setTop (mkF m 137 #[.val (.int p1), .val (.int p2), .val (.ref b1), .val (.int (0 : Int32)), .val (.int (3 : Int32)), .val (.int z12), .val (.int z14), .val (.int z16), .val (.int (1 : Int32)), .val (.int (1 : Int32)), .val (.int (0 : Int32)), .val (.int (1 : Int32))] [(.int (1 : Int32))])) _
                refine XS.iload X321.here hx rfl (hb hby at_137) rfl ?_
                show Steps p.tables e below (T321.setTop (mkF m 139 #[.val (.int p1), .val (.int p2), .val (.ref b1), .val (.int (0 : Int32)), .val (.int (3 : Int32)), .val (.int z12), .val (.int z14), .val (.int z16), .val (.int (1 : Int32)), .val (.int (1 : Int32)), .val (.int (0 : Int32)), .val (.int (1 : Int32))] [(.int (1 : Int32)), (.int (1 : Int32))])) _
                refine XS.ifYes X321.here hx rfl (pc0 := 139) (pc' := 147) rfl (hb hby at_139) rfl ((if0 _ _).trans (feq (by decide : ¬ ((1 : Int32) = (0 : Int32)))).2) (by decide) (by decide) ?_
                show Steps p.tables e below (T321.setTop (mkF m 147 #[.val (.int p1), .val (.int p2), .val (.ref b1), .val (.int (0 : Int32)), .val (.int (3 : Int32)), .val (.int z12), .val (.int z14), .val (.int z16), .val (.int (1 : Int32)), .val (.int (1 : Int32)), .val (.int (0 : Int32)), .val (.int (1 : Int32))] [(.int (1 : Int32))])) _
                refine XS.iconst X321.here hx rfl (hb hby at_147) ?_
                show Steps p.tables e below (T321.setTop (mkF m 148 #[.val (.int p1), .val (.int p2), .val (.ref b1), .val (.int (0 : Int32)), .val (.int (3 : Int32)), .val (.int z12), .val (.int z14), .val (.int z16), .val (.int (1 : Int32)), .val (.int (1 : Int32)), .val (.int (0 : Int32)), .val (.int (1 : Int32))] [(.int (1 : Int32)), (.int (1 : Int32))])) _
                refine XS.goto X321.here hx rfl (pc0 := 148) (pc' := 152) rfl (hb hby at_148) (by decide) (by decide) ?_
                show Steps p.tables e below (T321.setTop (mkF m 152 #[.val (.int p1), .val (.int p2), .val (.ref b1), .val (.int (0 : Int32)), .val (.int (3 : Int32)), .val (.int z12), .val (.int z14), .val (.int z16), .val (.int (1 : Int32)), .val (.int (1 : Int32)), .val (.int (0 : Int32)), .val (.int (1 : Int32))] [(.int (1 : Int32)), (.int (1 : Int32))])) _
                refine XS.icmpNo X321.here hx rfl (hb hby at_152) rfl (teq (by decide : (1 : Int32) = (1 : Int32))).2 ?_
                show Steps p.tables e below (T321.setTop (mkF m 155 #[.val (.int p1), .val (.int p2), .val (.ref b1), .val (.int (0 : Int32)), .val (.int (3 : Int32)), .val (.int z12), .val (.int z14), .val (.int z16), .val (.int (1 : Int32)), .val (.int (1 : Int32)), .val (.int (0 : Int32)), .val (.int (1 : Int32))] [])) _
                refine XS.iconst X321.here hx rfl (hb hby at_155) ?_
                show Steps p.tables e below (T321.setTop (mkF m 156 #[.val (.int p1), .val (.int p2), .val (.ref b1), .val (.int (0 : Int32)), .val (.int (3 : Int32)), .val (.int z12), .val (.int z14), .val (.int z16), .val (.int (1 : Int32)), .val (.int (1 : Int32)), .val (.int (0 : Int32)), .val (.int (1 : Int32))] [(.int (1 : Int32))])) _
                refine XS.goto X321.here hx rfl (pc0 := 156) (pc' := 160) rfl (hb hby at_156) (by decide) (by decide) ?_
                show Steps p.tables e below (T321.setTop (mkF m 160 #[.val (.int p1), .val (.int p2), .val (.ref b1), .val (.int (0 : Int32)), .val (.int (3 : Int32)), .val (.int z12), .val (.int z14), .val (.int z16), .val (.int (1 : Int32)), .val (.int (1 : Int32)), .val (.int (0 : Int32)), .val (.int (1 : Int32))] [(.int (1 : Int32))])) _
                exact retN X321 hx (t := .boolean) hret (by simp) (hb hby at_160) hr
              ·
                show Q0 n0 _ T321.heap _
                rw [e323]
                exact ⟨rfl, N321⟩
set_option maxRecDepth 65536 in
set_option maxHeartbeats 40000000 in
theorem comes_1 {Post : Tables → Env → Array Value → State → Outcome → State → Prop} (hpost : ∀ tb e args s v u, (limb_1_1.after args s (.returned v) u = true ∧ limb_1_2.after args s (.returned v) u = true ∧ True) → FrameEnd s (.returned v) u (Jvm.fieldLocs frame_1_writes args s ++ Jvm.arrayLocs frame_1_arrays args s ++ Jvm.staticLocs frame_1_statics s) 16 128 → Post tb e args s (.returned v) u) :
    ArmFor flags0 classFile x code maxLocals ret World_1 tables_1 room_1 Calls_1 rest_1 Pre_1 Post := by
  intro l hfl _ _ p e ha hc hk s m args below hf hA hF happ hP
  obtain ⟨hcalls, hrest, hpre⟩ := hP
  obtain ⟨-, -, -, hnamed, -, -, -, hat⟩ := (Spec.applies_iff hf).mp happ
  obtain ⟨hg, hn⟩ := and_e (Cond.before_iff.mp (show (Jvm.Cond.and given_1 narrow_1).before args s = true from hpre))
  obtain ⟨hcount, hk0⟩ := and_e hg
  obtain ⟨hi0, hk1⟩ := and_e hk0
  have hi1 := hk1
  obtain ⟨w_a0, w_a1, rfl⟩ : ∃ w_a0 w_a1 : Value, args = #[w_a0, w_a1] := by
    have hs : args.size = 2 := by simpa [Cond.value, given_1] using hcount
    obtain ⟨L⟩ := args
    match L, hs with
    | [w_a0, w_a1], _ => exact ⟨w_a0, w_a1, rfl⟩
  have hw := fun d (hd : d ∈ tables_1) => atoms_spec (ws := Jvm.Cond.code x code maxLocals ret :: tables_1) hat d (List.mem_cons_of_mem _ hd)
  have hfit : Fit s := fun {y c} hc i hi => by
    obtain ⟨ha, rfl⟩ := Array.getElem?_eq_some_iff.mp hc
    have q := List.all_eq_true.mp ((Array.all_eq_true_iff_forall_mem.mp hF) _ (Array.getElem_mem ha)) i (List.mem_range.mpr hi)
    simpa [Array.getElem?_eq_getElem hi] using q
  obtain ⟨i0, ei0⟩ := is_v hi0
  obtain rfl : w_a0 = (.int i0) := Option.some.inj ei0
  obtain ⟨i1, ei1⟩ := is_v hi1
  obtain rfl : w_a1 = (.int i1) := Option.some.inj ei1
  obtain ⟨gl0, gr0⟩ := and_e hn
  obtain ⟨gl1, gr1⟩ := and_e gr0
  obtain ⟨gl2, gr2⟩ := and_e gr1
  obtain ⟨gl3, gr3⟩ := and_e gr2
  obtain ⟨gl4, gr4⟩ := and_e gr3
  obtain ⟨w1, ev_w1⟩ := exa_v gl0
  have S_w1 : Sta s s.heap "com/example/vorgang/vorgang/QueryTimeoutScope$Kept" "NOT_KNOWN" "Lcom/example/vorgang/vorgang/QueryTimeoutScope$Kept;" (.ref w1) := Sta.start ev_w1 (Or.inr ⟨(hw _ (List.mem_of_getElem? (i := 10) rfl)), (hw _ (List.mem_of_getElem? (i := 11) rfl))⟩)
  have E_w1 : Exa s s.heap w1 "com/example/vorgang/vorgang/QueryTimeoutScope$Kept" := Exa.start ev_w1 gl0
  obtain ⟨w2, ev_w2⟩ := exa_v gl1
  have S_w2 : Sta s s.heap "com/example/vorgang/vorgang/QueryTimeoutScope$Kept" "SESSION" "Lcom/example/vorgang/vorgang/QueryTimeoutScope$Kept;" (.ref w2) := Sta.start ev_w2 (Or.inr ⟨(hw _ (List.mem_of_getElem? (i := 10) rfl)), (hw _ (List.mem_of_getElem? (i := 25) rfl))⟩)
  have E_w2 : Exa s s.heap w2 "com/example/vorgang/vorgang/QueryTimeoutScope$Kept" := Exa.start ev_w2 gl1
  obtain ⟨w3, ev_w3⟩ := exa_v gl4
  have S_w3 : Sta s s.heap "com/example/vorgang/vorgang/QueryTimeoutScope$Kept" "STATEMENT" "Lcom/example/vorgang/vorgang/QueryTimeoutScope$Kept;" (.ref w3) := Sta.start ev_w3 (Or.inr ⟨(hw _ (List.mem_of_getElem? (i := 10) rfl)), (hw _ (List.mem_of_getElem? (i := 32) rfl))⟩)
  have E_w3 : Exa s s.heap w3 "com/example/vorgang/vorgang/QueryTimeoutScope$Kept" := Exa.start ev_w3 gl4
  have F_w1_ordinal : Fld s s.heap w1 "java/lang/Enum" "ordinal" "I" (.int (0 : Int32)) := Fld.start ((fld_at ev_w1).symm.trans (eqv_i rfl gl2))
  have F_w2_ordinal : Fld s s.heap w2 "java/lang/Enum" "ordinal" "I" (.int (2 : Int32)) := Fld.start ((fld_at ev_w2).symm.trans (eqv_i rfl gl3))
  have F_w3_ordinal : Fld s s.heap w3 "java/lang/Enum" "ordinal" "I" (.int (1 : Int32)) := Fld.start ((fld_at ev_w3).symm.trans (eqv_i rfl gr4))
  have G : GW s w1 w2 w3 := ⟨S_w1, E_w1, S_w2, E_w2, S_w3, E_w3, F_w1_ordinal, F_w2_ordinal, F_w3_ordinal⟩
  obtain ⟨n, o, h1, h2, h3, _, L, rfl, ⟨rfl, N⟩, hq⟩ := rm0 l s _ hw w1 w2 w3 G tables_1 i0 i1 s.heap s.heap.size (Old.start s) p e ha hc hk s m _ below hf ((Spec.applies_iff_loose hf).mp happ).1 ⟨rfl, State.Warmed39.refl s, rfl⟩ trivial
  refine ⟨n, _, h1, h2, h3, hpost _ _ _ _ _ _ ⟨Cond.after_iff.mpr rfl, Cond.after_iff.mpr (eq_i res_at (Term.int_eval (1)) rfl), trivial⟩ ⟨hq.1, hq.2.1, (hq.2.2.sift fun y hy => Or.inr (N y hy)).mono (by decide) (by decide)⟩⟩
theorem main_1_1 : Claimed_1_1 := comes_1 fun _ _ _ _ _ _ h hF => ⟨h.1, hF⟩
theorem main_1_2 : Claimed_1_2 := comes_1 fun _ _ _ _ _ _ h hF => ⟨h.2.1, hF⟩
end Jvm.Pilot.@@N@@
namespace Jvm.Pilot.@@N@@
open Jvm Jvm.ClassFile Sem Op Lib Jvm.Free Jvm.Stand Jvm.Pilot.@@N@@.Jvm.D
/-! MADE BY PROGRAM (witnessworld.py) out of the Statement's table words and the real class files: 13 classes; the members and pool entries that the words name. The judged class is class 1, her method 1. -/
namespace start1
open Jvm.ClassFile
def u (s : String) : CpInfo := .utf8 (stringToUtf16 s)
/-- a pool by its gaps: so many unusable entries, then the entry; so many at the end -/
def gap : Nat → List CpInfo → List CpInfo
  | 0, r => r
  | n + 1, r => .unusable :: gap n r
def poolList (es : List (Nat × CpInfo)) (last : Nat) : List CpInfo := es.foldr (fun e r => gap e.1 (e.2 :: r)) (gap last [])
def pool (es : List (Nat × CpInfo)) (last : Nat) : Array CpInfo := ⟨poolList es last⟩
def fileOf (pool : Array CpInfo) (this : Nat) (attrs : Array Attribute := #[]) (ms : Array MethodInfo := #[]) (fl : Nat := 33) (sup : Nat := 0) (ifs : Array Nat := #[]) (fds : Array FieldInfo := #[]) : ClassFile where
  minorVersion := 0
  majorVersion := 65
  constantPool := pool
  accessFlags := fl
  thisClass := this
  superClass := sup
  interfaces := ifs
  fields := fds
  methods := ms
  attributes := attrs
def plain (name : String) (sup : Option ClassId) : Class where
  name := name
  kind := .ordinary
  loader := none
  accessFlags := 33
  super := sup
  interfaces := #[]
  cf := none
  fields := #[]
  methods := #[]
  instanceTypes := #[]
  staticTypes := #[]
  resolved := #[]
  callSites := []
  init := .initialized
  statics := none
  mirror := none

def pool0 : Array CpInfo := pool [(5, u "<init>"), (0, u "()V"), (1, .class_ 10), (1, u "java/lang/Object")] 113

def k0c0 : Code := { maxStack := 0, maxLocals := 1, code := object_method_1_code, exceptionTable := #[], attributes := #[] }
def k0m0 : Method := { name := "<init>", desc := "()V", sig := { parameters := [], returnType := none }, accessFlags := 1, code := some k0c0 }
/-- java/lang/Object -/
def k0 : Class := { plain "java/lang/Object" none with
  accessFlags := 33
  interfaces := #[]
  cf := some (fileOf pool0 8 #[] #[{ accessFlags := 1, nameIndex := 5, descriptorIndex := 6, attributes := #[] }] 33 0 #[] #[])
  fields := #[]
  methods := #[k0m0]
  instanceTypes := #[]
  staticTypes := #[]
  resolved := Array.replicate 124 none
  statics := none }

def pool1 : Array CpInfo := pool [(2, .class_ 4), (0, .nameAndType 5 6), (0, u "java/lang/Object"), (0, u "<init>"), (0, u "()V"), (0, .class_ 8), (0, u "com/example/vorgang/vorgang/QueryTimeoutScope"), (0, .methodref 7 3), (0, .methodref 7 11), (0, .nameAndType 12 13), (0, u "isKnown"), (0, u "()Z"), (0, .methodref 7 15), (0, .nameAndType 16 17), (0, u "found"), (0, u "(Z)V"), (0, .methodref 7 19), (0, .nameAndType 20 13), (0, u "isSession"), (0, .methodref 7 22), (0, .nameAndType 23 13), (0, u "isStatement"), (0, .class_ 25), (0, u "com/example/vorgang/vorgang/QueryTimeoutScopeIsKnownPinLaw"), (2, u "law"), (0, u "(II)Z")] 3

def k1m0 : Method := { name := "<init>", desc := "()V", sig := { parameters := [], returnType := none }, accessFlags := 1, code := none }
def k1c1 : Code := { maxStack := 2, maxLocals := 12, code := code, exceptionTable := #[], attributes := #[] }
def k1m1 : Method := { name := "law", desc := "(II)Z", sig := { parameters := [.int, .int], returnType := some .boolean }, accessFlags := 9, code := some k1c1 }
/-- com/example/vorgang/vorgang/QueryTimeoutScopeIsKnownPinLaw -/
def k1 : Class := { plain "com/example/vorgang/vorgang/QueryTimeoutScopeIsKnownPinLaw" (some 0) with
  accessFlags := 49
  interfaces := #[]
  cf := some (fileOf pool1 24 #[] #[{ accessFlags := 1, nameIndex := 5, descriptorIndex := 6, attributes := #[] }, { accessFlags := 9, nameIndex := 28, descriptorIndex := 29, attributes := #[] }] 49 2 #[] #[])
  fields := #[]
  methods := #[k1m0, k1m1]
  instanceTypes := #[]
  staticTypes := #[]
  resolved := Array.replicate 33 none
  statics := none }

def pool2 : Array CpInfo := pool [(1, .methodref 2 3), (0, .class_ 4), (0, .nameAndType 5 6), (0, u "java/lang/Object"), (0, u "<init>"), (0, u "()V"), (0, .fieldref 8 9), (0, .class_ 10), (0, .nameAndType 11 12), (0, u "com/example/vorgang/vorgang/QueryTimeoutScope$Kept"), (0, u "NOT_KNOWN"), (0, u "Lcom/example/vorgang/vorgang/QueryTimeoutScope$Kept;"), (0, .fieldref 14 15), (0, .class_ 16), (0, .nameAndType 17 12), (0, u "com/example/vorgang/vorgang/QueryTimeoutScope"), (0, u "kept"), (0, .fieldref 8 19), (0, .nameAndType 20 12), (0, u "SESSION"), (0, .fieldref 8 22), (0, .nameAndType 23 12), (0, u "STATEMENT"), (2, u "isSession"), (0, u "()Z"), (1, u "isStatement"), (0, u "isKnown"), (0, u "found"), (0, u "(Z)V")] 5

def k2c0 : Code := { maxStack := 2, maxLocals := 1, code := prog_14_method_1_code, exceptionTable := #[], attributes := #[] }
def k2m0 : Method := { name := "<init>", desc := "()V", sig := { parameters := [], returnType := none }, accessFlags := 0, code := some k2c0 }
def k2c1 : Code := { maxStack := 2, maxLocals := 1, code := prog_14_method_2_code, exceptionTable := #[], attributes := #[] }
def k2m1 : Method := { name := "isSession", desc := "()Z", sig := { parameters := [], returnType := some .boolean }, accessFlags := 0, code := some k2c1 }
def k2c2 : Code := { maxStack := 2, maxLocals := 1, code := prog_14_method_3_code, exceptionTable := #[], attributes := #[] }
def k2m2 : Method := { name := "isStatement", desc := "()Z", sig := { parameters := [], returnType := some .boolean }, accessFlags := 0, code := some k2c2 }
def k2c3 : Code := { maxStack := 2, maxLocals := 1, code := prog_14_method_4_code, exceptionTable := #[], attributes := #[] }
def k2m3 : Method := { name := "isKnown", desc := "()Z", sig := { parameters := [], returnType := some .boolean }, accessFlags := 0, code := some k2c3 }
def k2c4 : Code := { maxStack := 2, maxLocals := 2, code := prog_14_method_5_code, exceptionTable := #[], attributes := #[] }
def k2m4 : Method := { name := "found", desc := "(Z)V", sig := { parameters := [.boolean], returnType := none }, accessFlags := 0, code := some k2c4 }
/-- com/example/vorgang/vorgang/QueryTimeoutScope -/
def k2 : Class := { plain "com/example/vorgang/vorgang/QueryTimeoutScope" (some 0) with
  accessFlags := 48
  interfaces := #[]
  cf := some (fileOf pool2 14 #[.nestMembers #[8]] #[{ accessFlags := 0, nameIndex := 5, descriptorIndex := 6, attributes := #[] }, { accessFlags := 0, nameIndex := 26, descriptorIndex := 27, attributes := #[] }, { accessFlags := 0, nameIndex := 29, descriptorIndex := 27, attributes := #[] }, { accessFlags := 0, nameIndex := 30, descriptorIndex := 27, attributes := #[] }, { accessFlags := 0, nameIndex := 31, descriptorIndex := 32, attributes := #[] }] 48 2 #[] #[{ accessFlags := 66, nameIndex := 17, descriptorIndex := 12, attributes := #[] }])
  fields := #[{ name := "kept", type := (.object "com/example/vorgang/vorgang/QueryTimeoutScope$Kept"), accessFlags := 66, slot := 0, constantValue := 0 }]
  methods := #[k2m0, k2m1, k2m2, k2m3, k2m4]
  instanceTypes := #[(.object "com/example/vorgang/vorgang/QueryTimeoutScope$Kept")]
  staticTypes := #[]
  resolved := Array.replicate 38 none
  statics := none }

def pool3 : Array CpInfo := pool [(1, .class_ 2), (0, u "java/lang/constant/Constable"), (0, .class_ 4), (0, u "java/lang/Object")] 6

/-- java/lang/constant/Constable -/
def k3 : Class := { plain "java/lang/constant/Constable" (some 0) with
  accessFlags := 1537
  interfaces := #[]
  cf := some (fileOf pool3 1 #[] #[] 1537 3 #[] #[])
  fields := #[]
  methods := #[]
  instanceTypes := #[]
  staticTypes := #[]
  resolved := Array.replicate 11 none
  statics := none }

def pool4 : Array CpInfo := pool [(1, .class_ 2), (0, u "java/lang/Comparable"), (0, .class_ 4), (0, u "java/lang/Object")] 7

/-- java/lang/Comparable -/
def k4 : Class := { plain "java/lang/Comparable" (some 0) with
  accessFlags := 1537
  interfaces := #[]
  cf := some (fileOf pool4 1 #[] #[] 1537 3 #[] #[])
  fields := #[]
  methods := #[]
  instanceTypes := #[]
  staticTypes := #[]
  resolved := Array.replicate 12 none
  statics := none }

def pool5 : Array CpInfo := pool [(1, .class_ 2), (0, u "java/io/Serializable"), (0, .class_ 4), (0, u "java/lang/Object")] 2

/-- java/io/Serializable -/
def k5 : Class := { plain "java/io/Serializable" (some 0) with
  accessFlags := 1537
  interfaces := #[]
  cf := some (fileOf pool5 1 #[] #[] 1537 3 #[] #[])
  fields := #[]
  methods := #[]
  instanceTypes := #[]
  staticTypes := #[]
  resolved := Array.replicate 7 none
  statics := none }

def pool6 : Array CpInfo := pool [(2, .class_ 4), (1, u "java/lang/Enum"), (0, u "name"), (0, u "Ljava/lang/String;"), (2, u "ordinal"), (0, u "I"), (1, .class_ 14), (1, u "java/lang/Object"), (4, u "hash"), (86, .class_ 108), (1, u "java/lang/Enum$EnumDesc"), (2, .class_ 112), (0, u "java/lang/constant/Constable"), (0, .class_ 114), (0, u "java/lang/Comparable"), (0, .class_ 116), (0, u "java/io/Serializable")] 87

/-- java/lang/Enum -/
def k6 : Class := { plain "java/lang/Enum" (some 0) with
  accessFlags := 1057
  interfaces := #[3, 4, 5]
  cf := some (fileOf pool6 2 #[.nestMembers #[106]] #[] 1057 12 #[111, 113, 115] #[{ accessFlags := 18, nameIndex := 5, descriptorIndex := 6, attributes := #[] }, { accessFlags := 18, nameIndex := 9, descriptorIndex := 10, attributes := #[] }, { accessFlags := 2, nameIndex := 19, descriptorIndex := 10, attributes := #[] }])
  fields := #[{ name := "name", type := (.object "java/lang/String"), accessFlags := 18, slot := 0, constantValue := 0 }, { name := "ordinal", type := .int, accessFlags := 18, slot := 1, constantValue := 0 }, { name := "hash", type := .int, accessFlags := 2, slot := 2, constantValue := 0 }]
  methods := #[]
  instanceTypes := #[(.object "java/lang/String"), .int, .int]
  staticTypes := #[]
  resolved := Array.replicate 204 none
  statics := none }

def pool7 : Array CpInfo := pool [(1, .class_ 2), (0, u "com/example/vorgang/vorgang/QueryTimeoutScope$Kept"), (2, u "NOT_KNOWN"), (0, u "Lcom/example/vorgang/vorgang/QueryTimeoutScope$Kept;"), (2, u "STATEMENT"), (2, u "SESSION"), (2, u "$VALUES"), (0, u "[Lcom/example/vorgang/vorgang/QueryTimeoutScope$Kept;"), (6, .class_ 25), (1, u "java/lang/Enum"), (26, .class_ 53), (0, u "com/example/vorgang/vorgang/QueryTimeoutScope")] 2

/-- com/example/vorgang/vorgang/QueryTimeoutScope$Kept -/
def k7 : Class := { plain "com/example/vorgang/vorgang/QueryTimeoutScope$Kept" (some 6) with
  accessFlags := 16432
  interfaces := #[]
  cf := some (fileOf pool7 1 #[.nestHost 52] #[] 16432 23 #[] #[{ accessFlags := 16409, nameIndex := 5, descriptorIndex := 6, attributes := #[] }, { accessFlags := 16409, nameIndex := 9, descriptorIndex := 6, attributes := #[] }, { accessFlags := 16409, nameIndex := 12, descriptorIndex := 6, attributes := #[] }, { accessFlags := 4122, nameIndex := 15, descriptorIndex := 16, attributes := #[] }])
  fields := #[{ name := "NOT_KNOWN", type := (.object "com/example/vorgang/vorgang/QueryTimeoutScope$Kept"), accessFlags := 16409, slot := 0, constantValue := 0 }, { name := "STATEMENT", type := (.object "com/example/vorgang/vorgang/QueryTimeoutScope$Kept"), accessFlags := 16409, slot := 1, constantValue := 0 }, { name := "SESSION", type := (.object "com/example/vorgang/vorgang/QueryTimeoutScope$Kept"), accessFlags := 16409, slot := 2, constantValue := 0 }, { name := "$VALUES", type := (.array (.object "com/example/vorgang/vorgang/QueryTimeoutScope$Kept")), accessFlags := 4122, slot := 3, constantValue := 0 }]
  methods := #[]
  instanceTypes := #[(.object "java/lang/String"), .int, .int]
  staticTypes := #[(.object "com/example/vorgang/vorgang/QueryTimeoutScope$Kept"), (.object "com/example/vorgang/vorgang/QueryTimeoutScope$Kept"), (.object "com/example/vorgang/vorgang/QueryTimeoutScope$Kept"), (.array (.object "com/example/vorgang/vorgang/QueryTimeoutScope$Kept"))]
  resolved := Array.replicate 56 none
  statics := some 0 }

def pool8 : Array CpInfo := pool [(1, u "java/lang/Cloneable"), (0, .class_ 1), (0, u "java/lang/Object"), (0, .class_ 3)] 3

/-- java/lang/Cloneable -/
def k8 : Class := { plain "java/lang/Cloneable" (some 0) with
  accessFlags := 1537
  interfaces := #[]
  cf := some (fileOf pool8 2 #[] #[] 1537 4 #[] #[])
  fields := #[]
  methods := #[]
  instanceTypes := #[]
  staticTypes := #[]
  resolved := Array.replicate 8 none
  statics := none }

/-- the primitive byte -/
def k9 : Class := { plain "byte" none with kind := .primitive 'B', accessFlags := 0x411 }
/-- [B -/
def k10 : Class := { plain "[B" (some 0) with kind := .array 9 .byte, interfaces := #[8, 5], accessFlags := 1041 }

/-- the primitive int -/
def k11 : Class := { plain "int" none with kind := .primitive 'I', accessFlags := 0x411 }
/-- [I -/
def k12 : Class := { plain "[I" (some 0) with kind := .array 11 .int, interfaces := #[8, 5], accessFlags := 1041 }

def heap : Heap := #[{ cls := 7, slots := #[.ref 1, .ref 3, .ref 2, .null], vm := .statics 7 },
  { cls := 7, slots := #[.null, .int 0, .int 0], vm := .none },
  { cls := 7, slots := #[.null, .int 2, .int 0], vm := .none },
  { cls := 7, slots := #[.null, .int 1, .int 0], vm := .none }]
def classes : Array Class := #[k0, k1, k2, k3, k4, k5, k6, k7, k8, k9, k10, k11, k12]
def interned : List (Array UInt16 × Addr) := []
def slotsUsed : Nat := 13
def theMethod : MethodId := ⟨1, 1⟩
def args0 : Array Value := #[.int 5, .int 5]
def aboutOver (below : List Frame) : State where
  vm := { classes := classes, interned := interned.toArray }
  heap := heap
  slotsUsed := slotsUsed
  threads := #[{ frames := .invoking theMethod args0 :: below }]
def below0 : List Frame := [.native { method := ⟨0, 0⟩, args := #[] }]
def about1 : State := aboutOver below0
def p0 : Program := .bare "" "" ""
def e0 : Env := launch0.env 0 0 0
theorem w_frames : about1.frames = Frame.invoking theMethod args0 :: below0 := rfl
set_option maxRecDepth 65536 in
theorem w_args : argsFit about1.vm theMethod args0 = true := by decide +kernel
set_option maxRecDepth 65536 in
theorem w_heap : heapFits about1 = true := by decide +kernel
set_option maxRecDepth 65536 in
theorem w_runnable : about1.curStatus? = some .runnable := by decide +kernel
set_option maxRecDepth 65536 in
theorem w_alone : about1.alone = true := by decide +kernel
set_option maxRecDepth 65536 in
theorem w_named : about1.methodNamed? x = some theMethod := by decide +kernel
set_option maxRecDepth 65536 in
theorem w_hears : about1.hears theMethod below0 = true := by decide +kernel
set_option maxRecDepth 65536 in
theorem w_ripe : about1.ripe theMethod args0 below0 = true := by decide +kernel
theorem w_running : about1.status = .running := rfl
set_option maxRecDepth 65536 in
theorem w_room : about1.hasRoom e0.platform room_1 = true :=
  launch0.hasRoom_least _ room_1 (by decide +kernel) (by decide +kernel) (by decide +kernel) (by decide +kernel) (by decide +kernel) (by decide +kernel)
theorem allAtoms_all (ts : List Jvm.Cond) (a : Array Jvm.Value) (st : Jvm.State) : (allAtoms ts).before a st = ts.all (fun c => c.before a st) := by
  induction ts with
  | nil => rfl
  | cons c t ih =>
    show (Jvm.Cond.and c (allAtoms t)).before a st = _
    rw [Jvm.Cond.before_and, ih, List.all_cons]
def words1 : List Jvm.Cond := Jvm.Cond.code x code maxLocals ret :: tables_1
/-- a 'code' word, met by the world's own term for the bytes: nothing is compared byte by byte -/
theorem code_word {y : MethodName} {bytes : ByteArray} {mx : Nat} {rt : Option FieldType} {a : Array Value} {s : State} {m : MethodId} {meth : Method} {c : Code} (h1 : s.methodNamed? y = some m) (h2 : s.vm.method? m = some meth) (h3 : meth.code = some c) (h4 : c.code = bytes)
    (h5 : (c.maxLocals == mx && c.exceptionTable.isEmpty && decide (c.maxStack ≤ mostOperands) && decide (meth.sig.returnType = rt) && !meth.locks && decide (parseMethodDescriptor y.desc = some meth.sig)) = true) : (Jvm.Cond.code y bytes mx rt).before a s = true := by
  simp only [Bool.and_eq_true, beq_iff_eq, Bool.not_eq_true', decide_eq_true_eq] at h5
  obtain ⟨⟨⟨⟨⟨g1, g2⟩, g3⟩, g4⟩, g5⟩, g6⟩ := h5
  simp [Cond.before, Cond.holds, Cond.value, h1, h2, h3, h4, g1, g2, g3, g4, g5, g6]
def isCode : Jvm.Cond → Bool
  | .code _ _ _ _ => true
  | _ => false
theorem all_split {L : List Jvm.Cond} {P : Jvm.Cond → Bool} (h1 : L.all (fun c => isCode c || P c) = true) (h2 : ∀ c ∈ L.filter isCode, P c = true) : L.all P = true := by
  refine List.all_eq_true.mpr fun c hc => ?_
  have h := List.all_eq_true.mp h1 c hc
  rcases Bool.eq_false_or_eq_true (isCode c) with hi | hi
  · exact h2 c (List.mem_filter.mpr ⟨hc, hi⟩)
  · simpa [hi] using h
set_option maxRecDepth 65536 in
theorem w_c0 : (Jvm.Cond.code x code maxLocals ret).before args0 about1 = true := code_word (m := ⟨1, 1⟩) (meth := k1m1) (c := k1c1) (by decide +kernel) rfl rfl rfl (by decide +kernel)
set_option maxRecDepth 65536 in
theorem w_c1 : (Jvm.Cond.code ({ cls := "com/example/vorgang/vorgang/QueryTimeoutScope", name := "<init>", desc := "()V" } : Jvm.MethodName) prog_14_method_1_code (1 : Nat) (Option.none : Option Jvm.ClassFile.FieldType)).before args0 about1 = true := code_word (m := ⟨2, 0⟩) (meth := k2m0) (c := k2c0) (by decide +kernel) rfl rfl rfl (by decide +kernel)
set_option maxRecDepth 65536 in
theorem w_c2 : (Jvm.Cond.code ({ cls := "java/lang/Object", name := "<init>", desc := "()V" } : Jvm.MethodName) object_method_1_code (1 : Nat) (Option.none : Option Jvm.ClassFile.FieldType)).before args0 about1 = true := code_word (m := ⟨0, 0⟩) (meth := k0m0) (c := k0c0) (by decide +kernel) rfl rfl rfl (by decide +kernel)
set_option maxRecDepth 65536 in
theorem w_c3 : (Jvm.Cond.code ({ cls := "com/example/vorgang/vorgang/QueryTimeoutScope", name := "isKnown", desc := "()Z" } : Jvm.MethodName) prog_14_method_4_code (1 : Nat) (Option.some Jvm.ClassFile.FieldType.boolean)).before args0 about1 = true := code_word (m := ⟨2, 3⟩) (meth := k2m3) (c := k2c3) (by decide +kernel) rfl rfl rfl (by decide +kernel)
set_option maxRecDepth 65536 in
theorem w_c4 : (Jvm.Cond.code ({ cls := "com/example/vorgang/vorgang/QueryTimeoutScope", name := "isSession", desc := "()Z" } : Jvm.MethodName) prog_14_method_2_code (1 : Nat) (Option.some Jvm.ClassFile.FieldType.boolean)).before args0 about1 = true := code_word (m := ⟨2, 1⟩) (meth := k2m1) (c := k2c1) (by decide +kernel) rfl rfl rfl (by decide +kernel)
set_option maxRecDepth 65536 in
theorem w_c5 : (Jvm.Cond.code ({ cls := "com/example/vorgang/vorgang/QueryTimeoutScope", name := "isStatement", desc := "()Z" } : Jvm.MethodName) prog_14_method_3_code (1 : Nat) (Option.some Jvm.ClassFile.FieldType.boolean)).before args0 about1 = true := code_word (m := ⟨2, 2⟩) (meth := k2m2) (c := k2c2) (by decide +kernel) rfl rfl rfl (by decide +kernel)
set_option maxRecDepth 65536 in
theorem w_c6 : (Jvm.Cond.code ({ cls := "com/example/vorgang/vorgang/QueryTimeoutScope", name := "found", desc := "(Z)V" } : Jvm.MethodName) prog_14_method_5_code (2 : Nat) (Option.none : Option Jvm.ClassFile.FieldType)).before args0 about1 = true := code_word (m := ⟨2, 4⟩) (meth := k2m4) (c := k2c4) (by decide +kernel) rfl rfl rfl (by decide +kernel)
def codes1 : List Jvm.Cond := [Jvm.Cond.code x code maxLocals ret, Jvm.Cond.code ({ cls := "com/example/vorgang/vorgang/QueryTimeoutScope", name := "<init>", desc := "()V" } : Jvm.MethodName) prog_14_method_1_code (1 : Nat) (Option.none : Option Jvm.ClassFile.FieldType), Jvm.Cond.code ({ cls := "java/lang/Object", name := "<init>", desc := "()V" } : Jvm.MethodName) object_method_1_code (1 : Nat) (Option.none : Option Jvm.ClassFile.FieldType), Jvm.Cond.code ({ cls := "com/example/vorgang/vorgang/QueryTimeoutScope", name := "isKnown", desc := "()Z" } : Jvm.MethodName) prog_14_method_4_code (1 : Nat) (Option.some Jvm.ClassFile.FieldType.boolean), Jvm.Cond.code ({ cls := "com/example/vorgang/vorgang/QueryTimeoutScope", name := "isSession", desc := "()Z" } : Jvm.MethodName) prog_14_method_2_code (1 : Nat) (Option.some Jvm.ClassFile.FieldType.boolean), Jvm.Cond.code ({ cls := "com/example/vorgang/vorgang/QueryTimeoutScope", name := "isStatement", desc := "()Z" } : Jvm.MethodName) prog_14_method_3_code (1 : Nat) (Option.some Jvm.ClassFile.FieldType.boolean), Jvm.Cond.code ({ cls := "com/example/vorgang/vorgang/QueryTimeoutScope", name := "found", desc := "(Z)V" } : Jvm.MethodName) prog_14_method_5_code (2 : Nat) (Option.none : Option Jvm.ClassFile.FieldType)]
set_option maxRecDepth 65536 in
theorem codes_eq : words1.filter isCode = codes1 := rfl
theorem w_codes : ∀ c ∈ words1.filter isCode, c.before args0 about1 = true := by
  rw [codes_eq]
  intro c hc
  simp only [codes1, List.mem_cons, List.not_mem_nil, or_false] at hc
  rcases hc with rfl | rfl | rfl | rfl | rfl | rfl | rfl
  · exact w_c0
  · exact w_c1
  · exact w_c2
  · exact w_c3
  · exact w_c4
  · exact w_c5
  · exact w_c6
set_option maxRecDepth 65536 in
theorem w_t1 : (words1.take 24).all (fun c => isCode c || c.before args0 about1) = true := by decide +kernel
set_option maxRecDepth 65536 in
theorem w_t2 : (words1.drop 24).all (fun c => isCode c || c.before args0 about1) = true := by decide +kernel
theorem w_tables : (allAtoms (Jvm.Cond.code x code maxLocals ret :: tables_1)).before args0 about1 = true := by
  rw [allAtoms_all]
  show words1.all (fun c => c.before args0 about1) = true
  refine all_split ?_ w_codes
  rw [← List.take_append_drop 24 words1, List.all_append, w_t1, w_t2]
  rfl
set_option maxRecDepth 65536 in
theorem w_case : (Jvm.Cond.and given_1 narrow_1).before args0 about1 = true := by decide +kernel
theorem w_applies : (headSpec (Jvm.Cond.code x code maxLocals ret :: tables_1) room_1).applies x e0.platform about1 = true :=
  (Spec.applies_iff w_frames).mpr ⟨w_running, w_runnable, w_alone, w_named, w_hears, w_ripe, w_room, w_tables⟩
theorem atStart : AtStart classFile x code maxLocals ret World_1 tables_1 room_1 Calls_1 rest_1 Pre_1 launch0 p0 e0 about1 theMethod args0 below0 :=
  ⟨lists_1, trivial, launch0.admits_env _ _ _, launch0.least_env, fairChoices_fair.cas, fairChoices_fair.clock, w_frames, w_args, w_heap, w_applies, trivial, trivial, w_case⟩
end start1
theorem witness_1 : WitnessClaimed_1 := ⟨start1.p0, start1.e0, start1.about1, start1.theMethod, start1.args0, start1.below0, start1.atStart⟩
end Jvm.Pilot.@@N@@
