import JvmDerived
import JvmDerived.Pilot.@@N@@Statement
import JvmDerived.Pilot.@@N@@Code
set_option linter.unusedVariables false
set_option linter.unusedSimpArgs false
namespace Jvm.RoadKit
open Sem ClassFile Op Lib Jvm.Stand Jvm.Free Jvm.LawKit
section New
variable {p : Program} {l : Launch} {e : Env} {R : Room} {s : State} {m : MethodId} {args : Array Value} {below : List Frame} {meth : Method} {c : Code} {T : State} {locs : List Loc} {cells slots : Nat}
theorem retI (X : Stand p l e R s m args below meth c T locs cells slots) (hx : p.tables.exec = Jvm.exec) {pc : Nat} {Ls : Array Slot} {z : Int32} {rest : List Value} (hret : meth.sig.returnType = some .int) (hd : decode c.code pc = .ok (.ireturn, 1)) {fs : List Frame}
    (hl : ∀ (f : JFrame) (acts : List Action), f.method = m → f.locked = none → f.entered = [] → (doReturn e (T.setTop f) acts (some (.int z))).1 = T.setFrames fs) : Steps p.tables e below (T.setTop (mkF m pc Ls (.int z :: rest))) (T.setFrames fs) := by
  have hm' : T.vm.method? m = some meth := X.method'
  have hn : narrow .int (.int z) = .int z := rfl
  show Steps p.tables e below (T.setTop { method := m, pc := pc, locals := Ls, stack := _ :: rest, locked := none }) _
  jvm_step X.here [X.here.top, hx, hd, hm', hret, hn]
  first | (intro acts; rw [hl _ acts rfl rfl rfl]) | rw [hl _ _ rfl rfl rfl]
  exact Steps.refl _
end New
end Jvm.RoadKit
namespace Jvm.Pilot.@@N@@
open Jvm Jvm.ClassFile Sem Op Lib Jvm.Free Jvm.Stand Jvm.LawKit Jvm.RoadKit Bundle Jvm.Pilot.@@N@@.Jvm.D
theorem own_oz {Z : State} {n0 : Nat} {h : Heap} (O : Old Z n0 h) : n0 ≤ h.size := by
  rw [← O.1]; exact O.2.1
theorem own_lsw {tb : Tables} [Ours tb] {e : Env} {below : List Frame} {T target : State} {m : MethodId} {c : Code} {g : JFrame} (h : At T m c below) (hx : tb.exec = Jvm.exec) (hg : g.method = m) {dflt : Int} {prs : Array (Int × Int)} {len : Nat} {o : Int} {pc0 pc' : Nat} (hpc : g.pc = pc0) (hd : decode c.code g.pc = .ok (.lookupswitch dflt prs, len)) {i : Int32} {rest : List Value} (hs : g.stack = .int i :: rest)
    (hsort : (prs.toList.zip (prs.toList.drop 1)).all (fun (a, next) => a.1 < next.1) = true) (hoff : lookupswitch.offset prs.toList dflt i.toInt = o) (ho : 0 ≤ (pc0 : Int) + o) (hp : ((pc0 : Int) + o).toNat = pc')
    (hr : Steps tb e below (T.setTop { g with pc := pc', stack := rest }) target) : Steps tb e below (T.setTop g) target := by
  subst hg hpc hp
  jvm_step h [h.top, hx, hd, hs, hoff, ho, lookupswitch.wp_chain]
  exact ⟨by simpa using hsort, hr⟩
section Nums
variable {x k : Int32} {n : Int}
theorem own_lt1 (hk : k.toInt = n) (h : x < k) : x.toInt < n := by rw [← hk]; exact Int32.lt_iff_toInt_lt.mp h
theorem own_lt2 (hk : k.toInt = n) (h : k < x) : n < x.toInt := by rw [← hk]; exact Int32.lt_iff_toInt_lt.mp h
theorem own_nlt1 (hk : k.toInt = n) (h : ¬ x < k) : n ≤ x.toInt := by rw [Int32.lt_iff_toInt_lt, hk] at h; omega
theorem own_nlt2 (hk : k.toInt = n) (h : ¬ k < x) : x.toInt ≤ n := by rw [Int32.lt_iff_toInt_lt, hk] at h; omega
theorem own_eq (hk : k.toInt = n) (h : x = k) : x.toInt = n := by rw [← hk, h]
theorem own_neq (hk : k.toInt = n) (h : ¬ x = k) : x.toInt ≠ n := fun q => h (Int32.toInt_inj.mp (by rw [hk, q]))
theorem own_glt1 (hk : k.toInt = n) (h : x.toInt < n) : x < k := Int32.lt_iff_toInt_lt.mpr (by rw [hk]; exact h)
theorem own_glt2 (hk : k.toInt = n) (h : n < x.toInt) : k < x := Int32.lt_iff_toInt_lt.mpr (by rw [hk]; exact h)
theorem own_gnlt1 (hk : k.toInt = n) (h : n ≤ x.toInt) : ¬ x < k := fun q => by have := own_lt1 hk q; omega
theorem own_gnlt2 (hk : k.toInt = n) (h : x.toInt ≤ n) : ¬ k < x := fun q => by have := own_lt2 hk q; omega
theorem own_geq (hk : k.toInt = n) (h : x.toInt = n) : x = k := Int32.toInt_inj.mp (by rw [hk, h])
theorem own_gneq (hk : k.toInt = n) (h : x.toInt ≠ n) : ¬ x = k := fun q => h (own_eq hk q)
theorem own_and (hk : k.toInt = n) (h0 : 0 ≤ n) : 0 ≤ (x &&& k).toInt ∧ (x &&& k).toInt ≤ n := by have := c_and x k (by rw [hk]; exact h0); rw [hk] at this; exact this
theorem own_and2 (hk : k.toInt = n) (h0 : 0 ≤ n) : 0 ≤ (k &&& x).toInt ∧ (k &&& x).toInt ≤ n := by have := c_and' k x (by rw [hk]; exact h0); rw [hk] at this; exact this
theorem own_rem (hk : k.toInt = n) (h0 : 0 < n) (hx : 0 ≤ x.toInt) : 0 ≤ (x % k).toInt ∧ (x % k).toInt < n ∧ (x % k).toInt ≤ x.toInt := by
  have := (c_iremV x k).1 hx (by rw [hk]; exact h0); rw [hk] at this; exact ⟨this.1, this.2.1, this.2.2.1⟩
theorem own_add {lo hi : Int} (hk : k.toInt = n) (hx : lo ≤ x.toInt ∧ x.toInt ≤ hi) (h1 : -2147483648 ≤ lo + n) (h2 : hi + n < 2147483648) : lo + n ≤ (x + k).toInt ∧ (x + k).toInt ≤ hi + n := by
  have := c_iadd x k; have := rng32 (x + k); rw [hk] at *; omega
theorem own_add2 {lo hi : Int} (hk : k.toInt = n) (hx : lo ≤ x.toInt ∧ x.toInt ≤ hi) (h1 : -2147483648 ≤ lo + n) (h2 : hi + n < 2147483648) : lo + n ≤ (k + x).toInt ∧ (k + x).toInt ≤ hi + n := by
  have := c_iadd k x; have := rng32 (k + x); rw [hk] at *; omega
end Nums
theorem own_len {Z : State} {args : Array Value} {t : Term} {a : Addr} {c : Cell} {ty : FieldType} {n : Int32} (A : Arr Z Z.heap a c ty) (ev : t.eval args Z none [] Z = some (.ref a)) (h : (Term.length t).eval args Z none [] Z = some (.int n)) : c.slots.size < 2 ^ 31 ∧ c.slots.size.toInt32 = n := by
  have q := A.fin (Vm.Alike.refl _)
  by_cases z : c.slots.size < 2 ^ 31
  · rw [len_f ev q z] at h; exact ⟨z, Value.int.inj (Option.some.inj h)⟩
  · simp [Term.eval, ev, q, z] at h
theorem own_selp {s : State} {args : Array Value} {y z : MethodName} {C : String} (w : (Cond.selects C z z).before args s = true) (hc : z.cls = y.cls) (hp : s.PrivateAt y) (hi : (Cond.instanceMethod y).before args s = true) (hy : y.cls ≠ "java/lang/invoke/MethodHandle" ∧ y.cls ≠ "java/lang/invoke/VarHandle") : (Cond.selects y.cls y y).before args s = true := by
  obtain ⟨c2, r2, m2, -, -, q3, -, kP, hkP, hkPi⟩ := Cond.selects_spec w
  exact selects_self_of_private (by rw [← hc]; exact findClass_of_methodNamed q3) hkP hkPi hp hi hy
theorem own_max64 (x : Int64) : ¬ (9223372036854775807 : Int64) < x := fun h => by have := rng64 x; rw [Int64.lt_iff_toInt_lt, show (9223372036854775807 : Int64).toInt = 9223372036854775807 by decide] at h; omega
theorem own_min64 (x : Int64) : ¬ x < (-9223372036854775808 : Int64) := fun h => by have := rng64 x; rw [Int64.lt_iff_toInt_lt, show (-9223372036854775808 : Int64).toInt = -9223372036854775808 by decide] at h; omega
theorem own_root {Z : State} {a0 : Array Value} {O K : String} {n : Nat} (w : (Cond.noSuperclass O).before a0 Z = true) (wk : (Cond.instantiable K n).before a0 Z = true) (hn : O ≠ K) : NS Z O K := by
  obtain ⟨c, k, h1, h2, h3, -, -⟩ := Cond.noSuperclass_spec w
  obtain ⟨t, kt, g1, -⟩ := Cond.instantiable_spec wk
  have ne := ids_ne h1 g1 hn
  refine ⟨c, t, h1, g1, fun fuel => ?_⟩
  cases fuel with
  | zero => rfl
  | succ f => simp [Vm.isSubclassAux, ne, h2, h3]
theorem own_no {Z : State} {a0 : Array Value} {C S K : String} {n : Nat} (w : (Cond.superclass C S).before a0 Z = true) (wk : (Cond.instantiable K n).before a0 Z = true) (q : NS Z C K) (hn : C ≠ K) : ∃ c t, Z.vm.findClass C = some c ∧ Z.vm.findClass K = some t ∧ Z.vm.assignable c t = false := by
  obtain ⟨c, t, h0, g0, n3⟩ := q
  obtain ⟨p, k, kp, h1, h2, h3, h4, h5, -, h7⟩ := Cond.superclass_spec h0 w
  obtain ⟨t', k', g1, g2, g3, g4, -⟩ := Cond.instantiable_spec wk
  cases g0.symm.trans g1
  have ne := ids_ne h0 g0 hn
  have g5 : k'.isInterface = false := by simp only [Bool.or_eq_false_iff] at g4; exact g4.1
  refine ⟨c, t, h0, g0, ?_⟩
  show Z.vm.assignableAux (255 + 1) c t = false
  simp [Vm.assignableAux, ne, h2, g2, h5, g3, g5, Vm.isSubclass, n3]
theorem own_eqR {Z : State} {args : Array Value} {a b : Term} {idx : List Nat} {w : Addr} (hb : b.eval args Z none idx Z = some (.ref w)) (h : (Cond.eq a b).value args Z none Z idx = some true) : a.eval args Z none idx Z = some (.ref w) := by
  simp only [Cond.value, hb] at h
  cases ht : a.eval args Z none idx Z with
  | none => simp [ht] at h
  | some x => cases x <;> simp [ht] at h ⊢; exact h
def GW (Z : State) (w1 : Addr) (w2 : Addr) (w3 : Addr) (w4 : Addr) (w5 : Addr) (w6 : Addr) (w7 : Addr) (w8 : Addr) (w9 : Addr) : Prop :=
  (Sta Z Z.heap "com/example/mycelia/mycelia/wire/Yields" "VALUES" "Lcom/example/mycelia/mycelia/wire/Yields;" (.ref w1))
  ∧ (Exa Z Z.heap w1 "com/example/mycelia/mycelia/wire/Yields")
  ∧ (Sta Z Z.heap "com/example/mycelia/mycelia/wire/Yields" "NODES" "Lcom/example/mycelia/mycelia/wire/Yields;" (.ref w2))
  ∧ (Exa Z Z.heap w2 "com/example/mycelia/mycelia/wire/Yields")
  ∧ (Sta Z Z.heap "com/example/mycelia/mycelia/wire/Yields" "PLACES" "Lcom/example/mycelia/mycelia/wire/Yields;" (.ref w3))
  ∧ (Exa Z Z.heap w3 "com/example/mycelia/mycelia/wire/Yields")
  ∧ (Sta Z Z.heap "com/example/mycelia/mycelia/wire/Yields" "COUNT" "Lcom/example/mycelia/mycelia/wire/Yields;" (.ref w4))
  ∧ (Exa Z Z.heap w4 "com/example/mycelia/mycelia/wire/Yields")
  ∧ (Sta Z Z.heap "com/example/mycelia/mycelia/wire/Yields" "MAX" "Lcom/example/mycelia/mycelia/wire/Yields;" (.ref w5))
  ∧ (Exa Z Z.heap w5 "com/example/mycelia/mycelia/wire/Yields")
  ∧ (Sta Z Z.heap "com/example/mycelia/mycelia/wire/Yields" "MIN" "Lcom/example/mycelia/mycelia/wire/Yields;" (.ref w6))
  ∧ (Exa Z Z.heap w6 "com/example/mycelia/mycelia/wire/Yields")
  ∧ (Sta Z Z.heap "com/example/mycelia/mycelia/wire/Yields" "DISTINCT" "Lcom/example/mycelia/mycelia/wire/Yields;" (.ref w7))
  ∧ (Exa Z Z.heap w7 "com/example/mycelia/mycelia/wire/Yields")
  ∧ (Sta Z Z.heap "com/example/mycelia/mycelia/wire/Yields" "DISTINCT_COUNT" "Lcom/example/mycelia/mycelia/wire/Yields;" (.ref w8))
  ∧ (Exa Z Z.heap w8 "com/example/mycelia/mycelia/wire/Yields")
  ∧ (Sta Z Z.heap "com/example/mycelia/mycelia/wire/Yields" "POSITION" "Lcom/example/mycelia/mycelia/wire/Yields;" (.ref w9))
  ∧ (Exa Z Z.heap w9 "com/example/mycelia/mycelia/wire/Yields")
  ∧ (Fld Z Z.heap w1 "java/lang/Enum" "ordinal" "I" (.int (0 : Int32)))
  ∧ (Fld Z Z.heap w4 "java/lang/Enum" "ordinal" "I" (.int (3 : Int32)))
  ∧ (Fld Z Z.heap w8 "java/lang/Enum" "ordinal" "I" (.int (7 : Int32)))
  ∧ (Fld Z Z.heap w5 "java/lang/Enum" "ordinal" "I" (.int (4 : Int32)))
  ∧ (Fld Z Z.heap w6 "java/lang/Enum" "ordinal" "I" (.int (5 : Int32)))
  ∧ (Fld Z Z.heap w7 "java/lang/Enum" "ordinal" "I" (.int (6 : Int32)))
  ∧ (Fld Z Z.heap w3 "java/lang/Enum" "ordinal" "I" (.int (2 : Int32)))
  ∧ (Fld Z Z.heap w2 "java/lang/Enum" "ordinal" "I" (.int (1 : Int32)))
  ∧ (Fld Z Z.heap w9 "java/lang/Enum" "ordinal" "I" (.int (8 : Int32)))
def Q0 (n0 : Nat) (v : Option Value) (h : Heap) (L : List Loc) : Prop := v = some (.int (1 : Int32)) ∧ Fr n0 L
theorem d0_0 : decode prog_24_method_6_code 0 = .ok (.aload_n 0, 1) := by decide +kernel
theorem d0_1 : decode prog_24_method_6_code 1 = .ok (.getstatic 13, 3) := by decide +kernel
theorem d0_4 : decode prog_24_method_6_code 4 = .ok (.if_acmp .eq 10, 3) := by decide +kernel
theorem d0_7 : decode prog_24_method_6_code 7 = .ok (.aload_n 0, 1) := by decide +kernel
theorem d0_8 : decode prog_24_method_6_code 8 = .ok (.getstatic 25, 3) := by decide +kernel
theorem d0_11 : decode prog_24_method_6_code 11 = .ok (.if_acmp .ne 7, 3) := by decide +kernel
theorem d0_18 : decode prog_24_method_6_code 18 = .ok (.iconst 0, 1) := by decide +kernel
theorem d0_19 : decode prog_24_method_6_code 19 = .ok (.ireturn, 1) := by decide +kernel
theorem pn0 : plainName "com/example/mycelia/mycelia/wire/Yields" = true := by first | (simp [plainName, overriddenIn]; done) | decide +kernel
theorem ef1 (m : MethodId) (x0 : Addr) : entryFrame m #[(.ref x0)] 1 = mkF m 0 #[.val (.ref x0)] [] := by first | (simp [entryFrame, mkF, argsToLocals, Value.category]; done) | rfl
def Q1 (Z : State) (w1 : Addr) (w2 : Addr) (w3 : Addr) (w4 : Addr) (w5 : Addr) (w6 : Addr) (w7 : Addr) (w8 : Addr) (w9 : Addr) (h0 : Heap) (n0 : Nat) (v : Option Value) (h : Heap) (L : List Loc) : Prop :=
  (v = some (.int (0 : Int32)) ∧ Fr n0 L ∧ h = h0)
set_option maxRecDepth 65536 in
set_option maxHeartbeats 40000000 in
theorem rm1 (l : Launch) (Z : State) (a0 : Array Value) (hw : ∀ d ∈ tables_1, d.before a0 Z = true) (w1 : Addr) (w2 : Addr) (w3 : Addr) (w4 : Addr) (w5 : Addr) (w6 : Addr) (w7 : Addr) (w8 : Addr) (w9 : Addr) (G : GW Z w1 w2 w3 w4 w5 w6 w7 w8 w9) (ws : List Jvm.Cond) (h0 : Heap) (n0 : Nat) (O0 : Old Z n0 h0) :
    MetFree l (⟨"com/example/mycelia/mycelia/wire/Yields", "answersCount", "()Z"⟩ : MethodName) (head1 (Jvm.Cond.code (⟨"com/example/mycelia/mycelia/wire/Yields", "answersCount", "()Z"⟩ : MethodName) prog_24_method_6_code 1 (some .boolean) :: ws) ({ frames := 0, cells := 0, slots := 0, locals := 0 } : Room)) (fun a U => a = #[(.ref w1)] ∧ Z.Warmed39 U.vm ∧ U.heap = h0) (fun _ _ _ _ _ => True) (fun _ U o U' => ∃ v L, o = .returned v ∧ Q1 Z w1 w2 w3 w4 w5 w6 w7 w8 w9 h0 n0 v U'.heap L ∧ FrameEnd U o U' L ({ frames := 0, cells := 0, slots := 0, locals := 0 } : Room).cells ({ frames := 0, cells := 0, slots := 0, locals := 0 } : Room).slots) := by
  obtain ⟨S_w1, E_w1, S_w2, E_w2, S_w3, E_w3, S_w4, E_w4, S_w5, E_w5, S_w6, E_w6, S_w7, E_w7, S_w8, E_w8, S_w9, E_w9, F_w1_ordinal, F_w4_ordinal, F_w8_ordinal, F_w5_ordinal, F_w6_ordinal, F_w7_ordinal, F_w3_ordinal, F_w2_ordinal, F_w9_ordinal⟩ := id G
  refine MetFree.of_bodySF (plainFor_of_name pn0) hisR ?_
  intro p e s m args below meth c s₁ Bd hml0 hP hK
  obtain ⟨rfl, hZ, hh⟩ := hP
  have hx := Bd.exec
  have hby := Bd.bytes
  have hml : c.maxLocals = 1 := hml0
  have hown : s.vm.findClass "com/example/mycelia/mycelia/wire/Yields" = some m.cls := findClass_of_methodNamed Bd.named
  have hnm := (name_of_methodNamed Bd.named Bd.method).1
  have hret := Bd.returns
  have hlk : meth.locks = false := BodyLoose.notSynchronized Bd
  have X0 : Stand p l e ({ frames := 0, cells := 0, slots := 0, locals := 0 } : Room) s m #[(.ref w1)] below meth c s₁ [] 0 0 := Stand.of_body Bd
  have e0 : s₁.heap = h0 := by rw [← hh, Bd.state]; rfl
  have N0 := Fr.nil n0
  have pre0 : ∀ t, Steps p.tables e below (s₁.setTop (mkF m 0 #[.val (.ref w1)] [])) t → Steps p.tables e below (s₁.setTop (entryFrame m #[(.ref w1)] 1)) t := fun t k => castTop (ef1 m w1) k
  obtain ⟨T1, X1, e1, st1⟩ := getS2 X0 hx hZ hown (host := "") (Or.inl (hw _ (List.mem_of_getElem? (i := 29) rfl))) Via.refl e0 (S_w4.ext O0.2) (g := (mkF m 1 #[.val (.ref w1)] [(.ref w1)])) rfl (hb hby d0_1)
  obtain ⟨T2, X2, e2, st2⟩ := getS2 X1 hx hZ hown (host := "") (Or.inl (hw _ (List.mem_of_getElem? (i := 30) rfl))) Via.refl e1 (S_w8.ext O0.2) (g := (mkF m 8 #[.val (.ref w1)] [(.ref w1)])) rfl (hb hby d0_8)
  obtain ⟨fs, hr, hrun, hended, hW, hsame⟩ := X2.leave (v := some (.int (0 : Int32))) (fun h => by rw [hret] at h; cases h)
  refine ⟨_, _, pre0 _ ?_, hrun, hended, _, _, rfl, ?_, ⟨_, rfl⟩, hW, hsame.mono (by decide) (by decide)⟩
  ·
    show Steps p.tables e below (s₁.setTop (mkF m 0 #[.val (.ref w1)] [])) _
    refine XS.aloadN X0.here hx rfl (hb hby d0_0) rfl rfl ?_
    show Steps p.tables e below (s₁.setTop (mkF m 1 #[.val (.ref w1)] [(.ref w1)])) _
    refine st1 _ ?_
    show Steps p.tables e below (T1.setTop (mkF m 4 #[.val (.ref w1)] [(.ref w4), (.ref w1)])) _
    refine Jvm.RoadKit.acmp (g := (mkF m 4 #[.val (.ref w1)] [(.ref w4), (.ref w1)])) X1 hx rfl rfl rfl (pc0 := 4) (pc' := 7) (same := false) rfl (hb hby d0_4) rfl (decide_eq_false fun q => (Fld.ne F_w1_ordinal F_w4_ordinal (by decide)) (Value.ref.inj q)) (by decide) (by decide) ?_
    show Steps p.tables e below (T1.setTop (mkF m 7 #[.val (.ref w1)] [])) _
    refine XS.aloadN X1.here hx rfl (hb hby d0_7) rfl rfl ?_
    show Steps p.tables e below (T1.setTop (mkF m 8 #[.val (.ref w1)] [(.ref w1)])) _
    refine st2 _ ?_
    show Steps p.tables e below (T2.setTop (mkF m 11 #[.val (.ref w1)] [(.ref w8), (.ref w1)])) _
    refine Jvm.RoadKit.acmp (g := (mkF m 11 #[.val (.ref w1)] [(.ref w8), (.ref w1)])) X2 hx rfl rfl rfl (pc0 := 11) (pc' := 18) (same := false) rfl (hb hby d0_11) rfl (decide_eq_false fun q => (Fld.ne F_w1_ordinal F_w8_ordinal (by decide)) (Value.ref.inj q)) (by decide) (by decide) ?_
    show Steps p.tables e below (T2.setTop (mkF m 18 #[.val (.ref w1)] [])) _
    refine XS.iconst X2.here hx rfl (hb hby d0_18) ?_
    show Steps p.tables e below (T2.setTop (mkF m 19 #[.val (.ref w1)] [(.int (0 : Int32))])) _
    exact retN X2 hx (t := .boolean) hret (by simp) (hb hby d0_19) hr
  ·
    show Q1 Z w1 w2 w3 w4 w5 w6 w7 w8 w9 h0 n0 _ T2.heap _
    rw [e2]
    exact ⟨rfl, N0, rfl⟩
theorem pd0 : parseMethodDescriptor "()Z" = some ⟨[], some .boolean⟩ := by decide +kernel
theorem ef2 (m : MethodId) (x0 : Addr) : entryFrame m #[(.ref x0)] 1 = mkF m 0 #[.val (.ref x0)] [] := by first | (simp [entryFrame, mkF, argsToLocals, Value.category]; done) | rfl
def Q2 (Z : State) (w1 : Addr) (w2 : Addr) (w3 : Addr) (w4 : Addr) (w5 : Addr) (w6 : Addr) (w7 : Addr) (w8 : Addr) (w9 : Addr) (h0 : Heap) (n0 : Nat) (v : Option Value) (h : Heap) (L : List Loc) : Prop :=
  (v = some (.int (0 : Int32)) ∧ Fr n0 L ∧ h = h0)
set_option maxRecDepth 65536 in
set_option maxHeartbeats 40000000 in
theorem rm2 (l : Launch) (Z : State) (a0 : Array Value) (hw : ∀ d ∈ tables_1, d.before a0 Z = true) (w1 : Addr) (w2 : Addr) (w3 : Addr) (w4 : Addr) (w5 : Addr) (w6 : Addr) (w7 : Addr) (w8 : Addr) (w9 : Addr) (G : GW Z w1 w2 w3 w4 w5 w6 w7 w8 w9) (ws : List Jvm.Cond) (h0 : Heap) (n0 : Nat) (O0 : Old Z n0 h0) :
    MetFree l (⟨"com/example/mycelia/mycelia/wire/Yields", "answersCount", "()Z"⟩ : MethodName) (head1 (Jvm.Cond.code (⟨"com/example/mycelia/mycelia/wire/Yields", "answersCount", "()Z"⟩ : MethodName) prog_24_method_6_code 1 (some .boolean) :: ws) ({ frames := 0, cells := 0, slots := 0, locals := 0 } : Room)) (fun a U => a = #[(.ref w2)] ∧ Z.Warmed39 U.vm ∧ U.heap = h0) (fun _ _ _ _ _ => True) (fun _ U o U' => ∃ v L, o = .returned v ∧ Q2 Z w1 w2 w3 w4 w5 w6 w7 w8 w9 h0 n0 v U'.heap L ∧ FrameEnd U o U' L ({ frames := 0, cells := 0, slots := 0, locals := 0 } : Room).cells ({ frames := 0, cells := 0, slots := 0, locals := 0 } : Room).slots) := by
  obtain ⟨S_w1, E_w1, S_w2, E_w2, S_w3, E_w3, S_w4, E_w4, S_w5, E_w5, S_w6, E_w6, S_w7, E_w7, S_w8, E_w8, S_w9, E_w9, F_w1_ordinal, F_w4_ordinal, F_w8_ordinal, F_w5_ordinal, F_w6_ordinal, F_w7_ordinal, F_w3_ordinal, F_w2_ordinal, F_w9_ordinal⟩ := id G
  refine MetFree.of_bodySF (plainFor_of_name pn0) hisR ?_
  intro p e s m args below meth c s₁ Bd hml0 hP hK
  obtain ⟨rfl, hZ, hh⟩ := hP
  have hx := Bd.exec
  have hby := Bd.bytes
  have hml : c.maxLocals = 1 := hml0
  have hown : s.vm.findClass "com/example/mycelia/mycelia/wire/Yields" = some m.cls := findClass_of_methodNamed Bd.named
  have hnm := (name_of_methodNamed Bd.named Bd.method).1
  have hret := Bd.returns
  have hlk : meth.locks = false := BodyLoose.notSynchronized Bd
  have X0 : Stand p l e ({ frames := 0, cells := 0, slots := 0, locals := 0 } : Room) s m #[(.ref w2)] below meth c s₁ [] 0 0 := Stand.of_body Bd
  have e0 : s₁.heap = h0 := by rw [← hh, Bd.state]; rfl
  have N0 := Fr.nil n0
  have pre0 : ∀ t, Steps p.tables e below (s₁.setTop (mkF m 0 #[.val (.ref w2)] [])) t → Steps p.tables e below (s₁.setTop (entryFrame m #[(.ref w2)] 1)) t := fun t k => castTop (ef2 m w2) k
  obtain ⟨T1, X1, e1, st1⟩ := getS2 X0 hx hZ hown (host := "") (Or.inl (hw _ (List.mem_of_getElem? (i := 29) rfl))) Via.refl e0 (S_w4.ext O0.2) (g := (mkF m 1 #[.val (.ref w2)] [(.ref w2)])) rfl (hb hby d0_1)
  obtain ⟨T2, X2, e2, st2⟩ := getS2 X1 hx hZ hown (host := "") (Or.inl (hw _ (List.mem_of_getElem? (i := 30) rfl))) Via.refl e1 (S_w8.ext O0.2) (g := (mkF m 8 #[.val (.ref w2)] [(.ref w2)])) rfl (hb hby d0_8)
  obtain ⟨fs, hr, hrun, hended, hW, hsame⟩ := X2.leave (v := some (.int (0 : Int32))) (fun h => by rw [hret] at h; cases h)
  refine ⟨_, _, pre0 _ ?_, hrun, hended, _, _, rfl, ?_, ⟨_, rfl⟩, hW, hsame.mono (by decide) (by decide)⟩
  ·
    show Steps p.tables e below (s₁.setTop (mkF m 0 #[.val (.ref w2)] [])) _
    refine XS.aloadN X0.here hx rfl (hb hby d0_0) rfl rfl ?_
    show Steps p.tables e below (s₁.setTop (mkF m 1 #[.val (.ref w2)] [(.ref w2)])) _
    refine st1 _ ?_
    show Steps p.tables e below (T1.setTop (mkF m 4 #[.val (.ref w2)] [(.ref w4), (.ref w2)])) _
    refine Jvm.RoadKit.acmp (g := (mkF m 4 #[.val (.ref w2)] [(.ref w4), (.ref w2)])) X1 hx rfl rfl rfl (pc0 := 4) (pc' := 7) (same := false) rfl (hb hby d0_4) rfl (decide_eq_false fun q => (Fld.ne F_w2_ordinal F_w4_ordinal (by decide)) (Value.ref.inj q)) (by decide) (by decide) ?_
    show Steps p.tables e below (T1.setTop (mkF m 7 #[.val (.ref w2)] [])) _
    refine XS.aloadN X1.here hx rfl (hb hby d0_7) rfl rfl ?_
    show Steps p.tables e below (T1.setTop (mkF m 8 #[.val (.ref w2)] [(.ref w2)])) _
    refine st2 _ ?_
    show Steps p.tables e below (T2.setTop (mkF m 11 #[.val (.ref w2)] [(.ref w8), (.ref w2)])) _
    refine Jvm.RoadKit.acmp (g := (mkF m 11 #[.val (.ref w2)] [(.ref w8), (.ref w2)])) X2 hx rfl rfl rfl (pc0 := 11) (pc' := 18) (same := false) rfl (hb hby d0_11) rfl (decide_eq_false fun q => (Fld.ne F_w2_ordinal F_w8_ordinal (by decide)) (Value.ref.inj q)) (by decide) (by decide) ?_
    show Steps p.tables e below (T2.setTop (mkF m 18 #[.val (.ref w2)] [])) _
    refine XS.iconst X2.here hx rfl (hb hby d0_18) ?_
    show Steps p.tables e below (T2.setTop (mkF m 19 #[.val (.ref w2)] [(.int (0 : Int32))])) _
    exact retN X2 hx (t := .boolean) hret (by simp) (hb hby d0_19) hr
  ·
    show Q2 Z w1 w2 w3 w4 w5 w6 w7 w8 w9 h0 n0 _ T2.heap _
    rw [e2]
    exact ⟨rfl, N0, rfl⟩
theorem ef3 (m : MethodId) (x0 : Addr) : entryFrame m #[(.ref x0)] 1 = mkF m 0 #[.val (.ref x0)] [] := by first | (simp [entryFrame, mkF, argsToLocals, Value.category]; done) | rfl
def Q3 (Z : State) (w1 : Addr) (w2 : Addr) (w3 : Addr) (w4 : Addr) (w5 : Addr) (w6 : Addr) (w7 : Addr) (w8 : Addr) (w9 : Addr) (h0 : Heap) (n0 : Nat) (v : Option Value) (h : Heap) (L : List Loc) : Prop :=
  (v = some (.int (0 : Int32)) ∧ Fr n0 L ∧ h = h0)
set_option maxRecDepth 65536 in
set_option maxHeartbeats 40000000 in
theorem rm3 (l : Launch) (Z : State) (a0 : Array Value) (hw : ∀ d ∈ tables_1, d.before a0 Z = true) (w1 : Addr) (w2 : Addr) (w3 : Addr) (w4 : Addr) (w5 : Addr) (w6 : Addr) (w7 : Addr) (w8 : Addr) (w9 : Addr) (G : GW Z w1 w2 w3 w4 w5 w6 w7 w8 w9) (ws : List Jvm.Cond) (h0 : Heap) (n0 : Nat) (O0 : Old Z n0 h0) :
    MetFree l (⟨"com/example/mycelia/mycelia/wire/Yields", "answersCount", "()Z"⟩ : MethodName) (head1 (Jvm.Cond.code (⟨"com/example/mycelia/mycelia/wire/Yields", "answersCount", "()Z"⟩ : MethodName) prog_24_method_6_code 1 (some .boolean) :: ws) ({ frames := 0, cells := 0, slots := 0, locals := 0 } : Room)) (fun a U => a = #[(.ref w3)] ∧ Z.Warmed39 U.vm ∧ U.heap = h0) (fun _ _ _ _ _ => True) (fun _ U o U' => ∃ v L, o = .returned v ∧ Q3 Z w1 w2 w3 w4 w5 w6 w7 w8 w9 h0 n0 v U'.heap L ∧ FrameEnd U o U' L ({ frames := 0, cells := 0, slots := 0, locals := 0 } : Room).cells ({ frames := 0, cells := 0, slots := 0, locals := 0 } : Room).slots) := by
  obtain ⟨S_w1, E_w1, S_w2, E_w2, S_w3, E_w3, S_w4, E_w4, S_w5, E_w5, S_w6, E_w6, S_w7, E_w7, S_w8, E_w8, S_w9, E_w9, F_w1_ordinal, F_w4_ordinal, F_w8_ordinal, F_w5_ordinal, F_w6_ordinal, F_w7_ordinal, F_w3_ordinal, F_w2_ordinal, F_w9_ordinal⟩ := id G
  refine MetFree.of_bodySF (plainFor_of_name pn0) hisR ?_
  intro p e s m args below meth c s₁ Bd hml0 hP hK
  obtain ⟨rfl, hZ, hh⟩ := hP
  have hx := Bd.exec
  have hby := Bd.bytes
  have hml : c.maxLocals = 1 := hml0
  have hown : s.vm.findClass "com/example/mycelia/mycelia/wire/Yields" = some m.cls := findClass_of_methodNamed Bd.named
  have hnm := (name_of_methodNamed Bd.named Bd.method).1
  have hret := Bd.returns
  have hlk : meth.locks = false := BodyLoose.notSynchronized Bd
  have X0 : Stand p l e ({ frames := 0, cells := 0, slots := 0, locals := 0 } : Room) s m #[(.ref w3)] below meth c s₁ [] 0 0 := Stand.of_body Bd
  have e0 : s₁.heap = h0 := by rw [← hh, Bd.state]; rfl
  have N0 := Fr.nil n0
  have pre0 : ∀ t, Steps p.tables e below (s₁.setTop (mkF m 0 #[.val (.ref w3)] [])) t → Steps p.tables e below (s₁.setTop (entryFrame m #[(.ref w3)] 1)) t := fun t k => castTop (ef3 m w3) k
  obtain ⟨T1, X1, e1, st1⟩ := getS2 X0 hx hZ hown (host := "") (Or.inl (hw _ (List.mem_of_getElem? (i := 29) rfl))) Via.refl e0 (S_w4.ext O0.2) (g := (mkF m 1 #[.val (.ref w3)] [(.ref w3)])) rfl (hb hby d0_1)
  obtain ⟨T2, X2, e2, st2⟩ := getS2 X1 hx hZ hown (host := "") (Or.inl (hw _ (List.mem_of_getElem? (i := 30) rfl))) Via.refl e1 (S_w8.ext O0.2) (g := (mkF m 8 #[.val (.ref w3)] [(.ref w3)])) rfl (hb hby d0_8)
  obtain ⟨fs, hr, hrun, hended, hW, hsame⟩ := X2.leave (v := some (.int (0 : Int32))) (fun h => by rw [hret] at h; cases h)
  refine ⟨_, _, pre0 _ ?_, hrun, hended, _, _, rfl, ?_, ⟨_, rfl⟩, hW, hsame.mono (by decide) (by decide)⟩
  ·
    show Steps p.tables e below (s₁.setTop (mkF m 0 #[.val (.ref w3)] [])) _
    refine XS.aloadN X0.here hx rfl (hb hby d0_0) rfl rfl ?_
    show Steps p.tables e below (s₁.setTop (mkF m 1 #[.val (.ref w3)] [(.ref w3)])) _
    refine st1 _ ?_
    show Steps p.tables e below (T1.setTop (mkF m 4 #[.val (.ref w3)] [(.ref w4), (.ref w3)])) _
    refine Jvm.RoadKit.acmp (g := (mkF m 4 #[.val (.ref w3)] [(.ref w4), (.ref w3)])) X1 hx rfl rfl rfl (pc0 := 4) (pc' := 7) (same := false) rfl (hb hby d0_4) rfl (decide_eq_false fun q => (Fld.ne F_w3_ordinal F_w4_ordinal (by decide)) (Value.ref.inj q)) (by decide) (by decide) ?_
    show Steps p.tables e below (T1.setTop (mkF m 7 #[.val (.ref w3)] [])) _
    refine XS.aloadN X1.here hx rfl (hb hby d0_7) rfl rfl ?_
    show Steps p.tables e below (T1.setTop (mkF m 8 #[.val (.ref w3)] [(.ref w3)])) _
    refine st2 _ ?_
    show Steps p.tables e below (T2.setTop (mkF m 11 #[.val (.ref w3)] [(.ref w8), (.ref w3)])) _
    refine Jvm.RoadKit.acmp (g := (mkF m 11 #[.val (.ref w3)] [(.ref w8), (.ref w3)])) X2 hx rfl rfl rfl (pc0 := 11) (pc' := 18) (same := false) rfl (hb hby d0_11) rfl (decide_eq_false fun q => (Fld.ne F_w3_ordinal F_w8_ordinal (by decide)) (Value.ref.inj q)) (by decide) (by decide) ?_
    show Steps p.tables e below (T2.setTop (mkF m 18 #[.val (.ref w3)] [])) _
    refine XS.iconst X2.here hx rfl (hb hby d0_18) ?_
    show Steps p.tables e below (T2.setTop (mkF m 19 #[.val (.ref w3)] [(.int (0 : Int32))])) _
    exact retN X2 hx (t := .boolean) hret (by simp) (hb hby d0_19) hr
  ·
    show Q3 Z w1 w2 w3 w4 w5 w6 w7 w8 w9 h0 n0 _ T2.heap _
    rw [e2]
    exact ⟨rfl, N0, rfl⟩
theorem d0_14 : decode prog_24_method_6_code 14 = .ok (.iconst 1, 1) := by decide +kernel
theorem d0_15 : decode prog_24_method_6_code 15 = .ok (.goto 4, 3) := by decide +kernel
theorem ef4 (m : MethodId) (x0 : Addr) : entryFrame m #[(.ref x0)] 1 = mkF m 0 #[.val (.ref x0)] [] := by first | (simp [entryFrame, mkF, argsToLocals, Value.category]; done) | rfl
def Q4 (Z : State) (w1 : Addr) (w2 : Addr) (w3 : Addr) (w4 : Addr) (w5 : Addr) (w6 : Addr) (w7 : Addr) (w8 : Addr) (w9 : Addr) (h0 : Heap) (n0 : Nat) (v : Option Value) (h : Heap) (L : List Loc) : Prop :=
  (v = some (.int (1 : Int32)) ∧ Fr n0 L ∧ h = h0)
set_option maxRecDepth 65536 in
set_option maxHeartbeats 40000000 in
theorem rm4 (l : Launch) (Z : State) (a0 : Array Value) (hw : ∀ d ∈ tables_1, d.before a0 Z = true) (w1 : Addr) (w2 : Addr) (w3 : Addr) (w4 : Addr) (w5 : Addr) (w6 : Addr) (w7 : Addr) (w8 : Addr) (w9 : Addr) (G : GW Z w1 w2 w3 w4 w5 w6 w7 w8 w9) (ws : List Jvm.Cond) (h0 : Heap) (n0 : Nat) (O0 : Old Z n0 h0) :
    MetFree l (⟨"com/example/mycelia/mycelia/wire/Yields", "answersCount", "()Z"⟩ : MethodName) (head1 (Jvm.Cond.code (⟨"com/example/mycelia/mycelia/wire/Yields", "answersCount", "()Z"⟩ : MethodName) prog_24_method_6_code 1 (some .boolean) :: ws) ({ frames := 0, cells := 0, slots := 0, locals := 0 } : Room)) (fun a U => a = #[(.ref w4)] ∧ Z.Warmed39 U.vm ∧ U.heap = h0) (fun _ _ _ _ _ => True) (fun _ U o U' => ∃ v L, o = .returned v ∧ Q4 Z w1 w2 w3 w4 w5 w6 w7 w8 w9 h0 n0 v U'.heap L ∧ FrameEnd U o U' L ({ frames := 0, cells := 0, slots := 0, locals := 0 } : Room).cells ({ frames := 0, cells := 0, slots := 0, locals := 0 } : Room).slots) := by
  obtain ⟨S_w1, E_w1, S_w2, E_w2, S_w3, E_w3, S_w4, E_w4, S_w5, E_w5, S_w6, E_w6, S_w7, E_w7, S_w8, E_w8, S_w9, E_w9, F_w1_ordinal, F_w4_ordinal, F_w8_ordinal, F_w5_ordinal, F_w6_ordinal, F_w7_ordinal, F_w3_ordinal, F_w2_ordinal, F_w9_ordinal⟩ := id G
  refine MetFree.of_bodySF (plainFor_of_name pn0) hisR ?_
  intro p e s m args below meth c s₁ Bd hml0 hP hK
  obtain ⟨rfl, hZ, hh⟩ := hP
  have hx := Bd.exec
  have hby := Bd.bytes
  have hml : c.maxLocals = 1 := hml0
  have hown : s.vm.findClass "com/example/mycelia/mycelia/wire/Yields" = some m.cls := findClass_of_methodNamed Bd.named
  have hnm := (name_of_methodNamed Bd.named Bd.method).1
  have hret := Bd.returns
  have hlk : meth.locks = false := BodyLoose.notSynchronized Bd
  have X0 : Stand p l e ({ frames := 0, cells := 0, slots := 0, locals := 0 } : Room) s m #[(.ref w4)] below meth c s₁ [] 0 0 := Stand.of_body Bd
  have e0 : s₁.heap = h0 := by rw [← hh, Bd.state]; rfl
  have N0 := Fr.nil n0
  have pre0 : ∀ t, Steps p.tables e below (s₁.setTop (mkF m 0 #[.val (.ref w4)] [])) t → Steps p.tables e below (s₁.setTop (entryFrame m #[(.ref w4)] 1)) t := fun t k => castTop (ef4 m w4) k
  obtain ⟨T1, X1, e1, st1⟩ := getS2 X0 hx hZ hown (host := "") (Or.inl (hw _ (List.mem_of_getElem? (i := 29) rfl))) Via.refl e0 (S_w4.ext O0.2) (g := (mkF m 1 #[.val (.ref w4)] [(.ref w4)])) rfl (hb hby d0_1)
  obtain ⟨fs, hr, hrun, hended, hW, hsame⟩ := X1.leave (v := some (.int (1 : Int32))) (fun h => by rw [hret] at h; cases h)
  refine ⟨_, _, pre0 _ ?_, hrun, hended, _, _, rfl, ?_, ⟨_, rfl⟩, hW, hsame.mono (by decide) (by decide)⟩
  ·
    show Steps p.tables e below (s₁.setTop (mkF m 0 #[.val (.ref w4)] [])) _
    refine XS.aloadN X0.here hx rfl (hb hby d0_0) rfl rfl ?_
    show Steps p.tables e below (s₁.setTop (mkF m 1 #[.val (.ref w4)] [(.ref w4)])) _
    refine st1 _ ?_
    show Steps p.tables e below (T1.setTop (mkF m 4 #[.val (.ref w4)] [(.ref w4), (.ref w4)])) _
    refine Jvm.RoadKit.acmp (g := (mkF m 4 #[.val (.ref w4)] [(.ref w4), (.ref w4)])) X1 hx rfl rfl rfl (pc0 := 4) (pc' := 14) (same := true) rfl (hb hby d0_4) rfl (decide_eq_true rfl) (by decide) (by decide) ?_
    show Steps p.tables e below (T1.setTop (mkF m 14 #[.val (.ref w4)] [])) _
    refine XS.iconst X1.here hx rfl (hb hby d0_14) ?_
    show Steps p.tables e below (T1.setTop (mkF m 15 #[.val (.ref w4)] [(.int (1 : Int32))])) _
    refine XS.goto X1.here hx rfl (pc0 := 15) (pc' := 19) rfl (hb hby d0_15) (by decide) (by decide) ?_
    show Steps p.tables e below (T1.setTop (mkF m 19 #[.val (.ref w4)] [(.int (1 : Int32))])) _
    exact retN X1 hx (t := .boolean) hret (by simp) (hb hby d0_19) hr
  ·
    show Q4 Z w1 w2 w3 w4 w5 w6 w7 w8 w9 h0 n0 _ T1.heap _
    rw [e1]
    exact ⟨rfl, N0, rfl⟩
theorem d1_0 : decode prog_24_method_5_code 0 = .ok (.aload_n 0, 1) := by decide +kernel
theorem d1_1 : decode prog_24_method_5_code 1 = .ok (.getstatic 3, 3) := by decide +kernel
theorem d1_4 : decode prog_24_method_5_code 4 = .ok (.if_acmp .eq 24, 3) := by decide +kernel
theorem d1_7 : decode prog_24_method_5_code 7 = .ok (.aload_n 0, 1) := by decide +kernel
theorem d1_8 : decode prog_24_method_5_code 8 = .ok (.getstatic 16, 3) := by decide +kernel
theorem d1_11 : decode prog_24_method_5_code 11 = .ok (.if_acmp .eq 17, 3) := by decide +kernel
theorem d1_14 : decode prog_24_method_5_code 14 = .ok (.aload_n 0, 1) := by decide +kernel
theorem d1_15 : decode prog_24_method_5_code 15 = .ok (.getstatic 19, 3) := by decide +kernel
theorem d1_18 : decode prog_24_method_5_code 18 = .ok (.if_acmp .eq 10, 3) := by decide +kernel
theorem d1_21 : decode prog_24_method_5_code 21 = .ok (.aload_n 0, 1) := by decide +kernel
theorem d1_22 : decode prog_24_method_5_code 22 = .ok (.getstatic 22, 3) := by decide +kernel
theorem d1_25 : decode prog_24_method_5_code 25 = .ok (.if_acmp .ne 7, 3) := by decide +kernel
theorem d1_32 : decode prog_24_method_5_code 32 = .ok (.iconst 0, 1) := by decide +kernel
theorem d1_33 : decode prog_24_method_5_code 33 = .ok (.ireturn, 1) := by decide +kernel
theorem ef5 (m : MethodId) (x0 : Addr) : entryFrame m #[(.ref x0)] 1 = mkF m 0 #[.val (.ref x0)] [] := by first | (simp [entryFrame, mkF, argsToLocals, Value.category]; done) | rfl
def Q5 (Z : State) (w1 : Addr) (w2 : Addr) (w3 : Addr) (w4 : Addr) (w5 : Addr) (w6 : Addr) (w7 : Addr) (w8 : Addr) (w9 : Addr) (h0 : Heap) (n0 : Nat) (v : Option Value) (h : Heap) (L : List Loc) : Prop :=
  (v = some (.int (0 : Int32)) ∧ Fr n0 L ∧ h = h0)
set_option maxRecDepth 65536 in
set_option maxHeartbeats 40000000 in
theorem rm5 (l : Launch) (Z : State) (a0 : Array Value) (hw : ∀ d ∈ tables_1, d.before a0 Z = true) (w1 : Addr) (w2 : Addr) (w3 : Addr) (w4 : Addr) (w5 : Addr) (w6 : Addr) (w7 : Addr) (w8 : Addr) (w9 : Addr) (G : GW Z w1 w2 w3 w4 w5 w6 w7 w8 w9) (ws : List Jvm.Cond) (h0 : Heap) (n0 : Nat) (O0 : Old Z n0 h0) :
    MetFree l (⟨"com/example/mycelia/mycelia/wire/Yields", "answersValues", "()Z"⟩ : MethodName) (head1 (Jvm.Cond.code (⟨"com/example/mycelia/mycelia/wire/Yields", "answersValues", "()Z"⟩ : MethodName) prog_24_method_5_code 1 (some .boolean) :: ws) ({ frames := 0, cells := 0, slots := 0, locals := 0 } : Room)) (fun a U => a = #[(.ref w4)] ∧ Z.Warmed39 U.vm ∧ U.heap = h0) (fun _ _ _ _ _ => True) (fun _ U o U' => ∃ v L, o = .returned v ∧ Q5 Z w1 w2 w3 w4 w5 w6 w7 w8 w9 h0 n0 v U'.heap L ∧ FrameEnd U o U' L ({ frames := 0, cells := 0, slots := 0, locals := 0 } : Room).cells ({ frames := 0, cells := 0, slots := 0, locals := 0 } : Room).slots) := by
  obtain ⟨S_w1, E_w1, S_w2, E_w2, S_w3, E_w3, S_w4, E_w4, S_w5, E_w5, S_w6, E_w6, S_w7, E_w7, S_w8, E_w8, S_w9, E_w9, F_w1_ordinal, F_w4_ordinal, F_w8_ordinal, F_w5_ordinal, F_w6_ordinal, F_w7_ordinal, F_w3_ordinal, F_w2_ordinal, F_w9_ordinal⟩ := id G
  refine MetFree.of_bodySF (plainFor_of_name pn0) hisR ?_
  intro p e s m args below meth c s₁ Bd hml0 hP hK
  obtain ⟨rfl, hZ, hh⟩ := hP
  have hx := Bd.exec
  have hby := Bd.bytes
  have hml : c.maxLocals = 1 := hml0
  have hown : s.vm.findClass "com/example/mycelia/mycelia/wire/Yields" = some m.cls := findClass_of_methodNamed Bd.named
  have hnm := (name_of_methodNamed Bd.named Bd.method).1
  have hret := Bd.returns
  have hlk : meth.locks = false := BodyLoose.notSynchronized Bd
  have X0 : Stand p l e ({ frames := 0, cells := 0, slots := 0, locals := 0 } : Room) s m #[(.ref w4)] below meth c s₁ [] 0 0 := Stand.of_body Bd
  have e0 : s₁.heap = h0 := by rw [← hh, Bd.state]; rfl
  have N0 := Fr.nil n0
  have pre0 : ∀ t, Steps p.tables e below (s₁.setTop (mkF m 0 #[.val (.ref w4)] [])) t → Steps p.tables e below (s₁.setTop (entryFrame m #[(.ref w4)] 1)) t := fun t k => castTop (ef5 m w4) k
  obtain ⟨T1, X1, e1, st1⟩ := getS2 X0 hx hZ hown (host := "") (Or.inl (hw _ (List.mem_of_getElem? (i := 36) rfl))) Via.refl e0 (S_w1.ext O0.2) (g := (mkF m 1 #[.val (.ref w4)] [(.ref w4)])) rfl (hb hby d1_1)
  obtain ⟨T2, X2, e2, st2⟩ := getS2 X1 hx hZ hown (host := "") (Or.inl (hw _ (List.mem_of_getElem? (i := 37) rfl))) Via.refl e1 (S_w5.ext O0.2) (g := (mkF m 8 #[.val (.ref w4)] [(.ref w4)])) rfl (hb hby d1_8)
  obtain ⟨T3, X3, e3, st3⟩ := getS2 X2 hx hZ hown (host := "") (Or.inl (hw _ (List.mem_of_getElem? (i := 38) rfl))) Via.refl e2 (S_w6.ext O0.2) (g := (mkF m 15 #[.val (.ref w4)] [(.ref w4)])) rfl (hb hby d1_15)
  obtain ⟨T4, X4, e4, st4⟩ := getS2 X3 hx hZ hown (host := "") (Or.inl (hw _ (List.mem_of_getElem? (i := 39) rfl))) Via.refl e3 (S_w7.ext O0.2) (g := (mkF m 22 #[.val (.ref w4)] [(.ref w4)])) rfl (hb hby d1_22)
  obtain ⟨fs, hr, hrun, hended, hW, hsame⟩ := X4.leave (v := some (.int (0 : Int32))) (fun h => by rw [hret] at h; cases h)
  refine ⟨_, _, pre0 _ ?_, hrun, hended, _, _, rfl, ?_, ⟨_, rfl⟩, hW, hsame.mono (by decide) (by decide)⟩
  ·
    show Steps p.tables e below (s₁.setTop (mkF m 0 #[.val (.ref w4)] [])) _
    refine XS.aloadN X0.here hx rfl (hb hby d1_0) rfl rfl ?_
    show Steps p.tables e below (s₁.setTop (mkF m 1 #[.val (.ref w4)] [(.ref w4)])) _
    refine st1 _ ?_
    show Steps p.tables e below (T1.setTop (mkF m 4 #[.val (.ref w4)] [(.ref w1), (.ref w4)])) _
    refine Jvm.RoadKit.acmp (g := (mkF m 4 #[.val (.ref w4)] [(.ref w1), (.ref w4)])) X1 hx rfl rfl rfl (pc0 := 4) (pc' := 7) (same := false) rfl (hb hby d1_4) rfl (decide_eq_false fun q => (Fld.ne F_w4_ordinal F_w1_ordinal (by decide)) (Value.ref.inj q)) (by decide) (by decide) ?_
    show Steps p.tables e below (T1.setTop (mkF m 7 #[.val (.ref w4)] [])) _
    refine XS.aloadN X1.here hx rfl (hb hby d1_7) rfl rfl ?_
    show Steps p.tables e below (T1.setTop (mkF m 8 #[.val (.ref w4)] [(.ref w4)])) _
    refine st2 _ ?_
    show Steps p.tables e below (T2.setTop (mkF m 11 #[.val (.ref w4)] [(.ref w5), (.ref w4)])) _
    refine Jvm.RoadKit.acmp (g := (mkF m 11 #[.val (.ref w4)] [(.ref w5), (.ref w4)])) X2 hx rfl rfl rfl (pc0 := 11) (pc' := 14) (same := false) rfl (hb hby d1_11) rfl (decide_eq_false fun q => (Fld.ne F_w4_ordinal F_w5_ordinal (by decide)) (Value.ref.inj q)) (by decide) (by decide) ?_
    show Steps p.tables e below (T2.setTop (mkF m 14 #[.val (.ref w4)] [])) _
    refine XS.aloadN X2.here hx rfl (hb hby d1_14) rfl rfl ?_
    show Steps p.tables e below (T2.setTop (mkF m 15 #[.val (.ref w4)] [(.ref w4)])) _
    refine st3 _ ?_
    show Steps p.tables e below (T3.setTop (mkF m 18 #[.val (.ref w4)] [(.ref w6), (.ref w4)])) _
    refine Jvm.RoadKit.acmp (g := (mkF m 18 #[.val (.ref w4)] [(.ref w6), (.ref w4)])) X3 hx rfl rfl rfl (pc0 := 18) (pc' := 21) (same := false) rfl (hb hby d1_18) rfl (decide_eq_false fun q => (Fld.ne F_w4_ordinal F_w6_ordinal (by decide)) (Value.ref.inj q)) (by decide) (by decide) ?_
    show Steps p.tables e below (T3.setTop (mkF m 21 #[.val (.ref w4)] [])) _
    refine XS.aloadN X3.here hx rfl (hb hby d1_21) rfl rfl ?_
    show Steps p.tables e below (T3.setTop (mkF m 22 #[.val (.ref w4)] [(.ref w4)])) _
    refine st4 _ ?_
    show Steps p.tables e below (T4.setTop (mkF m 25 #[.val (.ref w4)] [(.ref w7), (.ref w4)])) _
    refine Jvm.RoadKit.acmp (g := (mkF m 25 #[.val (.ref w4)] [(.ref w7), (.ref w4)])) X4 hx rfl rfl rfl (pc0 := 25) (pc' := 32) (same := false) rfl (hb hby d1_25) rfl (decide_eq_false fun q => (Fld.ne F_w4_ordinal F_w7_ordinal (by decide)) (Value.ref.inj q)) (by decide) (by decide) ?_
    show Steps p.tables e below (T4.setTop (mkF m 32 #[.val (.ref w4)] [])) _
    refine XS.iconst X4.here hx rfl (hb hby d1_32) ?_
    show Steps p.tables e below (T4.setTop (mkF m 33 #[.val (.ref w4)] [(.int (0 : Int32))])) _
    exact retN X4 hx (t := .boolean) hret (by simp) (hb hby d1_33) hr
  ·
    show Q5 Z w1 w2 w3 w4 w5 w6 w7 w8 w9 h0 n0 _ T4.heap _
    rw [e4]
    exact ⟨rfl, N0, rfl⟩
theorem ef6 (m : MethodId) (x0 : Addr) : entryFrame m #[(.ref x0)] 1 = mkF m 0 #[.val (.ref x0)] [] := by first | (simp [entryFrame, mkF, argsToLocals, Value.category]; done) | rfl
def Q6 (Z : State) (w1 : Addr) (w2 : Addr) (w3 : Addr) (w4 : Addr) (w5 : Addr) (w6 : Addr) (w7 : Addr) (w8 : Addr) (w9 : Addr) (h0 : Heap) (n0 : Nat) (v : Option Value) (h : Heap) (L : List Loc) : Prop :=
  (v = some (.int (0 : Int32)) ∧ Fr n0 L ∧ h = h0)
set_option maxRecDepth 65536 in
set_option maxHeartbeats 40000000 in
theorem rm6 (l : Launch) (Z : State) (a0 : Array Value) (hw : ∀ d ∈ tables_1, d.before a0 Z = true) (w1 : Addr) (w2 : Addr) (w3 : Addr) (w4 : Addr) (w5 : Addr) (w6 : Addr) (w7 : Addr) (w8 : Addr) (w9 : Addr) (G : GW Z w1 w2 w3 w4 w5 w6 w7 w8 w9) (ws : List Jvm.Cond) (h0 : Heap) (n0 : Nat) (O0 : Old Z n0 h0) :
    MetFree l (⟨"com/example/mycelia/mycelia/wire/Yields", "answersCount", "()Z"⟩ : MethodName) (head1 (Jvm.Cond.code (⟨"com/example/mycelia/mycelia/wire/Yields", "answersCount", "()Z"⟩ : MethodName) prog_24_method_6_code 1 (some .boolean) :: ws) ({ frames := 0, cells := 0, slots := 0, locals := 0 } : Room)) (fun a U => a = #[(.ref w5)] ∧ Z.Warmed39 U.vm ∧ U.heap = h0) (fun _ _ _ _ _ => True) (fun _ U o U' => ∃ v L, o = .returned v ∧ Q6 Z w1 w2 w3 w4 w5 w6 w7 w8 w9 h0 n0 v U'.heap L ∧ FrameEnd U o U' L ({ frames := 0, cells := 0, slots := 0, locals := 0 } : Room).cells ({ frames := 0, cells := 0, slots := 0, locals := 0 } : Room).slots) := by
  obtain ⟨S_w1, E_w1, S_w2, E_w2, S_w3, E_w3, S_w4, E_w4, S_w5, E_w5, S_w6, E_w6, S_w7, E_w7, S_w8, E_w8, S_w9, E_w9, F_w1_ordinal, F_w4_ordinal, F_w8_ordinal, F_w5_ordinal, F_w6_ordinal, F_w7_ordinal, F_w3_ordinal, F_w2_ordinal, F_w9_ordinal⟩ := id G
  refine MetFree.of_bodySF (plainFor_of_name pn0) hisR ?_
  intro p e s m args below meth c s₁ Bd hml0 hP hK
  obtain ⟨rfl, hZ, hh⟩ := hP
  have hx := Bd.exec
  have hby := Bd.bytes
  have hml : c.maxLocals = 1 := hml0
  have hown : s.vm.findClass "com/example/mycelia/mycelia/wire/Yields" = some m.cls := findClass_of_methodNamed Bd.named
  have hnm := (name_of_methodNamed Bd.named Bd.method).1
  have hret := Bd.returns
  have hlk : meth.locks = false := BodyLoose.notSynchronized Bd
  have X0 : Stand p l e ({ frames := 0, cells := 0, slots := 0, locals := 0 } : Room) s m #[(.ref w5)] below meth c s₁ [] 0 0 := Stand.of_body Bd
  have e0 : s₁.heap = h0 := by rw [← hh, Bd.state]; rfl
  have N0 := Fr.nil n0
  have pre0 : ∀ t, Steps p.tables e below (s₁.setTop (mkF m 0 #[.val (.ref w5)] [])) t → Steps p.tables e below (s₁.setTop (entryFrame m #[(.ref w5)] 1)) t := fun t k => castTop (ef6 m w5) k
  obtain ⟨T1, X1, e1, st1⟩ := getS2 X0 hx hZ hown (host := "") (Or.inl (hw _ (List.mem_of_getElem? (i := 29) rfl))) Via.refl e0 (S_w4.ext O0.2) (g := (mkF m 1 #[.val (.ref w5)] [(.ref w5)])) rfl (hb hby d0_1)
  obtain ⟨T2, X2, e2, st2⟩ := getS2 X1 hx hZ hown (host := "") (Or.inl (hw _ (List.mem_of_getElem? (i := 30) rfl))) Via.refl e1 (S_w8.ext O0.2) (g := (mkF m 8 #[.val (.ref w5)] [(.ref w5)])) rfl (hb hby d0_8)
  obtain ⟨fs, hr, hrun, hended, hW, hsame⟩ := X2.leave (v := some (.int (0 : Int32))) (fun h => by rw [hret] at h; cases h)
  refine ⟨_, _, pre0 _ ?_, hrun, hended, _, _, rfl, ?_, ⟨_, rfl⟩, hW, hsame.mono (by decide) (by decide)⟩
  ·
    show Steps p.tables e below (s₁.setTop (mkF m 0 #[.val (.ref w5)] [])) _
    refine XS.aloadN X0.here hx rfl (hb hby d0_0) rfl rfl ?_
    show Steps p.tables e below (s₁.setTop (mkF m 1 #[.val (.ref w5)] [(.ref w5)])) _
    refine st1 _ ?_
    show Steps p.tables e below (T1.setTop (mkF m 4 #[.val (.ref w5)] [(.ref w4), (.ref w5)])) _
    refine Jvm.RoadKit.acmp (g := (mkF m 4 #[.val (.ref w5)] [(.ref w4), (.ref w5)])) X1 hx rfl rfl rfl (pc0 := 4) (pc' := 7) (same := false) rfl (hb hby d0_4) rfl (decide_eq_false fun q => (Fld.ne F_w5_ordinal F_w4_ordinal (by decide)) (Value.ref.inj q)) (by decide) (by decide) ?_
    show Steps p.tables e below (T1.setTop (mkF m 7 #[.val (.ref w5)] [])) _
    refine XS.aloadN X1.here hx rfl (hb hby d0_7) rfl rfl ?_
    show Steps p.tables e below (T1.setTop (mkF m 8 #[.val (.ref w5)] [(.ref w5)])) _
    refine st2 _ ?_
    show Steps p.tables e below (T2.setTop (mkF m 11 #[.val (.ref w5)] [(.ref w8), (.ref w5)])) _
    refine Jvm.RoadKit.acmp (g := (mkF m 11 #[.val (.ref w5)] [(.ref w8), (.ref w5)])) X2 hx rfl rfl rfl (pc0 := 11) (pc' := 18) (same := false) rfl (hb hby d0_11) rfl (decide_eq_false fun q => (Fld.ne F_w5_ordinal F_w8_ordinal (by decide)) (Value.ref.inj q)) (by decide) (by decide) ?_
    show Steps p.tables e below (T2.setTop (mkF m 18 #[.val (.ref w5)] [])) _
    refine XS.iconst X2.here hx rfl (hb hby d0_18) ?_
    show Steps p.tables e below (T2.setTop (mkF m 19 #[.val (.ref w5)] [(.int (0 : Int32))])) _
    exact retN X2 hx (t := .boolean) hret (by simp) (hb hby d0_19) hr
  ·
    show Q6 Z w1 w2 w3 w4 w5 w6 w7 w8 w9 h0 n0 _ T2.heap _
    rw [e2]
    exact ⟨rfl, N0, rfl⟩
theorem ef7 (m : MethodId) (x0 : Addr) : entryFrame m #[(.ref x0)] 1 = mkF m 0 #[.val (.ref x0)] [] := by first | (simp [entryFrame, mkF, argsToLocals, Value.category]; done) | rfl
def Q7 (Z : State) (w1 : Addr) (w2 : Addr) (w3 : Addr) (w4 : Addr) (w5 : Addr) (w6 : Addr) (w7 : Addr) (w8 : Addr) (w9 : Addr) (h0 : Heap) (n0 : Nat) (v : Option Value) (h : Heap) (L : List Loc) : Prop :=
  (v = some (.int (0 : Int32)) ∧ Fr n0 L ∧ h = h0)
set_option maxRecDepth 65536 in
set_option maxHeartbeats 40000000 in
theorem rm7 (l : Launch) (Z : State) (a0 : Array Value) (hw : ∀ d ∈ tables_1, d.before a0 Z = true) (w1 : Addr) (w2 : Addr) (w3 : Addr) (w4 : Addr) (w5 : Addr) (w6 : Addr) (w7 : Addr) (w8 : Addr) (w9 : Addr) (G : GW Z w1 w2 w3 w4 w5 w6 w7 w8 w9) (ws : List Jvm.Cond) (h0 : Heap) (n0 : Nat) (O0 : Old Z n0 h0) :
    MetFree l (⟨"com/example/mycelia/mycelia/wire/Yields", "answersCount", "()Z"⟩ : MethodName) (head1 (Jvm.Cond.code (⟨"com/example/mycelia/mycelia/wire/Yields", "answersCount", "()Z"⟩ : MethodName) prog_24_method_6_code 1 (some .boolean) :: ws) ({ frames := 0, cells := 0, slots := 0, locals := 0 } : Room)) (fun a U => a = #[(.ref w6)] ∧ Z.Warmed39 U.vm ∧ U.heap = h0) (fun _ _ _ _ _ => True) (fun _ U o U' => ∃ v L, o = .returned v ∧ Q7 Z w1 w2 w3 w4 w5 w6 w7 w8 w9 h0 n0 v U'.heap L ∧ FrameEnd U o U' L ({ frames := 0, cells := 0, slots := 0, locals := 0 } : Room).cells ({ frames := 0, cells := 0, slots := 0, locals := 0 } : Room).slots) := by
  obtain ⟨S_w1, E_w1, S_w2, E_w2, S_w3, E_w3, S_w4, E_w4, S_w5, E_w5, S_w6, E_w6, S_w7, E_w7, S_w8, E_w8, S_w9, E_w9, F_w1_ordinal, F_w4_ordinal, F_w8_ordinal, F_w5_ordinal, F_w6_ordinal, F_w7_ordinal, F_w3_ordinal, F_w2_ordinal, F_w9_ordinal⟩ := id G
  refine MetFree.of_bodySF (plainFor_of_name pn0) hisR ?_
  intro p e s m args below meth c s₁ Bd hml0 hP hK
  obtain ⟨rfl, hZ, hh⟩ := hP
  have hx := Bd.exec
  have hby := Bd.bytes
  have hml : c.maxLocals = 1 := hml0
  have hown : s.vm.findClass "com/example/mycelia/mycelia/wire/Yields" = some m.cls := findClass_of_methodNamed Bd.named
  have hnm := (name_of_methodNamed Bd.named Bd.method).1
  have hret := Bd.returns
  have hlk : meth.locks = false := BodyLoose.notSynchronized Bd
  have X0 : Stand p l e ({ frames := 0, cells := 0, slots := 0, locals := 0 } : Room) s m #[(.ref w6)] below meth c s₁ [] 0 0 := Stand.of_body Bd
  have e0 : s₁.heap = h0 := by rw [← hh, Bd.state]; rfl
  have N0 := Fr.nil n0
  have pre0 : ∀ t, Steps p.tables e below (s₁.setTop (mkF m 0 #[.val (.ref w6)] [])) t → Steps p.tables e below (s₁.setTop (entryFrame m #[(.ref w6)] 1)) t := fun t k => castTop (ef7 m w6) k
  obtain ⟨T1, X1, e1, st1⟩ := getS2 X0 hx hZ hown (host := "") (Or.inl (hw _ (List.mem_of_getElem? (i := 29) rfl))) Via.refl e0 (S_w4.ext O0.2) (g := (mkF m 1 #[.val (.ref w6)] [(.ref w6)])) rfl (hb hby d0_1)
  obtain ⟨T2, X2, e2, st2⟩ := getS2 X1 hx hZ hown (host := "") (Or.inl (hw _ (List.mem_of_getElem? (i := 30) rfl))) Via.refl e1 (S_w8.ext O0.2) (g := (mkF m 8 #[.val (.ref w6)] [(.ref w6)])) rfl (hb hby d0_8)
  obtain ⟨fs, hr, hrun, hended, hW, hsame⟩ := X2.leave (v := some (.int (0 : Int32))) (fun h => by rw [hret] at h; cases h)
  refine ⟨_, _, pre0 _ ?_, hrun, hended, _, _, rfl, ?_, ⟨_, rfl⟩, hW, hsame.mono (by decide) (by decide)⟩
  ·
    show Steps p.tables e below (s₁.setTop (mkF m 0 #[.val (.ref w6)] [])) _
    refine XS.aloadN X0.here hx rfl (hb hby d0_0) rfl rfl ?_
    show Steps p.tables e below (s₁.setTop (mkF m 1 #[.val (.ref w6)] [(.ref w6)])) _
    refine st1 _ ?_
    show Steps p.tables e below (T1.setTop (mkF m 4 #[.val (.ref w6)] [(.ref w4), (.ref w6)])) _
    refine Jvm.RoadKit.acmp (g := (mkF m 4 #[.val (.ref w6)] [(.ref w4), (.ref w6)])) X1 hx rfl rfl rfl (pc0 := 4) (pc' := 7) (same := false) rfl (hb hby d0_4) rfl (decide_eq_false fun q => (Fld.ne F_w6_ordinal F_w4_ordinal (by decide)) (Value.ref.inj q)) (by decide) (by decide) ?_
    show Steps p.tables e below (T1.setTop (mkF m 7 #[.val (.ref w6)] [])) _
    refine XS.aloadN X1.here hx rfl (hb hby d0_7) rfl rfl ?_
    show Steps p.tables e below (T1.setTop (mkF m 8 #[.val (.ref w6)] [(.ref w6)])) _
    refine st2 _ ?_
    show Steps p.tables e below (T2.setTop (mkF m 11 #[.val (.ref w6)] [(.ref w8), (.ref w6)])) _
    refine Jvm.RoadKit.acmp (g := (mkF m 11 #[.val (.ref w6)] [(.ref w8), (.ref w6)])) X2 hx rfl rfl rfl (pc0 := 11) (pc' := 18) (same := false) rfl (hb hby d0_11) rfl (decide_eq_false fun q => (Fld.ne F_w6_ordinal F_w8_ordinal (by decide)) (Value.ref.inj q)) (by decide) (by decide) ?_
    show Steps p.tables e below (T2.setTop (mkF m 18 #[.val (.ref w6)] [])) _
    refine XS.iconst X2.here hx rfl (hb hby d0_18) ?_
    show Steps p.tables e below (T2.setTop (mkF m 19 #[.val (.ref w6)] [(.int (0 : Int32))])) _
    exact retN X2 hx (t := .boolean) hret (by simp) (hb hby d0_19) hr
  ·
    show Q7 Z w1 w2 w3 w4 w5 w6 w7 w8 w9 h0 n0 _ T2.heap _
    rw [e2]
    exact ⟨rfl, N0, rfl⟩
theorem ef8 (m : MethodId) (x0 : Addr) : entryFrame m #[(.ref x0)] 1 = mkF m 0 #[.val (.ref x0)] [] := by first | (simp [entryFrame, mkF, argsToLocals, Value.category]; done) | rfl
def Q8 (Z : State) (w1 : Addr) (w2 : Addr) (w3 : Addr) (w4 : Addr) (w5 : Addr) (w6 : Addr) (w7 : Addr) (w8 : Addr) (w9 : Addr) (h0 : Heap) (n0 : Nat) (v : Option Value) (h : Heap) (L : List Loc) : Prop :=
  (v = some (.int (0 : Int32)) ∧ Fr n0 L ∧ h = h0)
set_option maxRecDepth 65536 in
set_option maxHeartbeats 40000000 in
theorem rm8 (l : Launch) (Z : State) (a0 : Array Value) (hw : ∀ d ∈ tables_1, d.before a0 Z = true) (w1 : Addr) (w2 : Addr) (w3 : Addr) (w4 : Addr) (w5 : Addr) (w6 : Addr) (w7 : Addr) (w8 : Addr) (w9 : Addr) (G : GW Z w1 w2 w3 w4 w5 w6 w7 w8 w9) (ws : List Jvm.Cond) (h0 : Heap) (n0 : Nat) (O0 : Old Z n0 h0) :
    MetFree l (⟨"com/example/mycelia/mycelia/wire/Yields", "answersCount", "()Z"⟩ : MethodName) (head1 (Jvm.Cond.code (⟨"com/example/mycelia/mycelia/wire/Yields", "answersCount", "()Z"⟩ : MethodName) prog_24_method_6_code 1 (some .boolean) :: ws) ({ frames := 0, cells := 0, slots := 0, locals := 0 } : Room)) (fun a U => a = #[(.ref w7)] ∧ Z.Warmed39 U.vm ∧ U.heap = h0) (fun _ _ _ _ _ => True) (fun _ U o U' => ∃ v L, o = .returned v ∧ Q8 Z w1 w2 w3 w4 w5 w6 w7 w8 w9 h0 n0 v U'.heap L ∧ FrameEnd U o U' L ({ frames := 0, cells := 0, slots := 0, locals := 0 } : Room).cells ({ frames := 0, cells := 0, slots := 0, locals := 0 } : Room).slots) := by
  obtain ⟨S_w1, E_w1, S_w2, E_w2, S_w3, E_w3, S_w4, E_w4, S_w5, E_w5, S_w6, E_w6, S_w7, E_w7, S_w8, E_w8, S_w9, E_w9, F_w1_ordinal, F_w4_ordinal, F_w8_ordinal, F_w5_ordinal, F_w6_ordinal, F_w7_ordinal, F_w3_ordinal, F_w2_ordinal, F_w9_ordinal⟩ := id G
  refine MetFree.of_bodySF (plainFor_of_name pn0) hisR ?_
  intro p e s m args below meth c s₁ Bd hml0 hP hK
  obtain ⟨rfl, hZ, hh⟩ := hP
  have hx := Bd.exec
  have hby := Bd.bytes
  have hml : c.maxLocals = 1 := hml0
  have hown : s.vm.findClass "com/example/mycelia/mycelia/wire/Yields" = some m.cls := findClass_of_methodNamed Bd.named
  have hnm := (name_of_methodNamed Bd.named Bd.method).1
  have hret := Bd.returns
  have hlk : meth.locks = false := BodyLoose.notSynchronized Bd
  have X0 : Stand p l e ({ frames := 0, cells := 0, slots := 0, locals := 0 } : Room) s m #[(.ref w7)] below meth c s₁ [] 0 0 := Stand.of_body Bd
  have e0 : s₁.heap = h0 := by rw [← hh, Bd.state]; rfl
  have N0 := Fr.nil n0
  have pre0 : ∀ t, Steps p.tables e below (s₁.setTop (mkF m 0 #[.val (.ref w7)] [])) t → Steps p.tables e below (s₁.setTop (entryFrame m #[(.ref w7)] 1)) t := fun t k => castTop (ef8 m w7) k
  obtain ⟨T1, X1, e1, st1⟩ := getS2 X0 hx hZ hown (host := "") (Or.inl (hw _ (List.mem_of_getElem? (i := 29) rfl))) Via.refl e0 (S_w4.ext O0.2) (g := (mkF m 1 #[.val (.ref w7)] [(.ref w7)])) rfl (hb hby d0_1)
  obtain ⟨T2, X2, e2, st2⟩ := getS2 X1 hx hZ hown (host := "") (Or.inl (hw _ (List.mem_of_getElem? (i := 30) rfl))) Via.refl e1 (S_w8.ext O0.2) (g := (mkF m 8 #[.val (.ref w7)] [(.ref w7)])) rfl (hb hby d0_8)
  obtain ⟨fs, hr, hrun, hended, hW, hsame⟩ := X2.leave (v := some (.int (0 : Int32))) (fun h => by rw [hret] at h; cases h)
  refine ⟨_, _, pre0 _ ?_, hrun, hended, _, _, rfl, ?_, ⟨_, rfl⟩, hW, hsame.mono (by decide) (by decide)⟩
  ·
    show Steps p.tables e below (s₁.setTop (mkF m 0 #[.val (.ref w7)] [])) _
    refine XS.aloadN X0.here hx rfl (hb hby d0_0) rfl rfl ?_
    show Steps p.tables e below (s₁.setTop (mkF m 1 #[.val (.ref w7)] [(.ref w7)])) _
    refine st1 _ ?_
    show Steps p.tables e below (T1.setTop (mkF m 4 #[.val (.ref w7)] [(.ref w4), (.ref w7)])) _
    refine Jvm.RoadKit.acmp (g := (mkF m 4 #[.val (.ref w7)] [(.ref w4), (.ref w7)])) X1 hx rfl rfl rfl (pc0 := 4) (pc' := 7) (same := false) rfl (hb hby d0_4) rfl (decide_eq_false fun q => (Fld.ne F_w7_ordinal F_w4_ordinal (by decide)) (Value.ref.inj q)) (by decide) (by decide) ?_
    show Steps p.tables e below (T1.setTop (mkF m 7 #[.val (.ref w7)] [])) _
    refine XS.aloadN X1.here hx rfl (hb hby d0_7) rfl rfl ?_
    show Steps p.tables e below (T1.setTop (mkF m 8 #[.val (.ref w7)] [(.ref w7)])) _
    refine st2 _ ?_
    show Steps p.tables e below (T2.setTop (mkF m 11 #[.val (.ref w7)] [(.ref w8), (.ref w7)])) _
    refine Jvm.RoadKit.acmp (g := (mkF m 11 #[.val (.ref w7)] [(.ref w8), (.ref w7)])) X2 hx rfl rfl rfl (pc0 := 11) (pc' := 18) (same := false) rfl (hb hby d0_11) rfl (decide_eq_false fun q => (Fld.ne F_w7_ordinal F_w8_ordinal (by decide)) (Value.ref.inj q)) (by decide) (by decide) ?_
    show Steps p.tables e below (T2.setTop (mkF m 18 #[.val (.ref w7)] [])) _
    refine XS.iconst X2.here hx rfl (hb hby d0_18) ?_
    show Steps p.tables e below (T2.setTop (mkF m 19 #[.val (.ref w7)] [(.int (0 : Int32))])) _
    exact retN X2 hx (t := .boolean) hret (by simp) (hb hby d0_19) hr
  ·
    show Q8 Z w1 w2 w3 w4 w5 w6 w7 w8 w9 h0 n0 _ T2.heap _
    rw [e2]
    exact ⟨rfl, N0, rfl⟩
theorem ef9 (m : MethodId) (x0 : Addr) : entryFrame m #[(.ref x0)] 1 = mkF m 0 #[.val (.ref x0)] [] := by first | (simp [entryFrame, mkF, argsToLocals, Value.category]; done) | rfl
def Q9 (Z : State) (w1 : Addr) (w2 : Addr) (w3 : Addr) (w4 : Addr) (w5 : Addr) (w6 : Addr) (w7 : Addr) (w8 : Addr) (w9 : Addr) (h0 : Heap) (n0 : Nat) (v : Option Value) (h : Heap) (L : List Loc) : Prop :=
  (v = some (.int (1 : Int32)) ∧ Fr n0 L ∧ h = h0)
set_option maxRecDepth 65536 in
set_option maxHeartbeats 40000000 in
theorem rm9 (l : Launch) (Z : State) (a0 : Array Value) (hw : ∀ d ∈ tables_1, d.before a0 Z = true) (w1 : Addr) (w2 : Addr) (w3 : Addr) (w4 : Addr) (w5 : Addr) (w6 : Addr) (w7 : Addr) (w8 : Addr) (w9 : Addr) (G : GW Z w1 w2 w3 w4 w5 w6 w7 w8 w9) (ws : List Jvm.Cond) (h0 : Heap) (n0 : Nat) (O0 : Old Z n0 h0) :
    MetFree l (⟨"com/example/mycelia/mycelia/wire/Yields", "answersCount", "()Z"⟩ : MethodName) (head1 (Jvm.Cond.code (⟨"com/example/mycelia/mycelia/wire/Yields", "answersCount", "()Z"⟩ : MethodName) prog_24_method_6_code 1 (some .boolean) :: ws) ({ frames := 0, cells := 0, slots := 0, locals := 0 } : Room)) (fun a U => a = #[(.ref w8)] ∧ Z.Warmed39 U.vm ∧ U.heap = h0) (fun _ _ _ _ _ => True) (fun _ U o U' => ∃ v L, o = .returned v ∧ Q9 Z w1 w2 w3 w4 w5 w6 w7 w8 w9 h0 n0 v U'.heap L ∧ FrameEnd U o U' L ({ frames := 0, cells := 0, slots := 0, locals := 0 } : Room).cells ({ frames := 0, cells := 0, slots := 0, locals := 0 } : Room).slots) := by
  obtain ⟨S_w1, E_w1, S_w2, E_w2, S_w3, E_w3, S_w4, E_w4, S_w5, E_w5, S_w6, E_w6, S_w7, E_w7, S_w8, E_w8, S_w9, E_w9, F_w1_ordinal, F_w4_ordinal, F_w8_ordinal, F_w5_ordinal, F_w6_ordinal, F_w7_ordinal, F_w3_ordinal, F_w2_ordinal, F_w9_ordinal⟩ := id G
  refine MetFree.of_bodySF (plainFor_of_name pn0) hisR ?_
  intro p e s m args below meth c s₁ Bd hml0 hP hK
  obtain ⟨rfl, hZ, hh⟩ := hP
  have hx := Bd.exec
  have hby := Bd.bytes
  have hml : c.maxLocals = 1 := hml0
  have hown : s.vm.findClass "com/example/mycelia/mycelia/wire/Yields" = some m.cls := findClass_of_methodNamed Bd.named
  have hnm := (name_of_methodNamed Bd.named Bd.method).1
  have hret := Bd.returns
  have hlk : meth.locks = false := BodyLoose.notSynchronized Bd
  have X0 : Stand p l e ({ frames := 0, cells := 0, slots := 0, locals := 0 } : Room) s m #[(.ref w8)] below meth c s₁ [] 0 0 := Stand.of_body Bd
  have e0 : s₁.heap = h0 := by rw [← hh, Bd.state]; rfl
  have N0 := Fr.nil n0
  have pre0 : ∀ t, Steps p.tables e below (s₁.setTop (mkF m 0 #[.val (.ref w8)] [])) t → Steps p.tables e below (s₁.setTop (entryFrame m #[(.ref w8)] 1)) t := fun t k => castTop (ef9 m w8) k
  obtain ⟨T1, X1, e1, st1⟩ := getS2 X0 hx hZ hown (host := "") (Or.inl (hw _ (List.mem_of_getElem? (i := 29) rfl))) Via.refl e0 (S_w4.ext O0.2) (g := (mkF m 1 #[.val (.ref w8)] [(.ref w8)])) rfl (hb hby d0_1)
  obtain ⟨T2, X2, e2, st2⟩ := getS2 X1 hx hZ hown (host := "") (Or.inl (hw _ (List.mem_of_getElem? (i := 30) rfl))) Via.refl e1 (S_w8.ext O0.2) (g := (mkF m 8 #[.val (.ref w8)] [(.ref w8)])) rfl (hb hby d0_8)
  obtain ⟨fs, hr, hrun, hended, hW, hsame⟩ := X2.leave (v := some (.int (1 : Int32))) (fun h => by rw [hret] at h; cases h)
  refine ⟨_, _, pre0 _ ?_, hrun, hended, _, _, rfl, ?_, ⟨_, rfl⟩, hW, hsame.mono (by decide) (by decide)⟩
  ·
    show Steps p.tables e below (s₁.setTop (mkF m 0 #[.val (.ref w8)] [])) _
    refine XS.aloadN X0.here hx rfl (hb hby d0_0) rfl rfl ?_
    show Steps p.tables e below (s₁.setTop (mkF m 1 #[.val (.ref w8)] [(.ref w8)])) _
    refine st1 _ ?_
    show Steps p.tables e below (T1.setTop (mkF m 4 #[.val (.ref w8)] [(.ref w4), (.ref w8)])) _
    refine Jvm.RoadKit.acmp (g := (mkF m 4 #[.val (.ref w8)] [(.ref w4), (.ref w8)])) X1 hx rfl rfl rfl (pc0 := 4) (pc' := 7) (same := false) rfl (hb hby d0_4) rfl (decide_eq_false fun q => (Fld.ne F_w8_ordinal F_w4_ordinal (by decide)) (Value.ref.inj q)) (by decide) (by decide) ?_
    show Steps p.tables e below (T1.setTop (mkF m 7 #[.val (.ref w8)] [])) _
    refine XS.aloadN X1.here hx rfl (hb hby d0_7) rfl rfl ?_
    show Steps p.tables e below (T1.setTop (mkF m 8 #[.val (.ref w8)] [(.ref w8)])) _
    refine st2 _ ?_
    show Steps p.tables e below (T2.setTop (mkF m 11 #[.val (.ref w8)] [(.ref w8), (.ref w8)])) _
    refine Jvm.RoadKit.acmp (g := (mkF m 11 #[.val (.ref w8)] [(.ref w8), (.ref w8)])) X2 hx rfl rfl rfl (pc0 := 11) (pc' := 14) (same := true) rfl (hb hby d0_11) rfl (decide_eq_true rfl) (by decide) (by decide) ?_
    show Steps p.tables e below (T2.setTop (mkF m 14 #[.val (.ref w8)] [])) _
    refine XS.iconst X2.here hx rfl (hb hby d0_14) ?_
    show Steps p.tables e below (T2.setTop (mkF m 15 #[.val (.ref w8)] [(.int (1 : Int32))])) _
    refine XS.goto X2.here hx rfl (pc0 := 15) (pc' := 19) rfl (hb hby d0_15) (by decide) (by decide) ?_
    show Steps p.tables e below (T2.setTop (mkF m 19 #[.val (.ref w8)] [(.int (1 : Int32))])) _
    exact retN X2 hx (t := .boolean) hret (by simp) (hb hby d0_19) hr
  ·
    show Q9 Z w1 w2 w3 w4 w5 w6 w7 w8 w9 h0 n0 _ T2.heap _
    rw [e2]
    exact ⟨rfl, N0, rfl⟩
theorem ef10 (m : MethodId) (x0 : Addr) : entryFrame m #[(.ref x0)] 1 = mkF m 0 #[.val (.ref x0)] [] := by first | (simp [entryFrame, mkF, argsToLocals, Value.category]; done) | rfl
def Q10 (Z : State) (w1 : Addr) (w2 : Addr) (w3 : Addr) (w4 : Addr) (w5 : Addr) (w6 : Addr) (w7 : Addr) (w8 : Addr) (w9 : Addr) (h0 : Heap) (n0 : Nat) (v : Option Value) (h : Heap) (L : List Loc) : Prop :=
  (v = some (.int (0 : Int32)) ∧ Fr n0 L ∧ h = h0)
set_option maxRecDepth 65536 in
set_option maxHeartbeats 40000000 in
theorem rm10 (l : Launch) (Z : State) (a0 : Array Value) (hw : ∀ d ∈ tables_1, d.before a0 Z = true) (w1 : Addr) (w2 : Addr) (w3 : Addr) (w4 : Addr) (w5 : Addr) (w6 : Addr) (w7 : Addr) (w8 : Addr) (w9 : Addr) (G : GW Z w1 w2 w3 w4 w5 w6 w7 w8 w9) (ws : List Jvm.Cond) (h0 : Heap) (n0 : Nat) (O0 : Old Z n0 h0) :
    MetFree l (⟨"com/example/mycelia/mycelia/wire/Yields", "answersValues", "()Z"⟩ : MethodName) (head1 (Jvm.Cond.code (⟨"com/example/mycelia/mycelia/wire/Yields", "answersValues", "()Z"⟩ : MethodName) prog_24_method_5_code 1 (some .boolean) :: ws) ({ frames := 0, cells := 0, slots := 0, locals := 0 } : Room)) (fun a U => a = #[(.ref w8)] ∧ Z.Warmed39 U.vm ∧ U.heap = h0) (fun _ _ _ _ _ => True) (fun _ U o U' => ∃ v L, o = .returned v ∧ Q10 Z w1 w2 w3 w4 w5 w6 w7 w8 w9 h0 n0 v U'.heap L ∧ FrameEnd U o U' L ({ frames := 0, cells := 0, slots := 0, locals := 0 } : Room).cells ({ frames := 0, cells := 0, slots := 0, locals := 0 } : Room).slots) := by
  obtain ⟨S_w1, E_w1, S_w2, E_w2, S_w3, E_w3, S_w4, E_w4, S_w5, E_w5, S_w6, E_w6, S_w7, E_w7, S_w8, E_w8, S_w9, E_w9, F_w1_ordinal, F_w4_ordinal, F_w8_ordinal, F_w5_ordinal, F_w6_ordinal, F_w7_ordinal, F_w3_ordinal, F_w2_ordinal, F_w9_ordinal⟩ := id G
  refine MetFree.of_bodySF (plainFor_of_name pn0) hisR ?_
  intro p e s m args below meth c s₁ Bd hml0 hP hK
  obtain ⟨rfl, hZ, hh⟩ := hP
  have hx := Bd.exec
  have hby := Bd.bytes
  have hml : c.maxLocals = 1 := hml0
  have hown : s.vm.findClass "com/example/mycelia/mycelia/wire/Yields" = some m.cls := findClass_of_methodNamed Bd.named
  have hnm := (name_of_methodNamed Bd.named Bd.method).1
  have hret := Bd.returns
  have hlk : meth.locks = false := BodyLoose.notSynchronized Bd
  have X0 : Stand p l e ({ frames := 0, cells := 0, slots := 0, locals := 0 } : Room) s m #[(.ref w8)] below meth c s₁ [] 0 0 := Stand.of_body Bd
  have e0 : s₁.heap = h0 := by rw [← hh, Bd.state]; rfl
  have N0 := Fr.nil n0
  have pre0 : ∀ t, Steps p.tables e below (s₁.setTop (mkF m 0 #[.val (.ref w8)] [])) t → Steps p.tables e below (s₁.setTop (entryFrame m #[(.ref w8)] 1)) t := fun t k => castTop (ef10 m w8) k
  obtain ⟨T1, X1, e1, st1⟩ := getS2 X0 hx hZ hown (host := "") (Or.inl (hw _ (List.mem_of_getElem? (i := 36) rfl))) Via.refl e0 (S_w1.ext O0.2) (g := (mkF m 1 #[.val (.ref w8)] [(.ref w8)])) rfl (hb hby d1_1)
  obtain ⟨T2, X2, e2, st2⟩ := getS2 X1 hx hZ hown (host := "") (Or.inl (hw _ (List.mem_of_getElem? (i := 37) rfl))) Via.refl e1 (S_w5.ext O0.2) (g := (mkF m 8 #[.val (.ref w8)] [(.ref w8)])) rfl (hb hby d1_8)
  obtain ⟨T3, X3, e3, st3⟩ := getS2 X2 hx hZ hown (host := "") (Or.inl (hw _ (List.mem_of_getElem? (i := 38) rfl))) Via.refl e2 (S_w6.ext O0.2) (g := (mkF m 15 #[.val (.ref w8)] [(.ref w8)])) rfl (hb hby d1_15)
  obtain ⟨T4, X4, e4, st4⟩ := getS2 X3 hx hZ hown (host := "") (Or.inl (hw _ (List.mem_of_getElem? (i := 39) rfl))) Via.refl e3 (S_w7.ext O0.2) (g := (mkF m 22 #[.val (.ref w8)] [(.ref w8)])) rfl (hb hby d1_22)
  obtain ⟨fs, hr, hrun, hended, hW, hsame⟩ := X4.leave (v := some (.int (0 : Int32))) (fun h => by rw [hret] at h; cases h)
  refine ⟨_, _, pre0 _ ?_, hrun, hended, _, _, rfl, ?_, ⟨_, rfl⟩, hW, hsame.mono (by decide) (by decide)⟩
  ·
    show Steps p.tables e below (s₁.setTop (mkF m 0 #[.val (.ref w8)] [])) _
    refine XS.aloadN X0.here hx rfl (hb hby d1_0) rfl rfl ?_
    show Steps p.tables e below (s₁.setTop (mkF m 1 #[.val (.ref w8)] [(.ref w8)])) _
    refine st1 _ ?_
    show Steps p.tables e below (T1.setTop (mkF m 4 #[.val (.ref w8)] [(.ref w1), (.ref w8)])) _
    refine Jvm.RoadKit.acmp (g := (mkF m 4 #[.val (.ref w8)] [(.ref w1), (.ref w8)])) X1 hx rfl rfl rfl (pc0 := 4) (pc' := 7) (same := false) rfl (hb hby d1_4) rfl (decide_eq_false fun q => (Fld.ne F_w8_ordinal F_w1_ordinal (by decide)) (Value.ref.inj q)) (by decide) (by decide) ?_
    show Steps p.tables e below (T1.setTop (mkF m 7 #[.val (.ref w8)] [])) _
    refine XS.aloadN X1.here hx rfl (hb hby d1_7) rfl rfl ?_
    show Steps p.tables e below (T1.setTop (mkF m 8 #[.val (.ref w8)] [(.ref w8)])) _
    refine st2 _ ?_
    show Steps p.tables e below (T2.setTop (mkF m 11 #[.val (.ref w8)] [(.ref w5), (.ref w8)])) _
    refine Jvm.RoadKit.acmp (g := (mkF m 11 #[.val (.ref w8)] [(.ref w5), (.ref w8)])) X2 hx rfl rfl rfl (pc0 := 11) (pc' := 14) (same := false) rfl (hb hby d1_11) rfl (decide_eq_false fun q => (Fld.ne F_w8_ordinal F_w5_ordinal (by decide)) (Value.ref.inj q)) (by decide) (by decide) ?_
    show Steps p.tables e below (T2.setTop (mkF m 14 #[.val (.ref w8)] [])) _
    refine XS.aloadN X2.here hx rfl (hb hby d1_14) rfl rfl ?_
    show Steps p.tables e below (T2.setTop (mkF m 15 #[.val (.ref w8)] [(.ref w8)])) _
    refine st3 _ ?_
    show Steps p.tables e below (T3.setTop (mkF m 18 #[.val (.ref w8)] [(.ref w6), (.ref w8)])) _
    refine Jvm.RoadKit.acmp (g := (mkF m 18 #[.val (.ref w8)] [(.ref w6), (.ref w8)])) X3 hx rfl rfl rfl (pc0 := 18) (pc' := 21) (same := false) rfl (hb hby d1_18) rfl (decide_eq_false fun q => (Fld.ne F_w8_ordinal F_w6_ordinal (by decide)) (Value.ref.inj q)) (by decide) (by decide) ?_
    show Steps p.tables e below (T3.setTop (mkF m 21 #[.val (.ref w8)] [])) _
    refine XS.aloadN X3.here hx rfl (hb hby d1_21) rfl rfl ?_
    show Steps p.tables e below (T3.setTop (mkF m 22 #[.val (.ref w8)] [(.ref w8)])) _
    refine st4 _ ?_
    show Steps p.tables e below (T4.setTop (mkF m 25 #[.val (.ref w8)] [(.ref w7), (.ref w8)])) _
    refine Jvm.RoadKit.acmp (g := (mkF m 25 #[.val (.ref w8)] [(.ref w7), (.ref w8)])) X4 hx rfl rfl rfl (pc0 := 25) (pc' := 32) (same := false) rfl (hb hby d1_25) rfl (decide_eq_false fun q => (Fld.ne F_w8_ordinal F_w7_ordinal (by decide)) (Value.ref.inj q)) (by decide) (by decide) ?_
    show Steps p.tables e below (T4.setTop (mkF m 32 #[.val (.ref w8)] [])) _
    refine XS.iconst X4.here hx rfl (hb hby d1_32) ?_
    show Steps p.tables e below (T4.setTop (mkF m 33 #[.val (.ref w8)] [(.int (0 : Int32))])) _
    exact retN X4 hx (t := .boolean) hret (by simp) (hb hby d1_33) hr
  ·
    show Q10 Z w1 w2 w3 w4 w5 w6 w7 w8 w9 h0 n0 _ T4.heap _
    rw [e4]
    exact ⟨rfl, N0, rfl⟩
theorem ef11 (m : MethodId) (x0 : Addr) : entryFrame m #[(.ref x0)] 1 = mkF m 0 #[.val (.ref x0)] [] := by first | (simp [entryFrame, mkF, argsToLocals, Value.category]; done) | rfl
def Q11 (Z : State) (w1 : Addr) (w2 : Addr) (w3 : Addr) (w4 : Addr) (w5 : Addr) (w6 : Addr) (w7 : Addr) (w8 : Addr) (w9 : Addr) (h0 : Heap) (n0 : Nat) (v : Option Value) (h : Heap) (L : List Loc) : Prop :=
  (v = some (.int (0 : Int32)) ∧ Fr n0 L ∧ h = h0)
set_option maxRecDepth 65536 in
set_option maxHeartbeats 40000000 in
theorem rm11 (l : Launch) (Z : State) (a0 : Array Value) (hw : ∀ d ∈ tables_1, d.before a0 Z = true) (w1 : Addr) (w2 : Addr) (w3 : Addr) (w4 : Addr) (w5 : Addr) (w6 : Addr) (w7 : Addr) (w8 : Addr) (w9 : Addr) (G : GW Z w1 w2 w3 w4 w5 w6 w7 w8 w9) (ws : List Jvm.Cond) (h0 : Heap) (n0 : Nat) (O0 : Old Z n0 h0) :
    MetFree l (⟨"com/example/mycelia/mycelia/wire/Yields", "answersCount", "()Z"⟩ : MethodName) (head1 (Jvm.Cond.code (⟨"com/example/mycelia/mycelia/wire/Yields", "answersCount", "()Z"⟩ : MethodName) prog_24_method_6_code 1 (some .boolean) :: ws) ({ frames := 0, cells := 0, slots := 0, locals := 0 } : Room)) (fun a U => a = #[(.ref w9)] ∧ Z.Warmed39 U.vm ∧ U.heap = h0) (fun _ _ _ _ _ => True) (fun _ U o U' => ∃ v L, o = .returned v ∧ Q11 Z w1 w2 w3 w4 w5 w6 w7 w8 w9 h0 n0 v U'.heap L ∧ FrameEnd U o U' L ({ frames := 0, cells := 0, slots := 0, locals := 0 } : Room).cells ({ frames := 0, cells := 0, slots := 0, locals := 0 } : Room).slots) := by
  obtain ⟨S_w1, E_w1, S_w2, E_w2, S_w3, E_w3, S_w4, E_w4, S_w5, E_w5, S_w6, E_w6, S_w7, E_w7, S_w8, E_w8, S_w9, E_w9, F_w1_ordinal, F_w4_ordinal, F_w8_ordinal, F_w5_ordinal, F_w6_ordinal, F_w7_ordinal, F_w3_ordinal, F_w2_ordinal, F_w9_ordinal⟩ := id G
  refine MetFree.of_bodySF (plainFor_of_name pn0) hisR ?_
  intro p e s m args below meth c s₁ Bd hml0 hP hK
  obtain ⟨rfl, hZ, hh⟩ := hP
  have hx := Bd.exec
  have hby := Bd.bytes
  have hml : c.maxLocals = 1 := hml0
  have hown : s.vm.findClass "com/example/mycelia/mycelia/wire/Yields" = some m.cls := findClass_of_methodNamed Bd.named
  have hnm := (name_of_methodNamed Bd.named Bd.method).1
  have hret := Bd.returns
  have hlk : meth.locks = false := BodyLoose.notSynchronized Bd
  have X0 : Stand p l e ({ frames := 0, cells := 0, slots := 0, locals := 0 } : Room) s m #[(.ref w9)] below meth c s₁ [] 0 0 := Stand.of_body Bd
  have e0 : s₁.heap = h0 := by rw [← hh, Bd.state]; rfl
  have N0 := Fr.nil n0
  have pre0 : ∀ t, Steps p.tables e below (s₁.setTop (mkF m 0 #[.val (.ref w9)] [])) t → Steps p.tables e below (s₁.setTop (entryFrame m #[(.ref w9)] 1)) t := fun t k => castTop (ef11 m w9) k
  obtain ⟨T1, X1, e1, st1⟩ := getS2 X0 hx hZ hown (host := "") (Or.inl (hw _ (List.mem_of_getElem? (i := 29) rfl))) Via.refl e0 (S_w4.ext O0.2) (g := (mkF m 1 #[.val (.ref w9)] [(.ref w9)])) rfl (hb hby d0_1)
  obtain ⟨T2, X2, e2, st2⟩ := getS2 X1 hx hZ hown (host := "") (Or.inl (hw _ (List.mem_of_getElem? (i := 30) rfl))) Via.refl e1 (S_w8.ext O0.2) (g := (mkF m 8 #[.val (.ref w9)] [(.ref w9)])) rfl (hb hby d0_8)
  obtain ⟨fs, hr, hrun, hended, hW, hsame⟩ := X2.leave (v := some (.int (0 : Int32))) (fun h => by rw [hret] at h; cases h)
  refine ⟨_, _, pre0 _ ?_, hrun, hended, _, _, rfl, ?_, ⟨_, rfl⟩, hW, hsame.mono (by decide) (by decide)⟩
  ·
    show Steps p.tables e below (s₁.setTop (mkF m 0 #[.val (.ref w9)] [])) _
    refine XS.aloadN X0.here hx rfl (hb hby d0_0) rfl rfl ?_
    show Steps p.tables e below (s₁.setTop (mkF m 1 #[.val (.ref w9)] [(.ref w9)])) _
    refine st1 _ ?_
    show Steps p.tables e below (T1.setTop (mkF m 4 #[.val (.ref w9)] [(.ref w4), (.ref w9)])) _
    refine Jvm.RoadKit.acmp (g := (mkF m 4 #[.val (.ref w9)] [(.ref w4), (.ref w9)])) X1 hx rfl rfl rfl (pc0 := 4) (pc' := 7) (same := false) rfl (hb hby d0_4) rfl (decide_eq_false fun q => (Fld.ne F_w9_ordinal F_w4_ordinal (by decide)) (Value.ref.inj q)) (by decide) (by decide) ?_
    show Steps p.tables e below (T1.setTop (mkF m 7 #[.val (.ref w9)] [])) _
    refine XS.aloadN X1.here hx rfl (hb hby d0_7) rfl rfl ?_
    show Steps p.tables e below (T1.setTop (mkF m 8 #[.val (.ref w9)] [(.ref w9)])) _
    refine st2 _ ?_
    show Steps p.tables e below (T2.setTop (mkF m 11 #[.val (.ref w9)] [(.ref w8), (.ref w9)])) _
    refine Jvm.RoadKit.acmp (g := (mkF m 11 #[.val (.ref w9)] [(.ref w8), (.ref w9)])) X2 hx rfl rfl rfl (pc0 := 11) (pc' := 18) (same := false) rfl (hb hby d0_11) rfl (decide_eq_false fun q => (Fld.ne F_w9_ordinal F_w8_ordinal (by decide)) (Value.ref.inj q)) (by decide) (by decide) ?_
    show Steps p.tables e below (T2.setTop (mkF m 18 #[.val (.ref w9)] [])) _
    refine XS.iconst X2.here hx rfl (hb hby d0_18) ?_
    show Steps p.tables e below (T2.setTop (mkF m 19 #[.val (.ref w9)] [(.int (0 : Int32))])) _
    exact retN X2 hx (t := .boolean) hret (by simp) (hb hby d0_19) hr
  ·
    show Q11 Z w1 w2 w3 w4 w5 w6 w7 w8 w9 h0 n0 _ T2.heap _
    rw [e2]
    exact ⟨rfl, N0, rfl⟩
theorem pn1 : plainName "com/example/mycelia/mycelia/wire/YieldsAnswersCountPinLaw" = true := by first | (simp [plainName, overriddenIn]; done) | decide +kernel
theorem ef0 (m : MethodId) (x0 : Int32) : entryFrame m #[(.int x0)] maxLocals = mkF m 0 #[.val (.int x0), .unset, .unset, .unset, .unset, .unset] [] := by first | (simp [entryFrame, mkF, argsToLocals, Value.category, maxLocals]; done) | rfl
set_option maxRecDepth 65536 in
set_option maxHeartbeats 40000000 in
theorem rm0 (l : Launch) (Z : State) (a0 : Array Value) (hw : ∀ d ∈ tables_1, d.before a0 Z = true) (w1 : Addr) (w2 : Addr) (w3 : Addr) (w4 : Addr) (w5 : Addr) (w6 : Addr) (w7 : Addr) (w8 : Addr) (w9 : Addr) (G : GW Z w1 w2 w3 w4 w5 w6 w7 w8 w9) (ws : List Jvm.Cond) (p1 : Int32) (h0 : Heap) (n0 : Nat) (O0 : Old Z n0 h0) :
    MetFree l x (head1 (Jvm.Cond.code x code maxLocals ret :: ws) room_1) (fun a U => a = #[(.int p1)] ∧ Z.Warmed39 U.vm ∧ U.heap = h0) (fun _ _ _ _ _ => True) (fun _ U o U' => ∃ v L, o = .returned v ∧ Q0 n0 v U'.heap L ∧ FrameEnd U o U' L 16 128) := by
  obtain ⟨S_w1, E_w1, S_w2, E_w2, S_w3, E_w3, S_w4, E_w4, S_w5, E_w5, S_w6, E_w6, S_w7, E_w7, S_w8, E_w8, S_w9, E_w9, F_w1_ordinal, F_w4_ordinal, F_w8_ordinal, F_w5_ordinal, F_w6_ordinal, F_w7_ordinal, F_w3_ordinal, F_w2_ordinal, F_w9_ordinal⟩ := id G
  refine MetFree.of_bodySF (plainFor_of_name pn1) hisR ?_
  intro p e s m args below meth c s₁ Bd hml0 hP hK
  obtain ⟨rfl, hZ, hh⟩ := hP
  have hx := Bd.exec
  have hby := Bd.bytes
  have hml : c.maxLocals = 6 := hml0
  have hown : s.vm.findClass "com/example/mycelia/mycelia/wire/YieldsAnswersCountPinLaw" = some m.cls := findClass_of_methodNamed Bd.named
  have hnm := (name_of_methodNamed Bd.named Bd.method).1
  have hret := Bd.returns
  have hlk : meth.locks = false := BodyLoose.notSynchronized Bd
  have X0 : Stand p l e room_1 s m #[(.int p1)] below meth c s₁ [] 0 0 := Stand.of_body Bd
  have e0 : s₁.heap = h0 := by rw [← hh, Bd.state]; rfl
  have N0 := Fr.nil n0
  have pre0 : ∀ t, Steps p.tables e below (s₁.setTop (mkF m 0 #[.val (.int p1), .unset, .unset, .unset, .unset, .unset] [])) t → Steps p.tables e below (s₁.setTop (entryFrame m #[(.int p1)] maxLocals)) t := fun t k => castTop (ef0 m p1) k
  obtain ⟨T1, h1, k1, X1, e1, E1, A1, EX1, OV1, st1⟩ := newRE X0 hx hZ hown (hw _ (List.mem_of_getElem? (i := 0) rfl)) (hw _ (List.mem_of_getElem? (i := 1) rfl)) e0 (g := (mkF m 2 #[.val (.int p1), .unset, .unset, .unset, .unset, .unset] [(.int (9 : Int32))])) rfl (hb hby at_2) rfl (by decide) (cap := 9) (by decide) (by decide) (by decide) (by decide) (ad := "[Lcom/example/mycelia/mycelia/wire/Yields;") (by decide)
  obtain ⟨b1, g1⟩ : ∃ z, z = h0.size := ⟨_, rfl⟩
  rw [← g1] at A1 EX1 st1
  have M1 : h0.size ≤ h1.size := Nat.le_trans (Nat.le_refl _) E1.1
  have O1 := Old.ext O0 E1
  have sz_b1 : h0.size ≤ b1 := Nat.le_of_eq g1.symm
  have g_b1 : n0 ≤ b1 := Nat.le_trans (own_oz O0) (Nat.le_trans (Nat.le_refl _) sz_b1)
  have V1_0 := Arv.new A1 (by decide)
  have V1 : Arv Z h1 b1 k1 (.object "com/example/mycelia/mycelia/wire/Yields") (9 : Int32) [.null, .null, .null, .null, .null, .null, .null, .null, .null] .null := V1_0.pad (pad_rep [] .null 9)
  obtain ⟨T2, X2, e2, st2⟩ := getS2 X1 hx hZ hown (host := "") (Or.inl (hw _ (List.mem_of_getElem? (i := 2) rfl))) Via.refl e1 (S_w1.ext O1.2) (g := (mkF m 7 #[.val (.int p1), .unset, .unset, .unset, .unset, .unset] [(.int (0 : Int32)), (.ref b1), (.ref b1)])) rfl (hb hby at_7)
  obtain ⟨cl3, Ar3, qa3, Sa3, Na3, Ha3, Ga3⟩ := id (V1)
  have hin3 : ¬ ((0 : Int32) < 0 ∨ cl3.slots.size ≤ ((0 : Int32)).toNatClampNeg) := inb_of Sa3 ⟨by decide, by decide⟩
  obtain ⟨T4, h4, X4, e4, W4, st4⟩ := stR X2 hx hZ e2 Ar3 (j := (0 : Int32)) hin3 rfl (Sto.ofV Ar3 qa3 OV1 (Ins.self (E_w1.ext O1.2))) (g := (mkF m 10 #[.val (.int p1), .unset, .unset, .unset, .unset, .unset] [(.ref w1), (.int (0 : Int32)), (.ref b1), (.ref b1)])) rfl rfl (hb hby at_10)
  have V4 : Arv Z h4 b1 k1 (.object "com/example/mycelia/mycelia/wire/Yields") (9 : Int32) [(.ref w1), .null, .null, .null, .null, .null, .null, .null, .null] .null := Arv.set Ar3 qa3 Sa3 Na3 Ha3 Ga3 rfl W4 0 rfl (Nat.le_of_ble_eq_true rfl)
  have N4 := Fr.snoc X4 N0 g_b1
  have M4 : h0.size ≤ h4.size := Nat.le_trans M1 (Nat.le_of_eq W4.size.symm)
  have O4 := Old.wr O1 W4 g_b1
  obtain ⟨T5, X5, e5, st5⟩ := getS2 X4 hx hZ hown (host := "") (Or.inl (hw _ (List.mem_of_getElem? (i := 6) rfl))) Via.refl e4 (S_w2.ext O4.2) (g := (mkF m 13 #[.val (.int p1), .unset, .unset, .unset, .unset, .unset] [(.int (1 : Int32)), (.ref b1), (.ref b1)])) rfl (hb hby at_13)
  obtain ⟨cl6, Ar6, qa6, Sa6, Na6, Ha6, Ga6⟩ := id (V4)
  have hin6 : ¬ ((1 : Int32) < 0 ∨ cl6.slots.size ≤ ((1 : Int32)).toNatClampNeg) := inb_of Sa6 ⟨by decide, by decide⟩
  obtain ⟨T7, h7, X7, e7, W7, st7⟩ := stR X5 hx hZ e5 Ar6 (j := (1 : Int32)) hin6 rfl (Sto.ofV Ar6 qa6 OV1 (Ins.self (E_w2.ext O4.2))) (g := (mkF m 16 #[.val (.int p1), .unset, .unset, .unset, .unset, .unset] [(.ref w2), (.int (1 : Int32)), (.ref b1), (.ref b1)])) rfl rfl (hb hby at_16)
  have V7 : Arv Z h7 b1 k1 (.object "com/example/mycelia/mycelia/wire/Yields") (9 : Int32) [(.ref w1), (.ref w2), .null, .null, .null, .null, .null, .null, .null] .null := Arv.set Ar6 qa6 Sa6 Na6 Ha6 Ga6 rfl W7 1 rfl (Nat.le_of_ble_eq_true rfl)
  have N7 := Fr.snoc X7 N4 g_b1
  have M7 : h0.size ≤ h7.size := Nat.le_trans M4 (Nat.le_of_eq W7.size.symm)
  have O7 := Old.wr O4 W7 g_b1
  obtain ⟨T8, X8, e8, st8⟩ := getS2 X7 hx hZ hown (host := "") (Or.inl (hw _ (List.mem_of_getElem? (i := 8) rfl))) Via.refl e7 (S_w3.ext O7.2) (g := (mkF m 19 #[.val (.int p1), .unset, .unset, .unset, .unset, .unset] [(.int (2 : Int32)), (.ref b1), (.ref b1)])) rfl (hb hby at_19)
  obtain ⟨cl9, Ar9, qa9, Sa9, Na9, Ha9, Ga9⟩ := id (V7)
  have hin9 : ¬ ((2 : Int32) < 0 ∨ cl9.slots.size ≤ ((2 : Int32)).toNatClampNeg) := inb_of Sa9 ⟨by decide, by decide⟩
  obtain ⟨T10, h10, X10, e10, W10, st10⟩ := stR X8 hx hZ e8 Ar9 (j := (2 : Int32)) hin9 rfl (Sto.ofV Ar9 qa9 OV1 (Ins.self (E_w3.ext O7.2))) (g := (mkF m 22 #[.val (.int p1), .unset, .unset, .unset, .unset, .unset] [(.ref w3), (.int (2 : Int32)), (.ref b1), (.ref b1)])) rfl rfl (hb hby at_22)
  have V10 : Arv Z h10 b1 k1 (.object "com/example/mycelia/mycelia/wire/Yields") (9 : Int32) [(.ref w1), (.ref w2), (.ref w3), .null, .null, .null, .null, .null, .null] .null := Arv.set Ar9 qa9 Sa9 Na9 Ha9 Ga9 rfl W10 2 rfl (Nat.le_of_ble_eq_true rfl)
  have N10 := Fr.snoc X10 N7 g_b1
  have M10 : h0.size ≤ h10.size := Nat.le_trans M7 (Nat.le_of_eq W10.size.symm)
  have O10 := Old.wr O7 W10 g_b1
  obtain ⟨T11, X11, e11, st11⟩ := getS2 X10 hx hZ hown (host := "") (Or.inl (hw _ (List.mem_of_getElem? (i := 10) rfl))) Via.refl e10 (S_w4.ext O10.2) (g := (mkF m 25 #[.val (.int p1), .unset, .unset, .unset, .unset, .unset] [(.int (3 : Int32)), (.ref b1), (.ref b1)])) rfl (hb hby at_25)
  obtain ⟨cl12, Ar12, qa12, Sa12, Na12, Ha12, Ga12⟩ := id (V10)
  have hin12 : ¬ ((3 : Int32) < 0 ∨ cl12.slots.size ≤ ((3 : Int32)).toNatClampNeg) := inb_of Sa12 ⟨by decide, by decide⟩
  obtain ⟨T13, h13, X13, e13, W13, st13⟩ := stR X11 hx hZ e11 Ar12 (j := (3 : Int32)) hin12 rfl (Sto.ofV Ar12 qa12 OV1 (Ins.self (E_w4.ext O10.2))) (g := (mkF m 28 #[.val (.int p1), .unset, .unset, .unset, .unset, .unset] [(.ref w4), (.int (3 : Int32)), (.ref b1), (.ref b1)])) rfl rfl (hb hby at_28)
  have V13 : Arv Z h13 b1 k1 (.object "com/example/mycelia/mycelia/wire/Yields") (9 : Int32) [(.ref w1), (.ref w2), (.ref w3), (.ref w4), .null, .null, .null, .null, .null] .null := Arv.set Ar12 qa12 Sa12 Na12 Ha12 Ga12 rfl W13 3 rfl (Nat.le_of_ble_eq_true rfl)
  have N13 := Fr.snoc X13 N10 g_b1
  have M13 : h0.size ≤ h13.size := Nat.le_trans M10 (Nat.le_of_eq W13.size.symm)
  have O13 := Old.wr O10 W13 g_b1
  obtain ⟨T14, X14, e14, st14⟩ := getS2 X13 hx hZ hown (host := "") (Or.inl (hw _ (List.mem_of_getElem? (i := 12) rfl))) Via.refl e13 (S_w5.ext O13.2) (g := (mkF m 31 #[.val (.int p1), .unset, .unset, .unset, .unset, .unset] [(.int (4 : Int32)), (.ref b1), (.ref b1)])) rfl (hb hby at_31)
  obtain ⟨cl15, Ar15, qa15, Sa15, Na15, Ha15, Ga15⟩ := id (V13)
  have hin15 : ¬ ((4 : Int32) < 0 ∨ cl15.slots.size ≤ ((4 : Int32)).toNatClampNeg) := inb_of Sa15 ⟨by decide, by decide⟩
  obtain ⟨T16, h16, X16, e16, W16, st16⟩ := stR X14 hx hZ e14 Ar15 (j := (4 : Int32)) hin15 rfl (Sto.ofV Ar15 qa15 OV1 (Ins.self (E_w5.ext O13.2))) (g := (mkF m 34 #[.val (.int p1), .unset, .unset, .unset, .unset, .unset] [(.ref w5), (.int (4 : Int32)), (.ref b1), (.ref b1)])) rfl rfl (hb hby at_34)
  have V16 : Arv Z h16 b1 k1 (.object "com/example/mycelia/mycelia/wire/Yields") (9 : Int32) [(.ref w1), (.ref w2), (.ref w3), (.ref w4), (.ref w5), .null, .null, .null, .null] .null := Arv.set Ar15 qa15 Sa15 Na15 Ha15 Ga15 rfl W16 4 rfl (Nat.le_of_ble_eq_true rfl)
  have N16 := Fr.snoc X16 N13 g_b1
  have M16 : h0.size ≤ h16.size := Nat.le_trans M13 (Nat.le_of_eq W16.size.symm)
  have O16 := Old.wr O13 W16 g_b1
  obtain ⟨T17, X17, e17, st17⟩ := getS2 X16 hx hZ hown (host := "") (Or.inl (hw _ (List.mem_of_getElem? (i := 14) rfl))) Via.refl e16 (S_w6.ext O16.2) (g := (mkF m 37 #[.val (.int p1), .unset, .unset, .unset, .unset, .unset] [(.int (5 : Int32)), (.ref b1), (.ref b1)])) rfl (hb hby at_37)
  obtain ⟨cl18, Ar18, qa18, Sa18, Na18, Ha18, Ga18⟩ := id (V16)
  have hin18 : ¬ ((5 : Int32) < 0 ∨ cl18.slots.size ≤ ((5 : Int32)).toNatClampNeg) := inb_of Sa18 ⟨by decide, by decide⟩
  obtain ⟨T19, h19, X19, e19, W19, st19⟩ := stR X17 hx hZ e17 Ar18 (j := (5 : Int32)) hin18 rfl (Sto.ofV Ar18 qa18 OV1 (Ins.self (E_w6.ext O16.2))) (g := (mkF m 40 #[.val (.int p1), .unset, .unset, .unset, .unset, .unset] [(.ref w6), (.int (5 : Int32)), (.ref b1), (.ref b1)])) rfl rfl (hb hby at_40)
  have V19 : Arv Z h19 b1 k1 (.object "com/example/mycelia/mycelia/wire/Yields") (9 : Int32) [(.ref w1), (.ref w2), (.ref w3), (.ref w4), (.ref w5), (.ref w6), .null, .null, .null] .null := Arv.set Ar18 qa18 Sa18 Na18 Ha18 Ga18 rfl W19 5 rfl (Nat.le_of_ble_eq_true rfl)
  have N19 := Fr.snoc X19 N16 g_b1
  have M19 : h0.size ≤ h19.size := Nat.le_trans M16 (Nat.le_of_eq W19.size.symm)
  have O19 := Old.wr O16 W19 g_b1
  obtain ⟨T20, X20, e20, st20⟩ := getS2 X19 hx hZ hown (host := "") (Or.inl (hw _ (List.mem_of_getElem? (i := 16) rfl))) Via.refl e19 (S_w7.ext O19.2) (g := (mkF m 44 #[.val (.int p1), .unset, .unset, .unset, .unset, .unset] [(.int (6 : Int32)), (.ref b1), (.ref b1)])) rfl (hb hby at_44)
  obtain ⟨cl21, Ar21, qa21, Sa21, Na21, Ha21, Ga21⟩ := id (V19)
  have hin21 : ¬ ((6 : Int32) < 0 ∨ cl21.slots.size ≤ ((6 : Int32)).toNatClampNeg) := inb_of Sa21 ⟨by decide, by decide⟩
  obtain ⟨T22, h22, X22, e22, W22, st22⟩ := stR X20 hx hZ e20 Ar21 (j := (6 : Int32)) hin21 rfl (Sto.ofV Ar21 qa21 OV1 (Ins.self (E_w7.ext O19.2))) (g := (mkF m 47 #[.val (.int p1), .unset, .unset, .unset, .unset, .unset] [(.ref w7), (.int (6 : Int32)), (.ref b1), (.ref b1)])) rfl rfl (hb hby at_47)
  have V22 : Arv Z h22 b1 k1 (.object "com/example/mycelia/mycelia/wire/Yields") (9 : Int32) [(.ref w1), (.ref w2), (.ref w3), (.ref w4), (.ref w5), (.ref w6), (.ref w7), .null, .null] .null := Arv.set Ar21 qa21 Sa21 Na21 Ha21 Ga21 rfl W22 6 rfl (Nat.le_of_ble_eq_true rfl)
  have N22 := Fr.snoc X22 N19 g_b1
  have M22 : h0.size ≤ h22.size := Nat.le_trans M19 (Nat.le_of_eq W22.size.symm)
  have O22 := Old.wr O19 W22 g_b1
  obtain ⟨T23, X23, e23, st23⟩ := getS2 X22 hx hZ hown (host := "") (Or.inl (hw _ (List.mem_of_getElem? (i := 18) rfl))) Via.refl e22 (S_w8.ext O22.2) (g := (mkF m 51 #[.val (.int p1), .unset, .unset, .unset, .unset, .unset] [(.int (7 : Int32)), (.ref b1), (.ref b1)])) rfl (hb hby at_51)
  obtain ⟨cl24, Ar24, qa24, Sa24, Na24, Ha24, Ga24⟩ := id (V22)
  have hin24 : ¬ ((7 : Int32) < 0 ∨ cl24.slots.size ≤ ((7 : Int32)).toNatClampNeg) := inb_of Sa24 ⟨by decide, by decide⟩
  obtain ⟨T25, h25, X25, e25, W25, st25⟩ := stR X23 hx hZ e23 Ar24 (j := (7 : Int32)) hin24 rfl (Sto.ofV Ar24 qa24 OV1 (Ins.self (E_w8.ext O22.2))) (g := (mkF m 54 #[.val (.int p1), .unset, .unset, .unset, .unset, .unset] [(.ref w8), (.int (7 : Int32)), (.ref b1), (.ref b1)])) rfl rfl (hb hby at_54)
  have V25 : Arv Z h25 b1 k1 (.object "com/example/mycelia/mycelia/wire/Yields") (9 : Int32) [(.ref w1), (.ref w2), (.ref w3), (.ref w4), (.ref w5), (.ref w6), (.ref w7), (.ref w8), .null] .null := Arv.set Ar24 qa24 Sa24 Na24 Ha24 Ga24 rfl W25 7 rfl (Nat.le_of_ble_eq_true rfl)
  have N25 := Fr.snoc X25 N22 g_b1
  have M25 : h0.size ≤ h25.size := Nat.le_trans M22 (Nat.le_of_eq W25.size.symm)
  have O25 := Old.wr O22 W25 g_b1
  obtain ⟨T26, X26, e26, st26⟩ := getS2 X25 hx hZ hown (host := "") (Or.inl (hw _ (List.mem_of_getElem? (i := 20) rfl))) Via.refl e25 (S_w9.ext O25.2) (g := (mkF m 58 #[.val (.int p1), .unset, .unset, .unset, .unset, .unset] [(.int (8 : Int32)), (.ref b1), (.ref b1)])) rfl (hb hby at_58)
  obtain ⟨cl27, Ar27, qa27, Sa27, Na27, Ha27, Ga27⟩ := id (V25)
  have hin27 : ¬ ((8 : Int32) < 0 ∨ cl27.slots.size ≤ ((8 : Int32)).toNatClampNeg) := inb_of Sa27 ⟨by decide, by decide⟩
  obtain ⟨T28, h28, X28, e28, W28, st28⟩ := stR X26 hx hZ e26 Ar27 (j := (8 : Int32)) hin27 rfl (Sto.ofV Ar27 qa27 OV1 (Ins.self (E_w9.ext O25.2))) (g := (mkF m 61 #[.val (.int p1), .unset, .unset, .unset, .unset, .unset] [(.ref w9), (.int (8 : Int32)), (.ref b1), (.ref b1)])) rfl rfl (hb hby at_61)
  have V28 : Arv Z h28 b1 k1 (.object "com/example/mycelia/mycelia/wire/Yields") (9 : Int32) [(.ref w1), (.ref w2), (.ref w3), (.ref w4), (.ref w5), (.ref w6), (.ref w7), (.ref w8), (.ref w9)] .null := Arv.set Ar27 qa27 Sa27 Na27 Ha27 Ga27 rfl W28 8 rfl (Nat.le_of_ble_eq_true rfl)
  have N28 := Fr.snoc X28 N25 g_b1
  have M28 : h0.size ≤ h28.size := Nat.le_trans M25 (Nat.le_of_eq W28.size.symm)
  have O28 := Old.wr O25 W28 g_b1
  obtain ⟨T29, h29, k29, X29, e29, E29, A29, EX29, st29⟩ := newPE X28 hx hZ (hw _ (List.mem_of_getElem? (i := 22) rfl)) e28 (g := (mkF m 65 #[.val (.int p1), .val (.ref b1), .unset, .unset, .unset, .unset] [(.int (9 : Int32))])) rfl (hb hby at_65) rfl (by decide) (cap := 9) (by decide) (by decide) (by decide) (by decide) (ad := "[Z") (by decide)
  obtain ⟨b29, g29⟩ : ∃ z, z = h28.size := ⟨_, rfl⟩
  rw [← g29] at A29 EX29 st29
  have M29 : h0.size ≤ h29.size := Nat.le_trans M28 E29.1
  have O29 := Old.ext O28 E29
  have sz_b29 : h28.size ≤ b29 := Nat.le_of_eq g29.symm
  have g_b29 : n0 ≤ b29 := Nat.le_trans (own_oz O0) (Nat.le_trans M28 sz_b29)
  have V29_0 := Arv.new A29 (by decide)
  have V29 : Arv Z h29 b29 k29 .boolean (9 : Int32) [(.int (0 : Int32)), (.int (0 : Int32)), (.int (0 : Int32)), (.int (0 : Int32)), (.int (0 : Int32)), (.int (0 : Int32)), (.int (0 : Int32)), (.int (0 : Int32)), (.int (0 : Int32))] (.int (0 : Int32)) := V29_0.pad (pad_rep [] (.int (0 : Int32)) 9)
  obtain ⟨cl30, Ar30, qa30, Sa30, Na30, Ha30, Ga30⟩ := id (V29)
  have hin30 : ¬ ((0 : Int32) < 0 ∨ cl30.slots.size ≤ ((0 : Int32)).toNatClampNeg) := inb_of Sa30 ⟨by decide, by decide⟩
  obtain ⟨T31, h31, X31, e31, W31, st31⟩ := stZ X29 hx hZ e29 Ar30 (j := (0 : Int32)) hin30 (g := (mkF m 70 #[.val (.int p1), .val (.ref b1), .unset, .unset, .unset, .unset] [(.int (0 : Int32)), (.int (0 : Int32)), (.ref b29), (.ref b29)])) rfl rfl (hb hby at_70)
  have V31 : Arv Z h31 b29 k29 .boolean (9 : Int32) [(.int (0 : Int32)), (.int (0 : Int32)), (.int (0 : Int32)), (.int (0 : Int32)), (.int (0 : Int32)), (.int (0 : Int32)), (.int (0 : Int32)), (.int (0 : Int32)), (.int (0 : Int32))] (.int (0 : Int32)) := Arv.set Ar30 qa30 Sa30 Na30 Ha30 Ga30 (by decide) W31 0 rfl (Nat.le_of_ble_eq_true rfl)
  have N31 := Fr.snoc X31 N28 g_b29
  have M31 : h0.size ≤ h31.size := Nat.le_trans M29 (Nat.le_of_eq W31.size.symm)
  have O31 := Old.wr O29 W31 g_b29
  obtain ⟨cl32, Ar32, qa32, Sa32, Na32, Ha32, Ga32⟩ := id (V31)
  have hin32 : ¬ ((1 : Int32) < 0 ∨ cl32.slots.size ≤ ((1 : Int32)).toNatClampNeg) := inb_of Sa32 ⟨by decide, by decide⟩
  obtain ⟨T33, h33, X33, e33, W33, st33⟩ := stZ X31 hx hZ e31 Ar32 (j := (1 : Int32)) hin32 (g := (mkF m 74 #[.val (.int p1), .val (.ref b1), .unset, .unset, .unset, .unset] [(.int (0 : Int32)), (.int (1 : Int32)), (.ref b29), (.ref b29)])) rfl rfl (hb hby at_74)
  have V33 : Arv Z h33 b29 k29 .boolean (9 : Int32) [(.int (0 : Int32)), (.int (0 : Int32)), (.int (0 : Int32)), (.int (0 : Int32)), (.int (0 : Int32)), (.int (0 : Int32)), (.int (0 : Int32)), (.int (0 : Int32)), (.int (0 : Int32))] (.int (0 : Int32)) := Arv.set Ar32 qa32 Sa32 Na32 Ha32 Ga32 (by decide) W33 1 rfl (Nat.le_of_ble_eq_true rfl)
  have N33 := Fr.snoc X33 N31 g_b29
  have M33 : h0.size ≤ h33.size := Nat.le_trans M31 (Nat.le_of_eq W33.size.symm)
  have O33 := Old.wr O31 W33 g_b29
  obtain ⟨cl34, Ar34, qa34, Sa34, Na34, Ha34, Ga34⟩ := id (V33)
  have hin34 : ¬ ((2 : Int32) < 0 ∨ cl34.slots.size ≤ ((2 : Int32)).toNatClampNeg) := inb_of Sa34 ⟨by decide, by decide⟩
  obtain ⟨T35, h35, X35, e35, W35, st35⟩ := stZ X33 hx hZ e33 Ar34 (j := (2 : Int32)) hin34 (g := (mkF m 78 #[.val (.int p1), .val (.ref b1), .unset, .unset, .unset, .unset] [(.int (0 : Int32)), (.int (2 : Int32)), (.ref b29), (.ref b29)])) rfl rfl (hb hby at_78)
  have V35 : Arv Z h35 b29 k29 .boolean (9 : Int32) [(.int (0 : Int32)), (.int (0 : Int32)), (.int (0 : Int32)), (.int (0 : Int32)), (.int (0 : Int32)), (.int (0 : Int32)), (.int (0 : Int32)), (.int (0 : Int32)), (.int (0 : Int32))] (.int (0 : Int32)) := Arv.set Ar34 qa34 Sa34 Na34 Ha34 Ga34 (by decide) W35 2 rfl (Nat.le_of_ble_eq_true rfl)
  have N35 := Fr.snoc X35 N33 g_b29
  have M35 : h0.size ≤ h35.size := Nat.le_trans M33 (Nat.le_of_eq W35.size.symm)
  have O35 := Old.wr O33 W35 g_b29
  obtain ⟨cl36, Ar36, qa36, Sa36, Na36, Ha36, Ga36⟩ := id (V35)
  have hin36 : ¬ ((3 : Int32) < 0 ∨ cl36.slots.size ≤ ((3 : Int32)).toNatClampNeg) := inb_of Sa36 ⟨by decide, by decide⟩
  obtain ⟨T37, h37, X37, e37, W37, st37⟩ := stZ X35 hx hZ e35 Ar36 (j := (3 : Int32)) hin36 (g := (mkF m 82 #[.val (.int p1), .val (.ref b1), .unset, .unset, .unset, .unset] [(.int (1 : Int32)), (.int (3 : Int32)), (.ref b29), (.ref b29)])) rfl rfl (hb hby at_82)
  have V37 : Arv Z h37 b29 k29 .boolean (9 : Int32) [(.int (0 : Int32)), (.int (0 : Int32)), (.int (0 : Int32)), (.int (1 : Int32)), (.int (0 : Int32)), (.int (0 : Int32)), (.int (0 : Int32)), (.int (0 : Int32)), (.int (0 : Int32))] (.int (0 : Int32)) := Arv.set Ar36 qa36 Sa36 Na36 Ha36 Ga36 (by decide) W37 3 rfl (Nat.le_of_ble_eq_true rfl)
  have N37 := Fr.snoc X37 N35 g_b29
  have M37 : h0.size ≤ h37.size := Nat.le_trans M35 (Nat.le_of_eq W37.size.symm)
  have O37 := Old.wr O35 W37 g_b29
  obtain ⟨cl38, Ar38, qa38, Sa38, Na38, Ha38, Ga38⟩ := id (V37)
  have hin38 : ¬ ((4 : Int32) < 0 ∨ cl38.slots.size ≤ ((4 : Int32)).toNatClampNeg) := inb_of Sa38 ⟨by decide, by decide⟩
  obtain ⟨T39, h39, X39, e39, W39, st39⟩ := stZ X37 hx hZ e37 Ar38 (j := (4 : Int32)) hin38 (g := (mkF m 86 #[.val (.int p1), .val (.ref b1), .unset, .unset, .unset, .unset] [(.int (0 : Int32)), (.int (4 : Int32)), (.ref b29), (.ref b29)])) rfl rfl (hb hby at_86)
  have V39 : Arv Z h39 b29 k29 .boolean (9 : Int32) [(.int (0 : Int32)), (.int (0 : Int32)), (.int (0 : Int32)), (.int (1 : Int32)), (.int (0 : Int32)), (.int (0 : Int32)), (.int (0 : Int32)), (.int (0 : Int32)), (.int (0 : Int32))] (.int (0 : Int32)) := Arv.set Ar38 qa38 Sa38 Na38 Ha38 Ga38 (by decide) W39 4 rfl (Nat.le_of_ble_eq_true rfl)
  have N39 := Fr.snoc X39 N37 g_b29
  have M39 : h0.size ≤ h39.size := Nat.le_trans M37 (Nat.le_of_eq W39.size.symm)
  have O39 := Old.wr O37 W39 g_b29
  obtain ⟨cl40, Ar40, qa40, Sa40, Na40, Ha40, Ga40⟩ := id (V39)
  have hin40 : ¬ ((5 : Int32) < 0 ∨ cl40.slots.size ≤ ((5 : Int32)).toNatClampNeg) := inb_of Sa40 ⟨by decide, by decide⟩
  obtain ⟨T41, h41, X41, e41, W41, st41⟩ := stZ X39 hx hZ e39 Ar40 (j := (5 : Int32)) hin40 (g := (mkF m 90 #[.val (.int p1), .val (.ref b1), .unset, .unset, .unset, .unset] [(.int (0 : Int32)), (.int (5 : Int32)), (.ref b29), (.ref b29)])) rfl rfl (hb hby at_90)
  have V41 : Arv Z h41 b29 k29 .boolean (9 : Int32) [(.int (0 : Int32)), (.int (0 : Int32)), (.int (0 : Int32)), (.int (1 : Int32)), (.int (0 : Int32)), (.int (0 : Int32)), (.int (0 : Int32)), (.int (0 : Int32)), (.int (0 : Int32))] (.int (0 : Int32)) := Arv.set Ar40 qa40 Sa40 Na40 Ha40 Ga40 (by decide) W41 5 rfl (Nat.le_of_ble_eq_true rfl)
  have N41 := Fr.snoc X41 N39 g_b29
  have M41 : h0.size ≤ h41.size := Nat.le_trans M39 (Nat.le_of_eq W41.size.symm)
  have O41 := Old.wr O39 W41 g_b29
  obtain ⟨cl42, Ar42, qa42, Sa42, Na42, Ha42, Ga42⟩ := id (V41)
  have hin42 : ¬ ((6 : Int32) < 0 ∨ cl42.slots.size ≤ ((6 : Int32)).toNatClampNeg) := inb_of Sa42 ⟨by decide, by decide⟩
  obtain ⟨T43, h43, X43, e43, W43, st43⟩ := stZ X41 hx hZ e41 Ar42 (j := (6 : Int32)) hin42 (g := (mkF m 95 #[.val (.int p1), .val (.ref b1), .unset, .unset, .unset, .unset] [(.int (0 : Int32)), (.int (6 : Int32)), (.ref b29), (.ref b29)])) rfl rfl (hb hby at_95)
  have V43 : Arv Z h43 b29 k29 .boolean (9 : Int32) [(.int (0 : Int32)), (.int (0 : Int32)), (.int (0 : Int32)), (.int (1 : Int32)), (.int (0 : Int32)), (.int (0 : Int32)), (.int (0 : Int32)), (.int (0 : Int32)), (.int (0 : Int32))] (.int (0 : Int32)) := Arv.set Ar42 qa42 Sa42 Na42 Ha42 Ga42 (by decide) W43 6 rfl (Nat.le_of_ble_eq_true rfl)
  have N43 := Fr.snoc X43 N41 g_b29
  have M43 : h0.size ≤ h43.size := Nat.le_trans M41 (Nat.le_of_eq W43.size.symm)
  have O43 := Old.wr O41 W43 g_b29
  obtain ⟨cl44, Ar44, qa44, Sa44, Na44, Ha44, Ga44⟩ := id (V43)
  have hin44 : ¬ ((7 : Int32) < 0 ∨ cl44.slots.size ≤ ((7 : Int32)).toNatClampNeg) := inb_of Sa44 ⟨by decide, by decide⟩
  obtain ⟨T45, h45, X45, e45, W45, st45⟩ := stZ X43 hx hZ e43 Ar44 (j := (7 : Int32)) hin44 (g := (mkF m 100 #[.val (.int p1), .val (.ref b1), .unset, .unset, .unset, .unset] [(.int (1 : Int32)), (.int (7 : Int32)), (.ref b29), (.ref b29)])) rfl rfl (hb hby at_100)
  have V45 : Arv Z h45 b29 k29 .boolean (9 : Int32) [(.int (0 : Int32)), (.int (0 : Int32)), (.int (0 : Int32)), (.int (1 : Int32)), (.int (0 : Int32)), (.int (0 : Int32)), (.int (0 : Int32)), (.int (1 : Int32)), (.int (0 : Int32))] (.int (0 : Int32)) := Arv.set Ar44 qa44 Sa44 Na44 Ha44 Ga44 (by decide) W45 7 rfl (Nat.le_of_ble_eq_true rfl)
  have N45 := Fr.snoc X45 N43 g_b29
  have M45 : h0.size ≤ h45.size := Nat.le_trans M43 (Nat.le_of_eq W45.size.symm)
  have O45 := Old.wr O43 W45 g_b29
  obtain ⟨cl46, Ar46, qa46, Sa46, Na46, Ha46, Ga46⟩ := id (V45)
  have hin46 : ¬ ((8 : Int32) < 0 ∨ cl46.slots.size ≤ ((8 : Int32)).toNatClampNeg) := inb_of Sa46 ⟨by decide, by decide⟩
  obtain ⟨T47, h47, X47, e47, W47, st47⟩ := stZ X45 hx hZ e45 Ar46 (j := (8 : Int32)) hin46 (g := (mkF m 105 #[.val (.int p1), .val (.ref b1), .unset, .unset, .unset, .unset] [(.int (0 : Int32)), (.int (8 : Int32)), (.ref b29), (.ref b29)])) rfl rfl (hb hby at_105)
  have V47 : Arv Z h47 b29 k29 .boolean (9 : Int32) [(.int (0 : Int32)), (.int (0 : Int32)), (.int (0 : Int32)), (.int (1 : Int32)), (.int (0 : Int32)), (.int (0 : Int32)), (.int (0 : Int32)), (.int (1 : Int32)), (.int (0 : Int32))] (.int (0 : Int32)) := Arv.set Ar46 qa46 Sa46 Na46 Ha46 Ga46 (by decide) W47 8 rfl (Nat.le_of_ble_eq_true rfl)
  have N47 := Fr.snoc X47 N45 g_b29
  have M47 : h0.size ≤ h47.size := Nat.le_trans M45 (Nat.le_of_eq W47.size.symm)
  have O47 := Old.wr O45 W47 g_b29
  have pre48 : ∀ t, Steps p.tables e below (T47.setTop (mkF m 117 #[.val (.int p1), .val (.ref b1), .val (.ref b29), .val (.int ((p1 &&& (2147483647 : Int32)) % (9 : Int32))), .unset, .unset] [(.int ((p1 &&& (2147483647 : Int32)) % (9 : Int32))), (.ref b1)])) t → Steps p.tables e below (s₁.setTop (entryFrame m #[(.int p1)] maxLocals)) t := fun t k => by
    refine pre0 _ ?_
    show Steps p.tables e below (s₁.setTop (mkF m 0 #[.val (.int p1), .unset, .unset, .unset, .unset, .unset] [])) _
    refine XS.bipush X0.here hx rfl (hb hby at_0) ?_
    show Steps p.tables e below (s₁.setTop (mkF m 2 #[.val (.int p1), .unset, .unset, .unset, .unset, .unset] [(.int (9 : Int32))])) _
    refine st1 _ ?_
    show Steps p.tables e below (T1.setTop (mkF m 5 #[.val (.int p1), .unset, .unset, .unset, .unset, .unset] [(.ref b1)])) _
    refine XS.dup X1.here hx rfl (hb hby at_5) rfl rfl ?_
    show Steps p.tables e below (T1.setTop (mkF m 6 #[.val (.int p1), .unset, .unset, .unset, .unset, .unset] [(.ref b1), (.ref b1)])) _
    refine XS.iconst X1.here hx rfl (hb hby at_6) ?_
    show Steps p.tables e below (T1.setTop (mkF m 7 #[.val (.int p1), .unset, .unset, .unset, .unset, .unset] [(.int (0 : Int32)), (.ref b1), (.ref b1)])) _
    refine st2 _ ?_
    show Steps p.tables e below (T2.setTop (mkF m 10 #[.val (.int p1), .unset, .unset, .unset, .unset, .unset] [(.ref w1), (.int (0 : Int32)), (.ref b1), (.ref b1)])) _
    refine st4 _ ?_
    show Steps p.tables e below (T4.setTop (mkF m 11 #[.val (.int p1), .unset, .unset, .unset, .unset, .unset] [(.ref b1)])) _
    refine XS.dup X4.here hx rfl (hb hby at_11) rfl rfl ?_
    show Steps p.tables e below (T4.setTop (mkF m 12 #[.val (.int p1), .unset, .unset, .unset, .unset, .unset] [(.ref b1), (.ref b1)])) _
    refine XS.iconst X4.here hx rfl (hb hby at_12) ?_
    show Steps p.tables e below (T4.setTop (mkF m 13 #[.val (.int p1), .unset, .unset, .unset, .unset, .unset] [(.int (1 : Int32)), (.ref b1), (.ref b1)])) _
    refine st5 _ ?_
    show Steps p.tables e below (T5.setTop (mkF m 16 #[.val (.int p1), .unset, .unset, .unset, .unset, .unset] [(.ref w2), (.int (1 : Int32)), (.ref b1), (.ref b1)])) _
    refine st7 _ ?_
    show Steps p.tables e below (T7.setTop (mkF m 17 #[.val (.int p1), .unset, .unset, .unset, .unset, .unset] [(.ref b1)])) _
    refine XS.dup X7.here hx rfl (hb hby at_17) rfl rfl ?_
    show Steps p.tables e below (T7.setTop (mkF m 18 #[.val (.int p1), .unset, .unset, .unset, .unset, .unset] [(.ref b1), (.ref b1)])) _
    refine XS.iconst X7.here hx rfl (hb hby at_18) ?_
    show Steps p.tables e below (T7.setTop (mkF m 19 #[.val (.int p1), .unset, .unset, .unset, .unset, .unset] [(.int (2 : Int32)), (.ref b1), (.ref b1)])) _
    refine st8 _ ?_
    show Steps p.tables e below (T8.setTop (mkF m 22 #[.val (.int p1), .unset, .unset, .unset, .unset, .unset] [(.ref w3), (.int (2 : Int32)), (.ref b1), (.ref b1)])) _
    refine st10 _ ?_
    show Steps p.tables e below (T10.setTop (mkF m 23 #[.val (.int p1), .unset, .unset, .unset, .unset, .unset] [(.ref b1)])) _
    refine XS.dup X10.here hx rfl (hb hby at_23) rfl rfl ?_
    show Steps p.tables e below (T10.setTop (mkF m 24 #[.val (.int p1), .unset, .unset, .unset, .unset, .unset] [(.ref b1), (.ref b1)])) _
    refine XS.iconst X10.here hx rfl (hb hby at_24) ?_
    show Steps p.tables e below (T10.setTop (mkF m 25 #[.val (.int p1), .unset, .unset, .unset, .unset, .unset] [(.int (3 : Int32)), (.ref b1), (.ref b1)])) _
    refine st11 _ ?_
    show Steps p.tables e below (T11.setTop (mkF m 28 #[.val (.int p1), .unset, .unset, .unset, .unset, .unset] [(.ref w4), (.int (3 : Int32)), (.ref b1), (.ref b1)])) _
    refine st13 _ ?_
    show Steps p.tables e below (T13.setTop (mkF m 29 #[.val (.int p1), .unset, .unset, .unset, .unset, .unset] [(.ref b1)])) _
    refine XS.dup X13.here hx rfl (hb hby at_29) rfl rfl ?_
    show Steps p.tables e below (T13.setTop (mkF m 30 #[.val (.int p1), .unset, .unset, .unset, .unset, .unset] [(.ref b1), (.ref b1)])) _
    refine XS.iconst X13.here hx rfl (hb hby at_30) ?_
    show Steps p.tables e below (T13.setTop (mkF m 31 #[.val (.int p1), .unset, .unset, .unset, .unset, .unset] [(.int (4 : Int32)), (.ref b1), (.ref b1)])) _
    refine st14 _ ?_
    show Steps p.tables e below (T14.setTop (mkF m 34 #[.val (.int p1), .unset, .unset, .unset, .unset, .unset] [(.ref w5), (.int (4 : Int32)), (.ref b1), (.ref b1)])) _
    refine st16 _ ?_
    show Steps p.tables e below (T16.setTop (mkF m 35 #[.val (.int p1), .unset, .unset, .unset, .unset, .unset] [(.ref b1)])) _
    refine XS.dup X16.here hx rfl (hb hby at_35) rfl rfl ?_
    show Steps p.tables e below (T16.setTop (mkF m 36 #[.val (.int p1), .unset, .unset, .unset, .unset, .unset] [(.ref b1), (.ref b1)])) _
    refine XS.iconst X16.here hx rfl (hb hby at_36) ?_
    show Steps p.tables e below (T16.setTop (mkF m 37 #[.val (.int p1), .unset, .unset, .unset, .unset, .unset] [(.int (5 : Int32)), (.ref b1), (.ref b1)])) _
    refine st17 _ ?_
    show Steps p.tables e below (T17.setTop (mkF m 40 #[.val (.int p1), .unset, .unset, .unset, .unset, .unset] [(.ref w6), (.int (5 : Int32)), (.ref b1), (.ref b1)])) _
    refine st19 _ ?_
    show Steps p.tables e below (T19.setTop (mkF m 41 #[.val (.int p1), .unset, .unset, .unset, .unset, .unset] [(.ref b1)])) _
    refine XS.dup X19.here hx rfl (hb hby at_41) rfl rfl ?_
    show Steps p.tables e below (T19.setTop (mkF m 42 #[.val (.int p1), .unset, .unset, .unset, .unset, .unset] [(.ref b1), (.ref b1)])) _
    refine XS.bipush X19.here hx rfl (hb hby at_42) ?_
    show Steps p.tables e below (T19.setTop (mkF m 44 #[.val (.int p1), .unset, .unset, .unset, .unset, .unset] [(.int (6 : Int32)), (.ref b1), (.ref b1)])) _
    refine st20 _ ?_
    show Steps p.tables e below (T20.setTop (mkF m 47 #[.val (.int p1), .unset, .unset, .unset, .unset, .unset] [(.ref w7), (.int (6 : Int32)), (.ref b1), (.ref b1)])) _
    refine st22 _ ?_
    show Steps p.tables e below (T22.setTop (mkF m 48 #[.val (.int p1), .unset, .unset, .unset, .unset, .unset] [(.ref b1)])) _
    refine XS.dup X22.here hx rfl (hb hby at_48) rfl rfl ?_
    show Steps p.tables e below (T22.setTop (mkF m 49 #[.val (.int p1), .unset, .unset, .unset, .unset, .unset] [(.ref b1), (.ref b1)])) _
    refine XS.bipush X22.here hx rfl (hb hby at_49) ?_
    show Steps p.tables e below (T22.setTop (mkF m 51 #[.val (.int p1), .unset, .unset, .unset, .unset, .unset] [(.int (7 : Int32)), (.ref b1), (.ref b1)])) _
    refine st23 _ ?_
    show Steps p.tables e below (T23.setTop (mkF m 54 #[.val (.int p1), .unset, .unset, .unset, .unset, .unset] [(.ref w8), (.int (7 : Int32)), (.ref b1), (.ref b1)])) _
    refine st25 _ ?_
    show Steps p.tables e below (T25.setTop (mkF m 55 #[.val (.int p1), .unset, .unset, .unset, .unset, .unset] [(.ref b1)])) _
    refine XS.dup X25.here hx rfl (hb hby at_55) rfl rfl ?_
    show Steps p.tables e below (T25.setTop (mkF m 56 #[.val (.int p1), .unset, .unset, .unset, .unset, .unset] [(.ref b1), (.ref b1)])) _
    refine XS.bipush X25.here hx rfl (hb hby at_56) ?_
    show Steps p.tables e below (T25.setTop (mkF m 58 #[.val (.int p1), .unset, .unset, .unset, .unset, .unset] [(.int (8 : Int32)), (.ref b1), (.ref b1)])) _
    refine st26 _ ?_
    show Steps p.tables e below (T26.setTop (mkF m 61 #[.val (.int p1), .unset, .unset, .unset, .unset, .unset] [(.ref w9), (.int (8 : Int32)), (.ref b1), (.ref b1)])) _
    refine st28 _ ?_
    show Steps p.tables e below (T28.setTop (mkF m 62 #[.val (.int p1), .unset, .unset, .unset, .unset, .unset] [(.ref b1)])) _
    refine XS.astoreN X28.here hx rfl (hb hby at_62) rfl rfl (l' := #[.val (.int p1), .val (.ref b1), .unset, .unset, .unset, .unset]) rfl ?_
    show Steps p.tables e below (T28.setTop (mkF m 63 #[.val (.int p1), .val (.ref b1), .unset, .unset, .unset, .unset] [])) _
    refine XS.bipush X28.here hx rfl (hb hby at_63) ?_
    show Steps p.tables e below (T28.setTop (mkF m 65 #[.val (.int p1), .val (.ref b1), .unset, .unset, .unset, .unset] [(.int (9 : Int32))])) _
    refine st29 _ ?_
    show Steps p.tables e below (T29.setTop (mkF m 67 #[.val (.int p1), .val (.ref b1), .unset, .unset, .unset, .unset] [(.ref b29)])) _
    refine XS.dup X29.here hx rfl (hb hby at_67) rfl rfl ?_
    show Steps p.tables e below (T29.setTop (mkF m 68 #[.val (.int p1), .val (.ref b1), .unset, .unset, .unset, .unset] [(.ref b29), (.ref b29)])) _
    refine XS.iconst X29.here hx rfl (hb hby at_68) ?_
    show Steps p.tables e below (T29.setTop (mkF m 69 #[.val (.int p1), .val (.ref b1), .unset, .unset, .unset, .unset] [(.int (0 : Int32)), (.ref b29), (.ref b29)])) _
    refine XS.iconst X29.here hx rfl (hb hby at_69) ?_
    show Steps p.tables e below (T29.setTop (mkF m 70 #[.val (.int p1), .val (.ref b1), .unset, .unset, .unset, .unset] [(.int (0 : Int32)), (.int (0 : Int32)), (.ref b29), (.ref b29)])) _
    refine st31 _ ?_
    show Steps p.tables e below (T31.setTop (mkF m 71 #[.val (.int p1), .val (.ref b1), .unset, .unset, .unset, .unset] [(.ref b29)])) _
    refine XS.dup X31.here hx rfl (hb hby at_71) rfl rfl ?_
    show Steps p.tables e below (T31.setTop (mkF m 72 #[.val (.int p1), .val (.ref b1), .unset, .unset, .unset, .unset] [(.ref b29), (.ref b29)])) _
    refine XS.iconst X31.here hx rfl (hb hby at_72) ?_
    show Steps p.tables e below (T31.setTop (mkF m 73 #[.val (.int p1), .val (.ref b1), .unset, .unset, .unset, .unset] [(.int (1 : Int32)), (.ref b29), (.ref b29)])) _
    refine XS.iconst X31.here hx rfl (hb hby at_73) ?_
    show Steps p.tables e below (T31.setTop (mkF m 74 #[.val (.int p1), .val (.ref b1), .unset, .unset, .unset, .unset] [(.int (0 : Int32)), (.int (1 : Int32)), (.ref b29), (.ref b29)])) _
    refine st33 _ ?_
    show Steps p.tables e below (T33.setTop (mkF m 75 #[.val (.int p1), .val (.ref b1), .unset, .unset, .unset, .unset] [(.ref b29)])) _
    refine XS.dup X33.here hx rfl (hb hby at_75) rfl rfl ?_
    show Steps p.tables e below (T33.setTop (mkF m 76 #[.val (.int p1), .val (.ref b1), .unset, .unset, .unset, .unset] [(.ref b29), (.ref b29)])) _
    refine XS.iconst X33.here hx rfl (hb hby at_76) ?_
    show Steps p.tables e below (T33.setTop (mkF m 77 #[.val (.int p1), .val (.ref b1), .unset, .unset, .unset, .unset] [(.int (2 : Int32)), (.ref b29), (.ref b29)])) _
    refine XS.iconst X33.here hx rfl (hb hby at_77) ?_
    show Steps p.tables e below (T33.setTop (mkF m 78 #[.val (.int p1), .val (.ref b1), .unset, .unset, .unset, .unset] [(.int (0 : Int32)), (.int (2 : Int32)), (.ref b29), (.ref b29)])) _
    refine st35 _ ?_
    show Steps p.tables e below (T35.setTop (mkF m 79 #[.val (.int p1), .val (.ref b1), .unset, .unset, .unset, .unset] [(.ref b29)])) _
    refine XS.dup X35.here hx rfl (hb hby at_79) rfl rfl ?_
    show Steps p.tables e below (T35.setTop (mkF m 80 #[.val (.int p1), .val (.ref b1), .unset, .unset, .unset, .unset] [(.ref b29), (.ref b29)])) _
    refine XS.iconst X35.here hx rfl (hb hby at_80) ?_
    show Steps p.tables e below (T35.setTop (mkF m 81 #[.val (.int p1), .val (.ref b1), .unset, .unset, .unset, .unset] [(.int (3 : Int32)), (.ref b29), (.ref b29)])) _
    refine XS.iconst X35.here hx rfl (hb hby at_81) ?_
    show Steps p.tables e below (T35.setTop (mkF m 82 #[.val (.int p1), .val (.ref b1), .unset, .unset, .unset, .unset] [(.int (1 : Int32)), (.int (3 : Int32)), (.ref b29), (.ref b29)])) _
    refine st37 _ ?_
    show Steps p.tables e below (T37.setTop (mkF m 83 #[.val (.int p1), .val (.ref b1), .unset, .unset, .unset, .unset] [(.ref b29)])) _
    refine XS.dup X37.here hx rfl (hb hby at_83) rfl rfl ?_
    show Steps p.tables e below (T37.setTop (mkF m 84 #[.val (.int p1), .val (.ref b1), .unset, .unset, .unset, .unset] [(.ref b29), (.ref b29)])) _
    refine XS.iconst X37.here hx rfl (hb hby at_84) ?_
    show Steps p.tables e below (T37.setTop (mkF m 85 #[.val (.int p1), .val (.ref b1), .unset, .unset, .unset, .unset] [(.int (4 : Int32)), (.ref b29), (.ref b29)])) _
    refine XS.iconst X37.here hx rfl (hb hby at_85) ?_
    show Steps p.tables e below (T37.setTop (mkF m 86 #[.val (.int p1), .val (.ref b1), .unset, .unset, .unset, .unset] [(.int (0 : Int32)), (.int (4 : Int32)), (.ref b29), (.ref b29)])) _
    refine st39 _ ?_
    show Steps p.tables e below (T39.setTop (mkF m 87 #[.val (.int p1), .val (.ref b1), .unset, .unset, .unset, .unset] [(.ref b29)])) _
    refine XS.dup X39.here hx rfl (hb hby at_87) rfl rfl ?_
    show Steps p.tables e below (T39.setTop (mkF m 88 #[.val (.int p1), .val (.ref b1), .unset, .unset, .unset, .unset] [(.ref b29), (.ref b29)])) _
    refine XS.iconst X39.here hx rfl (hb hby at_88) ?_
    show Steps p.tables e below (T39.setTop (mkF m 89 #[.val (.int p1), .val (.ref b1), .unset, .unset, .unset, .unset] [(.int (5 : Int32)), (.ref b29), (.ref b29)])) _
    refine XS.iconst X39.here hx rfl (hb hby at_89) ?_
    show Steps p.tables e below (T39.setTop (mkF m 90 #[.val (.int p1), .val (.ref b1), .unset, .unset, .unset, .unset] [(.int (0 : Int32)), (.int (5 : Int32)), (.ref b29), (.ref b29)])) _
    refine st41 _ ?_
    show Steps p.tables e below (T41.setTop (mkF m 91 #[.val (.int p1), .val (.ref b1), .unset, .unset, .unset, .unset] [(.ref b29)])) _
    refine XS.dup X41.here hx rfl (hb hby at_91) rfl rfl ?_
    show Steps p.tables e below (T41.setTop (mkF m 92 #[.val (.int p1), .val (.ref b1), .unset, .unset, .unset, .unset] [(.ref b29), (.ref b29)])) _
    refine XS.bipush X41.here hx rfl (hb hby at_92) ?_
    show Steps p.tables e below (T41.setTop (mkF m 94 #[.val (.int p1), .val (.ref b1), .unset, .unset, .unset, .unset] [(.int (6 : Int32)), (.ref b29), (.ref b29)])) _
    refine XS.iconst X41.here hx rfl (hb hby at_94) ?_
    show Steps p.tables e below (T41.setTop (mkF m 95 #[.val (.int p1), .val (.ref b1), .unset, .unset, .unset, .unset] [(.int (0 : Int32)), (.int (6 : Int32)), (.ref b29), (.ref b29)])) _
    refine st43 _ ?_
    show Steps p.tables e below (T43.setTop (mkF m 96 #[.val (.int p1), .val (.ref b1), .unset, .unset, .unset, .unset] [(.ref b29)])) _
    refine XS.dup X43.here hx rfl (hb hby at_96) rfl rfl ?_
    show Steps p.tables e below (T43.setTop (mkF m 97 #[.val (.int p1), .val (.ref b1), .unset, .unset, .unset, .unset] [(.ref b29), (.ref b29)])) _
    refine XS.bipush X43.here hx rfl (hb hby at_97) ?_
    show Steps p.tables e below (T43.setTop (mkF m 99 #[.val (.int p1), .val (.ref b1), .unset, .unset, .unset, .unset] [(.int (7 : Int32)), (.ref b29), (.ref b29)])) _
    refine XS.iconst X43.here hx rfl (hb hby at_99) ?_
    show Steps p.tables e below (T43.setTop (mkF m 100 #[.val (.int p1), .val (.ref b1), .unset, .unset, .unset, .unset] [(.int (1 : Int32)), (.int (7 : Int32)), (.ref b29), (.ref b29)])) _
    refine st45 _ ?_
    show Steps p.tables e below (T45.setTop (mkF m 101 #[.val (.int p1), .val (.ref b1), .unset, .unset, .unset, .unset] [(.ref b29)])) _
    refine XS.dup X45.here hx rfl (hb hby at_101) rfl rfl ?_
    show Steps p.tables e below (T45.setTop (mkF m 102 #[.val (.int p1), .val (.ref b1), .unset, .unset, .unset, .unset] [(.ref b29), (.ref b29)])) _
    refine XS.bipush X45.here hx rfl (hb hby at_102) ?_
    show Steps p.tables e below (T45.setTop (mkF m 104 #[.val (.int p1), .val (.ref b1), .unset, .unset, .unset, .unset] [(.int (8 : Int32)), (.ref b29), (.ref b29)])) _
    refine XS.iconst X45.here hx rfl (hb hby at_104) ?_
    show Steps p.tables e below (T45.setTop (mkF m 105 #[.val (.int p1), .val (.ref b1), .unset, .unset, .unset, .unset] [(.int (0 : Int32)), (.int (8 : Int32)), (.ref b29), (.ref b29)])) _
    refine st47 _ ?_
    show Steps p.tables e below (T47.setTop (mkF m 106 #[.val (.int p1), .val (.ref b1), .unset, .unset, .unset, .unset] [(.ref b29)])) _
    refine XS.astoreN X47.here hx rfl (hb hby at_106) rfl rfl (l' := #[.val (.int p1), .val (.ref b1), .val (.ref b29), .unset, .unset, .unset]) rfl ?_
    show Steps p.tables e below (T47.setTop (mkF m 107 #[.val (.int p1), .val (.ref b1), .val (.ref b29), .unset, .unset, .unset] [])) _
    refine XS.iloadN X47.here hx rfl (hb hby at_107) rfl ?_
    show Steps p.tables e below (T47.setTop (mkF m 108 #[.val (.int p1), .val (.ref b1), .val (.ref b29), .unset, .unset, .unset] [(.int p1)])) _
    refine X47.ldcInt hx hown (mvT hZ (hw _ (List.mem_of_getElem? (i := 23) rfl))) (g := (mkF m 108 #[.val (.int p1), .val (.ref b1), .val (.ref b29), .unset, .unset, .unset] [(.int p1)])) rfl (hb hby at_108) _ ?_
    show Steps p.tables e below (T47.setTop (mkF m 110 #[.val (.int p1), .val (.ref b1), .val (.ref b29), .unset, .unset, .unset] [(.int (2147483647 : Int32)), (.int p1)])) _
    refine XS.iand X47.here hx rfl (hb hby at_110) rfl ?_
    show Steps p.tables e below (T47.setTop (mkF m 111 #[.val (.int p1), .val (.ref b1), .val (.ref b29), .unset, .unset, .unset] [(.int (p1 &&& (2147483647 : Int32)))])) _
    refine XS.bipush X47.here hx rfl (hb hby at_111) ?_
    show Steps p.tables e below (T47.setTop (mkF m 113 #[.val (.int p1), .val (.ref b1), .val (.ref b29), .unset, .unset, .unset] [(.int (9 : Int32)), (.int (p1 &&& (2147483647 : Int32)))])) _
    refine iremM X47 hx rfl (hb hby at_113) rfl (by decide : ¬ ((9 : Int32) = (0 : Int32))) ?_
    show Steps p.tables e below (T47.setTop (mkF m 114 #[.val (.int p1), .val (.ref b1), .val (.ref b29), .unset, .unset, .unset] [(.int ((p1 &&& (2147483647 : Int32)) % (9 : Int32)))])) _
    refine XS.istoreN X47.here hx rfl (hb hby at_114) rfl (l' := #[.val (.int p1), .val (.ref b1), .val (.ref b29), .val (.int ((p1 &&& (2147483647 : Int32)) % (9 : Int32))), .unset, .unset]) rfl ?_
    show Steps p.tables e below (T47.setTop (mkF m 115 #[.val (.int p1), .val (.ref b1), .val (.ref b29), .val (.int ((p1 &&& (2147483647 : Int32)) % (9 : Int32))), .unset, .unset] [])) _
    refine XS.aloadN X47.here hx rfl (hb hby at_115) rfl rfl ?_
    show Steps p.tables e below (T47.setTop (mkF m 116 #[.val (.int p1), .val (.ref b1), .val (.ref b29), .val (.int ((p1 &&& (2147483647 : Int32)) % (9 : Int32))), .unset, .unset] [(.ref b1)])) _
    refine XS.iloadN X47.here hx rfl (hb hby at_116) rfl ?_
    exact k
  by_cases hc49 : ((p1 &&& (2147483647 : Int32)) % (9 : Int32)) = (0 : Int32)
  ·
    have pre50 : ∀ t, Steps p.tables e below (T47.setTop (mkF m 117 #[.val (.int p1), .val (.ref b1), .val (.ref b29), .val (.int (0 : Int32)), .unset, .unset] [(.int (0 : Int32)), (.ref b1)])) t → Steps p.tables e below (s₁.setTop (entryFrame m #[(.int p1)] maxLocals)) t := fun t k => pre48 t (by rw [hc49]; exact k)
    have lt51 : b1 < h28.size := (Nat.lt_of_lt_of_le (Nat.lt_of_lt_of_le (Nat.lt_of_lt_of_le (Nat.lt_of_lt_of_le (Nat.lt_of_lt_of_le (Nat.lt_of_lt_of_le (Nat.lt_of_lt_of_le (Nat.lt_of_lt_of_le (Nat.lt_of_lt_of_le V1.lt (Nat.le_of_eq W4.size.symm)) (Nat.le_of_eq W7.size.symm)) (Nat.le_of_eq W10.size.symm)) (Nat.le_of_eq W13.size.symm)) (Nat.le_of_eq W16.size.symm)) (Nat.le_of_eq W19.size.symm)) (Nat.le_of_eq W22.size.symm)) (Nat.le_of_eq W25.size.symm)) (Nat.le_of_eq W28.size.symm))
    have ne52 : b1 ≠ b29 := Nat.ne_of_lt (Nat.lt_of_lt_of_le lt51 sz_b29)
    have f53 := ((((((((((V28.ext E29).other W31 ne52).other W33 ne52).other W35 ne52).other W37 ne52).other W39 ne52).other W41 ne52).other W43 ne52).other W45 ne52).other W47 ne52)
    obtain ⟨cl54, Ar54, qa54, Sa54, Na54, Ha54, Ga54⟩ := id (f53)
    have hin54 : ¬ ((0 : Int32) < 0 ∨ cl54.slots.size ≤ ((0 : Int32)).toNatClampNeg) := inb_of Sa54 ⟨by decide, by decide⟩
    have hat54 : cl54.slots[((0 : Int32)).toNatClampNeg]? = some (.ref w1) := Has.at Ha54 hin54 rfl
    obtain ⟨cq55, kq55, q55a, q55b, q55c⟩ := isOf hZ e47 (E_w1.ext O47.2)
    obtain ⟨_, _, ⟨T56, L56, c56, n56⟩, -, X56, ⟨Lc56, hQ56, l56, y56, z56⟩, st56⟩ := X47.virtualBack hx (y := (⟨"com/example/mycelia/mycelia/wire/Yields", "answersCount", "()Z"⟩ : MethodName)) (z := (⟨"com/example/mycelia/mycelia/wire/Yields", "answersCount", "()Z"⟩ : MethodName)) hown (mvT hZ (hw _ (List.mem_of_getElem? (i := 24) rfl))) (mvT hZ (hw _ (List.mem_of_getElem? (i := 25) rfl))) (notFace_of_selects (args := #[]) (mvT hZ (hw _ (List.mem_of_getElem? (i := 27) rfl)))) (mvT hZ (hw _ (List.mem_of_getElem? (i := 27) rfl))) (mvT hZ (hw _ (List.mem_of_getElem? (i := 26) rfl))) (by decide) (backOf (W := 0) (rm1 l Z a0 hw w1 w2 w3 w4 w5 w6 w7 w8 w9 G []  h47 n0 O47 ) hZ (hw _ (List.mem_of_getElem? (i := 28) rfl)) (hw _ (List.mem_of_getElem? (i := 3) rfl)) (by decide) (by decide)) q55a q55c (g := (mkF m 122 #[.val (.int p1), .val (.ref b1), .val (.ref b29), .val (.int (0 : Int32)), .val (.ref w1), .unset] [(.ref w1)])) rfl (by rw [hml]; rfl) (Steps.refl _) (argsL := []) (rest := []) (lenOf pd0 rfl) rfl (by show 2 * 0 + _ ≤ _; exact Nat.le_of_eq rfl) (hb hby at_122) (fun _ _ => ⟨rfl, e47, (by decide : 2 + 0 ≤ _), (by decide : 18 + 0 ≤ _)⟩)
    dsimp only [Pt.U, Pt.locs, Pt.cells, Pt.slots] at X56 l56 y56 z56 st56 hQ56
    subst l56 y56 z56
    have X56 : Stand p l e room_1 s m #[(.int p1)] below meth c T56 _ 2 18 := X56
    obtain ⟨rfl, Nq57, e58⟩ := hQ56
    have N56 := Fr.app N47 Nq57
    obtain ⟨cl59, Ar59, qa59, Sa59, Na59, Ha59, Ga59⟩ := id (V47)
    have hin59 : ¬ ((0 : Int32) < 0 ∨ cl59.slots.size ≤ ((0 : Int32)).toNatClampNeg) := inb_of Sa59 ⟨by decide, by decide⟩
    have hat59 : cl59.slots[((0 : Int32)).toNatClampNeg]? = some (.int (0 : Int32)) := Has.at Ha59 hin59 rfl
    obtain ⟨fs, hr, hrun, hended, hW, hsame⟩ := X56.leave (v := some (.int (1 : Int32))) (fun h => by rw [hret] at h; cases h)
    refine ⟨_, _, pre50 _ ?_, hrun, hended, _, _, rfl, ?_, ⟨_, rfl⟩, hW, hsame.mono (by decide) (by decide)⟩
    ·
      show Steps p.tables e below (T47.setTop (mkF m 117 #[.val (.int p1), .val (.ref b1), .val (.ref b29), .val (.int (0 : Int32)), .unset, .unset] [(.int (0 : Int32)), (.ref b1)])) _
      refine X47.aaload hx (j := (0 : Int32)) (v := (.ref w1)) (by rw [e47]; exact Ar54.1) (State.isArrayOf_alike hZ.alike Ar54.2.1) rfl Ar54.2.2 hin54 hat54 (g := (mkF m 117 #[.val (.int p1), .val (.ref b1), .val (.ref b29), .val (.int (0 : Int32)), .unset, .unset] [(.int (0 : Int32)), (.ref b1)])) rfl rfl (hb hby at_117) _ ?_
      show Steps p.tables e below (T47.setTop (mkF m 118 #[.val (.int p1), .val (.ref b1), .val (.ref b29), .val (.int (0 : Int32)), .unset, .unset] [(.ref w1)])) _
      refine XS.astore X47.here hx rfl (hb hby at_118) rfl rfl (l' := #[.val (.int p1), .val (.ref b1), .val (.ref b29), .val (.int (0 : Int32)), .val (.ref w1), .unset]) rfl ?_
      show Steps p.tables e below (T47.setTop (mkF m 120 #[.val (.int p1), .val (.ref b1), .val (.ref b29), .val (.int (0 : Int32)), .val (.ref w1), .unset] [])) _
      refine XS.aload X47.here hx rfl (hb hby at_120) rfl rfl ?_
      show Steps p.tables e below (T47.setTop (mkF m 122 #[.val (.int p1), .val (.ref b1), .val (.ref b29), .val (.int (0 : Int32)), .val (.ref w1), .unset] [(.ref w1)])) _
      refine st56.trans ?_
      show Steps p.tables e below (T56.setTop (mkF m 125 #[.val (.int p1), .val (.ref b1), .val (.ref b29), .val (.int (0 : Int32)), .val (.ref w1), .unset] [(.int (0 : Int32))])) _
      refine XS.istore X56.here hx rfl (hb hby at_125) rfl (l' := #[.val (.int p1), .val (.ref b1), .val (.ref b29), .val (.int (0 : Int32)), .val (.ref w1), .val (.int (0 : Int32))]) rfl ?_
      show Steps p.tables e below (T56.setTop (mkF m 127 #[.val (.int p1), .val (.ref b1), .val (.ref b29), .val (.int (0 : Int32)), .val (.ref w1), .val (.int (0 : Int32))] [])) _
      refine XS.iload X56.here hx rfl (hb hby at_127) rfl ?_
      show Steps p.tables e below (T56.setTop (mkF m 129 #[.val (.int p1), .val (.ref b1), .val (.ref b29), .val (.int (0 : Int32)), .val (.ref w1), .val (.int (0 : Int32))] [(.int (0 : Int32))])) _
      refine XS.aloadN X56.here hx rfl (hb hby at_129) rfl rfl ?_
      show Steps p.tables e below (T56.setTop (mkF m 130 #[.val (.int p1), .val (.ref b1), .val (.ref b29), .val (.int (0 : Int32)), .val (.ref w1), .val (.int (0 : Int32))] [(.ref b29), (.int (0 : Int32))])) _
      refine XS.iloadN X56.here hx rfl (hb hby at_130) rfl ?_
      show Steps p.tables e below (T56.setTop (mkF m 131 #[.val (.int p1), .val (.ref b1), .val (.ref b29), .val (.int (0 : Int32)), .val (.ref w1), .val (.int (0 : Int32))] [(.int (0 : Int32)), (.ref b29), (.int (0 : Int32))])) _
      refine X56.baloadBooleans hx (j := (0 : Int32)) (v := (.int (0 : Int32))) (by rw [e58]; exact Ar59.1) (State.isArrayOf_alike hZ.alike Ar59.2.1) Ar59.2.2 hin59 hat59 (g := (mkF m 131 #[.val (.int p1), .val (.ref b1), .val (.ref b29), .val (.int (0 : Int32)), .val (.ref w1), .val (.int (0 : Int32))] [(.int (0 : Int32)), (.ref b29), (.int (0 : Int32))])) rfl rfl (hb hby at_131) _ ?_
      show Steps p.tables e below (T56.setTop (mkF m 132 #[.val (.int p1), .val (.ref b1), .val (.ref b29), .val (.int (0 : Int32)), .val (.ref w1), .val (.int (0 : Int32))] [(.int (0 : Int32)), (.int (0 : Int32))])) _
      refine XS.icmpYes X56.here hx rfl (pc0 := 132) (pc' := 137) rfl (hb hby at_132) rfl (teq (by decide : (0 : Int32) = (0 : Int32))).1 (by decide) (by decide) ?_
      show Steps p.tables e below (T56.setTop (mkF m 137 #[.val (.int p1), .val (.ref b1), .val (.ref b29), .val (.int (0 : Int32)), .val (.ref w1), .val (.int (0 : Int32))] [])) _
      refine XS.iload X56.here hx rfl (hb hby at_137) rfl ?_
      show Steps p.tables e below (T56.setTop (mkF m 139 #[.val (.int p1), .val (.ref b1), .val (.ref b29), .val (.int (0 : Int32)), .val (.ref w1), .val (.int (0 : Int32))] [(.int (0 : Int32))])) _
      refine XS.ifYes X56.here hx rfl (pc0 := 139) (pc' := 150) rfl (hb hby at_139) rfl ((if0 _ _).trans (teq (by decide : (0 : Int32) = (0 : Int32))).1) (by decide) (by decide) ?_
      show Steps p.tables e below (T56.setTop (mkF m 150 #[.val (.int p1), .val (.ref b1), .val (.ref b29), .val (.int (0 : Int32)), .val (.ref w1), .val (.int (0 : Int32))] [])) _
      refine XS.iconst X56.here hx rfl (hb hby at_150) ?_
      show Steps p.tables e below (T56.setTop (mkF m 151 #[.val (.int p1), .val (.ref b1), .val (.ref b29), .val (.int (0 : Int32)), .val (.ref w1), .val (.int (0 : Int32))] [(.int (1 : Int32))])) _
      refine XS.goto X56.here hx rfl (pc0 := 151) (pc' := 155) rfl (hb hby at_151) (by decide) (by decide) ?_
      show Steps p.tables e below (T56.setTop (mkF m 155 #[.val (.int p1), .val (.ref b1), .val (.ref b29), .val (.int (0 : Int32)), .val (.ref w1), .val (.int (0 : Int32))] [(.int (1 : Int32))])) _
      exact retN X56 hx (t := .boolean) hret (by simp) (hb hby at_155) hr
    ·
      show Q0 n0 _ T56.heap _
      rw [e58]
      exact ⟨rfl, N56⟩
  ·
    by_cases hc60 : ((p1 &&& (2147483647 : Int32)) % (9 : Int32)) = (1 : Int32)
    ·
      have pre61 : ∀ t, Steps p.tables e below (T47.setTop (mkF m 117 #[.val (.int p1), .val (.ref b1), .val (.ref b29), .val (.int (1 : Int32)), .unset, .unset] [(.int (1 : Int32)), (.ref b1)])) t → Steps p.tables e below (s₁.setTop (entryFrame m #[(.int p1)] maxLocals)) t := fun t k => pre48 t (by rw [hc60]; exact k)
      have lt62 : b1 < h28.size := (Nat.lt_of_lt_of_le (Nat.lt_of_lt_of_le (Nat.lt_of_lt_of_le (Nat.lt_of_lt_of_le (Nat.lt_of_lt_of_le (Nat.lt_of_lt_of_le (Nat.lt_of_lt_of_le (Nat.lt_of_lt_of_le (Nat.lt_of_lt_of_le V1.lt (Nat.le_of_eq W4.size.symm)) (Nat.le_of_eq W7.size.symm)) (Nat.le_of_eq W10.size.symm)) (Nat.le_of_eq W13.size.symm)) (Nat.le_of_eq W16.size.symm)) (Nat.le_of_eq W19.size.symm)) (Nat.le_of_eq W22.size.symm)) (Nat.le_of_eq W25.size.symm)) (Nat.le_of_eq W28.size.symm))
      have ne63 : b1 ≠ b29 := Nat.ne_of_lt (Nat.lt_of_lt_of_le lt62 sz_b29)
      have f64 := ((((((((((V28.ext E29).other W31 ne63).other W33 ne63).other W35 ne63).other W37 ne63).other W39 ne63).other W41 ne63).other W43 ne63).other W45 ne63).other W47 ne63)
      obtain ⟨cl65, Ar65, qa65, Sa65, Na65, Ha65, Ga65⟩ := id (f64)
      have hin65 : ¬ ((1 : Int32) < 0 ∨ cl65.slots.size ≤ ((1 : Int32)).toNatClampNeg) := inb_of Sa65 ⟨by decide, by decide⟩
      have hat65 : cl65.slots[((1 : Int32)).toNatClampNeg]? = some (.ref w2) := Has.at Ha65 hin65 rfl
      obtain ⟨cq66, kq66, q66a, q66b, q66c⟩ := isOf hZ e47 (E_w2.ext O47.2)
      obtain ⟨_, _, ⟨T67, L67, c67, n67⟩, -, X67, ⟨Lc67, hQ67, l67, y67, z67⟩, st67⟩ := X47.virtualBack hx (y := (⟨"com/example/mycelia/mycelia/wire/Yields", "answersCount", "()Z"⟩ : MethodName)) (z := (⟨"com/example/mycelia/mycelia/wire/Yields", "answersCount", "()Z"⟩ : MethodName)) hown (mvT hZ (hw _ (List.mem_of_getElem? (i := 24) rfl))) (mvT hZ (hw _ (List.mem_of_getElem? (i := 25) rfl))) (notFace_of_selects (args := #[]) (mvT hZ (hw _ (List.mem_of_getElem? (i := 27) rfl)))) (mvT hZ (hw _ (List.mem_of_getElem? (i := 27) rfl))) (mvT hZ (hw _ (List.mem_of_getElem? (i := 26) rfl))) (by decide) (backOf (W := 0) (rm2 l Z a0 hw w1 w2 w3 w4 w5 w6 w7 w8 w9 G []  h47 n0 O47 ) hZ (hw _ (List.mem_of_getElem? (i := 28) rfl)) (hw _ (List.mem_of_getElem? (i := 3) rfl)) (by decide) (by decide)) q66a q66c (g := (mkF m 122 #[.val (.int p1), .val (.ref b1), .val (.ref b29), .val (.int (1 : Int32)), .val (.ref w2), .unset] [(.ref w2)])) rfl (by rw [hml]; rfl) (Steps.refl _) (argsL := []) (rest := []) (lenOf pd0 rfl) rfl (by show 2 * 0 + _ ≤ _; exact Nat.le_of_eq rfl) (hb hby at_122) (fun _ _ => ⟨rfl, e47, (by decide : 2 + 0 ≤ _), (by decide : 18 + 0 ≤ _)⟩)
      dsimp only [Pt.U, Pt.locs, Pt.cells, Pt.slots] at X67 l67 y67 z67 st67 hQ67
      subst l67 y67 z67
      have X67 : Stand p l e room_1 s m #[(.int p1)] below meth c T67 _ 2 18 := X67
      obtain ⟨rfl, Nq68, e69⟩ := hQ67
      have N67 := Fr.app N47 Nq68
      obtain ⟨cl70, Ar70, qa70, Sa70, Na70, Ha70, Ga70⟩ := id (V47)
      have hin70 : ¬ ((1 : Int32) < 0 ∨ cl70.slots.size ≤ ((1 : Int32)).toNatClampNeg) := inb_of Sa70 ⟨by decide, by decide⟩
      have hat70 : cl70.slots[((1 : Int32)).toNatClampNeg]? = some (.int (0 : Int32)) := Has.at Ha70 hin70 rfl
      obtain ⟨fs, hr, hrun, hended, hW, hsame⟩ := X67.leave (v := some (.int (1 : Int32))) (fun h => by rw [hret] at h; cases h)
      refine ⟨_, _, pre61 _ ?_, hrun, hended, _, _, rfl, ?_, ⟨_, rfl⟩, hW, hsame.mono (by decide) (by decide)⟩
      ·
        show Steps p.tables e below (T47.setTop (mkF m 117 #[.val (.int p1), .val (.ref b1), .val (.ref b29), .val (.int (1 : Int32)), .unset, .unset] [(.int (1 : Int32)), (.ref b1)])) _
        refine X47.aaload hx (j := (1 : Int32)) (v := (.ref w2)) (by rw [e47]; exact Ar65.1) (State.isArrayOf_alike hZ.alike Ar65.2.1) rfl Ar65.2.2 hin65 hat65 (g := (mkF m 117 #[.val (.int p1), .val (.ref b1), .val (.ref b29), .val (.int (1 : Int32)), .unset, .unset] [(.int (1 : Int32)), (.ref b1)])) rfl rfl (hb hby at_117) _ ?_
        show Steps p.tables e below (T47.setTop (mkF m 118 #[.val (.int p1), .val (.ref b1), .val (.ref b29), .val (.int (1 : Int32)), .unset, .unset] [(.ref w2)])) _
        refine XS.astore X47.here hx rfl (hb hby at_118) rfl rfl (l' := #[.val (.int p1), .val (.ref b1), .val (.ref b29), .val (.int (1 : Int32)), .val (.ref w2), .unset]) rfl ?_
        show Steps p.tables e below (T47.setTop (mkF m 120 #[.val (.int p1), .val (.ref b1), .val (.ref b29), .val (.int (1 : Int32)), .val (.ref w2), .unset] [])) _
        refine XS.aload X47.here hx rfl (hb hby at_120) rfl rfl ?_
        show Steps p.tables e below (T47.setTop (mkF m 122 #[.val (.int p1), .val (.ref b1), .val (.ref b29), .val (.int (1 : Int32)), .val (.ref w2), .unset] [(.ref w2)])) _
        refine st67.trans ?_
        show Steps p.tables e below (T67.setTop (mkF m 125 #[.val (.int p1), .val (.ref b1), .val (.ref b29), .val (.int (1 : Int32)), .val (.ref w2), .unset] [(.int (0 : Int32))])) _
        refine XS.istore X67.here hx rfl (hb hby at_125) rfl (l' := #[.val (.int p1), .val (.ref b1), .val (.ref b29), .val (.int (1 : Int32)), .val (.ref w2), .val (.int (0 : Int32))]) rfl ?_
        show Steps p.tables e below (T67.setTop (mkF m 127 #[.val (.int p1), .val (.ref b1), .val (.ref b29), .val (.int (1 : Int32)), .val (.ref w2), .val (.int (0 : Int32))] [])) _
        refine XS.iload X67.here hx rfl (hb hby at_127) rfl ?_
        show Steps p.tables e below (T67.setTop (mkF m 129 #[.val (.int p1), .val (.ref b1), .val (.ref b29), .val (.int (1 : Int32)), .val (.ref w2), .val (.int (0 : Int32))] [(.int (0 : Int32))])) _
        refine XS.aloadN X67.here hx rfl (hb hby at_129) rfl rfl ?_
        show Steps p.tables e below (T67.setTop (mkF m 130 #[.val (.int p1), .val (.ref b1), .val (.ref b29), .val (.int (1 : Int32)), .val (.ref w2), .val (.int (0 : Int32))] [(.ref b29), (.int (0 : Int32))])) _
        refine XS.iloadN X67.here hx rfl (hb hby at_130) rfl ?_
        show Steps p.tables e below (T67.setTop (mkF m 131 #[.val (.int p1), .val (.ref b1), .val (.ref b29), .val (.int (1 : Int32)), .val (.ref w2), .val (.int (0 : Int32))] [(.int (1 : Int32)), (.ref b29), (.int (0 : Int32))])) _
        refine X67.baloadBooleans hx (j := (1 : Int32)) (v := (.int (0 : Int32))) (by rw [e69]; exact Ar70.1) (State.isArrayOf_alike hZ.alike Ar70.2.1) Ar70.2.2 hin70 hat70 (g := (mkF m 131 #[.val (.int p1), .val (.ref b1), .val (.ref b29), .val (.int (1 : Int32)), .val (.ref w2), .val (.int (0 : Int32))] [(.int (1 : Int32)), (.ref b29), (.int (0 : Int32))])) rfl rfl (hb hby at_131) _ ?_
        show Steps p.tables e below (T67.setTop (mkF m 132 #[.val (.int p1), .val (.ref b1), .val (.ref b29), .val (.int (1 : Int32)), .val (.ref w2), .val (.int (0 : Int32))] [(.int (0 : Int32)), (.int (0 : Int32))])) _
        refine XS.icmpYes X67.here hx rfl (pc0 := 132) (pc' := 137) rfl (hb hby at_132) rfl (teq (by decide : (0 : Int32) = (0 : Int32))).1 (by decide) (by decide) ?_
        show Steps p.tables e below (T67.setTop (mkF m 137 #[.val (.int p1), .val (.ref b1), .val (.ref b29), .val (.int (1 : Int32)), .val (.ref w2), .val (.int (0 : Int32))] [])) _
        refine XS.iload X67.here hx rfl (hb hby at_137) rfl ?_
        show Steps p.tables e below (T67.setTop (mkF m 139 #[.val (.int p1), .val (.ref b1), .val (.ref b29), .val (.int (1 : Int32)), .val (.ref w2), .val (.int (0 : Int32))] [(.int (0 : Int32))])) _
        refine XS.ifYes X67.here hx rfl (pc0 := 139) (pc' := 150) rfl (hb hby at_139) rfl ((if0 _ _).trans (teq (by decide : (0 : Int32) = (0 : Int32))).1) (by decide) (by decide) ?_
        show Steps p.tables e below (T67.setTop (mkF m 150 #[.val (.int p1), .val (.ref b1), .val (.ref b29), .val (.int (1 : Int32)), .val (.ref w2), .val (.int (0 : Int32))] [])) _
        refine XS.iconst X67.here hx rfl (hb hby at_150) ?_
        show Steps p.tables e below (T67.setTop (mkF m 151 #[.val (.int p1), .val (.ref b1), .val (.ref b29), .val (.int (1 : Int32)), .val (.ref w2), .val (.int (0 : Int32))] [(.int (1 : Int32))])) _
        refine XS.goto X67.here hx rfl (pc0 := 151) (pc' := 155) rfl (hb hby at_151) (by decide) (by decide) ?_
        show Steps p.tables e below (T67.setTop (mkF m 155 #[.val (.int p1), .val (.ref b1), .val (.ref b29), .val (.int (1 : Int32)), .val (.ref w2), .val (.int (0 : Int32))] [(.int (1 : Int32))])) _
        exact retN X67 hx (t := .boolean) hret (by simp) (hb hby at_155) hr
      ·
        show Q0 n0 _ T67.heap _
        rw [e69]
        exact ⟨rfl, N67⟩
    ·
      by_cases hc71 : ((p1 &&& (2147483647 : Int32)) % (9 : Int32)) = (2 : Int32)
      ·
        have pre72 : ∀ t, Steps p.tables e below (T47.setTop (mkF m 117 #[.val (.int p1), .val (.ref b1), .val (.ref b29), .val (.int (2 : Int32)), .unset, .unset] [(.int (2 : Int32)), (.ref b1)])) t → Steps p.tables e below (s₁.setTop (entryFrame m #[(.int p1)] maxLocals)) t := fun t k => pre48 t (by rw [hc71]; exact k)
        have lt73 : b1 < h28.size := (Nat.lt_of_lt_of_le (Nat.lt_of_lt_of_le (Nat.lt_of_lt_of_le (Nat.lt_of_lt_of_le (Nat.lt_of_lt_of_le (Nat.lt_of_lt_of_le (Nat.lt_of_lt_of_le (Nat.lt_of_lt_of_le (Nat.lt_of_lt_of_le V1.lt (Nat.le_of_eq W4.size.symm)) (Nat.le_of_eq W7.size.symm)) (Nat.le_of_eq W10.size.symm)) (Nat.le_of_eq W13.size.symm)) (Nat.le_of_eq W16.size.symm)) (Nat.le_of_eq W19.size.symm)) (Nat.le_of_eq W22.size.symm)) (Nat.le_of_eq W25.size.symm)) (Nat.le_of_eq W28.size.symm))
        have ne74 : b1 ≠ b29 := Nat.ne_of_lt (Nat.lt_of_lt_of_le lt73 sz_b29)
        have f75 := ((((((((((V28.ext E29).other W31 ne74).other W33 ne74).other W35 ne74).other W37 ne74).other W39 ne74).other W41 ne74).other W43 ne74).other W45 ne74).other W47 ne74)
        obtain ⟨cl76, Ar76, qa76, Sa76, Na76, Ha76, Ga76⟩ := id (f75)
        have hin76 : ¬ ((2 : Int32) < 0 ∨ cl76.slots.size ≤ ((2 : Int32)).toNatClampNeg) := inb_of Sa76 ⟨by decide, by decide⟩
        have hat76 : cl76.slots[((2 : Int32)).toNatClampNeg]? = some (.ref w3) := Has.at Ha76 hin76 rfl
        obtain ⟨cq77, kq77, q77a, q77b, q77c⟩ := isOf hZ e47 (E_w3.ext O47.2)
        obtain ⟨_, _, ⟨T78, L78, c78, n78⟩, -, X78, ⟨Lc78, hQ78, l78, y78, z78⟩, st78⟩ := X47.virtualBack hx (y := (⟨"com/example/mycelia/mycelia/wire/Yields", "answersCount", "()Z"⟩ : MethodName)) (z := (⟨"com/example/mycelia/mycelia/wire/Yields", "answersCount", "()Z"⟩ : MethodName)) hown (mvT hZ (hw _ (List.mem_of_getElem? (i := 24) rfl))) (mvT hZ (hw _ (List.mem_of_getElem? (i := 25) rfl))) (notFace_of_selects (args := #[]) (mvT hZ (hw _ (List.mem_of_getElem? (i := 27) rfl)))) (mvT hZ (hw _ (List.mem_of_getElem? (i := 27) rfl))) (mvT hZ (hw _ (List.mem_of_getElem? (i := 26) rfl))) (by decide) (backOf (W := 0) (rm3 l Z a0 hw w1 w2 w3 w4 w5 w6 w7 w8 w9 G []  h47 n0 O47 ) hZ (hw _ (List.mem_of_getElem? (i := 28) rfl)) (hw _ (List.mem_of_getElem? (i := 3) rfl)) (by decide) (by decide)) q77a q77c (g := (mkF m 122 #[.val (.int p1), .val (.ref b1), .val (.ref b29), .val (.int (2 : Int32)), .val (.ref w3), .unset] [(.ref w3)])) rfl (by rw [hml]; rfl) (Steps.refl _) (argsL := []) (rest := []) (lenOf pd0 rfl) rfl (by show 2 * 0 + _ ≤ _; exact Nat.le_of_eq rfl) (hb hby at_122) (fun _ _ => ⟨rfl, e47, (by decide : 2 + 0 ≤ _), (by decide : 18 + 0 ≤ _)⟩)
        dsimp only [Pt.U, Pt.locs, Pt.cells, Pt.slots] at X78 l78 y78 z78 st78 hQ78
        subst l78 y78 z78
        have X78 : Stand p l e room_1 s m #[(.int p1)] below meth c T78 _ 2 18 := X78
        obtain ⟨rfl, Nq79, e80⟩ := hQ78
        have N78 := Fr.app N47 Nq79
        obtain ⟨cl81, Ar81, qa81, Sa81, Na81, Ha81, Ga81⟩ := id (V47)
        have hin81 : ¬ ((2 : Int32) < 0 ∨ cl81.slots.size ≤ ((2 : Int32)).toNatClampNeg) := inb_of Sa81 ⟨by decide, by decide⟩
        have hat81 : cl81.slots[((2 : Int32)).toNatClampNeg]? = some (.int (0 : Int32)) := Has.at Ha81 hin81 rfl
        obtain ⟨fs, hr, hrun, hended, hW, hsame⟩ := X78.leave (v := some (.int (1 : Int32))) (fun h => by rw [hret] at h; cases h)
        refine ⟨_, _, pre72 _ ?_, hrun, hended, _, _, rfl, ?_, ⟨_, rfl⟩, hW, hsame.mono (by decide) (by decide)⟩
        ·
          show Steps p.tables e below (T47.setTop (mkF m 117 #[.val (.int p1), .val (.ref b1), .val (.ref b29), .val (.int (2 : Int32)), .unset, .unset] [(.int (2 : Int32)), (.ref b1)])) _
          refine X47.aaload hx (j := (2 : Int32)) (v := (.ref w3)) (by rw [e47]; exact Ar76.1) (State.isArrayOf_alike hZ.alike Ar76.2.1) rfl Ar76.2.2 hin76 hat76 (g := (mkF m 117 #[.val (.int p1), .val (.ref b1), .val (.ref b29), .val (.int (2 : Int32)), .unset, .unset] [(.int (2 : Int32)), (.ref b1)])) rfl rfl (hb hby at_117) _ ?_
          show Steps p.tables e below (T47.setTop (mkF m 118 #[.val (.int p1), .val (.ref b1), .val (.ref b29), .val (.int (2 : Int32)), .unset, .unset] [(.ref w3)])) _
          refine XS.astore X47.here hx rfl (hb hby at_118) rfl rfl (l' := #[.val (.int p1), .val (.ref b1), .val (.ref b29), .val (.int (2 : Int32)), .val (.ref w3), .unset]) rfl ?_
          show Steps p.tables e below (T47.setTop (mkF m 120 #[.val (.int p1), .val (.ref b1), .val (.ref b29), .val (.int (2 : Int32)), .val (.ref w3), .unset] [])) _
          refine XS.aload X47.here hx rfl (hb hby at_120) rfl rfl ?_
          show Steps p.tables e below (T47.setTop (mkF m 122 #[.val (.int p1), .val (.ref b1), .val (.ref b29), .val (.int (2 : Int32)), .val (.ref w3), .unset] [(.ref w3)])) _
          refine st78.trans ?_
          show Steps p.tables e below (T78.setTop (mkF m 125 #[.val (.int p1), .val (.ref b1), .val (.ref b29), .val (.int (2 : Int32)), .val (.ref w3), .unset] [(.int (0 : Int32))])) _
          refine XS.istore X78.here hx rfl (hb hby at_125) rfl (l' := #[.val (.int p1), .val (.ref b1), .val (.ref b29), .val (.int (2 : Int32)), .val (.ref w3), .val (.int (0 : Int32))]) rfl ?_
          show Steps p.tables e below (T78.setTop (mkF m 127 #[.val (.int p1), .val (.ref b1), .val (.ref b29), .val (.int (2 : Int32)), .val (.ref w3), .val (.int (0 : Int32))] [])) _
          refine XS.iload X78.here hx rfl (hb hby at_127) rfl ?_
          show Steps p.tables e below (T78.setTop (mkF m 129 #[.val (.int p1), .val (.ref b1), .val (.ref b29), .val (.int (2 : Int32)), .val (.ref w3), .val (.int (0 : Int32))] [(.int (0 : Int32))])) _
          refine XS.aloadN X78.here hx rfl (hb hby at_129) rfl rfl ?_
          show Steps p.tables e below (T78.setTop (mkF m 130 #[.val (.int p1), .val (.ref b1), .val (.ref b29), .val (.int (2 : Int32)), .val (.ref w3), .val (.int (0 : Int32))] [(.ref b29), (.int (0 : Int32))])) _
          refine XS.iloadN X78.here hx rfl (hb hby at_130) rfl ?_
          show Steps p.tables e below (T78.setTop (mkF m 131 #[.val (.int p1), .val (.ref b1), .val (.ref b29), .val (.int (2 : Int32)), .val (.ref w3), .val (.int (0 : Int32))] [(.int (2 : Int32)), (.ref b29), (.int (0 : Int32))])) _
          refine X78.baloadBooleans hx (j := (2 : Int32)) (v := (.int (0 : Int32))) (by rw [e80]; exact Ar81.1) (State.isArrayOf_alike hZ.alike Ar81.2.1) Ar81.2.2 hin81 hat81 (g := (mkF m 131 #[.val (.int p1), .val (.ref b1), .val (.ref b29), .val (.int (2 : Int32)), .val (.ref w3), .val (.int (0 : Int32))] [(.int (2 : Int32)), (.ref b29), (.int (0 : Int32))])) rfl rfl (hb hby at_131) _ ?_
          show Steps p.tables e below (T78.setTop (mkF m 132 #[.val (.int p1), .val (.ref b1), .val (.ref b29), .val (.int (2 : Int32)), .val (.ref w3), .val (.int (0 : Int32))] [(.int (0 : Int32)), (.int (0 : Int32))])) _
          refine XS.icmpYes X78.here hx rfl (pc0 := 132) (pc' := 137) rfl (hb hby at_132) rfl (teq (by decide : (0 : Int32) = (0 : Int32))).1 (by decide) (by decide) ?_
          show Steps p.tables e below (T78.setTop (mkF m 137 #[.val (.int p1), .val (.ref b1), .val (.ref b29), .val (.int (2 : Int32)), .val (.ref w3), .val (.int (0 : Int32))] [])) _
          refine XS.iload X78.here hx rfl (hb hby at_137) rfl ?_
          show Steps p.tables e below (T78.setTop (mkF m 139 #[.val (.int p1), .val (.ref b1), .val (.ref b29), .val (.int (2 : Int32)), .val (.ref w3), .val (.int (0 : Int32))] [(.int (0 : Int32))])) _
          refine XS.ifYes X78.here hx rfl (pc0 := 139) (pc' := 150) rfl (hb hby at_139) rfl ((if0 _ _).trans (teq (by decide : (0 : Int32) = (0 : Int32))).1) (by decide) (by decide) ?_
          show Steps p.tables e below (T78.setTop (mkF m 150 #[.val (.int p1), .val (.ref b1), .val (.ref b29), .val (.int (2 : Int32)), .val (.ref w3), .val (.int (0 : Int32))] [])) _
          refine XS.iconst X78.here hx rfl (hb hby at_150) ?_
          show Steps p.tables e below (T78.setTop (mkF m 151 #[.val (.int p1), .val (.ref b1), .val (.ref b29), .val (.int (2 : Int32)), .val (.ref w3), .val (.int (0 : Int32))] [(.int (1 : Int32))])) _
          refine XS.goto X78.here hx rfl (pc0 := 151) (pc' := 155) rfl (hb hby at_151) (by decide) (by decide) ?_
          show Steps p.tables e below (T78.setTop (mkF m 155 #[.val (.int p1), .val (.ref b1), .val (.ref b29), .val (.int (2 : Int32)), .val (.ref w3), .val (.int (0 : Int32))] [(.int (1 : Int32))])) _
          exact retN X78 hx (t := .boolean) hret (by simp) (hb hby at_155) hr
        ·
          show Q0 n0 _ T78.heap _
          rw [e80]
          exact ⟨rfl, N78⟩
      ·
        by_cases hc82 : ((p1 &&& (2147483647 : Int32)) % (9 : Int32)) = (3 : Int32)
        ·
          have pre83 : ∀ t, Steps p.tables e below (T47.setTop (mkF m 117 #[.val (.int p1), .val (.ref b1), .val (.ref b29), .val (.int (3 : Int32)), .unset, .unset] [(.int (3 : Int32)), (.ref b1)])) t → Steps p.tables e below (s₁.setTop (entryFrame m #[(.int p1)] maxLocals)) t := fun t k => pre48 t (by rw [hc82]; exact k)
          have lt84 : b1 < h28.size := (Nat.lt_of_lt_of_le (Nat.lt_of_lt_of_le (Nat.lt_of_lt_of_le (Nat.lt_of_lt_of_le (Nat.lt_of_lt_of_le (Nat.lt_of_lt_of_le (Nat.lt_of_lt_of_le (Nat.lt_of_lt_of_le (Nat.lt_of_lt_of_le V1.lt (Nat.le_of_eq W4.size.symm)) (Nat.le_of_eq W7.size.symm)) (Nat.le_of_eq W10.size.symm)) (Nat.le_of_eq W13.size.symm)) (Nat.le_of_eq W16.size.symm)) (Nat.le_of_eq W19.size.symm)) (Nat.le_of_eq W22.size.symm)) (Nat.le_of_eq W25.size.symm)) (Nat.le_of_eq W28.size.symm))
          have ne85 : b1 ≠ b29 := Nat.ne_of_lt (Nat.lt_of_lt_of_le lt84 sz_b29)
          have f86 := ((((((((((V28.ext E29).other W31 ne85).other W33 ne85).other W35 ne85).other W37 ne85).other W39 ne85).other W41 ne85).other W43 ne85).other W45 ne85).other W47 ne85)
          obtain ⟨cl87, Ar87, qa87, Sa87, Na87, Ha87, Ga87⟩ := id (f86)
          have hin87 : ¬ ((3 : Int32) < 0 ∨ cl87.slots.size ≤ ((3 : Int32)).toNatClampNeg) := inb_of Sa87 ⟨by decide, by decide⟩
          have hat87 : cl87.slots[((3 : Int32)).toNatClampNeg]? = some (.ref w4) := Has.at Ha87 hin87 rfl
          obtain ⟨cq88, kq88, q88a, q88b, q88c⟩ := isOf hZ e47 (E_w4.ext O47.2)
          obtain ⟨_, _, ⟨T89, L89, c89, n89⟩, -, X89, ⟨Lc89, hQ89, l89, y89, z89⟩, st89⟩ := X47.virtualBack hx (y := (⟨"com/example/mycelia/mycelia/wire/Yields", "answersCount", "()Z"⟩ : MethodName)) (z := (⟨"com/example/mycelia/mycelia/wire/Yields", "answersCount", "()Z"⟩ : MethodName)) hown (mvT hZ (hw _ (List.mem_of_getElem? (i := 24) rfl))) (mvT hZ (hw _ (List.mem_of_getElem? (i := 25) rfl))) (notFace_of_selects (args := #[]) (mvT hZ (hw _ (List.mem_of_getElem? (i := 27) rfl)))) (mvT hZ (hw _ (List.mem_of_getElem? (i := 27) rfl))) (mvT hZ (hw _ (List.mem_of_getElem? (i := 26) rfl))) (by decide) (backOf (W := 0) (rm4 l Z a0 hw w1 w2 w3 w4 w5 w6 w7 w8 w9 G []  h47 n0 O47 ) hZ (hw _ (List.mem_of_getElem? (i := 28) rfl)) (hw _ (List.mem_of_getElem? (i := 3) rfl)) (by decide) (by decide)) q88a q88c (g := (mkF m 122 #[.val (.int p1), .val (.ref b1), .val (.ref b29), .val (.int (3 : Int32)), .val (.ref w4), .unset] [(.ref w4)])) rfl (by rw [hml]; rfl) (Steps.refl _) (argsL := []) (rest := []) (lenOf pd0 rfl) rfl (by show 2 * 0 + _ ≤ _; exact Nat.le_of_eq rfl) (hb hby at_122) (fun _ _ => ⟨rfl, e47, (by decide : 2 + 0 ≤ _), (by decide : 18 + 0 ≤ _)⟩)
          dsimp only [Pt.U, Pt.locs, Pt.cells, Pt.slots] at X89 l89 y89 z89 st89 hQ89
          subst l89 y89 z89
          have X89 : Stand p l e room_1 s m #[(.int p1)] below meth c T89 _ 2 18 := X89
          obtain ⟨rfl, Nq90, e91⟩ := hQ89
          have N89 := Fr.app N47 Nq90
          obtain ⟨cl92, Ar92, qa92, Sa92, Na92, Ha92, Ga92⟩ := id (V47)
          have hin92 : ¬ ((3 : Int32) < 0 ∨ cl92.slots.size ≤ ((3 : Int32)).toNatClampNeg) := inb_of Sa92 ⟨by decide, by decide⟩
          have hat92 : cl92.slots[((3 : Int32)).toNatClampNeg]? = some (.int (1 : Int32)) := Has.at Ha92 hin92 rfl
          obtain ⟨cq93, kq93, q93a, q93b, q93c⟩ := isOf hZ e91 (E_w4.ext O47.2)
          obtain ⟨_, _, ⟨T94, L94, c94, n94⟩, -, X94, ⟨Lc94, hQ94, l94, y94, z94⟩, st94⟩ := X89.virtualBack hx (y := (⟨"com/example/mycelia/mycelia/wire/Yields", "answersValues", "()Z"⟩ : MethodName)) (z := (⟨"com/example/mycelia/mycelia/wire/Yields", "answersValues", "()Z"⟩ : MethodName)) hown (mvT hZ (hw _ (List.mem_of_getElem? (i := 31) rfl))) (mvT hZ (hw _ (List.mem_of_getElem? (i := 32) rfl))) (notFace_of_selects (args := #[]) (mvT hZ (hw _ (List.mem_of_getElem? (i := 34) rfl)))) (mvT hZ (hw _ (List.mem_of_getElem? (i := 34) rfl))) (mvT hZ (hw _ (List.mem_of_getElem? (i := 33) rfl))) (by decide) (backOf (W := 0) (rm5 l Z a0 hw w1 w2 w3 w4 w5 w6 w7 w8 w9 G []  h47 n0 O47 ) hZ (hw _ (List.mem_of_getElem? (i := 35) rfl)) (hw _ (List.mem_of_getElem? (i := 3) rfl)) (by decide) (by decide)) q93a q93c (g := (mkF m 144 #[.val (.int p1), .val (.ref b1), .val (.ref b29), .val (.int (3 : Int32)), .val (.ref w4), .val (.int (1 : Int32))] [(.ref w4)])) rfl (by rw [hml]; rfl) (Steps.refl _) (argsL := []) (rest := []) (lenOf pd0 rfl) rfl (by show 2 * 0 + _ ≤ _; exact Nat.le_of_eq rfl) (hb hby at_144) (fun _ _ => ⟨rfl, e91, (by decide : 2 + 0 ≤ _), (by decide : 18 + 0 ≤ _)⟩)
          dsimp only [Pt.U, Pt.locs, Pt.cells, Pt.slots] at X94 l94 y94 z94 st94 hQ94
          subst l94 y94 z94
          have X94 : Stand p l e room_1 s m #[(.int p1)] below meth c T94 _ 2 18 := X94
          obtain ⟨rfl, Nq95, e96⟩ := hQ94
          have N94 := Fr.app N89 Nq95
          obtain ⟨fs, hr, hrun, hended, hW, hsame⟩ := X94.leave (v := some (.int (1 : Int32))) (fun h => by rw [hret] at h; cases h)
          refine ⟨_, _, pre83 _ ?_, hrun, hended, _, _, rfl, ?_, ⟨_, rfl⟩, hW, hsame.mono (by decide) (by decide)⟩
          ·
            show Steps p.tables e below (T47.setTop (mkF m 117 #[.val (.int p1), .val (.ref b1), .val (.ref b29), .val (.int (3 : Int32)), .unset, .unset] [(.int (3 : Int32)), (.ref b1)])) _
            refine X47.aaload hx (j := (3 : Int32)) (v := (.ref w4)) (by rw [e47]; exact Ar87.1) (State.isArrayOf_alike hZ.alike Ar87.2.1) rfl Ar87.2.2 hin87 hat87 (g := (mkF m 117 #[.val (.int p1), .val (.ref b1), .val (.ref b29), .val (.int (3 : Int32)), .unset, .unset] [(.int (3 : Int32)), (.ref b1)])) rfl rfl (hb hby at_117) _ ?_
            show Steps p.tables e below (T47.setTop (mkF m 118 #[.val (.int p1), .val (.ref b1), .val (.ref b29), .val (.int (3 : Int32)), .unset, .unset] [(.ref w4)])) _
            refine XS.astore X47.here hx rfl (hb hby at_118) rfl rfl (l' := #[.val (.int p1), .val (.ref b1), .val (.ref b29), .val (.int (3 : Int32)), .val (.ref w4), .unset]) rfl ?_
            show Steps p.tables e below (T47.setTop (mkF m 120 #[.val (.int p1), .val (.ref b1), .val (.ref b29), .val (.int (3 : Int32)), .val (.ref w4), .unset] [])) _
            refine XS.aload X47.here hx rfl (hb hby at_120) rfl rfl ?_
            show Steps p.tables e below (T47.setTop (mkF m 122 #[.val (.int p1), .val (.ref b1), .val (.ref b29), .val (.int (3 : Int32)), .val (.ref w4), .unset] [(.ref w4)])) _
            refine st89.trans ?_
            show Steps p.tables e below (T89.setTop (mkF m 125 #[.val (.int p1), .val (.ref b1), .val (.ref b29), .val (.int (3 : Int32)), .val (.ref w4), .unset] [(.int (1 : Int32))])) _
            refine XS.istore X89.here hx rfl (hb hby at_125) rfl (l' := #[.val (.int p1), .val (.ref b1), .val (.ref b29), .val (.int (3 : Int32)), .val (.ref w4), .val (.int (1 : Int32))]) rfl ?_
            show Steps p.tables e below (T89.setTop (mkF m 127 #[.val (.int p1), .val (.ref b1), .val (.ref b29), .val (.int (3 : Int32)), .val (.ref w4), .val (.int (1 : Int32))] [])) _
            refine XS.iload X89.here hx rfl (hb hby at_127) rfl ?_
            show Steps p.tables e below (T89.setTop (mkF m 129 #[.val (.int p1), .val (.ref b1), .val (.ref b29), .val (.int (3 : Int32)), .val (.ref w4), .val (.int (1 : Int32))] [(.int (1 : Int32))])) _
            refine XS.aloadN X89.here hx rfl (hb hby at_129) rfl rfl ?_
            show Steps p.tables e below (T89.setTop (mkF m 130 #[.val (.int p1), .val (.ref b1), .val (.ref b29), .val (.int (3 : Int32)), .val (.ref w4), .val (.int (1 : Int32))] [(.ref b29), (.int (1 : Int32))])) _
            refine XS.iloadN X89.here hx rfl (hb hby at_130) rfl ?_
            show Steps p.tables e below (T89.setTop (mkF m 131 #[.val (.int p1), .val (.ref b1), .val (.ref b29), .val (.int (3 : Int32)), .val (.ref w4), .val (.int (1 : Int32))] [(.int (3 : Int32)), (.ref b29), (.int (1 : Int32))])) _
            refine X89.baloadBooleans hx (j := (3 : Int32)) (v := (.int (1 : Int32))) (by rw [e91]; exact Ar92.1) (State.isArrayOf_alike hZ.alike Ar92.2.1) Ar92.2.2 hin92 hat92 (g := (mkF m 131 #[.val (.int p1), .val (.ref b1), .val (.ref b29), .val (.int (3 : Int32)), .val (.ref w4), .val (.int (1 : Int32))] [(.int (3 : Int32)), (.ref b29), (.int (1 : Int32))])) rfl rfl (hb hby at_131) _ ?_
            show Steps p.tables e below (T89.setTop (mkF m 132 #[.val (.int p1), .val (.ref b1), .val (.ref b29), .val (.int (3 : Int32)), .val (.ref w4), .val (.int (1 : Int32))] [(.int (1 : Int32)), (.int (1 : Int32))])) _
            refine XS.icmpYes X89.here hx rfl (pc0 := 132) (pc' := 137) rfl (hb hby at_132) rfl (teq (by decide : (1 : Int32) = (1 : Int32))).1 (by decide) (by decide) ?_
            show Steps p.tables e below (T89.setTop (mkF m 137 #[.val (.int p1), .val (.ref b1), .val (.ref b29), .val (.int (3 : Int32)), .val (.ref w4), .val (.int (1 : Int32))] [])) _
            refine XS.iload X89.here hx rfl (hb hby at_137) rfl ?_
            show Steps p.tables e below (T89.setTop (mkF m 139 #[.val (.int p1), .val (.ref b1), .val (.ref b29), .val (.int (3 : Int32)), .val (.ref w4), .val (.int (1 : Int32))] [(.int (1 : Int32))])) _
            refine XS.ifNo X89.here hx rfl (hb hby at_139) rfl ((if0 _ _).trans (feq (by decide : ¬ ((1 : Int32) = (0 : Int32)))).1) ?_
            show Steps p.tables e below (T89.setTop (mkF m 142 #[.val (.int p1), .val (.ref b1), .val (.ref b29), .val (.int (3 : Int32)), .val (.ref w4), .val (.int (1 : Int32))] [])) _
            refine XS.aload X89.here hx rfl (hb hby at_142) rfl rfl ?_
            show Steps p.tables e below (T89.setTop (mkF m 144 #[.val (.int p1), .val (.ref b1), .val (.ref b29), .val (.int (3 : Int32)), .val (.ref w4), .val (.int (1 : Int32))] [(.ref w4)])) _
            refine st94.trans ?_
            show Steps p.tables e below (T94.setTop (mkF m 147 #[.val (.int p1), .val (.ref b1), .val (.ref b29), .val (.int (3 : Int32)), .val (.ref w4), .val (.int (1 : Int32))] [(.int (0 : Int32))])) _
            refine XS.ifNo X94.here hx rfl (hb hby at_147) rfl ((if0 _ _).trans (teq (by decide : (0 : Int32) = (0 : Int32))).2) ?_
            show Steps p.tables e below (T94.setTop (mkF m 150 #[.val (.int p1), .val (.ref b1), .val (.ref b29), .val (.int (3 : Int32)), .val (.ref w4), .val (.int (1 : Int32))] [])) _
            refine XS.iconst X94.here hx rfl (hb hby at_150) ?_
            show Steps p.tables e below (T94.setTop (mkF m 151 #[.val (.int p1), .val (.ref b1), .val (.ref b29), .val (.int (3 : Int32)), .val (.ref w4), .val (.int (1 : Int32))] [(.int (1 : Int32))])) _
            refine XS.goto X94.here hx rfl (pc0 := 151) (pc' := 155) rfl (hb hby at_151) (by decide) (by decide) ?_
            show Steps p.tables e below (T94.setTop (mkF m 155 #[.val (.int p1), .val (.ref b1), .val (.ref b29), .val (.int (3 : Int32)), .val (.ref w4), .val (.int (1 : Int32))] [(.int (1 : Int32))])) _
            exact retN X94 hx (t := .boolean) hret (by simp) (hb hby at_155) hr
          ·
            show Q0 n0 _ T94.heap _
            rw [e96]
            exact ⟨rfl, N94⟩
        ·
          by_cases hc97 : ((p1 &&& (2147483647 : Int32)) % (9 : Int32)) = (4 : Int32)
          ·
            have pre98 : ∀ t, Steps p.tables e below (T47.setTop (mkF m 117 #[.val (.int p1), .val (.ref b1), .val (.ref b29), .val (.int (4 : Int32)), .unset, .unset] [(.int (4 : Int32)), (.ref b1)])) t → Steps p.tables e below (s₁.setTop (entryFrame m #[(.int p1)] maxLocals)) t := fun t k => pre48 t (by rw [hc97]; exact k)
            have lt99 : b1 < h28.size := (Nat.lt_of_lt_of_le (Nat.lt_of_lt_of_le (Nat.lt_of_lt_of_le (Nat.lt_of_lt_of_le (Nat.lt_of_lt_of_le (Nat.lt_of_lt_of_le (Nat.lt_of_lt_of_le (Nat.lt_of_lt_of_le (Nat.lt_of_lt_of_le V1.lt (Nat.le_of_eq W4.size.symm)) (Nat.le_of_eq W7.size.symm)) (Nat.le_of_eq W10.size.symm)) (Nat.le_of_eq W13.size.symm)) (Nat.le_of_eq W16.size.symm)) (Nat.le_of_eq W19.size.symm)) (Nat.le_of_eq W22.size.symm)) (Nat.le_of_eq W25.size.symm)) (Nat.le_of_eq W28.size.symm))
            have ne100 : b1 ≠ b29 := Nat.ne_of_lt (Nat.lt_of_lt_of_le lt99 sz_b29)
            have f101 := ((((((((((V28.ext E29).other W31 ne100).other W33 ne100).other W35 ne100).other W37 ne100).other W39 ne100).other W41 ne100).other W43 ne100).other W45 ne100).other W47 ne100)
            obtain ⟨cl102, Ar102, qa102, Sa102, Na102, Ha102, Ga102⟩ := id (f101)
            have hin102 : ¬ ((4 : Int32) < 0 ∨ cl102.slots.size ≤ ((4 : Int32)).toNatClampNeg) := inb_of Sa102 ⟨by decide, by decide⟩
            have hat102 : cl102.slots[((4 : Int32)).toNatClampNeg]? = some (.ref w5) := Has.at Ha102 hin102 rfl
            obtain ⟨cq103, kq103, q103a, q103b, q103c⟩ := isOf hZ e47 (E_w5.ext O47.2)
            obtain ⟨_, _, ⟨T104, L104, c104, n104⟩, -, X104, ⟨Lc104, hQ104, l104, y104, z104⟩, st104⟩ := X47.virtualBack hx (y := (⟨"com/example/mycelia/mycelia/wire/Yields", "answersCount", "()Z"⟩ : MethodName)) (z := (⟨"com/example/mycelia/mycelia/wire/Yields", "answersCount", "()Z"⟩ : MethodName)) hown (mvT hZ (hw _ (List.mem_of_getElem? (i := 24) rfl))) (mvT hZ (hw _ (List.mem_of_getElem? (i := 25) rfl))) (notFace_of_selects (args := #[]) (mvT hZ (hw _ (List.mem_of_getElem? (i := 27) rfl)))) (mvT hZ (hw _ (List.mem_of_getElem? (i := 27) rfl))) (mvT hZ (hw _ (List.mem_of_getElem? (i := 26) rfl))) (by decide) (backOf (W := 0) (rm6 l Z a0 hw w1 w2 w3 w4 w5 w6 w7 w8 w9 G []  h47 n0 O47 ) hZ (hw _ (List.mem_of_getElem? (i := 28) rfl)) (hw _ (List.mem_of_getElem? (i := 3) rfl)) (by decide) (by decide)) q103a q103c (g := (mkF m 122 #[.val (.int p1), .val (.ref b1), .val (.ref b29), .val (.int (4 : Int32)), .val (.ref w5), .unset] [(.ref w5)])) rfl (by rw [hml]; rfl) (Steps.refl _) (argsL := []) (rest := []) (lenOf pd0 rfl) rfl (by show 2 * 0 + _ ≤ _; exact Nat.le_of_eq rfl) (hb hby at_122) (fun _ _ => ⟨rfl, e47, (by decide : 2 + 0 ≤ _), (by decide : 18 + 0 ≤ _)⟩)
            dsimp only [Pt.U, Pt.locs, Pt.cells, Pt.slots] at X104 l104 y104 z104 st104 hQ104
            subst l104 y104 z104
            have X104 : Stand p l e room_1 s m #[(.int p1)] below meth c T104 _ 2 18 := X104
            obtain ⟨rfl, Nq105, e106⟩ := hQ104
            have N104 := Fr.app N47 Nq105
            obtain ⟨cl107, Ar107, qa107, Sa107, Na107, Ha107, Ga107⟩ := id (V47)
            have hin107 : ¬ ((4 : Int32) < 0 ∨ cl107.slots.size ≤ ((4 : Int32)).toNatClampNeg) := inb_of Sa107 ⟨by decide, by decide⟩
            have hat107 : cl107.slots[((4 : Int32)).toNatClampNeg]? = some (.int (0 : Int32)) := Has.at Ha107 hin107 rfl
            obtain ⟨fs, hr, hrun, hended, hW, hsame⟩ := X104.leave (v := some (.int (1 : Int32))) (fun h => by rw [hret] at h; cases h)
            refine ⟨_, _, pre98 _ ?_, hrun, hended, _, _, rfl, ?_, ⟨_, rfl⟩, hW, hsame.mono (by decide) (by decide)⟩
            ·
              show Steps p.tables e below (T47.setTop (mkF m 117 #[.val (.int p1), .val (.ref b1), .val (.ref b29), .val (.int (4 : Int32)), .unset, .unset] [(.int (4 : Int32)), (.ref b1)])) _
              refine X47.aaload hx (j := (4 : Int32)) (v := (.ref w5)) (by rw [e47]; exact Ar102.1) (State.isArrayOf_alike hZ.alike Ar102.2.1) rfl Ar102.2.2 hin102 hat102 (g := (mkF m 117 #[.val (.int p1), .val (.ref b1), .val (.ref b29), .val (.int (4 : Int32)), .unset, .unset] [(.int (4 : Int32)), (.ref b1)])) rfl rfl (hb hby at_117) _ ?_
              show Steps p.tables e below (T47.setTop (mkF m 118 #[.val (.int p1), .val (.ref b1), .val (.ref b29), .val (.int (4 : Int32)), .unset, .unset] [(.ref w5)])) _
              refine XS.astore X47.here hx rfl (hb hby at_118) rfl rfl (l' := #[.val (.int p1), .val (.ref b1), .val (.ref b29), .val (.int (4 : Int32)), .val (.ref w5), .unset]) rfl ?_
              show Steps p.tables e below (T47.setTop (mkF m 120 #[.val (.int p1), .val (.ref b1), .val (.ref b29), .val (.int (4 : Int32)), .val (.ref w5), .unset] [])) _
              refine XS.aload X47.here hx rfl (hb hby at_120) rfl rfl ?_
              show Steps p.tables e below (T47.setTop (mkF m 122 #[.val (.int p1), .val (.ref b1), .val (.ref b29), .val (.int (4 : Int32)), .val (.ref w5), .unset] [(.ref w5)])) _
              refine st104.trans ?_
              show Steps p.tables e below (T104.setTop (mkF m 125 #[.val (.int p1), .val (.ref b1), .val (.ref b29), .val (.int (4 : Int32)), .val (.ref w5), .unset] [(.int (0 : Int32))])) _
              refine XS.istore X104.here hx rfl (hb hby at_125) rfl (l' := #[.val (.int p1), .val (.ref b1), .val (.ref b29), .val (.int (4 : Int32)), .val (.ref w5), .val (.int (0 : Int32))]) rfl ?_
              show Steps p.tables e below (T104.setTop (mkF m 127 #[.val (.int p1), .val (.ref b1), .val (.ref b29), .val (.int (4 : Int32)), .val (.ref w5), .val (.int (0 : Int32))] [])) _
              refine XS.iload X104.here hx rfl (hb hby at_127) rfl ?_
              show Steps p.tables e below (T104.setTop (mkF m 129 #[.val (.int p1), .val (.ref b1), .val (.ref b29), .val (.int (4 : Int32)), .val (.ref w5), .val (.int (0 : Int32))] [(.int (0 : Int32))])) _
              refine XS.aloadN X104.here hx rfl (hb hby at_129) rfl rfl ?_
              show Steps p.tables e below (T104.setTop (mkF m 130 #[.val (.int p1), .val (.ref b1), .val (.ref b29), .val (.int (4 : Int32)), .val (.ref w5), .val (.int (0 : Int32))] [(.ref b29), (.int (0 : Int32))])) _
              refine XS.iloadN X104.here hx rfl (hb hby at_130) rfl ?_
              show Steps p.tables e below (T104.setTop (mkF m 131 #[.val (.int p1), .val (.ref b1), .val (.ref b29), .val (.int (4 : Int32)), .val (.ref w5), .val (.int (0 : Int32))] [(.int (4 : Int32)), (.ref b29), (.int (0 : Int32))])) _
              refine X104.baloadBooleans hx (j := (4 : Int32)) (v := (.int (0 : Int32))) (by rw [e106]; exact Ar107.1) (State.isArrayOf_alike hZ.alike Ar107.2.1) Ar107.2.2 hin107 hat107 (g := (mkF m 131 #[.val (.int p1), .val (.ref b1), .val (.ref b29), .val (.int (4 : Int32)), .val (.ref w5), .val (.int (0 : Int32))] [(.int (4 : Int32)), (.ref b29), (.int (0 : Int32))])) rfl rfl (hb hby at_131) _ ?_
              show Steps p.tables e below (T104.setTop (mkF m 132 #[.val (.int p1), .val (.ref b1), .val (.ref b29), .val (.int (4 : Int32)), .val (.ref w5), .val (.int (0 : Int32))] [(.int (0 : Int32)), (.int (0 : Int32))])) _
              refine XS.icmpYes X104.here hx rfl (pc0 := 132) (pc' := 137) rfl (hb hby at_132) rfl (teq (by decide : (0 : Int32) = (0 : Int32))).1 (by decide) (by decide) ?_
              show Steps p.tables e below (T104.setTop (mkF m 137 #[.val (.int p1), .val (.ref b1), .val (.ref b29), .val (.int (4 : Int32)), .val (.ref w5), .val (.int (0 : Int32))] [])) _
              refine XS.iload X104.here hx rfl (hb hby at_137) rfl ?_
              show Steps p.tables e below (T104.setTop (mkF m 139 #[.val (.int p1), .val (.ref b1), .val (.ref b29), .val (.int (4 : Int32)), .val (.ref w5), .val (.int (0 : Int32))] [(.int (0 : Int32))])) _
              refine XS.ifYes X104.here hx rfl (pc0 := 139) (pc' := 150) rfl (hb hby at_139) rfl ((if0 _ _).trans (teq (by decide : (0 : Int32) = (0 : Int32))).1) (by decide) (by decide) ?_
              show Steps p.tables e below (T104.setTop (mkF m 150 #[.val (.int p1), .val (.ref b1), .val (.ref b29), .val (.int (4 : Int32)), .val (.ref w5), .val (.int (0 : Int32))] [])) _
              refine XS.iconst X104.here hx rfl (hb hby at_150) ?_
              show Steps p.tables e below (T104.setTop (mkF m 151 #[.val (.int p1), .val (.ref b1), .val (.ref b29), .val (.int (4 : Int32)), .val (.ref w5), .val (.int (0 : Int32))] [(.int (1 : Int32))])) _
              refine XS.goto X104.here hx rfl (pc0 := 151) (pc' := 155) rfl (hb hby at_151) (by decide) (by decide) ?_
              show Steps p.tables e below (T104.setTop (mkF m 155 #[.val (.int p1), .val (.ref b1), .val (.ref b29), .val (.int (4 : Int32)), .val (.ref w5), .val (.int (0 : Int32))] [(.int (1 : Int32))])) _
              exact retN X104 hx (t := .boolean) hret (by simp) (hb hby at_155) hr
            ·
              show Q0 n0 _ T104.heap _
              rw [e106]
              exact ⟨rfl, N104⟩
          ·
            by_cases hc108 : ((p1 &&& (2147483647 : Int32)) % (9 : Int32)) = (5 : Int32)
            ·
              have pre109 : ∀ t, Steps p.tables e below (T47.setTop (mkF m 117 #[.val (.int p1), .val (.ref b1), .val (.ref b29), .val (.int (5 : Int32)), .unset, .unset] [(.int (5 : Int32)), (.ref b1)])) t → Steps p.tables e below (s₁.setTop (entryFrame m #[(.int p1)] maxLocals)) t := fun t k => pre48 t (by rw [hc108]; exact k)
              have lt110 : b1 < h28.size := (Nat.lt_of_lt_of_le (Nat.lt_of_lt_of_le (Nat.lt_of_lt_of_le (Nat.lt_of_lt_of_le (Nat.lt_of_lt_of_le (Nat.lt_of_lt_of_le (Nat.lt_of_lt_of_le (Nat.lt_of_lt_of_le (Nat.lt_of_lt_of_le V1.lt (Nat.le_of_eq W4.size.symm)) (Nat.le_of_eq W7.size.symm)) (Nat.le_of_eq W10.size.symm)) (Nat.le_of_eq W13.size.symm)) (Nat.le_of_eq W16.size.symm)) (Nat.le_of_eq W19.size.symm)) (Nat.le_of_eq W22.size.symm)) (Nat.le_of_eq W25.size.symm)) (Nat.le_of_eq W28.size.symm))
              have ne111 : b1 ≠ b29 := Nat.ne_of_lt (Nat.lt_of_lt_of_le lt110 sz_b29)
              have f112 := ((((((((((V28.ext E29).other W31 ne111).other W33 ne111).other W35 ne111).other W37 ne111).other W39 ne111).other W41 ne111).other W43 ne111).other W45 ne111).other W47 ne111)
              obtain ⟨cl113, Ar113, qa113, Sa113, Na113, Ha113, Ga113⟩ := id (f112)
              have hin113 : ¬ ((5 : Int32) < 0 ∨ cl113.slots.size ≤ ((5 : Int32)).toNatClampNeg) := inb_of Sa113 ⟨by decide, by decide⟩
              have hat113 : cl113.slots[((5 : Int32)).toNatClampNeg]? = some (.ref w6) := Has.at Ha113 hin113 rfl
              obtain ⟨cq114, kq114, q114a, q114b, q114c⟩ := isOf hZ e47 (E_w6.ext O47.2)
              obtain ⟨_, _, ⟨T115, L115, c115, n115⟩, -, X115, ⟨Lc115, hQ115, l115, y115, z115⟩, st115⟩ := X47.virtualBack hx (y := (⟨"com/example/mycelia/mycelia/wire/Yields", "answersCount", "()Z"⟩ : MethodName)) (z := (⟨"com/example/mycelia/mycelia/wire/Yields", "answersCount", "()Z"⟩ : MethodName)) hown (mvT hZ (hw _ (List.mem_of_getElem? (i := 24) rfl))) (mvT hZ (hw _ (List.mem_of_getElem? (i := 25) rfl))) (notFace_of_selects (args := #[]) (mvT hZ (hw _ (List.mem_of_getElem? (i := 27) rfl)))) (mvT hZ (hw _ (List.mem_of_getElem? (i := 27) rfl))) (mvT hZ (hw _ (List.mem_of_getElem? (i := 26) rfl))) (by decide) (backOf (W := 0) (rm7 l Z a0 hw w1 w2 w3 w4 w5 w6 w7 w8 w9 G []  h47 n0 O47 ) hZ (hw _ (List.mem_of_getElem? (i := 28) rfl)) (hw _ (List.mem_of_getElem? (i := 3) rfl)) (by decide) (by decide)) q114a q114c (g := (mkF m 122 #[.val (.int p1), .val (.ref b1), .val (.ref b29), .val (.int (5 : Int32)), .val (.ref w6), .unset] [(.ref w6)])) rfl (by rw [hml]; rfl) (Steps.refl _) (argsL := []) (rest := []) (lenOf pd0 rfl) rfl (by show 2 * 0 + _ ≤ _; exact Nat.le_of_eq rfl) (hb hby at_122) (fun _ _ => ⟨rfl, e47, (by decide : 2 + 0 ≤ _), (by decide : 18 + 0 ≤ _)⟩)
              dsimp only [Pt.U, Pt.locs, Pt.cells, Pt.slots] at X115 l115 y115 z115 st115 hQ115
              subst l115 y115 z115
              have X115 : Stand p l e room_1 s m #[(.int p1)] below meth c T115 _ 2 18 := X115
              obtain ⟨rfl, Nq116, e117⟩ := hQ115
              have N115 := Fr.app N47 Nq116
              obtain ⟨cl118, Ar118, qa118, Sa118, Na118, Ha118, Ga118⟩ := id (V47)
              have hin118 : ¬ ((5 : Int32) < 0 ∨ cl118.slots.size ≤ ((5 : Int32)).toNatClampNeg) := inb_of Sa118 ⟨by decide, by decide⟩
              have hat118 : cl118.slots[((5 : Int32)).toNatClampNeg]? = some (.int (0 : Int32)) := Has.at Ha118 hin118 rfl
              obtain ⟨fs, hr, hrun, hended, hW, hsame⟩ := X115.leave (v := some (.int (1 : Int32))) (fun h => by rw [hret] at h; cases h)
              refine ⟨_, _, pre109 _ ?_, hrun, hended, _, _, rfl, ?_, ⟨_, rfl⟩, hW, hsame.mono (by decide) (by decide)⟩
              ·
                show Steps p.tables e below (T47.setTop (mkF m 117 #[.val (.int p1), .val (.ref b1), .val (.ref b29), .val (.int (5 : Int32)), .unset, .unset] [(.int (5 : Int32)), (.ref b1)])) _
                refine X47.aaload hx (j := (5 : Int32)) (v := (.ref w6)) (by rw [e47]; exact Ar113.1) (State.isArrayOf_alike hZ.alike Ar113.2.1) rfl Ar113.2.2 hin113 hat113 (g := (mkF m 117 #[.val (.int p1), .val (.ref b1), .val (.ref b29), .val (.int (5 : Int32)), .unset, .unset] [(.int (5 : Int32)), (.ref b1)])) rfl rfl (hb hby at_117) _ ?_
                show Steps p.tables e below (T47.setTop (mkF m 118 #[.val (.int p1), .val (.ref b1), .val (.ref b29), .val (.int (5 : Int32)), .unset, .unset] [(.ref w6)])) _
                refine XS.astore X47.here hx rfl (hb hby at_118) rfl rfl (l' := #[.val (.int p1), .val (.ref b1), .val (.ref b29), .val (.int (5 : Int32)), .val (.ref w6), .unset]) rfl ?_
                show Steps p.tables e below (T47.setTop (mkF m 120 #[.val (.int p1), .val (.ref b1), .val (.ref b29), .val (.int (5 : Int32)), .val (.ref w6), .unset] [])) _
                refine XS.aload X47.here hx rfl (hb hby at_120) rfl rfl ?_
                show Steps p.tables e below (T47.setTop (mkF m 122 #[.val (.int p1), .val (.ref b1), .val (.ref b29), .val (.int (5 : Int32)), .val (.ref w6), .unset] [(.ref w6)])) _
                refine st115.trans ?_
                show Steps p.tables e below (T115.setTop (mkF m 125 #[.val (.int p1), .val (.ref b1), .val (.ref b29), .val (.int (5 : Int32)), .val (.ref w6), .unset] [(.int (0 : Int32))])) _
                refine XS.istore X115.here hx rfl (hb hby at_125) rfl (l' := #[.val (.int p1), .val (.ref b1), .val (.ref b29), .val (.int (5 : Int32)), .val (.ref w6), .val (.int (0 : Int32))]) rfl ?_
                show Steps p.tables e below (T115.setTop (mkF m 127 #[.val (.int p1), .val (.ref b1), .val (.ref b29), .val (.int (5 : Int32)), .val (.ref w6), .val (.int (0 : Int32))] [])) _
                refine XS.iload X115.here hx rfl (hb hby at_127) rfl ?_
                show Steps p.tables e below (T115.setTop (mkF m 129 #[.val (.int p1), .val (.ref b1), .val (.ref b29), .val (.int (5 : Int32)), .val (.ref w6), .val (.int (0 : Int32))] [(.int (0 : Int32))])) _
                refine XS.aloadN X115.here hx rfl (hb hby at_129) rfl rfl ?_
                show Steps p.tables e below (T115.setTop (mkF m 130 #[.val (.int p1), .val (.ref b1), .val (.ref b29), .val (.int (5 : Int32)), .val (.ref w6), .val (.int (0 : Int32))] [(.ref b29), (.int (0 : Int32))])) _
                refine XS.iloadN X115.here hx rfl (hb hby at_130) rfl ?_
                show Steps p.tables e below (T115.setTop (mkF m 131 #[.val (.int p1), .val (.ref b1), .val (.ref b29), .val (.int (5 : Int32)), .val (.ref w6), .val (.int (0 : Int32))] [(.int (5 : Int32)), (.ref b29), (.int (0 : Int32))])) _
                refine X115.baloadBooleans hx (j := (5 : Int32)) (v := (.int (0 : Int32))) (by rw [e117]; exact Ar118.1) (State.isArrayOf_alike hZ.alike Ar118.2.1) Ar118.2.2 hin118 hat118 (g := (mkF m 131 #[.val (.int p1), .val (.ref b1), .val (.ref b29), .val (.int (5 : Int32)), .val (.ref w6), .val (.int (0 : Int32))] [(.int (5 : Int32)), (.ref b29), (.int (0 : Int32))])) rfl rfl (hb hby at_131) _ ?_
                show Steps p.tables e below (T115.setTop (mkF m 132 #[.val (.int p1), .val (.ref b1), .val (.ref b29), .val (.int (5 : Int32)), .val (.ref w6), .val (.int (0 : Int32))] [(.int (0 : Int32)), (.int (0 : Int32))])) _
                refine XS.icmpYes X115.here hx rfl (pc0 := 132) (pc' := 137) rfl (hb hby at_132) rfl (teq (by decide : (0 : Int32) = (0 : Int32))).1 (by decide) (by decide) ?_
                show Steps p.tables e below (T115.setTop (mkF m 137 #[.val (.int p1), .val (.ref b1), .val (.ref b29), .val (.int (5 : Int32)), .val (.ref w6), .val (.int (0 : Int32))] [])) _
                refine XS.iload X115.here hx rfl (hb hby at_137) rfl ?_
                show Steps p.tables e below (T115.setTop (mkF m 139 #[.val (.int p1), .val (.ref b1), .val (.ref b29), .val (.int (5 : Int32)), .val (.ref w6), .val (.int (0 : Int32))] [(.int (0 : Int32))])) _
                refine XS.ifYes X115.here hx rfl (pc0 := 139) (pc' := 150) rfl (hb hby at_139) rfl ((if0 _ _).trans (teq (by decide : (0 : Int32) = (0 : Int32))).1) (by decide) (by decide) ?_
                show Steps p.tables e below (T115.setTop (mkF m 150 #[.val (.int p1), .val (.ref b1), .val (.ref b29), .val (.int (5 : Int32)), .val (.ref w6), .val (.int (0 : Int32))] [])) _
                refine XS.iconst X115.here hx rfl (hb hby at_150) ?_
                show Steps p.tables e below (T115.setTop (mkF m 151 #[.val (.int p1), .val (.ref b1), .val (.ref b29), .val (.int (5 : Int32)), .val (.ref w6), .val (.int (0 : Int32))] [(.int (1 : Int32))])) _
                refine XS.goto X115.here hx rfl (pc0 := 151) (pc' := 155) rfl (hb hby at_151) (by decide) (by decide) ?_
                show Steps p.tables e below (T115.setTop (mkF m 155 #[.val (.int p1), .val (.ref b1), .val (.ref b29), .val (.int (5 : Int32)), .val (.ref w6), .val (.int (0 : Int32))] [(.int (1 : Int32))])) _
                exact retN X115 hx (t := .boolean) hret (by simp) (hb hby at_155) hr
              ·
                show Q0 n0 _ T115.heap _
                rw [e117]
                exact ⟨rfl, N115⟩
            ·
              by_cases hc119 : ((p1 &&& (2147483647 : Int32)) % (9 : Int32)) = (6 : Int32)
              ·
                have pre120 : ∀ t, Steps p.tables e below (T47.setTop (mkF m 117 #[.val (.int p1), .val (.ref b1), .val (.ref b29), .val (.int (6 : Int32)), .unset, .unset] [(.int (6 : Int32)), (.ref b1)])) t → Steps p.tables e below (s₁.setTop (entryFrame m #[(.int p1)] maxLocals)) t := fun t k => pre48 t (by rw [hc119]; exact k)
                have lt121 : b1 < h28.size := (Nat.lt_of_lt_of_le (Nat.lt_of_lt_of_le (Nat.lt_of_lt_of_le (Nat.lt_of_lt_of_le (Nat.lt_of_lt_of_le (Nat.lt_of_lt_of_le (Nat.lt_of_lt_of_le (Nat.lt_of_lt_of_le (Nat.lt_of_lt_of_le V1.lt (Nat.le_of_eq W4.size.symm)) (Nat.le_of_eq W7.size.symm)) (Nat.le_of_eq W10.size.symm)) (Nat.le_of_eq W13.size.symm)) (Nat.le_of_eq W16.size.symm)) (Nat.le_of_eq W19.size.symm)) (Nat.le_of_eq W22.size.symm)) (Nat.le_of_eq W25.size.symm)) (Nat.le_of_eq W28.size.symm))
                have ne122 : b1 ≠ b29 := Nat.ne_of_lt (Nat.lt_of_lt_of_le lt121 sz_b29)
                have f123 := ((((((((((V28.ext E29).other W31 ne122).other W33 ne122).other W35 ne122).other W37 ne122).other W39 ne122).other W41 ne122).other W43 ne122).other W45 ne122).other W47 ne122)
                obtain ⟨cl124, Ar124, qa124, Sa124, Na124, Ha124, Ga124⟩ := id (f123)
                have hin124 : ¬ ((6 : Int32) < 0 ∨ cl124.slots.size ≤ ((6 : Int32)).toNatClampNeg) := inb_of Sa124 ⟨by decide, by decide⟩
                have hat124 : cl124.slots[((6 : Int32)).toNatClampNeg]? = some (.ref w7) := Has.at Ha124 hin124 rfl
                obtain ⟨cq125, kq125, q125a, q125b, q125c⟩ := isOf hZ e47 (E_w7.ext O47.2)
                obtain ⟨_, _, ⟨T126, L126, c126, n126⟩, -, X126, ⟨Lc126, hQ126, l126, y126, z126⟩, st126⟩ := X47.virtualBack hx (y := (⟨"com/example/mycelia/mycelia/wire/Yields", "answersCount", "()Z"⟩ : MethodName)) (z := (⟨"com/example/mycelia/mycelia/wire/Yields", "answersCount", "()Z"⟩ : MethodName)) hown (mvT hZ (hw _ (List.mem_of_getElem? (i := 24) rfl))) (mvT hZ (hw _ (List.mem_of_getElem? (i := 25) rfl))) (notFace_of_selects (args := #[]) (mvT hZ (hw _ (List.mem_of_getElem? (i := 27) rfl)))) (mvT hZ (hw _ (List.mem_of_getElem? (i := 27) rfl))) (mvT hZ (hw _ (List.mem_of_getElem? (i := 26) rfl))) (by decide) (backOf (W := 0) (rm8 l Z a0 hw w1 w2 w3 w4 w5 w6 w7 w8 w9 G []  h47 n0 O47 ) hZ (hw _ (List.mem_of_getElem? (i := 28) rfl)) (hw _ (List.mem_of_getElem? (i := 3) rfl)) (by decide) (by decide)) q125a q125c (g := (mkF m 122 #[.val (.int p1), .val (.ref b1), .val (.ref b29), .val (.int (6 : Int32)), .val (.ref w7), .unset] [(.ref w7)])) rfl (by rw [hml]; rfl) (Steps.refl _) (argsL := []) (rest := []) (lenOf pd0 rfl) rfl (by show 2 * 0 + _ ≤ _; exact Nat.le_of_eq rfl) (hb hby at_122) (fun _ _ => ⟨rfl, e47, (by decide : 2 + 0 ≤ _), (by decide : 18 + 0 ≤ _)⟩)
                dsimp only [Pt.U, Pt.locs, Pt.cells, Pt.slots] at X126 l126 y126 z126 st126 hQ126
                subst l126 y126 z126
                have X126 : Stand p l e room_1 s m #[(.int p1)] below meth c T126 _ 2 18 := X126
                obtain ⟨rfl, Nq127, e128⟩ := hQ126
                have N126 := Fr.app N47 Nq127
                obtain ⟨cl129, Ar129, qa129, Sa129, Na129, Ha129, Ga129⟩ := id (V47)
                have hin129 : ¬ ((6 : Int32) < 0 ∨ cl129.slots.size ≤ ((6 : Int32)).toNatClampNeg) := inb_of Sa129 ⟨by decide, by decide⟩
                have hat129 : cl129.slots[((6 : Int32)).toNatClampNeg]? = some (.int (0 : Int32)) := Has.at Ha129 hin129 rfl
                obtain ⟨fs, hr, hrun, hended, hW, hsame⟩ := X126.leave (v := some (.int (1 : Int32))) (fun h => by rw [hret] at h; cases h)
                refine ⟨_, _, pre120 _ ?_, hrun, hended, _, _, rfl, ?_, ⟨_, rfl⟩, hW, hsame.mono (by decide) (by decide)⟩
                ·
                  show Steps p.tables e below (T47.setTop (mkF m 117 #[.val (.int p1), .val (.ref b1), .val (.ref b29), .val (.int (6 : Int32)), .unset, .unset] [(.int (6 : Int32)), (.ref b1)])) _
                  refine X47.aaload hx (j := (6 : Int32)) (v := (.ref w7)) (by rw [e47]; exact Ar124.1) (State.isArrayOf_alike hZ.alike Ar124.2.1) rfl Ar124.2.2 hin124 hat124 (g := (mkF m 117 #[.val (.int p1), .val (.ref b1), .val (.ref b29), .val (.int (6 : Int32)), .unset, .unset] [(.int (6 : Int32)), (.ref b1)])) rfl rfl (hb hby at_117) _ ?_
                  show Steps p.tables e below (T47.setTop (mkF m 118 #[.val (.int p1), .val (.ref b1), .val (.ref b29), .val (.int (6 : Int32)), .unset, .unset] [(.ref w7)])) _
                  refine XS.astore X47.here hx rfl (hb hby at_118) rfl rfl (l' := #[.val (.int p1), .val (.ref b1), .val (.ref b29), .val (.int (6 : Int32)), .val (.ref w7), .unset]) rfl ?_
                  show Steps p.tables e below (T47.setTop (mkF m 120 #[.val (.int p1), .val (.ref b1), .val (.ref b29), .val (.int (6 : Int32)), .val (.ref w7), .unset] [])) _
                  refine XS.aload X47.here hx rfl (hb hby at_120) rfl rfl ?_
                  show Steps p.tables e below (T47.setTop (mkF m 122 #[.val (.int p1), .val (.ref b1), .val (.ref b29), .val (.int (6 : Int32)), .val (.ref w7), .unset] [(.ref w7)])) _
                  refine st126.trans ?_
                  show Steps p.tables e below (T126.setTop (mkF m 125 #[.val (.int p1), .val (.ref b1), .val (.ref b29), .val (.int (6 : Int32)), .val (.ref w7), .unset] [(.int (0 : Int32))])) _
                  refine XS.istore X126.here hx rfl (hb hby at_125) rfl (l' := #[.val (.int p1), .val (.ref b1), .val (.ref b29), .val (.int (6 : Int32)), .val (.ref w7), .val (.int (0 : Int32))]) rfl ?_
                  show Steps p.tables e below (T126.setTop (mkF m 127 #[.val (.int p1), .val (.ref b1), .val (.ref b29), .val (.int (6 : Int32)), .val (.ref w7), .val (.int (0 : Int32))] [])) _
                  refine XS.iload X126.here hx rfl (hb hby at_127) rfl ?_
                  show Steps p.tables e below (T126.setTop (mkF m 129 #[.val (.int p1), .val (.ref b1), .val (.ref b29), .val (.int (6 : Int32)), .val (.ref w7), .val (.int (0 : Int32))] [(.int (0 : Int32))])) _
                  refine XS.aloadN X126.here hx rfl (hb hby at_129) rfl rfl ?_
                  show Steps p.tables e below (T126.setTop (mkF m 130 #[.val (.int p1), .val (.ref b1), .val (.ref b29), .val (.int (6 : Int32)), .val (.ref w7), .val (.int (0 : Int32))] [(.ref b29), (.int (0 : Int32))])) _
                  refine XS.iloadN X126.here hx rfl (hb hby at_130) rfl ?_
                  show Steps p.tables e below (T126.setTop (mkF m 131 #[.val (.int p1), .val (.ref b1), .val (.ref b29), .val (.int (6 : Int32)), .val (.ref w7), .val (.int (0 : Int32))] [(.int (6 : Int32)), (.ref b29), (.int (0 : Int32))])) _
                  refine X126.baloadBooleans hx (j := (6 : Int32)) (v := (.int (0 : Int32))) (by rw [e128]; exact Ar129.1) (State.isArrayOf_alike hZ.alike Ar129.2.1) Ar129.2.2 hin129 hat129 (g := (mkF m 131 #[.val (.int p1), .val (.ref b1), .val (.ref b29), .val (.int (6 : Int32)), .val (.ref w7), .val (.int (0 : Int32))] [(.int (6 : Int32)), (.ref b29), (.int (0 : Int32))])) rfl rfl (hb hby at_131) _ ?_
                  show Steps p.tables e below (T126.setTop (mkF m 132 #[.val (.int p1), .val (.ref b1), .val (.ref b29), .val (.int (6 : Int32)), .val (.ref w7), .val (.int (0 : Int32))] [(.int (0 : Int32)), (.int (0 : Int32))])) _
                  refine XS.icmpYes X126.here hx rfl (pc0 := 132) (pc' := 137) rfl (hb hby at_132) rfl (teq (by decide : (0 : Int32) = (0 : Int32))).1 (by decide) (by decide) ?_
                  show Steps p.tables e below (T126.setTop (mkF m 137 #[.val (.int p1), .val (.ref b1), .val (.ref b29), .val (.int (6 : Int32)), .val (.ref w7), .val (.int (0 : Int32))] [])) _
                  refine XS.iload X126.here hx rfl (hb hby at_137) rfl ?_
                  show Steps p.tables e below (T126.setTop (mkF m 139 #[.val (.int p1), .val (.ref b1), .val (.ref b29), .val (.int (6 : Int32)), .val (.ref w7), .val (.int (0 : Int32))] [(.int (0 : Int32))])) _
                  refine XS.ifYes X126.here hx rfl (pc0 := 139) (pc' := 150) rfl (hb hby at_139) rfl ((if0 _ _).trans (teq (by decide : (0 : Int32) = (0 : Int32))).1) (by decide) (by decide) ?_
                  show Steps p.tables e below (T126.setTop (mkF m 150 #[.val (.int p1), .val (.ref b1), .val (.ref b29), .val (.int (6 : Int32)), .val (.ref w7), .val (.int (0 : Int32))] [])) _
                  refine XS.iconst X126.here hx rfl (hb hby at_150) ?_
                  show Steps p.tables e below (T126.setTop (mkF m 151 #[.val (.int p1), .val (.ref b1), .val (.ref b29), .val (.int (6 : Int32)), .val (.ref w7), .val (.int (0 : Int32))] [(.int (1 : Int32))])) _
                  refine XS.goto X126.here hx rfl (pc0 := 151) (pc' := 155) rfl (hb hby at_151) (by decide) (by decide) ?_
                  show Steps p.tables e below (T126.setTop (mkF m 155 #[.val (.int p1), .val (.ref b1), .val (.ref b29), .val (.int (6 : Int32)), .val (.ref w7), .val (.int (0 : Int32))] [(.int (1 : Int32))])) _
                  exact retN X126 hx (t := .boolean) hret (by simp) (hb hby at_155) hr
                ·
                  show Q0 n0 _ T126.heap _
                  rw [e128]
                  exact ⟨rfl, N126⟩
              ·
                by_cases hc130 : ((p1 &&& (2147483647 : Int32)) % (9 : Int32)) = (7 : Int32)
                ·
                  have pre131 : ∀ t, Steps p.tables e below (T47.setTop (mkF m 117 #[.val (.int p1), .val (.ref b1), .val (.ref b29), .val (.int (7 : Int32)), .unset, .unset] [(.int (7 : Int32)), (.ref b1)])) t → Steps p.tables e below (s₁.setTop (entryFrame m #[(.int p1)] maxLocals)) t := fun t k => pre48 t (by rw [hc130]; exact k)
                  have lt132 : b1 < h28.size := (Nat.lt_of_lt_of_le (Nat.lt_of_lt_of_le (Nat.lt_of_lt_of_le (Nat.lt_of_lt_of_le (Nat.lt_of_lt_of_le (Nat.lt_of_lt_of_le (Nat.lt_of_lt_of_le (Nat.lt_of_lt_of_le (Nat.lt_of_lt_of_le V1.lt (Nat.le_of_eq W4.size.symm)) (Nat.le_of_eq W7.size.symm)) (Nat.le_of_eq W10.size.symm)) (Nat.le_of_eq W13.size.symm)) (Nat.le_of_eq W16.size.symm)) (Nat.le_of_eq W19.size.symm)) (Nat.le_of_eq W22.size.symm)) (Nat.le_of_eq W25.size.symm)) (Nat.le_of_eq W28.size.symm))
                  have ne133 : b1 ≠ b29 := Nat.ne_of_lt (Nat.lt_of_lt_of_le lt132 sz_b29)
                  have f134 := ((((((((((V28.ext E29).other W31 ne133).other W33 ne133).other W35 ne133).other W37 ne133).other W39 ne133).other W41 ne133).other W43 ne133).other W45 ne133).other W47 ne133)
                  obtain ⟨cl135, Ar135, qa135, Sa135, Na135, Ha135, Ga135⟩ := id (f134)
                  have hin135 : ¬ ((7 : Int32) < 0 ∨ cl135.slots.size ≤ ((7 : Int32)).toNatClampNeg) := inb_of Sa135 ⟨by decide, by decide⟩
                  have hat135 : cl135.slots[((7 : Int32)).toNatClampNeg]? = some (.ref w8) := Has.at Ha135 hin135 rfl
                  obtain ⟨cq136, kq136, q136a, q136b, q136c⟩ := isOf hZ e47 (E_w8.ext O47.2)
                  obtain ⟨_, _, ⟨T137, L137, c137, n137⟩, -, X137, ⟨Lc137, hQ137, l137, y137, z137⟩, st137⟩ := X47.virtualBack hx (y := (⟨"com/example/mycelia/mycelia/wire/Yields", "answersCount", "()Z"⟩ : MethodName)) (z := (⟨"com/example/mycelia/mycelia/wire/Yields", "answersCount", "()Z"⟩ : MethodName)) hown (mvT hZ (hw _ (List.mem_of_getElem? (i := 24) rfl))) (mvT hZ (hw _ (List.mem_of_getElem? (i := 25) rfl))) (notFace_of_selects (args := #[]) (mvT hZ (hw _ (List.mem_of_getElem? (i := 27) rfl)))) (mvT hZ (hw _ (List.mem_of_getElem? (i := 27) rfl))) (mvT hZ (hw _ (List.mem_of_getElem? (i := 26) rfl))) (by decide) (backOf (W := 0) (rm9 l Z a0 hw w1 w2 w3 w4 w5 w6 w7 w8 w9 G []  h47 n0 O47 ) hZ (hw _ (List.mem_of_getElem? (i := 28) rfl)) (hw _ (List.mem_of_getElem? (i := 3) rfl)) (by decide) (by decide)) q136a q136c (g := (mkF m 122 #[.val (.int p1), .val (.ref b1), .val (.ref b29), .val (.int (7 : Int32)), .val (.ref w8), .unset] [(.ref w8)])) rfl (by rw [hml]; rfl) (Steps.refl _) (argsL := []) (rest := []) (lenOf pd0 rfl) rfl (by show 2 * 0 + _ ≤ _; exact Nat.le_of_eq rfl) (hb hby at_122) (fun _ _ => ⟨rfl, e47, (by decide : 2 + 0 ≤ _), (by decide : 18 + 0 ≤ _)⟩)
                  dsimp only [Pt.U, Pt.locs, Pt.cells, Pt.slots] at X137 l137 y137 z137 st137 hQ137
                  subst l137 y137 z137
                  have X137 : Stand p l e room_1 s m #[(.int p1)] below meth c T137 _ 2 18 := X137
                  obtain ⟨rfl, Nq138, e139⟩ := hQ137
                  have N137 := Fr.app N47 Nq138
                  obtain ⟨cl140, Ar140, qa140, Sa140, Na140, Ha140, Ga140⟩ := id (V47)
                  have hin140 : ¬ ((7 : Int32) < 0 ∨ cl140.slots.size ≤ ((7 : Int32)).toNatClampNeg) := inb_of Sa140 ⟨by decide, by decide⟩
                  have hat140 : cl140.slots[((7 : Int32)).toNatClampNeg]? = some (.int (1 : Int32)) := Has.at Ha140 hin140 rfl
                  obtain ⟨cq141, kq141, q141a, q141b, q141c⟩ := isOf hZ e139 (E_w8.ext O47.2)
                  obtain ⟨_, _, ⟨T142, L142, c142, n142⟩, -, X142, ⟨Lc142, hQ142, l142, y142, z142⟩, st142⟩ := X137.virtualBack hx (y := (⟨"com/example/mycelia/mycelia/wire/Yields", "answersValues", "()Z"⟩ : MethodName)) (z := (⟨"com/example/mycelia/mycelia/wire/Yields", "answersValues", "()Z"⟩ : MethodName)) hown (mvT hZ (hw _ (List.mem_of_getElem? (i := 31) rfl))) (mvT hZ (hw _ (List.mem_of_getElem? (i := 32) rfl))) (notFace_of_selects (args := #[]) (mvT hZ (hw _ (List.mem_of_getElem? (i := 34) rfl)))) (mvT hZ (hw _ (List.mem_of_getElem? (i := 34) rfl))) (mvT hZ (hw _ (List.mem_of_getElem? (i := 33) rfl))) (by decide) (backOf (W := 0) (rm10 l Z a0 hw w1 w2 w3 w4 w5 w6 w7 w8 w9 G []  h47 n0 O47 ) hZ (hw _ (List.mem_of_getElem? (i := 35) rfl)) (hw _ (List.mem_of_getElem? (i := 3) rfl)) (by decide) (by decide)) q141a q141c (g := (mkF m 144 #[.val (.int p1), .val (.ref b1), .val (.ref b29), .val (.int (7 : Int32)), .val (.ref w8), .val (.int (1 : Int32))] [(.ref w8)])) rfl (by rw [hml]; rfl) (Steps.refl _) (argsL := []) (rest := []) (lenOf pd0 rfl) rfl (by show 2 * 0 + _ ≤ _; exact Nat.le_of_eq rfl) (hb hby at_144) (fun _ _ => ⟨rfl, e139, (by decide : 2 + 0 ≤ _), (by decide : 18 + 0 ≤ _)⟩)
                  dsimp only [Pt.U, Pt.locs, Pt.cells, Pt.slots] at X142 l142 y142 z142 st142 hQ142
                  subst l142 y142 z142
                  have X142 : Stand p l e room_1 s m #[(.int p1)] below meth c T142 _ 2 18 := X142
                  obtain ⟨rfl, Nq143, e144⟩ := hQ142
                  have N142 := Fr.app N137 Nq143
                  obtain ⟨fs, hr, hrun, hended, hW, hsame⟩ := X142.leave (v := some (.int (1 : Int32))) (fun h => by rw [hret] at h; cases h)
                  refine ⟨_, _, pre131 _ ?_, hrun, hended, _, _, rfl, ?_, ⟨_, rfl⟩, hW, hsame.mono (by decide) (by decide)⟩
                  ·
                    show Steps p.tables e below (T47.setTop (mkF m 117 #[.val (.int p1), .val (.ref b1), .val (.ref b29), .val (.int (7 : Int32)), .unset, .unset] [(.int (7 : Int32)), (.ref b1)])) _
                    refine X47.aaload hx (j := (7 : Int32)) (v := (.ref w8)) (by rw [e47]; exact Ar135.1) (State.isArrayOf_alike hZ.alike Ar135.2.1) rfl Ar135.2.2 hin135 hat135 (g := (mkF m 117 #[.val (.int p1), .val (.ref b1), .val (.ref b29), .val (.int (7 : Int32)), .unset, .unset] [(.int (7 : Int32)), (.ref b1)])) rfl rfl (hb hby at_117) _ ?_
                    show Steps p.tables e below (T47.setTop (mkF m 118 #[.val (.int p1), .val (.ref b1), .val (.ref b29), .val (.int (7 : Int32)), .unset, .unset] [(.ref w8)])) _
                    refine XS.astore X47.here hx rfl (hb hby at_118) rfl rfl (l' := #[.val (.int p1), .val (.ref b1), .val (.ref b29), .val (.int (7 : Int32)), .val (.ref w8), .unset]) rfl ?_
                    show Steps p.tables e below (T47.setTop (mkF m 120 #[.val (.int p1), .val (.ref b1), .val (.ref b29), .val (.int (7 : Int32)), .val (.ref w8), .unset] [])) _
                    refine XS.aload X47.here hx rfl (hb hby at_120) rfl rfl ?_
                    show Steps p.tables e below (T47.setTop (mkF m 122 #[.val (.int p1), .val (.ref b1), .val (.ref b29), .val (.int (7 : Int32)), .val (.ref w8), .unset] [(.ref w8)])) _
                    refine st137.trans ?_
                    show Steps p.tables e below (T137.setTop (mkF m 125 #[.val (.int p1), .val (.ref b1), .val (.ref b29), .val (.int (7 : Int32)), .val (.ref w8), .unset] [(.int (1 : Int32))])) _
                    refine XS.istore X137.here hx rfl (hb hby at_125) rfl (l' := #[.val (.int p1), .val (.ref b1), .val (.ref b29), .val (.int (7 : Int32)), .val (.ref w8), .val (.int (1 : Int32))]) rfl ?_
                    show Steps p.tables e below (T137.setTop (mkF m 127 #[.val (.int p1), .val (.ref b1), .val (.ref b29), .val (.int (7 : Int32)), .val (.ref w8), .val (.int (1 : Int32))] [])) _
                    refine XS.iload X137.here hx rfl (hb hby at_127) rfl ?_
                    show Steps p.tables e below (T137.setTop (mkF m 129 #[.val (.int p1), .val (.ref b1), .val (.ref b29), .val (.int (7 : Int32)), .val (.ref w8), .val (.int (1 : Int32))] [(.int (1 : Int32))])) _
                    refine XS.aloadN X137.here hx rfl (hb hby at_129) rfl rfl ?_
                    show Steps p.tables e below (T137.setTop (mkF m 130 #[.val (.int p1), .val (.ref b1), .val (.ref b29), .val (.int (7 : Int32)), .val (.ref w8), .val (.int (1 : Int32))] [(.ref b29), (.int (1 : Int32))])) _
                    refine XS.iloadN X137.here hx rfl (hb hby at_130) rfl ?_
                    show Steps p.tables e below (T137.setTop (mkF m 131 #[.val (.int p1), .val (.ref b1), .val (.ref b29), .val (.int (7 : Int32)), .val (.ref w8), .val (.int (1 : Int32))] [(.int (7 : Int32)), (.ref b29), (.int (1 : Int32))])) _
                    refine X137.baloadBooleans hx (j := (7 : Int32)) (v := (.int (1 : Int32))) (by rw [e139]; exact Ar140.1) (State.isArrayOf_alike hZ.alike Ar140.2.1) Ar140.2.2 hin140 hat140 (g := (mkF m 131 #[.val (.int p1), .val (.ref b1), .val (.ref b29), .val (.int (7 : Int32)), .val (.ref w8), .val (.int (1 : Int32))] [(.int (7 : Int32)), (.ref b29), (.int (1 : Int32))])) rfl rfl (hb hby at_131) _ ?_
                    show Steps p.tables e below (T137.setTop (mkF m 132 #[.val (.int p1), .val (.ref b1), .val (.ref b29), .val (.int (7 : Int32)), .val (.ref w8), .val (.int (1 : Int32))] [(.int (1 : Int32)), (.int (1 : Int32))])) _
                    refine XS.icmpYes X137.here hx rfl (pc0 := 132) (pc' := 137) rfl (hb hby at_132) rfl (teq (by decide : (1 : Int32) = (1 : Int32))).1 (by decide) (by decide) ?_
                    show Steps p.tables e below (T137.setTop (mkF m 137 #[.val (.int p1), .val (.ref b1), .val (.ref b29), .val (.int (7 : Int32)), .val (.ref w8), .val (.int (1 : Int32))] [])) _
                    refine XS.iload X137.here hx rfl (hb hby at_137) rfl ?_
                    show Steps p.tables e below (T137.setTop (mkF m 139 #[.val (.int p1), .val (.ref b1), .val (.ref b29), .val (.int (7 : Int32)), .val (.ref w8), .val (.int (1 : Int32))] [(.int (1 : Int32))])) _
                    refine XS.ifNo X137.here hx rfl (hb hby at_139) rfl ((if0 _ _).trans (feq (by decide : ¬ ((1 : Int32) = (0 : Int32)))).1) ?_
                    show Steps p.tables e below (T137.setTop (mkF m 142 #[.val (.int p1), .val (.ref b1), .val (.ref b29), .val (.int (7 : Int32)), .val (.ref w8), .val (.int (1 : Int32))] [])) _
                    refine XS.aload X137.here hx rfl (hb hby at_142) rfl rfl ?_
                    show Steps p.tables e below (T137.setTop (mkF m 144 #[.val (.int p1), .val (.ref b1), .val (.ref b29), .val (.int (7 : Int32)), .val (.ref w8), .val (.int (1 : Int32))] [(.ref w8)])) _
                    refine st142.trans ?_
                    show Steps p.tables e below (T142.setTop (mkF m 147 #[.val (.int p1), .val (.ref b1), .val (.ref b29), .val (.int (7 : Int32)), .val (.ref w8), .val (.int (1 : Int32))] [(.int (0 : Int32))])) _
                    refine XS.ifNo X142.here hx rfl (hb hby at_147) rfl ((if0 _ _).trans (teq (by decide : (0 : Int32) = (0 : Int32))).2) ?_
                    show Steps p.tables e below (T142.setTop (mkF m 150 #[.val (.int p1), .val (.ref b1), .val (.ref b29), .val (.int (7 : Int32)), .val (.ref w8), .val (.int (1 : Int32))] [])) _
                    refine XS.iconst X142.here hx rfl (hb hby at_150) ?_
                    show Steps p.tables e below (T142.setTop (mkF m 151 #[.val (.int p1), .val (.ref b1), .val (.ref b29), .val (.int (7 : Int32)), .val (.ref w8), .val (.int (1 : Int32))] [(.int (1 : Int32))])) _
                    refine XS.goto X142.here hx rfl (pc0 := 151) (pc' := 155) rfl (hb hby at_151) (by decide) (by decide) ?_
                    show Steps p.tables e below (T142.setTop (mkF m 155 #[.val (.int p1), .val (.ref b1), .val (.ref b29), .val (.int (7 : Int32)), .val (.ref w8), .val (.int (1 : Int32))] [(.int (1 : Int32))])) _
                    exact retN X142 hx (t := .boolean) hret (by simp) (hb hby at_155) hr
                  ·
                    show Q0 n0 _ T142.heap _
                    rw [e144]
                    exact ⟨rfl, N142⟩
                ·
                  have hq145 : ((p1 &&& (2147483647 : Int32)) % (9 : Int32)) = (8 : Int32) := (own_geq (n := 8) (k := (8 : Int32)) (by decide) (by have q0 := own_rem (x := (p1 &&& (2147483647 : Int32))) (k := (9 : Int32)) (n := 9) (by decide) (by decide) (by have q := own_and (x := p1) (k := (2147483647 : Int32)) (n := 2147483647) (by decide) (by decide); omega); have q1 := own_neq (n := 0) (k := (0 : Int32)) (by decide) hc49; have q2 := own_neq (n := 1) (k := (1 : Int32)) (by decide) hc60; have q3 := own_neq (n := 2) (k := (2 : Int32)) (by decide) hc71; have q4 := own_neq (n := 3) (k := (3 : Int32)) (by decide) hc82; have q5 := own_neq (n := 4) (k := (4 : Int32)) (by decide) hc97; have q6 := own_neq (n := 5) (k := (5 : Int32)) (by decide) hc108; have q7 := own_neq (n := 6) (k := (6 : Int32)) (by decide) hc119; have q8 := own_neq (n := 7) (k := (7 : Int32)) (by decide) hc130; omega))
                  have pre146 : ∀ t, Steps p.tables e below (T47.setTop (mkF m 117 #[.val (.int p1), .val (.ref b1), .val (.ref b29), .val (.int (8 : Int32)), .unset, .unset] [(.int (8 : Int32)), (.ref b1)])) t → Steps p.tables e below (s₁.setTop (entryFrame m #[(.int p1)] maxLocals)) t := fun t k => pre48 t (by rw [hq145]; exact k)
                  have lt147 : b1 < h28.size := (Nat.lt_of_lt_of_le (Nat.lt_of_lt_of_le (Nat.lt_of_lt_of_le (Nat.lt_of_lt_of_le (Nat.lt_of_lt_of_le (Nat.lt_of_lt_of_le (Nat.lt_of_lt_of_le (Nat.lt_of_lt_of_le (Nat.lt_of_lt_of_le V1.lt (Nat.le_of_eq W4.size.symm)) (Nat.le_of_eq W7.size.symm)) (Nat.le_of_eq W10.size.symm)) (Nat.le_of_eq W13.size.symm)) (Nat.le_of_eq W16.size.symm)) (Nat.le_of_eq W19.size.symm)) (Nat.le_of_eq W22.size.symm)) (Nat.le_of_eq W25.size.symm)) (Nat.le_of_eq W28.size.symm))
                  have ne148 : b1 ≠ b29 := Nat.ne_of_lt (Nat.lt_of_lt_of_le lt147 sz_b29)
                  have f149 := ((((((((((V28.ext E29).other W31 ne148).other W33 ne148).other W35 ne148).other W37 ne148).other W39 ne148).other W41 ne148).other W43 ne148).other W45 ne148).other W47 ne148)
                  obtain ⟨cl150, Ar150, qa150, Sa150, Na150, Ha150, Ga150⟩ := id (f149)
                  have hin150 : ¬ ((8 : Int32) < 0 ∨ cl150.slots.size ≤ ((8 : Int32)).toNatClampNeg) := inb_of Sa150 ⟨by decide, by decide⟩
                  have hat150 : cl150.slots[((8 : Int32)).toNatClampNeg]? = some (.ref w9) := Has.at Ha150 hin150 rfl
                  obtain ⟨cq151, kq151, q151a, q151b, q151c⟩ := isOf hZ e47 (E_w9.ext O47.2)
                  obtain ⟨_, _, ⟨T152, L152, c152, n152⟩, -, X152, ⟨Lc152, hQ152, l152, y152, z152⟩, st152⟩ := X47.virtualBack hx (y := (⟨"com/example/mycelia/mycelia/wire/Yields", "answersCount", "()Z"⟩ : MethodName)) (z := (⟨"com/example/mycelia/mycelia/wire/Yields", "answersCount", "()Z"⟩ : MethodName)) hown (mvT hZ (hw _ (List.mem_of_getElem? (i := 24) rfl))) (mvT hZ (hw _ (List.mem_of_getElem? (i := 25) rfl))) (notFace_of_selects (args := #[]) (mvT hZ (hw _ (List.mem_of_getElem? (i := 27) rfl)))) (mvT hZ (hw _ (List.mem_of_getElem? (i := 27) rfl))) (mvT hZ (hw _ (List.mem_of_getElem? (i := 26) rfl))) (by decide) (backOf (W := 0) (rm11 l Z a0 hw w1 w2 w3 w4 w5 w6 w7 w8 w9 G []  h47 n0 O47 ) hZ (hw _ (List.mem_of_getElem? (i := 28) rfl)) (hw _ (List.mem_of_getElem? (i := 3) rfl)) (by decide) (by decide)) q151a q151c (g := (mkF m 122 #[.val (.int p1), .val (.ref b1), .val (.ref b29), .val (.int (8 : Int32)), .val (.ref w9), .unset] [(.ref w9)])) rfl (by rw [hml]; rfl) (Steps.refl _) (argsL := []) (rest := []) (lenOf pd0 rfl) rfl (by show 2 * 0 + _ ≤ _; exact Nat.le_of_eq rfl) (hb hby at_122) (fun _ _ => ⟨rfl, e47, (by decide : 2 + 0 ≤ _), (by decide : 18 + 0 ≤ _)⟩)
                  dsimp only [Pt.U, Pt.locs, Pt.cells, Pt.slots] at X152 l152 y152 z152 st152 hQ152
                  subst l152 y152 z152
                  have X152 : Stand p l e room_1 s m #[(.int p1)] below meth c T152 _ 2 18 := X152
                  obtain ⟨rfl, Nq153, e154⟩ := hQ152
                  have N152 := Fr.app N47 Nq153
                  obtain ⟨cl155, Ar155, qa155, Sa155, Na155, Ha155, Ga155⟩ := id (V47)
                  have hin155 : ¬ ((8 : Int32) < 0 ∨ cl155.slots.size ≤ ((8 : Int32)).toNatClampNeg) := inb_of Sa155 ⟨by decide, by decide⟩
                  have hat155 : cl155.slots[((8 : Int32)).toNatClampNeg]? = some (.int (0 : Int32)) := Has.at Ha155 hin155 rfl
                  obtain ⟨fs, hr, hrun, hended, hW, hsame⟩ := X152.leave (v := some (.int (1 : Int32))) (fun h => by rw [hret] at h; cases h)
                  refine ⟨_, _, pre146 _ ?_, hrun, hended, _, _, rfl, ?_, ⟨_, rfl⟩, hW, hsame.mono (by decide) (by decide)⟩
                  ·
                    show Steps p.tables e below (T47.setTop (mkF m 117 #[.val (.int p1), .val (.ref b1), .val (.ref b29), .val (.int (8 : Int32)), .unset, .unset] [(.int (8 : Int32)), (.ref b1)])) _
                    refine X47.aaload hx (j := (8 : Int32)) (v := (.ref w9)) (by rw [e47]; exact Ar150.1) (State.isArrayOf_alike hZ.alike Ar150.2.1) rfl Ar150.2.2 hin150 hat150 (g := (mkF m 117 #[.val (.int p1), .val (.ref b1), .val (.ref b29), .val (.int (8 : Int32)), .unset, .unset] [(.int (8 : Int32)), (.ref b1)])) rfl rfl (hb hby at_117) _ ?_
                    show Steps p.tables e below (T47.setTop (mkF m 118 #[.val (.int p1), .val (.ref b1), .val (.ref b29), .val (.int (8 : Int32)), .unset, .unset] [(.ref w9)])) _
                    refine XS.astore X47.here hx rfl (hb hby at_118) rfl rfl (l' := #[.val (.int p1), .val (.ref b1), .val (.ref b29), .val (.int (8 : Int32)), .val (.ref w9), .unset]) rfl ?_
                    show Steps p.tables e below (T47.setTop (mkF m 120 #[.val (.int p1), .val (.ref b1), .val (.ref b29), .val (.int (8 : Int32)), .val (.ref w9), .unset] [])) _
                    refine XS.aload X47.here hx rfl (hb hby at_120) rfl rfl ?_
                    show Steps p.tables e below (T47.setTop (mkF m 122 #[.val (.int p1), .val (.ref b1), .val (.ref b29), .val (.int (8 : Int32)), .val (.ref w9), .unset] [(.ref w9)])) _
                    refine st152.trans ?_
                    show Steps p.tables e below (T152.setTop (mkF m 125 #[.val (.int p1), .val (.ref b1), .val (.ref b29), .val (.int (8 : Int32)), .val (.ref w9), .unset] [(.int (0 : Int32))])) _
                    refine XS.istore X152.here hx rfl (hb hby at_125) rfl (l' := #[.val (.int p1), .val (.ref b1), .val (.ref b29), .val (.int (8 : Int32)), .val (.ref w9), .val (.int (0 : Int32))]) rfl ?_
                    show Steps p.tables e below (T152.setTop (mkF m 127 #[.val (.int p1), .val (.ref b1), .val (.ref b29), .val (.int (8 : Int32)), .val (.ref w9), .val (.int (0 : Int32))] [])) _
                    refine XS.iload X152.here hx rfl (hb hby at_127) rfl ?_
                    show Steps p.tables e below (T152.setTop (mkF m 129 #[.val (.int p1), .val (.ref b1), .val (.ref b29), .val (.int (8 : Int32)), .val (.ref w9), .val (.int (0 : Int32))] [(.int (0 : Int32))])) _
                    refine XS.aloadN X152.here hx rfl (hb hby at_129) rfl rfl ?_
                    show Steps p.tables e below (T152.setTop (mkF m 130 #[.val (.int p1), .val (.ref b1), .val (.ref b29), .val (.int (8 : Int32)), .val (.ref w9), .val (.int (0 : Int32))] [(.ref b29), (.int (0 : Int32))])) _
                    refine XS.iloadN X152.here hx rfl (hb hby at_130) rfl ?_
                    show Steps p.tables e below (T152.setTop (mkF m 131 #[.val (.int p1), .val (.ref b1), .val (.ref b29), .val (.int (8 : Int32)), .val (.ref w9), .val (.int (0 : Int32))] [(.int (8 : Int32)), (.ref b29), (.int (0 : Int32))])) _
                    refine X152.baloadBooleans hx (j := (8 : Int32)) (v := (.int (0 : Int32))) (by rw [e154]; exact Ar155.1) (State.isArrayOf_alike hZ.alike Ar155.2.1) Ar155.2.2 hin155 hat155 (g := (mkF m 131 #[.val (.int p1), .val (.ref b1), .val (.ref b29), .val (.int (8 : Int32)), .val (.ref w9), .val (.int (0 : Int32))] [(.int (8 : Int32)), (.ref b29), (.int (0 : Int32))])) rfl rfl (hb hby at_131) _ ?_
                    show Steps p.tables e below (T152.setTop (mkF m 132 #[.val (.int p1), .val (.ref b1), .val (.ref b29), .val (.int (8 : Int32)), .val (.ref w9), .val (.int (0 : Int32))] [(.int (0 : Int32)), (.int (0 : Int32))])) _
                    refine XS.icmpYes X152.here hx rfl (pc0 := 132) (pc' := 137) rfl (hb hby at_132) rfl (teq (by decide : (0 : Int32) = (0 : Int32))).1 (by decide) (by decide) ?_
                    show Steps p.tables e below (T152.setTop (mkF m 137 #[.val (.int p1), .val (.ref b1), .val (.ref b29), .val (.int (8 : Int32)), .val (.ref w9), .val (.int (0 : Int32))] [])) _
                    refine XS.iload X152.here hx rfl (hb hby at_137) rfl ?_
                    show Steps p.tables e below (T152.setTop (mkF m 139 #[.val (.int p1), .val (.ref b1), .val (.ref b29), .val (.int (8 : Int32)), .val (.ref w9), .val (.int (0 : Int32))] [(.int (0 : Int32))])) _
                    refine XS.ifYes X152.here hx rfl (pc0 := 139) (pc' := 150) rfl (hb hby at_139) rfl ((if0 _ _).trans (teq (by decide : (0 : Int32) = (0 : Int32))).1) (by decide) (by decide) ?_
                    show Steps p.tables e below (T152.setTop (mkF m 150 #[.val (.int p1), .val (.ref b1), .val (.ref b29), .val (.int (8 : Int32)), .val (.ref w9), .val (.int (0 : Int32))] [])) _
                    refine XS.iconst X152.here hx rfl (hb hby at_150) ?_
                    show Steps p.tables e below (T152.setTop (mkF m 151 #[.val (.int p1), .val (.ref b1), .val (.ref b29), .val (.int (8 : Int32)), .val (.ref w9), .val (.int (0 : Int32))] [(.int (1 : Int32))])) _
                    refine XS.goto X152.here hx rfl (pc0 := 151) (pc' := 155) rfl (hb hby at_151) (by decide) (by decide) ?_
                    show Steps p.tables e below (T152.setTop (mkF m 155 #[.val (.int p1), .val (.ref b1), .val (.ref b29), .val (.int (8 : Int32)), .val (.ref w9), .val (.int (0 : Int32))] [(.int (1 : Int32))])) _
                    exact retN X152 hx (t := .boolean) hret (by simp) (hb hby at_155) hr
                  ·
                    show Q0 n0 _ T152.heap _
                    rw [e154]
                    exact ⟨rfl, N152⟩
set_option maxRecDepth 65536 in
set_option maxHeartbeats 40000000 in
theorem comes_1 {Post : Tables → Env → Array Value → State → Outcome → State → Prop} (hpost : ∀ tb e args s v u, (limb_1_1.after args s (.returned v) u = true ∧ limb_1_2.after args s (.returned v) u = true ∧ True) → FrameEnd s (.returned v) u (Jvm.fieldLocs frame_1_writes args s ++ Jvm.arrayLocs frame_1_arrays args s ++ Jvm.staticLocs frame_1_statics s) 16 128 → Post tb e args s (.returned v) u) :
    ArmFor flags0 classFile x code maxLocals ret World_1 tables_1 room_1 Calls_1 rest_1 Pre_1 Post := by
  intro l hfl _ _ p e ha hc hk s m args below hf hA hF happ hP
  obtain ⟨hcalls, hrest, hpre⟩ := hP
  obtain ⟨-, -, -, hnamed, -, -, -, hat⟩ := (Spec.applies_iff hf).mp happ
  obtain ⟨hg, hn⟩ := and_e (Cond.before_iff.mp (show (Jvm.Cond.and given_1 narrow_1).before args s = true from hpre))
  obtain ⟨hcount, hk0⟩ := and_e hg
  have hi0 := hk0
  obtain ⟨w_a0, rfl⟩ : ∃ w_a0 : Value, args = #[w_a0] := by
    have hs : args.size = 1 := by simpa [Cond.value, given_1] using hcount
    obtain ⟨L⟩ := args
    match L, hs with
    | [w_a0], _ => exact ⟨w_a0, rfl⟩
  have hw := fun d (hd : d ∈ tables_1) => atoms_spec (ws := Jvm.Cond.code x code maxLocals ret :: tables_1) hat d (List.mem_cons_of_mem _ hd)
  have hfit : Fit s := fun {y c} hc i hi => by
    obtain ⟨ha, rfl⟩ := Array.getElem?_eq_some_iff.mp hc
    have q := List.all_eq_true.mp ((Array.all_eq_true_iff_forall_mem.mp hF) _ (Array.getElem_mem ha)) i (List.mem_range.mpr hi)
    simpa [Array.getElem?_eq_getElem hi] using q
  obtain ⟨i0, ei0⟩ := is_v hi0
  obtain rfl : w_a0 = (.int i0) := Option.some.inj ei0
  obtain ⟨gl0, gr0⟩ := and_e hn
  obtain ⟨gl1, gr1⟩ := and_e gr0
  obtain ⟨gl2, gr2⟩ := and_e gr1
  obtain ⟨gl3, gr3⟩ := and_e gr2
  obtain ⟨gl4, gr4⟩ := and_e gr3
  obtain ⟨gl5, gr5⟩ := and_e gr4
  obtain ⟨gl6, gr6⟩ := and_e gr5
  obtain ⟨gl7, gr7⟩ := and_e gr6
  obtain ⟨gl8, gr8⟩ := and_e gr7
  obtain ⟨gl9, gr9⟩ := and_e gr8
  obtain ⟨gl10, gr10⟩ := and_e gr9
  obtain ⟨gl11, gr11⟩ := and_e gr10
  obtain ⟨gl12, gr12⟩ := and_e gr11
  obtain ⟨gl13, gr13⟩ := and_e gr12
  obtain ⟨gl14, gr14⟩ := and_e gr13
  obtain ⟨gl15, gr15⟩ := and_e gr14
  obtain ⟨gl16, gr16⟩ := and_e gr15
  obtain ⟨w1, ev_w1⟩ := exa_v gl0
  have S_w1 : Sta s s.heap "com/example/mycelia/mycelia/wire/Yields" "VALUES" "Lcom/example/mycelia/mycelia/wire/Yields;" (.ref w1) := Sta.start ev_w1 (Or.inr ⟨(hw _ (List.mem_of_getElem? (i := 3) rfl)), (hw _ (List.mem_of_getElem? (i := 4) rfl))⟩)
  have E_w1 : Exa s s.heap w1 "com/example/mycelia/mycelia/wire/Yields" := Exa.start ev_w1 gl0
  obtain ⟨w2, ev_w2⟩ := exa_v gl1
  have S_w2 : Sta s s.heap "com/example/mycelia/mycelia/wire/Yields" "NODES" "Lcom/example/mycelia/mycelia/wire/Yields;" (.ref w2) := Sta.start ev_w2 (Or.inr ⟨(hw _ (List.mem_of_getElem? (i := 3) rfl)), (hw _ (List.mem_of_getElem? (i := 7) rfl))⟩)
  have E_w2 : Exa s s.heap w2 "com/example/mycelia/mycelia/wire/Yields" := Exa.start ev_w2 gl1
  obtain ⟨w3, ev_w3⟩ := exa_v gl2
  have S_w3 : Sta s s.heap "com/example/mycelia/mycelia/wire/Yields" "PLACES" "Lcom/example/mycelia/mycelia/wire/Yields;" (.ref w3) := Sta.start ev_w3 (Or.inr ⟨(hw _ (List.mem_of_getElem? (i := 3) rfl)), (hw _ (List.mem_of_getElem? (i := 9) rfl))⟩)
  have E_w3 : Exa s s.heap w3 "com/example/mycelia/mycelia/wire/Yields" := Exa.start ev_w3 gl2
  obtain ⟨w4, ev_w4⟩ := exa_v gl3
  have S_w4 : Sta s s.heap "com/example/mycelia/mycelia/wire/Yields" "COUNT" "Lcom/example/mycelia/mycelia/wire/Yields;" (.ref w4) := Sta.start ev_w4 (Or.inr ⟨(hw _ (List.mem_of_getElem? (i := 3) rfl)), (hw _ (List.mem_of_getElem? (i := 11) rfl))⟩)
  have E_w4 : Exa s s.heap w4 "com/example/mycelia/mycelia/wire/Yields" := Exa.start ev_w4 gl3
  obtain ⟨w5, ev_w5⟩ := exa_v gl4
  have S_w5 : Sta s s.heap "com/example/mycelia/mycelia/wire/Yields" "MAX" "Lcom/example/mycelia/mycelia/wire/Yields;" (.ref w5) := Sta.start ev_w5 (Or.inr ⟨(hw _ (List.mem_of_getElem? (i := 3) rfl)), (hw _ (List.mem_of_getElem? (i := 13) rfl))⟩)
  have E_w5 : Exa s s.heap w5 "com/example/mycelia/mycelia/wire/Yields" := Exa.start ev_w5 gl4
  obtain ⟨w6, ev_w6⟩ := exa_v gl5
  have S_w6 : Sta s s.heap "com/example/mycelia/mycelia/wire/Yields" "MIN" "Lcom/example/mycelia/mycelia/wire/Yields;" (.ref w6) := Sta.start ev_w6 (Or.inr ⟨(hw _ (List.mem_of_getElem? (i := 3) rfl)), (hw _ (List.mem_of_getElem? (i := 15) rfl))⟩)
  have E_w6 : Exa s s.heap w6 "com/example/mycelia/mycelia/wire/Yields" := Exa.start ev_w6 gl5
  obtain ⟨w7, ev_w7⟩ := exa_v gl6
  have S_w7 : Sta s s.heap "com/example/mycelia/mycelia/wire/Yields" "DISTINCT" "Lcom/example/mycelia/mycelia/wire/Yields;" (.ref w7) := Sta.start ev_w7 (Or.inr ⟨(hw _ (List.mem_of_getElem? (i := 3) rfl)), (hw _ (List.mem_of_getElem? (i := 17) rfl))⟩)
  have E_w7 : Exa s s.heap w7 "com/example/mycelia/mycelia/wire/Yields" := Exa.start ev_w7 gl6
  obtain ⟨w8, ev_w8⟩ := exa_v gl7
  have S_w8 : Sta s s.heap "com/example/mycelia/mycelia/wire/Yields" "DISTINCT_COUNT" "Lcom/example/mycelia/mycelia/wire/Yields;" (.ref w8) := Sta.start ev_w8 (Or.inr ⟨(hw _ (List.mem_of_getElem? (i := 3) rfl)), (hw _ (List.mem_of_getElem? (i := 19) rfl))⟩)
  have E_w8 : Exa s s.heap w8 "com/example/mycelia/mycelia/wire/Yields" := Exa.start ev_w8 gl7
  obtain ⟨w9, ev_w9⟩ := exa_v gl8
  have S_w9 : Sta s s.heap "com/example/mycelia/mycelia/wire/Yields" "POSITION" "Lcom/example/mycelia/mycelia/wire/Yields;" (.ref w9) := Sta.start ev_w9 (Or.inr ⟨(hw _ (List.mem_of_getElem? (i := 3) rfl)), (hw _ (List.mem_of_getElem? (i := 21) rfl))⟩)
  have E_w9 : Exa s s.heap w9 "com/example/mycelia/mycelia/wire/Yields" := Exa.start ev_w9 gl8
  have F_w1_ordinal : Fld s s.heap w1 "java/lang/Enum" "ordinal" "I" (.int (0 : Int32)) := Fld.start ((fld_at ev_w1).symm.trans (eqv_i rfl gl9))
  have F_w4_ordinal : Fld s s.heap w4 "java/lang/Enum" "ordinal" "I" (.int (3 : Int32)) := Fld.start ((fld_at ev_w4).symm.trans (eqv_i rfl gl10))
  have F_w8_ordinal : Fld s s.heap w8 "java/lang/Enum" "ordinal" "I" (.int (7 : Int32)) := Fld.start ((fld_at ev_w8).symm.trans (eqv_i rfl gl11))
  have F_w5_ordinal : Fld s s.heap w5 "java/lang/Enum" "ordinal" "I" (.int (4 : Int32)) := Fld.start ((fld_at ev_w5).symm.trans (eqv_i rfl gl12))
  have F_w6_ordinal : Fld s s.heap w6 "java/lang/Enum" "ordinal" "I" (.int (5 : Int32)) := Fld.start ((fld_at ev_w6).symm.trans (eqv_i rfl gl13))
  have F_w7_ordinal : Fld s s.heap w7 "java/lang/Enum" "ordinal" "I" (.int (6 : Int32)) := Fld.start ((fld_at ev_w7).symm.trans (eqv_i rfl gl14))
  have F_w3_ordinal : Fld s s.heap w3 "java/lang/Enum" "ordinal" "I" (.int (2 : Int32)) := Fld.start ((fld_at ev_w3).symm.trans (eqv_i rfl gl15))
  have F_w2_ordinal : Fld s s.heap w2 "java/lang/Enum" "ordinal" "I" (.int (1 : Int32)) := Fld.start ((fld_at ev_w2).symm.trans (eqv_i rfl gl16))
  have F_w9_ordinal : Fld s s.heap w9 "java/lang/Enum" "ordinal" "I" (.int (8 : Int32)) := Fld.start ((fld_at ev_w9).symm.trans (eqv_i rfl gr16))
  have G : GW s w1 w2 w3 w4 w5 w6 w7 w8 w9 := ⟨S_w1, E_w1, S_w2, E_w2, S_w3, E_w3, S_w4, E_w4, S_w5, E_w5, S_w6, E_w6, S_w7, E_w7, S_w8, E_w8, S_w9, E_w9, F_w1_ordinal, F_w4_ordinal, F_w8_ordinal, F_w5_ordinal, F_w6_ordinal, F_w7_ordinal, F_w3_ordinal, F_w2_ordinal, F_w9_ordinal⟩
  obtain ⟨n, o, h1, h2, h3, _, L, rfl, ⟨rfl, N⟩, hq⟩ := rm0 l s _ hw w1 w2 w3 w4 w5 w6 w7 w8 w9 G tables_1 i0 s.heap s.heap.size (Old.start s) p e ha hc hk s m _ below hf ((Spec.applies_iff_loose hf).mp happ).1 ⟨rfl, State.Warmed39.refl s, rfl⟩ trivial
  refine ⟨n, _, h1, h2, h3, hpost _ _ _ _ _ _ ⟨Cond.after_iff.mpr rfl, Cond.after_iff.mpr (eq_i res_at (Term.int_eval (1)) rfl), trivial⟩ ⟨hq.1, hq.2.1, (hq.2.2.sift fun y hy => Or.inr (N y hy)).mono (by decide) (by decide)⟩⟩
theorem main_1_1 : Claimed_1_1 := comes_1 fun _ _ _ _ _ _ h hF => ⟨h.1, hF⟩
theorem main_1_2 : Claimed_1_2 := comes_1 fun _ _ _ _ _ _ h hF => ⟨h.2.1, hF⟩
end Jvm.Pilot.@@N@@
namespace Jvm.Pilot.@@N@@
open Jvm Jvm.ClassFile Sem Op Lib Jvm.Free Jvm.Stand Jvm.Pilot.@@N@@.Jvm.D
/-! MADE BY PROGRAM (witnessworld.py) out of the Statement's table words and the real class files: 15 classes; the members and pool entries that the words name. The judged class is class 1, her method 1. -/
namespace start1
open Jvm.ClassFile
def u (s : String) : CpInfo := .utf8 (stringToUtf16 s)
/-- a pool by its gaps: so many unusable entries, then the entry; so many at the end -/
def gap : Nat → List CpInfo → List CpInfo
  | 0, r => r
  | n + 1, r => .unusable :: gap n r
def poolList (es : List (Nat × CpInfo)) (last : Nat) : List CpInfo := es.foldr (fun e r => gap e.1 (e.2 :: r)) (gap last [])
def pool (es : List (Nat × CpInfo)) (last : Nat) : Array CpInfo := ⟨poolList es last⟩
def fileOf (pool : Array CpInfo) (this : Nat) (attrs : Array Attribute := #[]) (ms : Array MethodInfo := #[]) (fl : Nat := 33) (sup : Nat := 0) (ifs : Array Nat := #[]) (fds : Array FieldInfo := #[]) : ClassFile where
  minorVersion := 0
  majorVersion := 65
  constantPool := pool
  accessFlags := fl
  thisClass := this
  superClass := sup
  interfaces := ifs
  fields := fds
  methods := ms
  attributes := attrs
def plain (name : String) (sup : Option ClassId) : Class where
  name := name
  kind := .ordinary
  loader := none
  accessFlags := 33
  super := sup
  interfaces := #[]
  cf := none
  fields := #[]
  methods := #[]
  instanceTypes := #[]
  staticTypes := #[]
  resolved := #[]
  callSites := []
  init := .initialized
  statics := none
  mirror := none

def pool0 : Array CpInfo := pool [(5, u "<init>"), (0, u "()V"), (1, .class_ 10), (1, u "java/lang/Object")] 113

def k0m0 : Method := { name := "<init>", desc := "()V", sig := { parameters := [], returnType := none }, accessFlags := 1, code := none }
/-- java/lang/Object -/
def k0 : Class := { plain "java/lang/Object" none with
  accessFlags := 33
  interfaces := #[]
  cf := some (fileOf pool0 8 #[] #[{ accessFlags := 1, nameIndex := 5, descriptorIndex := 6, attributes := #[] }] 33 0 #[] #[])
  fields := #[]
  methods := #[k0m0]
  instanceTypes := #[]
  staticTypes := #[]
  resolved := Array.replicate 124 none
  statics := none }

def pool1 : Array CpInfo := pool [(2, .class_ 4), (1, u "java/lang/Object"), (0, u "<init>"), (0, u "()V"), (0, .class_ 8), (0, u "com/example/mycelia/mycelia/wire/Yields"), (0, .fieldref 7 10), (0, .nameAndType 11 12), (0, u "VALUES"), (0, u "Lcom/example/mycelia/mycelia/wire/Yields;"), (0, .fieldref 7 14), (0, .nameAndType 15 12), (0, u "NODES"), (0, .fieldref 7 17), (0, .nameAndType 18 12), (0, u "PLACES"), (0, .fieldref 7 20), (0, .nameAndType 21 12), (0, u "COUNT"), (0, .fieldref 7 23), (0, .nameAndType 24 12), (0, u "MAX"), (0, .fieldref 7 26), (0, .nameAndType 27 12), (0, u "MIN"), (0, .fieldref 7 29), (0, .nameAndType 30 12), (0, u "DISTINCT"), (0, .fieldref 7 32), (0, .nameAndType 33 12), (0, u "DISTINCT_COUNT"), (0, .fieldref 7 35), (0, .nameAndType 36 12), (0, u "POSITION"), (0, .integer 2147483647), (0, .methodref 7 39), (0, .nameAndType 40 41), (0, u "answersCount"), (0, u "()Z"), (0, .methodref 7 43), (0, .nameAndType 44 41), (0, u "answersValues"), (0, .class_ 46), (0, u "com/example/mycelia/mycelia/wire/YieldsAnswersCountPinLaw"), (2, u "law"), (0, u "(I)Z")] 7

def k1m0 : Method := { name := "<init>", desc := "()V", sig := { parameters := [], returnType := none }, accessFlags := 1, code := none }
def k1c1 : Code := { maxStack := 4, maxLocals := 6, code := code, exceptionTable := #[], attributes := #[] }
def k1m1 : Method := { name := "law", desc := "(I)Z", sig := { parameters := [.int], returnType := some .boolean }, accessFlags := 9, code := some k1c1 }
/-- com/example/mycelia/mycelia/wire/YieldsAnswersCountPinLaw -/
def k1 : Class := { plain "com/example/mycelia/mycelia/wire/YieldsAnswersCountPinLaw" (some 0) with
  accessFlags := 49
  interfaces := #[]
  cf := some (fileOf pool1 45 #[] #[{ accessFlags := 1, nameIndex := 5, descriptorIndex := 6, attributes := #[] }, { accessFlags := 9, nameIndex := 49, descriptorIndex := 50, attributes := #[] }] 49 2 #[] #[])
  fields := #[]
  methods := #[k1m0, k1m1]
  instanceTypes := #[]
  staticTypes := #[]
  resolved := Array.replicate 58 none
  statics := none }

def pool2 : Array CpInfo := pool [(1, .class_ 2), (0, u "java/lang/constant/Constable"), (0, .class_ 4), (0, u "java/lang/Object")] 6

/-- java/lang/constant/Constable -/
def k2 : Class := { plain "java/lang/constant/Constable" (some 0) with
  accessFlags := 1537
  interfaces := #[]
  cf := some (fileOf pool2 1 #[] #[] 1537 3 #[] #[])
  fields := #[]
  methods := #[]
  instanceTypes := #[]
  staticTypes := #[]
  resolved := Array.replicate 11 none
  statics := none }

def pool3 : Array CpInfo := pool [(1, .class_ 2), (0, u "java/lang/Comparable"), (0, .class_ 4), (0, u "java/lang/Object")] 7

/-- java/lang/Comparable -/
def k3 : Class := { plain "java/lang/Comparable" (some 0) with
  accessFlags := 1537
  interfaces := #[]
  cf := some (fileOf pool3 1 #[] #[] 1537 3 #[] #[])
  fields := #[]
  methods := #[]
  instanceTypes := #[]
  staticTypes := #[]
  resolved := Array.replicate 12 none
  statics := none }

def pool4 : Array CpInfo := pool [(1, .class_ 2), (0, u "java/io/Serializable"), (0, .class_ 4), (0, u "java/lang/Object")] 2

/-- java/io/Serializable -/
def k4 : Class := { plain "java/io/Serializable" (some 0) with
  accessFlags := 1537
  interfaces := #[]
  cf := some (fileOf pool4 1 #[] #[] 1537 3 #[] #[])
  fields := #[]
  methods := #[]
  instanceTypes := #[]
  staticTypes := #[]
  resolved := Array.replicate 7 none
  statics := none }

def pool5 : Array CpInfo := pool [(2, .class_ 4), (1, u "java/lang/Enum"), (0, u "name"), (0, u "Ljava/lang/String;"), (2, u "ordinal"), (0, u "I"), (1, .class_ 14), (1, u "java/lang/Object"), (4, u "hash"), (86, .class_ 108), (1, u "java/lang/Enum$EnumDesc"), (2, .class_ 112), (0, u "java/lang/constant/Constable"), (0, .class_ 114), (0, u "java/lang/Comparable"), (0, .class_ 116), (0, u "java/io/Serializable")] 87

/-- java/lang/Enum -/
def k5 : Class := { plain "java/lang/Enum" (some 0) with
  accessFlags := 1057
  interfaces := #[2, 3, 4]
  cf := some (fileOf pool5 2 #[.nestMembers #[106]] #[] 1057 12 #[111, 113, 115] #[{ accessFlags := 18, nameIndex := 5, descriptorIndex := 6, attributes := #[] }, { accessFlags := 18, nameIndex := 9, descriptorIndex := 10, attributes := #[] }, { accessFlags := 2, nameIndex := 19, descriptorIndex := 10, attributes := #[] }])
  fields := #[{ name := "name", type := (.object "java/lang/String"), accessFlags := 18, slot := 0, constantValue := 0 }, { name := "ordinal", type := .int, accessFlags := 18, slot := 1, constantValue := 0 }, { name := "hash", type := .int, accessFlags := 2, slot := 2, constantValue := 0 }]
  methods := #[]
  instanceTypes := #[(.object "java/lang/String"), .int, .int]
  staticTypes := #[]
  resolved := Array.replicate 204 none
  statics := none }

def pool6 : Array CpInfo := pool [(1, .class_ 2), (0, u "com/example/mycelia/mycelia/wire/Yields"), (0, .fieldref 1 4), (0, .nameAndType 5 6), (0, u "VALUES"), (0, u "Lcom/example/mycelia/mycelia/wire/Yields;"), (2, u "NODES"), (2, u "PLACES"), (0, .fieldref 1 14), (0, .nameAndType 15 6), (0, u "COUNT"), (0, .fieldref 1 17), (0, .nameAndType 18 6), (0, u "MAX"), (0, .fieldref 1 20), (0, .nameAndType 21 6), (0, u "MIN"), (0, .fieldref 1 23), (0, .nameAndType 24 6), (0, u "DISTINCT"), (0, .fieldref 1 26), (0, .nameAndType 27 6), (0, u "DISTINCT_COUNT"), (2, u "POSITION"), (2, u "$VALUES"), (0, u "[Lcom/example/mycelia/mycelia/wire/Yields;"), (6, .class_ 43), (1, u "java/lang/Enum"), (88, u "answersValues"), (0, u "()Z"), (1, u "answersCount")] 36

def k6c0 : Code := { maxStack := 2, maxLocals := 1, code := prog_24_method_5_code, exceptionTable := #[], attributes := #[] }
def k6m0 : Method := { name := "answersValues", desc := "()Z", sig := { parameters := [], returnType := some .boolean }, accessFlags := 1, code := some k6c0 }
def k6c1 : Code := { maxStack := 2, maxLocals := 1, code := prog_24_method_6_code, exceptionTable := #[], attributes := #[] }
def k6m1 : Method := { name := "answersCount", desc := "()Z", sig := { parameters := [], returnType := some .boolean }, accessFlags := 1, code := some k6c1 }
/-- com/example/mycelia/mycelia/wire/Yields -/
def k6 : Class := { plain "com/example/mycelia/mycelia/wire/Yields" (some 5) with
  accessFlags := 16433
  interfaces := #[]
  cf := some (fileOf pool6 1 #[] #[{ accessFlags := 1, nameIndex := 132, descriptorIndex := 133, attributes := #[] }, { accessFlags := 1, nameIndex := 135, descriptorIndex := 133, attributes := #[] }] 16433 41 #[] #[{ accessFlags := 16409, nameIndex := 5, descriptorIndex := 6, attributes := #[] }, { accessFlags := 16409, nameIndex := 9, descriptorIndex := 6, attributes := #[] }, { accessFlags := 16409, nameIndex := 12, descriptorIndex := 6, attributes := #[] }, { accessFlags := 16409, nameIndex := 15, descriptorIndex := 6, attributes := #[] }, { accessFlags := 16409, nameIndex := 18, descriptorIndex := 6, attributes := #[] }, { accessFlags := 16409, nameIndex := 21, descriptorIndex := 6, attributes := #[] }, { accessFlags := 16409, nameIndex := 24, descriptorIndex := 6, attributes := #[] }, { accessFlags := 16409, nameIndex := 27, descriptorIndex := 6, attributes := #[] }, { accessFlags := 16409, nameIndex := 30, descriptorIndex := 6, attributes := #[] }, { accessFlags := 4122, nameIndex := 33, descriptorIndex := 34, attributes := #[] }])
  fields := #[{ name := "VALUES", type := (.object "com/example/mycelia/mycelia/wire/Yields"), accessFlags := 16409, slot := 0, constantValue := 0 }, { name := "NODES", type := (.object "com/example/mycelia/mycelia/wire/Yields"), accessFlags := 16409, slot := 1, constantValue := 0 }, { name := "PLACES", type := (.object "com/example/mycelia/mycelia/wire/Yields"), accessFlags := 16409, slot := 2, constantValue := 0 }, { name := "COUNT", type := (.object "com/example/mycelia/mycelia/wire/Yields"), accessFlags := 16409, slot := 3, constantValue := 0 }, { name := "MAX", type := (.object "com/example/mycelia/mycelia/wire/Yields"), accessFlags := 16409, slot := 4, constantValue := 0 }, { name := "MIN", type := (.object "com/example/mycelia/mycelia/wire/Yields"), accessFlags := 16409, slot := 5, constantValue := 0 }, { name := "DISTINCT", type := (.object "com/example/mycelia/mycelia/wire/Yields"), accessFlags := 16409, slot := 6, constantValue := 0 }, { name := "DISTINCT_COUNT", type := (.object "com/example/mycelia/mycelia/wire/Yields"), accessFlags := 16409, slot := 7, constantValue := 0 }, { name := "POSITION", type := (.object "com/example/mycelia/mycelia/wire/Yields"), accessFlags := 16409, slot := 8, constantValue := 0 }, { name := "$VALUES", type := (.array (.object "com/example/mycelia/mycelia/wire/Yields")), accessFlags := 4122, slot := 9, constantValue := 0 }]
  methods := #[k6m0, k6m1]
  instanceTypes := #[(.object "java/lang/String"), .int, .int]
  staticTypes := #[(.object "com/example/mycelia/mycelia/wire/Yields"), (.object "com/example/mycelia/mycelia/wire/Yields"), (.object "com/example/mycelia/mycelia/wire/Yields"), (.object "com/example/mycelia/mycelia/wire/Yields"), (.object "com/example/mycelia/mycelia/wire/Yields"), (.object "com/example/mycelia/mycelia/wire/Yields"), (.object "com/example/mycelia/mycelia/wire/Yields"), (.object "com/example/mycelia/mycelia/wire/Yields"), (.object "com/example/mycelia/mycelia/wire/Yields"), (.array (.object "com/example/mycelia/mycelia/wire/Yields"))]
  resolved := Array.replicate 172 none
  statics := some 0 }

def pool7 : Array CpInfo := pool [(1, u "java/lang/Cloneable"), (0, .class_ 1), (0, u "java/lang/Object"), (0, .class_ 3)] 3

/-- java/lang/Cloneable -/
def k7 : Class := { plain "java/lang/Cloneable" (some 0) with
  accessFlags := 1537
  interfaces := #[]
  cf := some (fileOf pool7 2 #[] #[] 1537 4 #[] #[])
  fields := #[]
  methods := #[]
  instanceTypes := #[]
  staticTypes := #[]
  resolved := Array.replicate 8 none
  statics := none }

/-- the primitive boolean -/
def k8 : Class := { plain "boolean" none with kind := .primitive 'Z', accessFlags := 0x411 }
/-- [Z -/
def k9 : Class := { plain "[Z" (some 0) with kind := .array 8 .boolean, interfaces := #[7, 4], accessFlags := 1041 }

/-- the primitive byte -/
def k10 : Class := { plain "byte" none with kind := .primitive 'B', accessFlags := 0x411 }
/-- [B -/
def k11 : Class := { plain "[B" (some 0) with kind := .array 10 .byte, interfaces := #[7, 4], accessFlags := 1041 }

/-- the primitive int -/
def k12 : Class := { plain "int" none with kind := .primitive 'I', accessFlags := 0x411 }
/-- [I -/
def k13 : Class := { plain "[I" (some 0) with kind := .array 12 .int, interfaces := #[7, 4], accessFlags := 1041 }

/-- [Lcom/example/mycelia/mycelia/wire/Yields; -/
def k14 : Class := { plain "[Lcom/example/mycelia/mycelia/wire/Yields;" (some 0) with kind := .array 6 (.object "com/example/mycelia/mycelia/wire/Yields"), interfaces := #[7, 4], accessFlags := 1041 }

def heap : Heap := #[{ cls := 6, slots := #[.ref 1, .ref 2, .ref 3, .ref 4, .ref 5, .ref 6, .ref 7, .ref 8, .ref 9, .null], vm := .statics 6 },
  { cls := 6, slots := #[.null, .int 0, .int 0], vm := .none },
  { cls := 6, slots := #[.null, .int 1, .int 0], vm := .none },
  { cls := 6, slots := #[.null, .int 2, .int 0], vm := .none },
  { cls := 6, slots := #[.null, .int 3, .int 0], vm := .none },
  { cls := 6, slots := #[.null, .int 4, .int 0], vm := .none },
  { cls := 6, slots := #[.null, .int 5, .int 0], vm := .none },
  { cls := 6, slots := #[.null, .int 6, .int 0], vm := .none },
  { cls := 6, slots := #[.null, .int 7, .int 0], vm := .none },
  { cls := 6, slots := #[.null, .int 8, .int 0], vm := .none }]
def classes : Array Class := #[k0, k1, k2, k3, k4, k5, k6, k7, k8, k9, k10, k11, k12, k13, k14]
def interned : List (Array UInt16 × Addr) := []
def slotsUsed : Nat := 37
def theMethod : MethodId := ⟨1, 1⟩
def args0 : Array Value := #[.int 5]
def aboutOver (below : List Frame) : State where
  vm := { classes := classes, interned := interned.toArray }
  heap := heap
  slotsUsed := slotsUsed
  threads := #[{ frames := .invoking theMethod args0 :: below }]
def below0 : List Frame := [.native { method := ⟨0, 0⟩, args := #[] }]
def about1 : State := aboutOver below0
def p0 : Program := .bare "" "" ""
def e0 : Env := launch0.env 0 0 0
theorem w_frames : about1.frames = Frame.invoking theMethod args0 :: below0 := rfl
set_option maxRecDepth 65536 in
theorem w_args : argsFit about1.vm theMethod args0 = true := by decide +kernel
set_option maxRecDepth 65536 in
theorem w_heap : heapFits about1 = true := by decide +kernel
set_option maxRecDepth 65536 in
theorem w_runnable : about1.curStatus? = some .runnable := by decide +kernel
set_option maxRecDepth 65536 in
theorem w_alone : about1.alone = true := by decide +kernel
set_option maxRecDepth 65536 in
theorem w_named : about1.methodNamed? x = some theMethod := by decide +kernel
set_option maxRecDepth 65536 in
theorem w_hears : about1.hears theMethod below0 = true := by decide +kernel
set_option maxRecDepth 65536 in
theorem w_ripe : about1.ripe theMethod args0 below0 = true := by decide +kernel
theorem w_running : about1.status = .running := rfl
set_option maxRecDepth 65536 in
theorem w_room : about1.hasRoom e0.platform room_1 = true :=
  launch0.hasRoom_least _ room_1 (by decide +kernel) (by decide +kernel) (by decide +kernel) (by decide +kernel) (by decide +kernel) (by decide +kernel)
theorem allAtoms_all (ts : List Jvm.Cond) (a : Array Jvm.Value) (st : Jvm.State) : (allAtoms ts).before a st = ts.all (fun c => c.before a st) := by
  induction ts with
  | nil => rfl
  | cons c t ih =>
    show (Jvm.Cond.and c (allAtoms t)).before a st = _
    rw [Jvm.Cond.before_and, ih, List.all_cons]
def words1 : List Jvm.Cond := Jvm.Cond.code x code maxLocals ret :: tables_1
/-- a 'code' word, met by the world's own term for the bytes: nothing is compared byte by byte -/
theorem code_word {y : MethodName} {bytes : ByteArray} {mx : Nat} {rt : Option FieldType} {a : Array Value} {s : State} {m : MethodId} {meth : Method} {c : Code} (h1 : s.methodNamed? y = some m) (h2 : s.vm.method? m = some meth) (h3 : meth.code = some c) (h4 : c.code = bytes)
    (h5 : (c.maxLocals == mx && c.exceptionTable.isEmpty && decide (c.maxStack ≤ mostOperands) && decide (meth.sig.returnType = rt) && !meth.locks && decide (parseMethodDescriptor y.desc = some meth.sig)) = true) : (Jvm.Cond.code y bytes mx rt).before a s = true := by
  simp only [Bool.and_eq_true, beq_iff_eq, Bool.not_eq_true', decide_eq_true_eq] at h5
  obtain ⟨⟨⟨⟨⟨g1, g2⟩, g3⟩, g4⟩, g5⟩, g6⟩ := h5
  simp [Cond.before, Cond.holds, Cond.value, h1, h2, h3, h4, g1, g2, g3, g4, g5, g6]
def isCode : Jvm.Cond → Bool
  | .code _ _ _ _ => true
  | _ => false
theorem all_split {L : List Jvm.Cond} {P : Jvm.Cond → Bool} (h1 : L.all (fun c => isCode c || P c) = true) (h2 : ∀ c ∈ L.filter isCode, P c = true) : L.all P = true := by
  refine List.all_eq_true.mpr fun c hc => ?_
  have h := List.all_eq_true.mp h1 c hc
  rcases Bool.eq_false_or_eq_true (isCode c) with hi | hi
  · exact h2 c (List.mem_filter.mpr ⟨hc, hi⟩)
  · simpa [hi] using h
set_option maxRecDepth 65536 in
theorem w_c0 : (Jvm.Cond.code x code maxLocals ret).before args0 about1 = true := code_word (m := ⟨1, 1⟩) (meth := k1m1) (c := k1c1) (by decide +kernel) rfl rfl rfl (by decide +kernel)
set_option maxRecDepth 65536 in
theorem w_c1 : (Jvm.Cond.code ({ cls := "com/example/mycelia/mycelia/wire/Yields", name := "answersCount", desc := "()Z" } : Jvm.MethodName) prog_24_method_6_code (1 : Nat) (Option.some Jvm.ClassFile.FieldType.boolean)).before args0 about1 = true := code_word (m := ⟨6, 1⟩) (meth := k6m1) (c := k6c1) (by decide +kernel) rfl rfl rfl (by decide +kernel)
set_option maxRecDepth 65536 in
theorem w_c2 : (Jvm.Cond.code ({ cls := "com/example/mycelia/mycelia/wire/Yields", name := "answersValues", desc := "()Z" } : Jvm.MethodName) prog_24_method_5_code (1 : Nat) (Option.some Jvm.ClassFile.FieldType.boolean)).before args0 about1 = true := code_word (m := ⟨6, 0⟩) (meth := k6m0) (c := k6c0) (by decide +kernel) rfl rfl rfl (by decide +kernel)
def codes1 : List Jvm.Cond := [Jvm.Cond.code x code maxLocals ret, Jvm.Cond.code ({ cls := "com/example/mycelia/mycelia/wire/Yields", name := "answersCount", desc := "()Z" } : Jvm.MethodName) prog_24_method_6_code (1 : Nat) (Option.some Jvm.ClassFile.FieldType.boolean), Jvm.Cond.code ({ cls := "com/example/mycelia/mycelia/wire/Yields", name := "answersValues", desc := "()Z" } : Jvm.MethodName) prog_24_method_5_code (1 : Nat) (Option.some Jvm.ClassFile.FieldType.boolean)]
set_option maxRecDepth 65536 in
theorem codes_eq : words1.filter isCode = codes1 := rfl
theorem w_codes : ∀ c ∈ words1.filter isCode, c.before args0 about1 = true := by
  rw [codes_eq]
  intro c hc
  simp only [codes1, List.mem_cons, List.not_mem_nil, or_false] at hc
  rcases hc with rfl | rfl | rfl
  · exact w_c0
  · exact w_c1
  · exact w_c2
set_option maxRecDepth 65536 in
theorem w_t1 : (words1.take 24).all (fun c => isCode c || c.before args0 about1) = true := by decide +kernel
set_option maxRecDepth 65536 in
theorem w_t2 : (words1.drop 24).all (fun c => isCode c || c.before args0 about1) = true := by decide +kernel
theorem w_tables : (allAtoms (Jvm.Cond.code x code maxLocals ret :: tables_1)).before args0 about1 = true := by
  rw [allAtoms_all]
  show words1.all (fun c => c.before args0 about1) = true
  refine all_split ?_ w_codes
  rw [← List.take_append_drop 24 words1, List.all_append, w_t1, w_t2]
  rfl
set_option maxRecDepth 65536 in
theorem w_case : (Jvm.Cond.and given_1 narrow_1).before args0 about1 = true := by decide +kernel
theorem w_applies : (headSpec (Jvm.Cond.code x code maxLocals ret :: tables_1) room_1).applies x e0.platform about1 = true :=
  (Spec.applies_iff w_frames).mpr ⟨w_running, w_runnable, w_alone, w_named, w_hears, w_ripe, w_room, w_tables⟩
theorem atStart : AtStart classFile x code maxLocals ret World_1 tables_1 room_1 Calls_1 rest_1 Pre_1 launch0 p0 e0 about1 theMethod args0 below0 :=
  ⟨lists_1, trivial, launch0.admits_env _ _ _, launch0.least_env, fairChoices_fair.cas, fairChoices_fair.clock, w_frames, w_args, w_heap, w_applies, trivial, trivial, w_case⟩
end start1
theorem witness_1 : WitnessClaimed_1 := ⟨start1.p0, start1.e0, start1.about1, start1.theMethod, start1.args0, start1.below0, start1.atStart⟩
end Jvm.Pilot.@@N@@
