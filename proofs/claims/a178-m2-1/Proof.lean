import JvmDerived
import JvmDerived.Pilot.@@N@@Statement
import JvmDerived.Pilot.@@N@@Code
set_option linter.unusedVariables false
set_option linter.unusedSimpArgs false
namespace Jvm.RoadKit
open Sem ClassFile Op Lib Jvm.Stand Jvm.Free Jvm.LawKit
section New
variable {p : Program} {l : Launch} {e : Env} {R : Room} {s : State} {m : MethodId} {args : Array Value} {below : List Frame} {meth : Method} {c : Code} {T : State} {locs : List Loc} {cells slots : Nat}
theorem retI (X : Stand p l e R s m args below meth c T locs cells slots) (hx : p.tables.exec = Jvm.exec) {pc : Nat} {Ls : Array Slot} {z : Int32} {rest : List Value} (hret : meth.sig.returnType = some .int) (hd : decode c.code pc = .ok (.ireturn, 1)) {fs : List Frame}
    (hl : ∀ (f : JFrame) (acts : List Action), f.method = m → f.locked = none → f.entered = [] → (doReturn e (T.setTop f) acts (some (.int z))).1 = T.setFrames fs) : Steps p.tables e below (T.setTop (mkF m pc Ls (.int z :: rest))) (T.setFrames fs) := by
  have hm' : T.vm.method? m = some meth := X.method'
  have hn : narrow .int (.int z) = .int z := rfl
  show Steps p.tables e below (T.setTop { method := m, pc := pc, locals := Ls, stack := _ :: rest, locked := none }) _
  jvm_step X.here [X.here.top, hx, hd, hm', hret, hn]
  first | (intro acts; rw [hl _ acts rfl rfl rfl]) | rw [hl _ _ rfl rfl rfl]
  exact Steps.refl _
end New
end Jvm.RoadKit
namespace Jvm.Pilot.@@N@@
open Jvm Jvm.ClassFile Sem Op Lib Jvm.Free Jvm.Stand Jvm.LawKit Jvm.RoadKit Bundle Jvm.Pilot.@@N@@.Jvm.D
theorem own_oz {Z : State} {n0 : Nat} {h : Heap} (O : Old Z n0 h) : n0 ≤ h.size := by
  rw [← O.1]; exact O.2.1
theorem own_lsw {tb : Tables} [Ours tb] {e : Env} {below : List Frame} {T target : State} {m : MethodId} {c : Code} {g : JFrame} (h : At T m c below) (hx : tb.exec = Jvm.exec) (hg : g.method = m) {dflt : Int} {prs : Array (Int × Int)} {len : Nat} {o : Int} {pc0 pc' : Nat} (hpc : g.pc = pc0) (hd : decode c.code g.pc = .ok (.lookupswitch dflt prs, len)) {i : Int32} {rest : List Value} (hs : g.stack = .int i :: rest)
    (hsort : (prs.toList.zip (prs.toList.drop 1)).all (fun (a, next) => a.1 < next.1) = true) (hoff : lookupswitch.offset prs.toList dflt i.toInt = o) (ho : 0 ≤ (pc0 : Int) + o) (hp : ((pc0 : Int) + o).toNat = pc')
    (hr : Steps tb e below (T.setTop { g with pc := pc', stack := rest }) target) : Steps tb e below (T.setTop g) target := by
  subst hg hpc hp
  jvm_step h [h.top, hx, hd, hs, hoff, ho, lookupswitch.wp_chain]
  exact ⟨by simpa using hsort, hr⟩
section Nums
variable {x k : Int32} {n : Int}
theorem own_lt1 (hk : k.toInt = n) (h : x < k) : x.toInt < n := by rw [← hk]; exact Int32.lt_iff_toInt_lt.mp h
theorem own_lt2 (hk : k.toInt = n) (h : k < x) : n < x.toInt := by rw [← hk]; exact Int32.lt_iff_toInt_lt.mp h
theorem own_nlt1 (hk : k.toInt = n) (h : ¬ x < k) : n ≤ x.toInt := by rw [Int32.lt_iff_toInt_lt, hk] at h; omega
theorem own_nlt2 (hk : k.toInt = n) (h : ¬ k < x) : x.toInt ≤ n := by rw [Int32.lt_iff_toInt_lt, hk] at h; omega
theorem own_eq (hk : k.toInt = n) (h : x = k) : x.toInt = n := by rw [← hk, h]
theorem own_neq (hk : k.toInt = n) (h : ¬ x = k) : x.toInt ≠ n := fun q => h (Int32.toInt_inj.mp (by rw [hk, q]))
theorem own_glt1 (hk : k.toInt = n) (h : x.toInt < n) : x < k := Int32.lt_iff_toInt_lt.mpr (by rw [hk]; exact h)
theorem own_glt2 (hk : k.toInt = n) (h : n < x.toInt) : k < x := Int32.lt_iff_toInt_lt.mpr (by rw [hk]; exact h)
theorem own_gnlt1 (hk : k.toInt = n) (h : n ≤ x.toInt) : ¬ x < k := fun q => by have := own_lt1 hk q; omega
theorem own_gnlt2 (hk : k.toInt = n) (h : x.toInt ≤ n) : ¬ k < x := fun q => by have := own_lt2 hk q; omega
theorem own_geq (hk : k.toInt = n) (h : x.toInt = n) : x = k := Int32.toInt_inj.mp (by rw [hk, h])
theorem own_gneq (hk : k.toInt = n) (h : x.toInt ≠ n) : ¬ x = k := fun q => h (own_eq hk q)
theorem own_and (hk : k.toInt = n) (h0 : 0 ≤ n) : 0 ≤ (x &&& k).toInt ∧ (x &&& k).toInt ≤ n := by have := c_and x k (by rw [hk]; exact h0); rw [hk] at this; exact this
theorem own_and2 (hk : k.toInt = n) (h0 : 0 ≤ n) : 0 ≤ (k &&& x).toInt ∧ (k &&& x).toInt ≤ n := by have := c_and' k x (by rw [hk]; exact h0); rw [hk] at this; exact this
theorem own_rem (hk : k.toInt = n) (h0 : 0 < n) (hx : 0 ≤ x.toInt) : 0 ≤ (x % k).toInt ∧ (x % k).toInt < n ∧ (x % k).toInt ≤ x.toInt := by
  have := (c_iremV x k).1 hx (by rw [hk]; exact h0); rw [hk] at this; exact ⟨this.1, this.2.1, this.2.2.1⟩
theorem own_add {lo hi : Int} (hk : k.toInt = n) (hx : lo ≤ x.toInt ∧ x.toInt ≤ hi) (h1 : -2147483648 ≤ lo + n) (h2 : hi + n < 2147483648) : lo + n ≤ (x + k).toInt ∧ (x + k).toInt ≤ hi + n := by
  have := c_iadd x k; have := rng32 (x + k); rw [hk] at *; omega
theorem own_add2 {lo hi : Int} (hk : k.toInt = n) (hx : lo ≤ x.toInt ∧ x.toInt ≤ hi) (h1 : -2147483648 ≤ lo + n) (h2 : hi + n < 2147483648) : lo + n ≤ (k + x).toInt ∧ (k + x).toInt ≤ hi + n := by
  have := c_iadd k x; have := rng32 (k + x); rw [hk] at *; omega
end Nums
theorem own_len {Z : State} {args : Array Value} {t : Term} {a : Addr} {c : Cell} {ty : FieldType} {n : Int32} (A : Arr Z Z.heap a c ty) (ev : t.eval args Z none [] Z = some (.ref a)) (h : (Term.length t).eval args Z none [] Z = some (.int n)) : c.slots.size < 2 ^ 31 ∧ c.slots.size.toInt32 = n := by
  have q := A.fin (Vm.Alike.refl _)
  by_cases z : c.slots.size < 2 ^ 31
  · rw [len_f ev q z] at h; exact ⟨z, Value.int.inj (Option.some.inj h)⟩
  · simp [Term.eval, ev, q, z] at h
theorem own_selp {s : State} {args : Array Value} {y z : MethodName} {C : String} (w : (Cond.selects C z z).before args s = true) (hc : z.cls = y.cls) (hp : s.PrivateAt y) (hi : (Cond.instanceMethod y).before args s = true) (hy : y.cls ≠ "java/lang/invoke/MethodHandle" ∧ y.cls ≠ "java/lang/invoke/VarHandle") : (Cond.selects y.cls y y).before args s = true := by
  obtain ⟨c2, r2, m2, -, -, q3, -, kP, hkP, hkPi⟩ := Cond.selects_spec w
  exact selects_self_of_private (by rw [← hc]; exact findClass_of_methodNamed q3) hkP hkPi hp hi hy
theorem own_max64 (x : Int64) : ¬ (9223372036854775807 : Int64) < x := fun h => by have := rng64 x; rw [Int64.lt_iff_toInt_lt, show (9223372036854775807 : Int64).toInt = 9223372036854775807 by decide] at h; omega
theorem own_min64 (x : Int64) : ¬ x < (-9223372036854775808 : Int64) := fun h => by have := rng64 x; rw [Int64.lt_iff_toInt_lt, show (-9223372036854775808 : Int64).toInt = -9223372036854775808 by decide] at h; omega
theorem own_root {Z : State} {a0 : Array Value} {O K : String} {n : Nat} (w : (Cond.noSuperclass O).before a0 Z = true) (wk : (Cond.instantiable K n).before a0 Z = true) (hn : O ≠ K) : NS Z O K := by
  obtain ⟨c, k, h1, h2, h3, -, -⟩ := Cond.noSuperclass_spec w
  obtain ⟨t, kt, g1, -⟩ := Cond.instantiable_spec wk
  have ne := ids_ne h1 g1 hn
  refine ⟨c, t, h1, g1, fun fuel => ?_⟩
  cases fuel with
  | zero => rfl
  | succ f => simp [Vm.isSubclassAux, ne, h2, h3]
theorem own_no {Z : State} {a0 : Array Value} {C S K : String} {n : Nat} (w : (Cond.superclass C S).before a0 Z = true) (wk : (Cond.instantiable K n).before a0 Z = true) (q : NS Z C K) (hn : C ≠ K) : ∃ c t, Z.vm.findClass C = some c ∧ Z.vm.findClass K = some t ∧ Z.vm.assignable c t = false := by
  obtain ⟨c, t, h0, g0, n3⟩ := q
  obtain ⟨p, k, kp, h1, h2, h3, h4, h5, -, h7⟩ := Cond.superclass_spec h0 w
  obtain ⟨t', k', g1, g2, g3, g4, -⟩ := Cond.instantiable_spec wk
  cases g0.symm.trans g1
  have ne := ids_ne h0 g0 hn
  have g5 : k'.isInterface = false := by simp only [Bool.or_eq_false_iff] at g4; exact g4.1
  refine ⟨c, t, h0, g0, ?_⟩
  show Z.vm.assignableAux (255 + 1) c t = false
  simp [Vm.assignableAux, ne, h2, g2, h5, g3, g5, Vm.isSubclass, n3]
theorem own_eqR {Z : State} {args : Array Value} {a b : Term} {idx : List Nat} {w : Addr} (hb : b.eval args Z none idx Z = some (.ref w)) (h : (Cond.eq a b).value args Z none Z idx = some true) : a.eval args Z none idx Z = some (.ref w) := by
  simp only [Cond.value, hb] at h
  cases ht : a.eval args Z none idx Z with
  | none => simp [ht] at h
  | some x => cases x <;> simp [ht] at h ⊢; exact h
def GW (Z : State) (w1 : Addr) (w2 : Addr) (w3 : Addr) : Prop :=
  (Sta Z Z.heap "com/example/vipo/vipo/flow/ConceptValue" "YES" "Lcom/example/vipo/vipo/flow/ConceptValue;" (.ref w1))
  ∧ (Exa Z Z.heap w1 "com/example/vipo/vipo/flow/ConceptValue")
  ∧ (Sta Z Z.heap "com/example/vipo/vipo/flow/ConceptValue" "NO" "Lcom/example/vipo/vipo/flow/ConceptValue;" (.ref w2))
  ∧ (Exa Z Z.heap w2 "com/example/vipo/vipo/flow/ConceptValue")
  ∧ (Sta Z Z.heap "com/example/vipo/vipo/flow/ConceptValue" "ANY" "Lcom/example/vipo/vipo/flow/ConceptValue;" (.ref w3))
  ∧ (Exa Z Z.heap w3 "com/example/vipo/vipo/flow/ConceptValue")
  ∧ (Fld Z Z.heap w1 "java/lang/Enum" "ordinal" "I" (.int (0 : Int32)))
  ∧ (Fld Z Z.heap w2 "java/lang/Enum" "ordinal" "I" (.int (1 : Int32)))
  ∧ (Fld Z Z.heap w3 "java/lang/Enum" "ordinal" "I" (.int (2 : Int32)))
def Q0 (n0 : Nat) (v : Option Value) (h : Heap) (L : List Loc) : Prop := v = some (.int (1 : Int32)) ∧ Fr n0 L
theorem d0_0 : decode method_2_code 0 = .ok (.iload_n 0, 1) := by decide +kernel
theorem d0_1 : decode method_2_code 1 = .ok (.ldc 7, 2) := by decide +kernel
theorem d0_3 : decode method_2_code 3 = .ok (.iand, 1) := by decide +kernel
theorem d0_4 : decode method_2_code 4 = .ok (.iconst 3, 1) := by decide +kernel
theorem d0_5 : decode method_2_code 5 = .ok (.irem, 1) := by decide +kernel
theorem d0_6 : decode method_2_code 6 = .ok (.istore_n 1, 1) := by decide +kernel
theorem d0_7 : decode method_2_code 7 = .ok (.iload_n 1, 1) := by decide +kernel
theorem d0_8 : decode method_2_code 8 = .ok (.ifCond .ne 7, 3) := by decide +kernel
theorem d0_11 : decode method_2_code 11 = .ok (.getstatic 8, 3) := by decide +kernel
theorem d0_14 : decode method_2_code 14 = .ok (.areturn, 1) := by decide +kernel
theorem d0_15 : decode method_2_code 15 = .ok (.iload_n 1, 1) := by decide +kernel
theorem d0_16 : decode method_2_code 16 = .ok (.iconst 1, 1) := by decide +kernel
theorem d0_17 : decode method_2_code 17 = .ok (.if_icmp .ne 7, 3) := by decide +kernel
theorem d0_20 : decode method_2_code 20 = .ok (.getstatic 14, 3) := by decide +kernel
theorem d0_23 : decode method_2_code 23 = .ok (.areturn, 1) := by decide +kernel
theorem d0_24 : decode method_2_code 24 = .ok (.getstatic 17, 3) := by decide +kernel
theorem d0_27 : decode method_2_code 27 = .ok (.areturn, 1) := by decide +kernel
theorem pn0 : plainName "com/example/vipo/vipo/flow/ConceptValueAdmitsPinLaw" = true := by first | (simp [plainName, overriddenIn]; done) | decide +kernel
theorem ef1 (m : MethodId) (x0 : Int32) : entryFrame m #[(.int x0)] 2 = mkF m 0 #[.val (.int x0), .unset] [] := by first | (simp [entryFrame, mkF, argsToLocals, Value.category]; done) | rfl
def Q1 (Z : State) (w1 : Addr) (w2 : Addr) (w3 : Addr) (p1 : Int32) (h0 : Heap) (n0 : Nat) (v : Option Value) (h : Heap) (L : List Loc) : Prop :=
  ((((p1 &&& (2147483647 : Int32)) % (3 : Int32)) = (0 : Int32)) ∧ v = some (.ref w1) ∧ Fr n0 L ∧ h = h0)
  ∨ ((¬ (((p1 &&& (2147483647 : Int32)) % (3 : Int32)) = (0 : Int32))) ∧ (((p1 &&& (2147483647 : Int32)) % (3 : Int32)) = (1 : Int32)) ∧ v = some (.ref w2) ∧ Fr n0 L ∧ h = h0)
  ∨ ((¬ (((p1 &&& (2147483647 : Int32)) % (3 : Int32)) = (0 : Int32))) ∧ (¬ (((p1 &&& (2147483647 : Int32)) % (3 : Int32)) = (1 : Int32))) ∧ v = some (.ref w3) ∧ Fr n0 L ∧ h = h0)
set_option maxRecDepth 65536 in
set_option maxHeartbeats 40000000 in
theorem rm1 (l : Launch) (Z : State) (a0 : Array Value) (hw : ∀ d ∈ tables_1, d.before a0 Z = true) (w1 : Addr) (w2 : Addr) (w3 : Addr) (G : GW Z w1 w2 w3) (ws : List Jvm.Cond) (p1 : Int32) (h0 : Heap) (n0 : Nat) (O0 : Old Z n0 h0) :
    MetFree l (⟨"com/example/vipo/vipo/flow/ConceptValueAdmitsPinLaw", "pick", "(I)Lcom/example/vipo/vipo/flow/ConceptValue;"⟩ : MethodName) (head1 (Jvm.Cond.code (⟨"com/example/vipo/vipo/flow/ConceptValueAdmitsPinLaw", "pick", "(I)Lcom/example/vipo/vipo/flow/ConceptValue;"⟩ : MethodName) method_2_code 2 (some (.object "com/example/vipo/vipo/flow/ConceptValue")) :: ws) ({ frames := 0, cells := 0, slots := 0, locals := 0 } : Room)) (fun a U => a = #[(.int p1)] ∧ Z.Warmed39 U.vm ∧ U.heap = h0) (fun _ _ _ _ _ => True) (fun _ U o U' => ∃ v L, o = .returned v ∧ Q1 Z w1 w2 w3 p1 h0 n0 v U'.heap L ∧ FrameEnd U o U' L ({ frames := 0, cells := 0, slots := 0, locals := 0 } : Room).cells ({ frames := 0, cells := 0, slots := 0, locals := 0 } : Room).slots) := by
  obtain ⟨S_w1, E_w1, S_w2, E_w2, S_w3, E_w3, F_w1_ordinal, F_w2_ordinal, F_w3_ordinal⟩ := id G
  refine MetFree.of_bodySF (plainFor_of_name pn0) hisR ?_
  intro p e s m args below meth c s₁ Bd hml0 hP hK
  obtain ⟨rfl, hZ, hh⟩ := hP
  have hx := Bd.exec
  have hby := Bd.bytes
  have hml : c.maxLocals = 2 := hml0
  have hown : s.vm.findClass "com/example/vipo/vipo/flow/ConceptValueAdmitsPinLaw" = some m.cls := findClass_of_methodNamed Bd.named
  have hnm := (name_of_methodNamed Bd.named Bd.method).1
  have hret := Bd.returns
  have hlk : meth.locks = false := BodyLoose.notSynchronized Bd
  have X0 : Stand p l e ({ frames := 0, cells := 0, slots := 0, locals := 0 } : Room) s m #[(.int p1)] below meth c s₁ [] 0 0 := Stand.of_body Bd
  have e0 : s₁.heap = h0 := by rw [← hh, Bd.state]; rfl
  have N0 := Fr.nil n0
  have pre0 : ∀ t, Steps p.tables e below (s₁.setTop (mkF m 0 #[.val (.int p1), .unset] [])) t → Steps p.tables e below (s₁.setTop (entryFrame m #[(.int p1)] 2)) t := fun t k => castTop (ef1 m p1) k
  have pre1 : ∀ t, Steps p.tables e below (s₁.setTop (mkF m 8 #[.val (.int p1), .val (.int ((p1 &&& (2147483647 : Int32)) % (3 : Int32)))] [(.int ((p1 &&& (2147483647 : Int32)) % (3 : Int32)))])) t → Steps p.tables e below (s₁.setTop (entryFrame m #[(.int p1)] 2)) t := fun t k => by
    refine pre0 _ ?_
    show Steps p.tables e below (s₁.setTop (mkF m 0 #[.val (.int p1), .unset] [])) _
    refine XS.iloadN X0.here hx rfl (hb hby d0_0) rfl ?_
    show Steps p.tables e below (s₁.setTop (mkF m 1 #[.val (.int p1), .unset] [(.int p1)])) _
    refine X0.ldcInt hx hown (mvT hZ (hw _ (List.mem_of_getElem? (i := 4) rfl))) (g := (mkF m 1 #[.val (.int p1), .unset] [(.int p1)])) rfl (hb hby d0_1) _ ?_
    show Steps p.tables e below (s₁.setTop (mkF m 3 #[.val (.int p1), .unset] [(.int (2147483647 : Int32)), (.int p1)])) _
    refine XS.iand X0.here hx rfl (hb hby d0_3) rfl ?_
    show Steps p.tables e below (s₁.setTop (mkF m 4 #[.val (.int p1), .unset] [(.int (p1 &&& (2147483647 : Int32)))])) _
    refine XS.iconst X0.here hx rfl (hb hby d0_4) ?_
    show Steps p.tables e below (s₁.setTop (mkF m 5 #[.val (.int p1), .unset] [(.int (3 : Int32)), (.int (p1 &&& (2147483647 : Int32)))])) _
    refine iremM X0 hx rfl (hb hby d0_5) rfl (by decide : ¬ ((3 : Int32) = (0 : Int32))) ?_
    show Steps p.tables e below (s₁.setTop (mkF m 6 #[.val (.int p1), .unset] [(.int ((p1 &&& (2147483647 : Int32)) % (3 : Int32)))])) _
    refine XS.istoreN X0.here hx rfl (hb hby d0_6) rfl (l' := #[.val (.int p1), .val (.int ((p1 &&& (2147483647 : Int32)) % (3 : Int32)))]) rfl ?_
    show Steps p.tables e below (s₁.setTop (mkF m 7 #[.val (.int p1), .val (.int ((p1 &&& (2147483647 : Int32)) % (3 : Int32)))] [])) _
    refine XS.iloadN X0.here hx rfl (hb hby d0_7) rfl ?_
    exact k
  by_cases hc2 : ((p1 &&& (2147483647 : Int32)) % (3 : Int32)) = (0 : Int32)
  ·
    have pre3 : ∀ t, Steps p.tables e below (s₁.setTop (mkF m 8 #[.val (.int p1), .val (.int (0 : Int32))] [(.int (0 : Int32))])) t → Steps p.tables e below (s₁.setTop (entryFrame m #[(.int p1)] 2)) t := fun t k => pre1 t (by rw [hc2]; exact k)
    obtain ⟨T4, X4, e4, st4⟩ := getS2 X0 hx hZ hown (host := "") (Or.inl (hw _ (List.mem_of_getElem? (i := 5) rfl))) Via.refl e0 (S_w1.ext O0.2) (g := (mkF m 11 #[.val (.int p1), .val (.int (0 : Int32))] [])) rfl (hb hby d0_11)
    obtain ⟨fs, hr, hrun, hended, hW, hsame⟩ := X4.leave (v := some (.ref w1)) (fun h => by rw [hret] at h; cases h)
    refine ⟨_, _, pre3 _ ?_, hrun, hended, _, _, rfl, ?_, ⟨_, rfl⟩, hW, hsame.mono (by decide) (by decide)⟩
    ·
      show Steps p.tables e below (s₁.setTop (mkF m 8 #[.val (.int p1), .val (.int (0 : Int32))] [(.int (0 : Int32))])) _
      refine XS.ifNo X0.here hx rfl (hb hby d0_8) rfl ((if0 _ _).trans (teq (by decide : (0 : Int32) = (0 : Int32))).2) ?_
      show Steps p.tables e below (s₁.setTop (mkF m 11 #[.val (.int p1), .val (.int (0 : Int32))] [])) _
      refine st4 _ ?_
      show Steps p.tables e below (T4.setTop (mkF m 14 #[.val (.int p1), .val (.int (0 : Int32))] [(.ref w1)])) _
      exact retOut X4 hx hret rfl (Or.inr (Or.inr (Or.inr (Or.inr ⟨rfl, rfl, rfl⟩)))) (hb hby d0_14) hr
    ·
      show Q1 Z w1 w2 w3 p1 h0 n0 _ T4.heap _
      rw [e4]
      exact (Or.inl ⟨hc2, rfl, N0, rfl⟩)
  ·
    have pre5 : ∀ t, Steps p.tables e below (s₁.setTop (mkF m 17 #[.val (.int p1), .val (.int ((p1 &&& (2147483647 : Int32)) % (3 : Int32)))] [(.int (1 : Int32)), (.int ((p1 &&& (2147483647 : Int32)) % (3 : Int32)))])) t → Steps p.tables e below (s₁.setTop (entryFrame m #[(.int p1)] 2)) t := fun t k => by
      refine pre1 _ ?_
      show Steps p.tables e below (s₁.setTop (mkF m 8 #[.val (.int p1), .val (.int ((p1 &&& (2147483647 : Int32)) % (3 : Int32)))] [(.int ((p1 &&& (2147483647 : Int32)) % (3 : Int32)))])) _
      refine XS.ifYes X0.here hx rfl (pc0 := 8) (pc' := 15) rfl (hb hby d0_8) rfl ((if0 _ _).trans (feq hc2).2) (by decide) (by decide) ?_
      show Steps p.tables e below (s₁.setTop (mkF m 15 #[.val (.int p1), .val (.int ((p1 &&& (2147483647 : Int32)) % (3 : Int32)))] [])) _
      refine XS.iloadN X0.here hx rfl (hb hby d0_15) rfl ?_
      show Steps p.tables e below (s₁.setTop (mkF m 16 #[.val (.int p1), .val (.int ((p1 &&& (2147483647 : Int32)) % (3 : Int32)))] [(.int ((p1 &&& (2147483647 : Int32)) % (3 : Int32)))])) _
      refine XS.iconst X0.here hx rfl (hb hby d0_16) ?_
      exact k
    by_cases hc6 : ((p1 &&& (2147483647 : Int32)) % (3 : Int32)) = (1 : Int32)
    ·
      have pre7 : ∀ t, Steps p.tables e below (s₁.setTop (mkF m 17 #[.val (.int p1), .val (.int (1 : Int32))] [(.int (1 : Int32)), (.int (1 : Int32))])) t → Steps p.tables e below (s₁.setTop (entryFrame m #[(.int p1)] 2)) t := fun t k => pre5 t (by rw [hc6]; exact k)
      obtain ⟨T8, X8, e8, st8⟩ := getS2 X0 hx hZ hown (host := "") (Or.inl (hw _ (List.mem_of_getElem? (i := 8) rfl))) Via.refl e0 (S_w2.ext O0.2) (g := (mkF m 20 #[.val (.int p1), .val (.int (1 : Int32))] [])) rfl (hb hby d0_20)
      obtain ⟨fs, hr, hrun, hended, hW, hsame⟩ := X8.leave (v := some (.ref w2)) (fun h => by rw [hret] at h; cases h)
      refine ⟨_, _, pre7 _ ?_, hrun, hended, _, _, rfl, ?_, ⟨_, rfl⟩, hW, hsame.mono (by decide) (by decide)⟩
      ·
        show Steps p.tables e below (s₁.setTop (mkF m 17 #[.val (.int p1), .val (.int (1 : Int32))] [(.int (1 : Int32)), (.int (1 : Int32))])) _
        refine XS.icmpNo X0.here hx rfl (hb hby d0_17) rfl (teq (by decide : (1 : Int32) = (1 : Int32))).2 ?_
        show Steps p.tables e below (s₁.setTop (mkF m 20 #[.val (.int p1), .val (.int (1 : Int32))] [])) _
        refine st8 _ ?_
        show Steps p.tables e below (T8.setTop (mkF m 23 #[.val (.int p1), .val (.int (1 : Int32))] [(.ref w2)])) _
        exact retOut X8 hx hret rfl (Or.inr (Or.inr (Or.inr (Or.inr ⟨rfl, rfl, rfl⟩)))) (hb hby d0_23) hr
      ·
        show Q1 Z w1 w2 w3 p1 h0 n0 _ T8.heap _
        rw [e8]
        exact (Or.inr (Or.inl ⟨hc2, hc6, rfl, N0, rfl⟩))
    ·
      have hq9 : ((p1 &&& (2147483647 : Int32)) % (3 : Int32)) = (2 : Int32) := (own_geq (n := 2) (k := (2 : Int32)) (by decide) (by have q0 := own_rem (x := (p1 &&& (2147483647 : Int32))) (k := (3 : Int32)) (n := 3) (by decide) (by decide) (by have q := own_and (x := p1) (k := (2147483647 : Int32)) (n := 2147483647) (by decide) (by decide); omega); have q1 := own_neq (n := 0) (k := (0 : Int32)) (by decide) hc2; have q2 := own_neq (n := 1) (k := (1 : Int32)) (by decide) hc6; omega))
      have pre10 : ∀ t, Steps p.tables e below (s₁.setTop (mkF m 17 #[.val (.int p1), .val (.int (2 : Int32))] [(.int (1 : Int32)), (.int (2 : Int32))])) t → Steps p.tables e below (s₁.setTop (entryFrame m #[(.int p1)] 2)) t := fun t k => pre5 t (by rw [hq9]; exact k)
      obtain ⟨T11, X11, e11, st11⟩ := getS2 X0 hx hZ hown (host := "") (Or.inl (hw _ (List.mem_of_getElem? (i := 17) rfl))) Via.refl e0 (S_w3.ext O0.2) (g := (mkF m 24 #[.val (.int p1), .val (.int (2 : Int32))] [])) rfl (hb hby d0_24)
      obtain ⟨fs, hr, hrun, hended, hW, hsame⟩ := X11.leave (v := some (.ref w3)) (fun h => by rw [hret] at h; cases h)
      refine ⟨_, _, pre10 _ ?_, hrun, hended, _, _, rfl, ?_, ⟨_, rfl⟩, hW, hsame.mono (by decide) (by decide)⟩
      ·
        show Steps p.tables e below (s₁.setTop (mkF m 17 #[.val (.int p1), .val (.int (2 : Int32))] [(.int (1 : Int32)), (.int (2 : Int32))])) _
        refine XS.icmpYes X0.here hx rfl (pc0 := 17) (pc' := 24) rfl (hb hby d0_17) rfl (feq (by decide : ¬ ((2 : Int32) = (1 : Int32)))).2 (by decide) (by decide) ?_
        show Steps p.tables e below (s₁.setTop (mkF m 24 #[.val (.int p1), .val (.int (2 : Int32))] [])) _
        refine st11 _ ?_
        show Steps p.tables e below (T11.setTop (mkF m 27 #[.val (.int p1), .val (.int (2 : Int32))] [(.ref w3)])) _
        exact retOut X11 hx hret rfl (Or.inr (Or.inr (Or.inr (Or.inr ⟨rfl, rfl, rfl⟩)))) (hb hby d0_27) hr
      ·
        show Q1 Z w1 w2 w3 p1 h0 n0 _ T11.heap _
        rw [e11]
        exact (Or.inr (Or.inr ⟨hc2, hc6, rfl, N0, rfl⟩))
theorem pd0 : parseMethodDescriptor "(I)Lcom/example/vipo/vipo/flow/ConceptValue;" = some ⟨[.int], some (.object "com/example/vipo/vipo/flow/ConceptValue")⟩ := by decide +kernel
theorem d1_0 : decode prog_11_method_5_code 0 = .ok (.aload_n 0, 1) := by decide +kernel
theorem d1_1 : decode prog_11_method_5_code 1 = .ok (.getstatic 10, 3) := by decide +kernel
theorem d1_4 : decode prog_11_method_5_code 4 = .ok (.if_acmp .eq 15, 3) := by decide +kernel
theorem d1_7 : decode prog_11_method_5_code 7 = .ok (.aload_n 1, 1) := by decide +kernel
theorem d1_8 : decode prog_11_method_5_code 8 = .ok (.getstatic 10, 3) := by decide +kernel
theorem d1_11 : decode prog_11_method_5_code 11 = .ok (.if_acmp .eq 8, 3) := by decide +kernel
theorem d1_14 : decode prog_11_method_5_code 14 = .ok (.aload_n 1, 1) := by decide +kernel
theorem d1_15 : decode prog_11_method_5_code 15 = .ok (.aload_n 0, 1) := by decide +kernel
theorem d1_16 : decode prog_11_method_5_code 16 = .ok (.if_acmp .ne 7, 3) := by decide +kernel
theorem d1_19 : decode prog_11_method_5_code 19 = .ok (.iconst 1, 1) := by decide +kernel
theorem d1_20 : decode prog_11_method_5_code 20 = .ok (.goto 4, 3) := by decide +kernel
theorem d1_24 : decode prog_11_method_5_code 24 = .ok (.ireturn, 1) := by decide +kernel
theorem pn1 : plainName "com/example/vipo/vipo/flow/ConceptValue" = true := by first | (simp [plainName, overriddenIn]; done) | decide +kernel
theorem ef2 (m : MethodId) (x0 : Addr) (x1 : Addr) : entryFrame m #[(.ref x0), (.ref x1)] 2 = mkF m 0 #[.val (.ref x0), .val (.ref x1)] [] := by first | (simp [entryFrame, mkF, argsToLocals, Value.category]; done) | rfl
def Q2 (Z : State) (w1 : Addr) (w2 : Addr) (w3 : Addr) (h0 : Heap) (n0 : Nat) (v : Option Value) (h : Heap) (L : List Loc) : Prop :=
  (v = some (.int (1 : Int32)) ∧ Fr n0 L ∧ h = h0)
set_option maxRecDepth 65536 in
set_option maxHeartbeats 40000000 in
theorem rm2 (l : Launch) (Z : State) (a0 : Array Value) (hw : ∀ d ∈ tables_1, d.before a0 Z = true) (w1 : Addr) (w2 : Addr) (w3 : Addr) (G : GW Z w1 w2 w3) (ws : List Jvm.Cond) (h0 : Heap) (n0 : Nat) (O0 : Old Z n0 h0) :
    MetFree l (⟨"com/example/vipo/vipo/flow/ConceptValue", "admits", "(Lcom/example/vipo/vipo/flow/ConceptValue;)Z"⟩ : MethodName) (head1 (Jvm.Cond.code (⟨"com/example/vipo/vipo/flow/ConceptValue", "admits", "(Lcom/example/vipo/vipo/flow/ConceptValue;)Z"⟩ : MethodName) prog_11_method_5_code 2 (some .boolean) :: ws) ({ frames := 0, cells := 0, slots := 0, locals := 0 } : Room)) (fun a U => a = #[(.ref w1), (.ref w1)] ∧ Z.Warmed39 U.vm ∧ U.heap = h0) (fun _ _ _ _ _ => True) (fun _ U o U' => ∃ v L, o = .returned v ∧ Q2 Z w1 w2 w3 h0 n0 v U'.heap L ∧ FrameEnd U o U' L ({ frames := 0, cells := 0, slots := 0, locals := 0 } : Room).cells ({ frames := 0, cells := 0, slots := 0, locals := 0 } : Room).slots) := by
  obtain ⟨S_w1, E_w1, S_w2, E_w2, S_w3, E_w3, F_w1_ordinal, F_w2_ordinal, F_w3_ordinal⟩ := id G
  refine MetFree.of_bodySF (plainFor_of_name pn1) hisR ?_
  intro p e s m args below meth c s₁ Bd hml0 hP hK
  obtain ⟨rfl, hZ, hh⟩ := hP
  have hx := Bd.exec
  have hby := Bd.bytes
  have hml : c.maxLocals = 2 := hml0
  have hown : s.vm.findClass "com/example/vipo/vipo/flow/ConceptValue" = some m.cls := findClass_of_methodNamed Bd.named
  have hnm := (name_of_methodNamed Bd.named Bd.method).1
  have hret := Bd.returns
  have hlk : meth.locks = false := BodyLoose.notSynchronized Bd
  have X0 : Stand p l e ({ frames := 0, cells := 0, slots := 0, locals := 0 } : Room) s m #[(.ref w1), (.ref w1)] below meth c s₁ [] 0 0 := Stand.of_body Bd
  have e0 : s₁.heap = h0 := by rw [← hh, Bd.state]; rfl
  have N0 := Fr.nil n0
  have pre0 : ∀ t, Steps p.tables e below (s₁.setTop (mkF m 0 #[.val (.ref w1), .val (.ref w1)] [])) t → Steps p.tables e below (s₁.setTop (entryFrame m #[(.ref w1), (.ref w1)] 2)) t := fun t k => castTop (ef2 m w1 w1) k
  obtain ⟨T1, X1, e1, st1⟩ := getS2 X0 hx hZ hown (host := "") (Or.inl (hw _ (List.mem_of_getElem? (i := 15) rfl))) Via.refl e0 (S_w3.ext O0.2) (g := (mkF m 1 #[.val (.ref w1), .val (.ref w1)] [(.ref w1)])) rfl (hb hby d1_1)
  obtain ⟨T2, X2, e2, st2⟩ := getS2 X1 hx hZ hown (host := "") (Or.inl (hw _ (List.mem_of_getElem? (i := 15) rfl))) Via.refl e1 (S_w3.ext O0.2) (g := (mkF m 8 #[.val (.ref w1), .val (.ref w1)] [(.ref w1)])) rfl (hb hby d1_8)
  obtain ⟨fs, hr, hrun, hended, hW, hsame⟩ := X2.leave (v := some (.int (1 : Int32))) (fun h => by rw [hret] at h; cases h)
  refine ⟨_, _, pre0 _ ?_, hrun, hended, _, _, rfl, ?_, ⟨_, rfl⟩, hW, hsame.mono (by decide) (by decide)⟩
  ·
    show Steps p.tables e below (s₁.setTop (mkF m 0 #[.val (.ref w1), .val (.ref w1)] [])) _
    refine XS.aloadN X0.here hx rfl (hb hby d1_0) rfl rfl ?_
    show Steps p.tables e below (s₁.setTop (mkF m 1 #[.val (.ref w1), .val (.ref w1)] [(.ref w1)])) _
    refine st1 _ ?_
    show Steps p.tables e below (T1.setTop (mkF m 4 #[.val (.ref w1), .val (.ref w1)] [(.ref w3), (.ref w1)])) _
    refine Jvm.RoadKit.acmp (g := (mkF m 4 #[.val (.ref w1), .val (.ref w1)] [(.ref w3), (.ref w1)])) X1 hx rfl rfl rfl (pc0 := 4) (pc' := 7) (same := false) rfl (hb hby d1_4) rfl (decide_eq_false fun q => (Fld.ne F_w1_ordinal F_w3_ordinal (by decide)) (Value.ref.inj q)) (by decide) (by decide) ?_
    show Steps p.tables e below (T1.setTop (mkF m 7 #[.val (.ref w1), .val (.ref w1)] [])) _
    refine XS.aloadN X1.here hx rfl (hb hby d1_7) rfl rfl ?_
    show Steps p.tables e below (T1.setTop (mkF m 8 #[.val (.ref w1), .val (.ref w1)] [(.ref w1)])) _
    refine st2 _ ?_
    show Steps p.tables e below (T2.setTop (mkF m 11 #[.val (.ref w1), .val (.ref w1)] [(.ref w3), (.ref w1)])) _
    refine Jvm.RoadKit.acmp (g := (mkF m 11 #[.val (.ref w1), .val (.ref w1)] [(.ref w3), (.ref w1)])) X2 hx rfl rfl rfl (pc0 := 11) (pc' := 14) (same := false) rfl (hb hby d1_11) rfl (decide_eq_false fun q => (Fld.ne F_w1_ordinal F_w3_ordinal (by decide)) (Value.ref.inj q)) (by decide) (by decide) ?_
    show Steps p.tables e below (T2.setTop (mkF m 14 #[.val (.ref w1), .val (.ref w1)] [])) _
    refine XS.aloadN X2.here hx rfl (hb hby d1_14) rfl rfl ?_
    show Steps p.tables e below (T2.setTop (mkF m 15 #[.val (.ref w1), .val (.ref w1)] [(.ref w1)])) _
    refine XS.aloadN X2.here hx rfl (hb hby d1_15) rfl rfl ?_
    show Steps p.tables e below (T2.setTop (mkF m 16 #[.val (.ref w1), .val (.ref w1)] [(.ref w1), (.ref w1)])) _
    refine Jvm.RoadKit.acmp (g := (mkF m 16 #[.val (.ref w1), .val (.ref w1)] [(.ref w1), (.ref w1)])) X2 hx rfl rfl rfl (pc0 := 16) (pc' := 19) (same := true) rfl (hb hby d1_16) rfl (decide_eq_true rfl) (by decide) (by decide) ?_
    show Steps p.tables e below (T2.setTop (mkF m 19 #[.val (.ref w1), .val (.ref w1)] [])) _
    refine XS.iconst X2.here hx rfl (hb hby d1_19) ?_
    show Steps p.tables e below (T2.setTop (mkF m 20 #[.val (.ref w1), .val (.ref w1)] [(.int (1 : Int32))])) _
    refine XS.goto X2.here hx rfl (pc0 := 20) (pc' := 24) rfl (hb hby d1_20) (by decide) (by decide) ?_
    show Steps p.tables e below (T2.setTop (mkF m 24 #[.val (.ref w1), .val (.ref w1)] [(.int (1 : Int32))])) _
    exact retN X2 hx (t := .boolean) hret (by simp) (hb hby d1_24) hr
  ·
    show Q2 Z w1 w2 w3 h0 n0 _ T2.heap _
    rw [e2]
    exact ⟨rfl, N0, rfl⟩
theorem pd1 : parseMethodDescriptor "(Lcom/example/vipo/vipo/flow/ConceptValue;)Z" = some ⟨[(.object "com/example/vipo/vipo/flow/ConceptValue")], some .boolean⟩ := by decide +kernel
theorem d1_23 : decode prog_11_method_5_code 23 = .ok (.iconst 0, 1) := by decide +kernel
theorem ef3 (m : MethodId) (x0 : Addr) (x1 : Addr) : entryFrame m #[(.ref x0), (.ref x1)] 2 = mkF m 0 #[.val (.ref x0), .val (.ref x1)] [] := by first | (simp [entryFrame, mkF, argsToLocals, Value.category]; done) | rfl
def Q3 (Z : State) (w1 : Addr) (w2 : Addr) (w3 : Addr) (h0 : Heap) (n0 : Nat) (v : Option Value) (h : Heap) (L : List Loc) : Prop :=
  (v = some (.int (0 : Int32)) ∧ Fr n0 L ∧ h = h0)
set_option maxRecDepth 65536 in
set_option maxHeartbeats 40000000 in
theorem rm3 (l : Launch) (Z : State) (a0 : Array Value) (hw : ∀ d ∈ tables_1, d.before a0 Z = true) (w1 : Addr) (w2 : Addr) (w3 : Addr) (G : GW Z w1 w2 w3) (ws : List Jvm.Cond) (h0 : Heap) (n0 : Nat) (O0 : Old Z n0 h0) :
    MetFree l (⟨"com/example/vipo/vipo/flow/ConceptValue", "admits", "(Lcom/example/vipo/vipo/flow/ConceptValue;)Z"⟩ : MethodName) (head1 (Jvm.Cond.code (⟨"com/example/vipo/vipo/flow/ConceptValue", "admits", "(Lcom/example/vipo/vipo/flow/ConceptValue;)Z"⟩ : MethodName) prog_11_method_5_code 2 (some .boolean) :: ws) ({ frames := 0, cells := 0, slots := 0, locals := 0 } : Room)) (fun a U => a = #[(.ref w1), (.ref w2)] ∧ Z.Warmed39 U.vm ∧ U.heap = h0) (fun _ _ _ _ _ => True) (fun _ U o U' => ∃ v L, o = .returned v ∧ Q3 Z w1 w2 w3 h0 n0 v U'.heap L ∧ FrameEnd U o U' L ({ frames := 0, cells := 0, slots := 0, locals := 0 } : Room).cells ({ frames := 0, cells := 0, slots := 0, locals := 0 } : Room).slots) := by
  obtain ⟨S_w1, E_w1, S_w2, E_w2, S_w3, E_w3, F_w1_ordinal, F_w2_ordinal, F_w3_ordinal⟩ := id G
  refine MetFree.of_bodySF (plainFor_of_name pn1) hisR ?_
  intro p e s m args below meth c s₁ Bd hml0 hP hK
  obtain ⟨rfl, hZ, hh⟩ := hP
  have hx := Bd.exec
  have hby := Bd.bytes
  have hml : c.maxLocals = 2 := hml0
  have hown : s.vm.findClass "com/example/vipo/vipo/flow/ConceptValue" = some m.cls := findClass_of_methodNamed Bd.named
  have hnm := (name_of_methodNamed Bd.named Bd.method).1
  have hret := Bd.returns
  have hlk : meth.locks = false := BodyLoose.notSynchronized Bd
  have X0 : Stand p l e ({ frames := 0, cells := 0, slots := 0, locals := 0 } : Room) s m #[(.ref w1), (.ref w2)] below meth c s₁ [] 0 0 := Stand.of_body Bd
  have e0 : s₁.heap = h0 := by rw [← hh, Bd.state]; rfl
  have N0 := Fr.nil n0
  have pre0 : ∀ t, Steps p.tables e below (s₁.setTop (mkF m 0 #[.val (.ref w1), .val (.ref w2)] [])) t → Steps p.tables e below (s₁.setTop (entryFrame m #[(.ref w1), (.ref w2)] 2)) t := fun t k => castTop (ef3 m w1 w2) k
  obtain ⟨T1, X1, e1, st1⟩ := getS2 X0 hx hZ hown (host := "") (Or.inl (hw _ (List.mem_of_getElem? (i := 15) rfl))) Via.refl e0 (S_w3.ext O0.2) (g := (mkF m 1 #[.val (.ref w1), .val (.ref w2)] [(.ref w1)])) rfl (hb hby d1_1)
  obtain ⟨T2, X2, e2, st2⟩ := getS2 X1 hx hZ hown (host := "") (Or.inl (hw _ (List.mem_of_getElem? (i := 15) rfl))) Via.refl e1 (S_w3.ext O0.2) (g := (mkF m 8 #[.val (.ref w1), .val (.ref w2)] [(.ref w2)])) rfl (hb hby d1_8)
  obtain ⟨fs, hr, hrun, hended, hW, hsame⟩ := X2.leave (v := some (.int (0 : Int32))) (fun h => by rw [hret] at h; cases h)
  refine ⟨_, _, pre0 _ ?_, hrun, hended, _, _, rfl, ?_, ⟨_, rfl⟩, hW, hsame.mono (by decide) (by decide)⟩
  ·
    show Steps p.tables e below (s₁.setTop (mkF m 0 #[.val (.ref w1), .val (.ref w2)] [])) _
    refine XS.aloadN X0.here hx rfl (hb hby d1_0) rfl rfl ?_
    show Steps p.tables e below (s₁.setTop (mkF m 1 #[.val (.ref w1), .val (.ref w2)] [(.ref w1)])) _
    refine st1 _ ?_
    show Steps p.tables e below (T1.setTop (mkF m 4 #[.val (.ref w1), .val (.ref w2)] [(.ref w3), (.ref w1)])) _
    refine Jvm.RoadKit.acmp (g := (mkF m 4 #[.val (.ref w1), .val (.ref w2)] [(.ref w3), (.ref w1)])) X1 hx rfl rfl rfl (pc0 := 4) (pc' := 7) (same := false) rfl (hb hby d1_4) rfl (decide_eq_false fun q => (Fld.ne F_w1_ordinal F_w3_ordinal (by decide)) (Value.ref.inj q)) (by decide) (by decide) ?_
    show Steps p.tables e below (T1.setTop (mkF m 7 #[.val (.ref w1), .val (.ref w2)] [])) _
    refine XS.aloadN X1.here hx rfl (hb hby d1_7) rfl rfl ?_
    show Steps p.tables e below (T1.setTop (mkF m 8 #[.val (.ref w1), .val (.ref w2)] [(.ref w2)])) _
    refine st2 _ ?_
    show Steps p.tables e below (T2.setTop (mkF m 11 #[.val (.ref w1), .val (.ref w2)] [(.ref w3), (.ref w2)])) _
    refine Jvm.RoadKit.acmp (g := (mkF m 11 #[.val (.ref w1), .val (.ref w2)] [(.ref w3), (.ref w2)])) X2 hx rfl rfl rfl (pc0 := 11) (pc' := 14) (same := false) rfl (hb hby d1_11) rfl (decide_eq_false fun q => (Fld.ne F_w2_ordinal F_w3_ordinal (by decide)) (Value.ref.inj q)) (by decide) (by decide) ?_
    show Steps p.tables e below (T2.setTop (mkF m 14 #[.val (.ref w1), .val (.ref w2)] [])) _
    refine XS.aloadN X2.here hx rfl (hb hby d1_14) rfl rfl ?_
    show Steps p.tables e below (T2.setTop (mkF m 15 #[.val (.ref w1), .val (.ref w2)] [(.ref w2)])) _
    refine XS.aloadN X2.here hx rfl (hb hby d1_15) rfl rfl ?_
    show Steps p.tables e below (T2.setTop (mkF m 16 #[.val (.ref w1), .val (.ref w2)] [(.ref w1), (.ref w2)])) _
    refine Jvm.RoadKit.acmp (g := (mkF m 16 #[.val (.ref w1), .val (.ref w2)] [(.ref w1), (.ref w2)])) X2 hx rfl rfl rfl (pc0 := 16) (pc' := 23) (same := false) rfl (hb hby d1_16) rfl (decide_eq_false fun q => (Fld.ne F_w2_ordinal F_w1_ordinal (by decide)) (Value.ref.inj q)) (by decide) (by decide) ?_
    show Steps p.tables e below (T2.setTop (mkF m 23 #[.val (.ref w1), .val (.ref w2)] [])) _
    refine XS.iconst X2.here hx rfl (hb hby d1_23) ?_
    show Steps p.tables e below (T2.setTop (mkF m 24 #[.val (.ref w1), .val (.ref w2)] [(.int (0 : Int32))])) _
    exact retN X2 hx (t := .boolean) hret (by simp) (hb hby d1_24) hr
  ·
    show Q3 Z w1 w2 w3 h0 n0 _ T2.heap _
    rw [e2]
    exact ⟨rfl, N0, rfl⟩
theorem ef4 (m : MethodId) (x0 : Addr) (x1 : Addr) : entryFrame m #[(.ref x0), (.ref x1)] 2 = mkF m 0 #[.val (.ref x0), .val (.ref x1)] [] := by first | (simp [entryFrame, mkF, argsToLocals, Value.category]; done) | rfl
def Q4 (Z : State) (w1 : Addr) (w2 : Addr) (w3 : Addr) (h0 : Heap) (n0 : Nat) (v : Option Value) (h : Heap) (L : List Loc) : Prop :=
  (v = some (.int (0 : Int32)) ∧ Fr n0 L ∧ h = h0)
set_option maxRecDepth 65536 in
set_option maxHeartbeats 40000000 in
theorem rm4 (l : Launch) (Z : State) (a0 : Array Value) (hw : ∀ d ∈ tables_1, d.before a0 Z = true) (w1 : Addr) (w2 : Addr) (w3 : Addr) (G : GW Z w1 w2 w3) (ws : List Jvm.Cond) (h0 : Heap) (n0 : Nat) (O0 : Old Z n0 h0) :
    MetFree l (⟨"com/example/vipo/vipo/flow/ConceptValue", "admits", "(Lcom/example/vipo/vipo/flow/ConceptValue;)Z"⟩ : MethodName) (head1 (Jvm.Cond.code (⟨"com/example/vipo/vipo/flow/ConceptValue", "admits", "(Lcom/example/vipo/vipo/flow/ConceptValue;)Z"⟩ : MethodName) prog_11_method_5_code 2 (some .boolean) :: ws) ({ frames := 0, cells := 0, slots := 0, locals := 0 } : Room)) (fun a U => a = #[(.ref w2), (.ref w1)] ∧ Z.Warmed39 U.vm ∧ U.heap = h0) (fun _ _ _ _ _ => True) (fun _ U o U' => ∃ v L, o = .returned v ∧ Q4 Z w1 w2 w3 h0 n0 v U'.heap L ∧ FrameEnd U o U' L ({ frames := 0, cells := 0, slots := 0, locals := 0 } : Room).cells ({ frames := 0, cells := 0, slots := 0, locals := 0 } : Room).slots) := by
  obtain ⟨S_w1, E_w1, S_w2, E_w2, S_w3, E_w3, F_w1_ordinal, F_w2_ordinal, F_w3_ordinal⟩ := id G
  refine MetFree.of_bodySF (plainFor_of_name pn1) hisR ?_
  intro p e s m args below meth c s₁ Bd hml0 hP hK
  obtain ⟨rfl, hZ, hh⟩ := hP
  have hx := Bd.exec
  have hby := Bd.bytes
  have hml : c.maxLocals = 2 := hml0
  have hown : s.vm.findClass "com/example/vipo/vipo/flow/ConceptValue" = some m.cls := findClass_of_methodNamed Bd.named
  have hnm := (name_of_methodNamed Bd.named Bd.method).1
  have hret := Bd.returns
  have hlk : meth.locks = false := BodyLoose.notSynchronized Bd
  have X0 : Stand p l e ({ frames := 0, cells := 0, slots := 0, locals := 0 } : Room) s m #[(.ref w2), (.ref w1)] below meth c s₁ [] 0 0 := Stand.of_body Bd
  have e0 : s₁.heap = h0 := by rw [← hh, Bd.state]; rfl
  have N0 := Fr.nil n0
  have pre0 : ∀ t, Steps p.tables e below (s₁.setTop (mkF m 0 #[.val (.ref w2), .val (.ref w1)] [])) t → Steps p.tables e below (s₁.setTop (entryFrame m #[(.ref w2), (.ref w1)] 2)) t := fun t k => castTop (ef4 m w2 w1) k
  obtain ⟨T1, X1, e1, st1⟩ := getS2 X0 hx hZ hown (host := "") (Or.inl (hw _ (List.mem_of_getElem? (i := 15) rfl))) Via.refl e0 (S_w3.ext O0.2) (g := (mkF m 1 #[.val (.ref w2), .val (.ref w1)] [(.ref w2)])) rfl (hb hby d1_1)
  obtain ⟨T2, X2, e2, st2⟩ := getS2 X1 hx hZ hown (host := "") (Or.inl (hw _ (List.mem_of_getElem? (i := 15) rfl))) Via.refl e1 (S_w3.ext O0.2) (g := (mkF m 8 #[.val (.ref w2), .val (.ref w1)] [(.ref w1)])) rfl (hb hby d1_8)
  obtain ⟨fs, hr, hrun, hended, hW, hsame⟩ := X2.leave (v := some (.int (0 : Int32))) (fun h => by rw [hret] at h; cases h)
  refine ⟨_, _, pre0 _ ?_, hrun, hended, _, _, rfl, ?_, ⟨_, rfl⟩, hW, hsame.mono (by decide) (by decide)⟩
  ·
    show Steps p.tables e below (s₁.setTop (mkF m 0 #[.val (.ref w2), .val (.ref w1)] [])) _
    refine XS.aloadN X0.here hx rfl (hb hby d1_0) rfl rfl ?_
    show Steps p.tables e below (s₁.setTop (mkF m 1 #[.val (.ref w2), .val (.ref w1)] [(.ref w2)])) _
    refine st1 _ ?_
    show Steps p.tables e below (T1.setTop (mkF m 4 #[.val (.ref w2), .val (.ref w1)] [(.ref w3), (.ref w2)])) _
    refine Jvm.RoadKit.acmp (g := (mkF m 4 #[.val (.ref w2), .val (.ref w1)] [(.ref w3), (.ref w2)])) X1 hx rfl rfl rfl (pc0 := 4) (pc' := 7) (same := false) rfl (hb hby d1_4) rfl (decide_eq_false fun q => (Fld.ne F_w2_ordinal F_w3_ordinal (by decide)) (Value.ref.inj q)) (by decide) (by decide) ?_
    show Steps p.tables e below (T1.setTop (mkF m 7 #[.val (.ref w2), .val (.ref w1)] [])) _
    refine XS.aloadN X1.here hx rfl (hb hby d1_7) rfl rfl ?_
    show Steps p.tables e below (T1.setTop (mkF m 8 #[.val (.ref w2), .val (.ref w1)] [(.ref w1)])) _
    refine st2 _ ?_
    show Steps p.tables e below (T2.setTop (mkF m 11 #[.val (.ref w2), .val (.ref w1)] [(.ref w3), (.ref w1)])) _
    refine Jvm.RoadKit.acmp (g := (mkF m 11 #[.val (.ref w2), .val (.ref w1)] [(.ref w3), (.ref w1)])) X2 hx rfl rfl rfl (pc0 := 11) (pc' := 14) (same := false) rfl (hb hby d1_11) rfl (decide_eq_false fun q => (Fld.ne F_w1_ordinal F_w3_ordinal (by decide)) (Value.ref.inj q)) (by decide) (by decide) ?_
    show Steps p.tables e below (T2.setTop (mkF m 14 #[.val (.ref w2), .val (.ref w1)] [])) _
    refine XS.aloadN X2.here hx rfl (hb hby d1_14) rfl rfl ?_
    show Steps p.tables e below (T2.setTop (mkF m 15 #[.val (.ref w2), .val (.ref w1)] [(.ref w1)])) _
    refine XS.aloadN X2.here hx rfl (hb hby d1_15) rfl rfl ?_
    show Steps p.tables e below (T2.setTop (mkF m 16 #[.val (.ref w2), .val (.ref w1)] [(.ref w2), (.ref w1)])) _
    refine Jvm.RoadKit.acmp (g := (mkF m 16 #[.val (.ref w2), .val (.ref w1)] [(.ref w2), (.ref w1)])) X2 hx rfl rfl rfl (pc0 := 16) (pc' := 23) (same := false) rfl (hb hby d1_16) rfl (decide_eq_false fun q => (Fld.ne F_w1_ordinal F_w2_ordinal (by decide)) (Value.ref.inj q)) (by decide) (by decide) ?_
    show Steps p.tables e below (T2.setTop (mkF m 23 #[.val (.ref w2), .val (.ref w1)] [])) _
    refine XS.iconst X2.here hx rfl (hb hby d1_23) ?_
    show Steps p.tables e below (T2.setTop (mkF m 24 #[.val (.ref w2), .val (.ref w1)] [(.int (0 : Int32))])) _
    exact retN X2 hx (t := .boolean) hret (by simp) (hb hby d1_24) hr
  ·
    show Q4 Z w1 w2 w3 h0 n0 _ T2.heap _
    rw [e2]
    exact ⟨rfl, N0, rfl⟩
theorem ef5 (m : MethodId) (x0 : Addr) (x1 : Addr) : entryFrame m #[(.ref x0), (.ref x1)] 2 = mkF m 0 #[.val (.ref x0), .val (.ref x1)] [] := by first | (simp [entryFrame, mkF, argsToLocals, Value.category]; done) | rfl
def Q5 (Z : State) (w1 : Addr) (w2 : Addr) (w3 : Addr) (h0 : Heap) (n0 : Nat) (v : Option Value) (h : Heap) (L : List Loc) : Prop :=
  (v = some (.int (1 : Int32)) ∧ Fr n0 L ∧ h = h0)
set_option maxRecDepth 65536 in
set_option maxHeartbeats 40000000 in
theorem rm5 (l : Launch) (Z : State) (a0 : Array Value) (hw : ∀ d ∈ tables_1, d.before a0 Z = true) (w1 : Addr) (w2 : Addr) (w3 : Addr) (G : GW Z w1 w2 w3) (ws : List Jvm.Cond) (h0 : Heap) (n0 : Nat) (O0 : Old Z n0 h0) :
    MetFree l (⟨"com/example/vipo/vipo/flow/ConceptValue", "admits", "(Lcom/example/vipo/vipo/flow/ConceptValue;)Z"⟩ : MethodName) (head1 (Jvm.Cond.code (⟨"com/example/vipo/vipo/flow/ConceptValue", "admits", "(Lcom/example/vipo/vipo/flow/ConceptValue;)Z"⟩ : MethodName) prog_11_method_5_code 2 (some .boolean) :: ws) ({ frames := 0, cells := 0, slots := 0, locals := 0 } : Room)) (fun a U => a = #[(.ref w1), (.ref w3)] ∧ Z.Warmed39 U.vm ∧ U.heap = h0) (fun _ _ _ _ _ => True) (fun _ U o U' => ∃ v L, o = .returned v ∧ Q5 Z w1 w2 w3 h0 n0 v U'.heap L ∧ FrameEnd U o U' L ({ frames := 0, cells := 0, slots := 0, locals := 0 } : Room).cells ({ frames := 0, cells := 0, slots := 0, locals := 0 } : Room).slots) := by
  obtain ⟨S_w1, E_w1, S_w2, E_w2, S_w3, E_w3, F_w1_ordinal, F_w2_ordinal, F_w3_ordinal⟩ := id G
  refine MetFree.of_bodySF (plainFor_of_name pn1) hisR ?_
  intro p e s m args below meth c s₁ Bd hml0 hP hK
  obtain ⟨rfl, hZ, hh⟩ := hP
  have hx := Bd.exec
  have hby := Bd.bytes
  have hml : c.maxLocals = 2 := hml0
  have hown : s.vm.findClass "com/example/vipo/vipo/flow/ConceptValue" = some m.cls := findClass_of_methodNamed Bd.named
  have hnm := (name_of_methodNamed Bd.named Bd.method).1
  have hret := Bd.returns
  have hlk : meth.locks = false := BodyLoose.notSynchronized Bd
  have X0 : Stand p l e ({ frames := 0, cells := 0, slots := 0, locals := 0 } : Room) s m #[(.ref w1), (.ref w3)] below meth c s₁ [] 0 0 := Stand.of_body Bd
  have e0 : s₁.heap = h0 := by rw [← hh, Bd.state]; rfl
  have N0 := Fr.nil n0
  have pre0 : ∀ t, Steps p.tables e below (s₁.setTop (mkF m 0 #[.val (.ref w1), .val (.ref w3)] [])) t → Steps p.tables e below (s₁.setTop (entryFrame m #[(.ref w1), (.ref w3)] 2)) t := fun t k => castTop (ef5 m w1 w3) k
  obtain ⟨T1, X1, e1, st1⟩ := getS2 X0 hx hZ hown (host := "") (Or.inl (hw _ (List.mem_of_getElem? (i := 15) rfl))) Via.refl e0 (S_w3.ext O0.2) (g := (mkF m 1 #[.val (.ref w1), .val (.ref w3)] [(.ref w1)])) rfl (hb hby d1_1)
  obtain ⟨T2, X2, e2, st2⟩ := getS2 X1 hx hZ hown (host := "") (Or.inl (hw _ (List.mem_of_getElem? (i := 15) rfl))) Via.refl e1 (S_w3.ext O0.2) (g := (mkF m 8 #[.val (.ref w1), .val (.ref w3)] [(.ref w3)])) rfl (hb hby d1_8)
  obtain ⟨fs, hr, hrun, hended, hW, hsame⟩ := X2.leave (v := some (.int (1 : Int32))) (fun h => by rw [hret] at h; cases h)
  refine ⟨_, _, pre0 _ ?_, hrun, hended, _, _, rfl, ?_, ⟨_, rfl⟩, hW, hsame.mono (by decide) (by decide)⟩
  ·
    show Steps p.tables e below (s₁.setTop (mkF m 0 #[.val (.ref w1), .val (.ref w3)] [])) _
    refine XS.aloadN X0.here hx rfl (hb hby d1_0) rfl rfl ?_
    show Steps p.tables e below (s₁.setTop (mkF m 1 #[.val (.ref w1), .val (.ref w3)] [(.ref w1)])) _
    refine st1 _ ?_
    show Steps p.tables e below (T1.setTop (mkF m 4 #[.val (.ref w1), .val (.ref w3)] [(.ref w3), (.ref w1)])) _
    refine Jvm.RoadKit.acmp (g := (mkF m 4 #[.val (.ref w1), .val (.ref w3)] [(.ref w3), (.ref w1)])) X1 hx rfl rfl rfl (pc0 := 4) (pc' := 7) (same := false) rfl (hb hby d1_4) rfl (decide_eq_false fun q => (Fld.ne F_w1_ordinal F_w3_ordinal (by decide)) (Value.ref.inj q)) (by decide) (by decide) ?_
    show Steps p.tables e below (T1.setTop (mkF m 7 #[.val (.ref w1), .val (.ref w3)] [])) _
    refine XS.aloadN X1.here hx rfl (hb hby d1_7) rfl rfl ?_
    show Steps p.tables e below (T1.setTop (mkF m 8 #[.val (.ref w1), .val (.ref w3)] [(.ref w3)])) _
    refine st2 _ ?_
    show Steps p.tables e below (T2.setTop (mkF m 11 #[.val (.ref w1), .val (.ref w3)] [(.ref w3), (.ref w3)])) _
    refine Jvm.RoadKit.acmp (g := (mkF m 11 #[.val (.ref w1), .val (.ref w3)] [(.ref w3), (.ref w3)])) X2 hx rfl rfl rfl (pc0 := 11) (pc' := 19) (same := true) rfl (hb hby d1_11) rfl (decide_eq_true rfl) (by decide) (by decide) ?_
    show Steps p.tables e below (T2.setTop (mkF m 19 #[.val (.ref w1), .val (.ref w3)] [])) _
    refine XS.iconst X2.here hx rfl (hb hby d1_19) ?_
    show Steps p.tables e below (T2.setTop (mkF m 20 #[.val (.ref w1), .val (.ref w3)] [(.int (1 : Int32))])) _
    refine XS.goto X2.here hx rfl (pc0 := 20) (pc' := 24) rfl (hb hby d1_20) (by decide) (by decide) ?_
    show Steps p.tables e below (T2.setTop (mkF m 24 #[.val (.ref w1), .val (.ref w3)] [(.int (1 : Int32))])) _
    exact retN X2 hx (t := .boolean) hret (by simp) (hb hby d1_24) hr
  ·
    show Q5 Z w1 w2 w3 h0 n0 _ T2.heap _
    rw [e2]
    exact ⟨rfl, N0, rfl⟩
theorem ef6 (m : MethodId) (x0 : Addr) (x1 : Addr) : entryFrame m #[(.ref x0), (.ref x1)] 2 = mkF m 0 #[.val (.ref x0), .val (.ref x1)] [] := by first | (simp [entryFrame, mkF, argsToLocals, Value.category]; done) | rfl
def Q6 (Z : State) (w1 : Addr) (w2 : Addr) (w3 : Addr) (h0 : Heap) (n0 : Nat) (v : Option Value) (h : Heap) (L : List Loc) : Prop :=
  (v = some (.int (1 : Int32)) ∧ Fr n0 L ∧ h = h0)
set_option maxRecDepth 65536 in
set_option maxHeartbeats 40000000 in
theorem rm6 (l : Launch) (Z : State) (a0 : Array Value) (hw : ∀ d ∈ tables_1, d.before a0 Z = true) (w1 : Addr) (w2 : Addr) (w3 : Addr) (G : GW Z w1 w2 w3) (ws : List Jvm.Cond) (h0 : Heap) (n0 : Nat) (O0 : Old Z n0 h0) :
    MetFree l (⟨"com/example/vipo/vipo/flow/ConceptValue", "admits", "(Lcom/example/vipo/vipo/flow/ConceptValue;)Z"⟩ : MethodName) (head1 (Jvm.Cond.code (⟨"com/example/vipo/vipo/flow/ConceptValue", "admits", "(Lcom/example/vipo/vipo/flow/ConceptValue;)Z"⟩ : MethodName) prog_11_method_5_code 2 (some .boolean) :: ws) ({ frames := 0, cells := 0, slots := 0, locals := 0 } : Room)) (fun a U => a = #[(.ref w3), (.ref w1)] ∧ Z.Warmed39 U.vm ∧ U.heap = h0) (fun _ _ _ _ _ => True) (fun _ U o U' => ∃ v L, o = .returned v ∧ Q6 Z w1 w2 w3 h0 n0 v U'.heap L ∧ FrameEnd U o U' L ({ frames := 0, cells := 0, slots := 0, locals := 0 } : Room).cells ({ frames := 0, cells := 0, slots := 0, locals := 0 } : Room).slots) := by
  obtain ⟨S_w1, E_w1, S_w2, E_w2, S_w3, E_w3, F_w1_ordinal, F_w2_ordinal, F_w3_ordinal⟩ := id G
  refine MetFree.of_bodySF (plainFor_of_name pn1) hisR ?_
  intro p e s m args below meth c s₁ Bd hml0 hP hK
  obtain ⟨rfl, hZ, hh⟩ := hP
  have hx := Bd.exec
  have hby := Bd.bytes
  have hml : c.maxLocals = 2 := hml0
  have hown : s.vm.findClass "com/example/vipo/vipo/flow/ConceptValue" = some m.cls := findClass_of_methodNamed Bd.named
  have hnm := (name_of_methodNamed Bd.named Bd.method).1
  have hret := Bd.returns
  have hlk : meth.locks = false := BodyLoose.notSynchronized Bd
  have X0 : Stand p l e ({ frames := 0, cells := 0, slots := 0, locals := 0 } : Room) s m #[(.ref w3), (.ref w1)] below meth c s₁ [] 0 0 := Stand.of_body Bd
  have e0 : s₁.heap = h0 := by rw [← hh, Bd.state]; rfl
  have N0 := Fr.nil n0
  have pre0 : ∀ t, Steps p.tables e below (s₁.setTop (mkF m 0 #[.val (.ref w3), .val (.ref w1)] [])) t → Steps p.tables e below (s₁.setTop (entryFrame m #[(.ref w3), (.ref w1)] 2)) t := fun t k => castTop (ef6 m w3 w1) k
  obtain ⟨T1, X1, e1, st1⟩ := getS2 X0 hx hZ hown (host := "") (Or.inl (hw _ (List.mem_of_getElem? (i := 15) rfl))) Via.refl e0 (S_w3.ext O0.2) (g := (mkF m 1 #[.val (.ref w3), .val (.ref w1)] [(.ref w3)])) rfl (hb hby d1_1)
  obtain ⟨fs, hr, hrun, hended, hW, hsame⟩ := X1.leave (v := some (.int (1 : Int32))) (fun h => by rw [hret] at h; cases h)
  refine ⟨_, _, pre0 _ ?_, hrun, hended, _, _, rfl, ?_, ⟨_, rfl⟩, hW, hsame.mono (by decide) (by decide)⟩
  ·
    show Steps p.tables e below (s₁.setTop (mkF m 0 #[.val (.ref w3), .val (.ref w1)] [])) _
    refine XS.aloadN X0.here hx rfl (hb hby d1_0) rfl rfl ?_
    show Steps p.tables e below (s₁.setTop (mkF m 1 #[.val (.ref w3), .val (.ref w1)] [(.ref w3)])) _
    refine st1 _ ?_
    show Steps p.tables e below (T1.setTop (mkF m 4 #[.val (.ref w3), .val (.ref w1)] [(.ref w3), (.ref w3)])) _
    refine Jvm.RoadKit.acmp (g := (mkF m 4 #[.val (.ref w3), .val (.ref w1)] [(.ref w3), (.ref w3)])) X1 hx rfl rfl rfl (pc0 := 4) (pc' := 19) (same := true) rfl (hb hby d1_4) rfl (decide_eq_true rfl) (by decide) (by decide) ?_
    show Steps p.tables e below (T1.setTop (mkF m 19 #[.val (.ref w3), .val (.ref w1)] [])) _
    refine XS.iconst X1.here hx rfl (hb hby d1_19) ?_
    show Steps p.tables e below (T1.setTop (mkF m 20 #[.val (.ref w3), .val (.ref w1)] [(.int (1 : Int32))])) _
    refine XS.goto X1.here hx rfl (pc0 := 20) (pc' := 24) rfl (hb hby d1_20) (by decide) (by decide) ?_
    show Steps p.tables e below (T1.setTop (mkF m 24 #[.val (.ref w3), .val (.ref w1)] [(.int (1 : Int32))])) _
    exact retN X1 hx (t := .boolean) hret (by simp) (hb hby d1_24) hr
  ·
    show Q6 Z w1 w2 w3 h0 n0 _ T1.heap _
    rw [e1]
    exact ⟨rfl, N0, rfl⟩
theorem ef7 (m : MethodId) (x0 : Addr) (x1 : Addr) : entryFrame m #[(.ref x0), (.ref x1)] 2 = mkF m 0 #[.val (.ref x0), .val (.ref x1)] [] := by first | (simp [entryFrame, mkF, argsToLocals, Value.category]; done) | rfl
def Q7 (Z : State) (w1 : Addr) (w2 : Addr) (w3 : Addr) (h0 : Heap) (n0 : Nat) (v : Option Value) (h : Heap) (L : List Loc) : Prop :=
  (v = some (.int (1 : Int32)) ∧ Fr n0 L ∧ h = h0)
set_option maxRecDepth 65536 in
set_option maxHeartbeats 40000000 in
theorem rm7 (l : Launch) (Z : State) (a0 : Array Value) (hw : ∀ d ∈ tables_1, d.before a0 Z = true) (w1 : Addr) (w2 : Addr) (w3 : Addr) (G : GW Z w1 w2 w3) (ws : List Jvm.Cond) (h0 : Heap) (n0 : Nat) (O0 : Old Z n0 h0) :
    MetFree l (⟨"com/example/vipo/vipo/flow/ConceptValue", "admits", "(Lcom/example/vipo/vipo/flow/ConceptValue;)Z"⟩ : MethodName) (head1 (Jvm.Cond.code (⟨"com/example/vipo/vipo/flow/ConceptValue", "admits", "(Lcom/example/vipo/vipo/flow/ConceptValue;)Z"⟩ : MethodName) prog_11_method_5_code 2 (some .boolean) :: ws) ({ frames := 0, cells := 0, slots := 0, locals := 0 } : Room)) (fun a U => a = #[(.ref w2), (.ref w2)] ∧ Z.Warmed39 U.vm ∧ U.heap = h0) (fun _ _ _ _ _ => True) (fun _ U o U' => ∃ v L, o = .returned v ∧ Q7 Z w1 w2 w3 h0 n0 v U'.heap L ∧ FrameEnd U o U' L ({ frames := 0, cells := 0, slots := 0, locals := 0 } : Room).cells ({ frames := 0, cells := 0, slots := 0, locals := 0 } : Room).slots) := by
  obtain ⟨S_w1, E_w1, S_w2, E_w2, S_w3, E_w3, F_w1_ordinal, F_w2_ordinal, F_w3_ordinal⟩ := id G
  refine MetFree.of_bodySF (plainFor_of_name pn1) hisR ?_
  intro p e s m args below meth c s₁ Bd hml0 hP hK
  obtain ⟨rfl, hZ, hh⟩ := hP
  have hx := Bd.exec
  have hby := Bd.bytes
  have hml : c.maxLocals = 2 := hml0
  have hown : s.vm.findClass "com/example/vipo/vipo/flow/ConceptValue" = some m.cls := findClass_of_methodNamed Bd.named
  have hnm := (name_of_methodNamed Bd.named Bd.method).1
  have hret := Bd.returns
  have hlk : meth.locks = false := BodyLoose.notSynchronized Bd
  have X0 : Stand p l e ({ frames := 0, cells := 0, slots := 0, locals := 0 } : Room) s m #[(.ref w2), (.ref w2)] below meth c s₁ [] 0 0 := Stand.of_body Bd
  have e0 : s₁.heap = h0 := by rw [← hh, Bd.state]; rfl
  have N0 := Fr.nil n0
  have pre0 : ∀ t, Steps p.tables e below (s₁.setTop (mkF m 0 #[.val (.ref w2), .val (.ref w2)] [])) t → Steps p.tables e below (s₁.setTop (entryFrame m #[(.ref w2), (.ref w2)] 2)) t := fun t k => castTop (ef7 m w2 w2) k
  obtain ⟨T1, X1, e1, st1⟩ := getS2 X0 hx hZ hown (host := "") (Or.inl (hw _ (List.mem_of_getElem? (i := 15) rfl))) Via.refl e0 (S_w3.ext O0.2) (g := (mkF m 1 #[.val (.ref w2), .val (.ref w2)] [(.ref w2)])) rfl (hb hby d1_1)
  obtain ⟨T2, X2, e2, st2⟩ := getS2 X1 hx hZ hown (host := "") (Or.inl (hw _ (List.mem_of_getElem? (i := 15) rfl))) Via.refl e1 (S_w3.ext O0.2) (g := (mkF m 8 #[.val (.ref w2), .val (.ref w2)] [(.ref w2)])) rfl (hb hby d1_8)
  obtain ⟨fs, hr, hrun, hended, hW, hsame⟩ := X2.leave (v := some (.int (1 : Int32))) (fun h => by rw [hret] at h; cases h)
  refine ⟨_, _, pre0 _ ?_, hrun, hended, _, _, rfl, ?_, ⟨_, rfl⟩, hW, hsame.mono (by decide) (by decide)⟩
  ·
    show Steps p.tables e below (s₁.setTop (mkF m 0 #[.val (.ref w2), .val (.ref w2)] [])) _
    refine XS.aloadN X0.here hx rfl (hb hby d1_0) rfl rfl ?_
    show Steps p.tables e below (s₁.setTop (mkF m 1 #[.val (.ref w2), .val (.ref w2)] [(.ref w2)])) _
    refine st1 _ ?_
    show Steps p.tables e below (T1.setTop (mkF m 4 #[.val (.ref w2), .val (.ref w2)] [(.ref w3), (.ref w2)])) _
    refine Jvm.RoadKit.acmp (g := (mkF m 4 #[.val (.ref w2), .val (.ref w2)] [(.ref w3), (.ref w2)])) X1 hx rfl rfl rfl (pc0 := 4) (pc' := 7) (same := false) rfl (hb hby d1_4) rfl (decide_eq_false fun q => (Fld.ne F_w2_ordinal F_w3_ordinal (by decide)) (Value.ref.inj q)) (by decide) (by decide) ?_
    show Steps p.tables e below (T1.setTop (mkF m 7 #[.val (.ref w2), .val (.ref w2)] [])) _
    refine XS.aloadN X1.here hx rfl (hb hby d1_7) rfl rfl ?_
    show Steps p.tables e below (T1.setTop (mkF m 8 #[.val (.ref w2), .val (.ref w2)] [(.ref w2)])) _
    refine st2 _ ?_
    show Steps p.tables e below (T2.setTop (mkF m 11 #[.val (.ref w2), .val (.ref w2)] [(.ref w3), (.ref w2)])) _
    refine Jvm.RoadKit.acmp (g := (mkF m 11 #[.val (.ref w2), .val (.ref w2)] [(.ref w3), (.ref w2)])) X2 hx rfl rfl rfl (pc0 := 11) (pc' := 14) (same := false) rfl (hb hby d1_11) rfl (decide_eq_false fun q => (Fld.ne F_w2_ordinal F_w3_ordinal (by decide)) (Value.ref.inj q)) (by decide) (by decide) ?_
    show Steps p.tables e below (T2.setTop (mkF m 14 #[.val (.ref w2), .val (.ref w2)] [])) _
    refine XS.aloadN X2.here hx rfl (hb hby d1_14) rfl rfl ?_
    show Steps p.tables e below (T2.setTop (mkF m 15 #[.val (.ref w2), .val (.ref w2)] [(.ref w2)])) _
    refine XS.aloadN X2.here hx rfl (hb hby d1_15) rfl rfl ?_
    show Steps p.tables e below (T2.setTop (mkF m 16 #[.val (.ref w2), .val (.ref w2)] [(.ref w2), (.ref w2)])) _
    refine Jvm.RoadKit.acmp (g := (mkF m 16 #[.val (.ref w2), .val (.ref w2)] [(.ref w2), (.ref w2)])) X2 hx rfl rfl rfl (pc0 := 16) (pc' := 19) (same := true) rfl (hb hby d1_16) rfl (decide_eq_true rfl) (by decide) (by decide) ?_
    show Steps p.tables e below (T2.setTop (mkF m 19 #[.val (.ref w2), .val (.ref w2)] [])) _
    refine XS.iconst X2.here hx rfl (hb hby d1_19) ?_
    show Steps p.tables e below (T2.setTop (mkF m 20 #[.val (.ref w2), .val (.ref w2)] [(.int (1 : Int32))])) _
    refine XS.goto X2.here hx rfl (pc0 := 20) (pc' := 24) rfl (hb hby d1_20) (by decide) (by decide) ?_
    show Steps p.tables e below (T2.setTop (mkF m 24 #[.val (.ref w2), .val (.ref w2)] [(.int (1 : Int32))])) _
    exact retN X2 hx (t := .boolean) hret (by simp) (hb hby d1_24) hr
  ·
    show Q7 Z w1 w2 w3 h0 n0 _ T2.heap _
    rw [e2]
    exact ⟨rfl, N0, rfl⟩
theorem ef8 (m : MethodId) (x0 : Addr) (x1 : Addr) : entryFrame m #[(.ref x0), (.ref x1)] 2 = mkF m 0 #[.val (.ref x0), .val (.ref x1)] [] := by first | (simp [entryFrame, mkF, argsToLocals, Value.category]; done) | rfl
def Q8 (Z : State) (w1 : Addr) (w2 : Addr) (w3 : Addr) (h0 : Heap) (n0 : Nat) (v : Option Value) (h : Heap) (L : List Loc) : Prop :=
  (v = some (.int (1 : Int32)) ∧ Fr n0 L ∧ h = h0)
set_option maxRecDepth 65536 in
set_option maxHeartbeats 40000000 in
theorem rm8 (l : Launch) (Z : State) (a0 : Array Value) (hw : ∀ d ∈ tables_1, d.before a0 Z = true) (w1 : Addr) (w2 : Addr) (w3 : Addr) (G : GW Z w1 w2 w3) (ws : List Jvm.Cond) (h0 : Heap) (n0 : Nat) (O0 : Old Z n0 h0) :
    MetFree l (⟨"com/example/vipo/vipo/flow/ConceptValue", "admits", "(Lcom/example/vipo/vipo/flow/ConceptValue;)Z"⟩ : MethodName) (head1 (Jvm.Cond.code (⟨"com/example/vipo/vipo/flow/ConceptValue", "admits", "(Lcom/example/vipo/vipo/flow/ConceptValue;)Z"⟩ : MethodName) prog_11_method_5_code 2 (some .boolean) :: ws) ({ frames := 0, cells := 0, slots := 0, locals := 0 } : Room)) (fun a U => a = #[(.ref w2), (.ref w3)] ∧ Z.Warmed39 U.vm ∧ U.heap = h0) (fun _ _ _ _ _ => True) (fun _ U o U' => ∃ v L, o = .returned v ∧ Q8 Z w1 w2 w3 h0 n0 v U'.heap L ∧ FrameEnd U o U' L ({ frames := 0, cells := 0, slots := 0, locals := 0 } : Room).cells ({ frames := 0, cells := 0, slots := 0, locals := 0 } : Room).slots) := by
  obtain ⟨S_w1, E_w1, S_w2, E_w2, S_w3, E_w3, F_w1_ordinal, F_w2_ordinal, F_w3_ordinal⟩ := id G
  refine MetFree.of_bodySF (plainFor_of_name pn1) hisR ?_
  intro p e s m args below meth c s₁ Bd hml0 hP hK
  obtain ⟨rfl, hZ, hh⟩ := hP
  have hx := Bd.exec
  have hby := Bd.bytes
  have hml : c.maxLocals = 2 := hml0
  have hown : s.vm.findClass "com/example/vipo/vipo/flow/ConceptValue" = some m.cls := findClass_of_methodNamed Bd.named
  have hnm := (name_of_methodNamed Bd.named Bd.method).1
  have hret := Bd.returns
  have hlk : meth.locks = false := BodyLoose.notSynchronized Bd
  have X0 : Stand p l e ({ frames := 0, cells := 0, slots := 0, locals := 0 } : Room) s m #[(.ref w2), (.ref w3)] below meth c s₁ [] 0 0 := Stand.of_body Bd
  have e0 : s₁.heap = h0 := by rw [← hh, Bd.state]; rfl
  have N0 := Fr.nil n0
  have pre0 : ∀ t, Steps p.tables e below (s₁.setTop (mkF m 0 #[.val (.ref w2), .val (.ref w3)] [])) t → Steps p.tables e below (s₁.setTop (entryFrame m #[(.ref w2), (.ref w3)] 2)) t := fun t k => castTop (ef8 m w2 w3) k
  obtain ⟨T1, X1, e1, st1⟩ := getS2 X0 hx hZ hown (host := "") (Or.inl (hw _ (List.mem_of_getElem? (i := 15) rfl))) Via.refl e0 (S_w3.ext O0.2) (g := (mkF m 1 #[.val (.ref w2), .val (.ref w3)] [(.ref w2)])) rfl (hb hby d1_1)
  obtain ⟨T2, X2, e2, st2⟩ := getS2 X1 hx hZ hown (host := "") (Or.inl (hw _ (List.mem_of_getElem? (i := 15) rfl))) Via.refl e1 (S_w3.ext O0.2) (g := (mkF m 8 #[.val (.ref w2), .val (.ref w3)] [(.ref w3)])) rfl (hb hby d1_8)
  obtain ⟨fs, hr, hrun, hended, hW, hsame⟩ := X2.leave (v := some (.int (1 : Int32))) (fun h => by rw [hret] at h; cases h)
  refine ⟨_, _, pre0 _ ?_, hrun, hended, _, _, rfl, ?_, ⟨_, rfl⟩, hW, hsame.mono (by decide) (by decide)⟩
  ·
    show Steps p.tables e below (s₁.setTop (mkF m 0 #[.val (.ref w2), .val (.ref w3)] [])) _
    refine XS.aloadN X0.here hx rfl (hb hby d1_0) rfl rfl ?_
    show Steps p.tables e below (s₁.setTop (mkF m 1 #[.val (.ref w2), .val (.ref w3)] [(.ref w2)])) _
    refine st1 _ ?_
    show Steps p.tables e below (T1.setTop (mkF m 4 #[.val (.ref w2), .val (.ref w3)] [(.ref w3), (.ref w2)])) _
    refine Jvm.RoadKit.acmp (g := (mkF m 4 #[.val (.ref w2), .val (.ref w3)] [(.ref w3), (.ref w2)])) X1 hx rfl rfl rfl (pc0 := 4) (pc' := 7) (same := false) rfl (hb hby d1_4) rfl (decide_eq_false fun q => (Fld.ne F_w2_ordinal F_w3_ordinal (by decide)) (Value.ref.inj q)) (by decide) (by decide) ?_
    show Steps p.tables e below (T1.setTop (mkF m 7 #[.val (.ref w2), .val (.ref w3)] [])) _
    refine XS.aloadN X1.here hx rfl (hb hby d1_7) rfl rfl ?_
    show Steps p.tables e below (T1.setTop (mkF m 8 #[.val (.ref w2), .val (.ref w3)] [(.ref w3)])) _
    refine st2 _ ?_
    show Steps p.tables e below (T2.setTop (mkF m 11 #[.val (.ref w2), .val (.ref w3)] [(.ref w3), (.ref w3)])) _
    refine Jvm.RoadKit.acmp (g := (mkF m 11 #[.val (.ref w2), .val (.ref w3)] [(.ref w3), (.ref w3)])) X2 hx rfl rfl rfl (pc0 := 11) (pc' := 19) (same := true) rfl (hb hby d1_11) rfl (decide_eq_true rfl) (by decide) (by decide) ?_
    show Steps p.tables e below (T2.setTop (mkF m 19 #[.val (.ref w2), .val (.ref w3)] [])) _
    refine XS.iconst X2.here hx rfl (hb hby d1_19) ?_
    show Steps p.tables e below (T2.setTop (mkF m 20 #[.val (.ref w2), .val (.ref w3)] [(.int (1 : Int32))])) _
    refine XS.goto X2.here hx rfl (pc0 := 20) (pc' := 24) rfl (hb hby d1_20) (by decide) (by decide) ?_
    show Steps p.tables e below (T2.setTop (mkF m 24 #[.val (.ref w2), .val (.ref w3)] [(.int (1 : Int32))])) _
    exact retN X2 hx (t := .boolean) hret (by simp) (hb hby d1_24) hr
  ·
    show Q8 Z w1 w2 w3 h0 n0 _ T2.heap _
    rw [e2]
    exact ⟨rfl, N0, rfl⟩
theorem ef9 (m : MethodId) (x0 : Addr) (x1 : Addr) : entryFrame m #[(.ref x0), (.ref x1)] 2 = mkF m 0 #[.val (.ref x0), .val (.ref x1)] [] := by first | (simp [entryFrame, mkF, argsToLocals, Value.category]; done) | rfl
def Q9 (Z : State) (w1 : Addr) (w2 : Addr) (w3 : Addr) (h0 : Heap) (n0 : Nat) (v : Option Value) (h : Heap) (L : List Loc) : Prop :=
  (v = some (.int (1 : Int32)) ∧ Fr n0 L ∧ h = h0)
set_option maxRecDepth 65536 in
set_option maxHeartbeats 40000000 in
theorem rm9 (l : Launch) (Z : State) (a0 : Array Value) (hw : ∀ d ∈ tables_1, d.before a0 Z = true) (w1 : Addr) (w2 : Addr) (w3 : Addr) (G : GW Z w1 w2 w3) (ws : List Jvm.Cond) (h0 : Heap) (n0 : Nat) (O0 : Old Z n0 h0) :
    MetFree l (⟨"com/example/vipo/vipo/flow/ConceptValue", "admits", "(Lcom/example/vipo/vipo/flow/ConceptValue;)Z"⟩ : MethodName) (head1 (Jvm.Cond.code (⟨"com/example/vipo/vipo/flow/ConceptValue", "admits", "(Lcom/example/vipo/vipo/flow/ConceptValue;)Z"⟩ : MethodName) prog_11_method_5_code 2 (some .boolean) :: ws) ({ frames := 0, cells := 0, slots := 0, locals := 0 } : Room)) (fun a U => a = #[(.ref w3), (.ref w2)] ∧ Z.Warmed39 U.vm ∧ U.heap = h0) (fun _ _ _ _ _ => True) (fun _ U o U' => ∃ v L, o = .returned v ∧ Q9 Z w1 w2 w3 h0 n0 v U'.heap L ∧ FrameEnd U o U' L ({ frames := 0, cells := 0, slots := 0, locals := 0 } : Room).cells ({ frames := 0, cells := 0, slots := 0, locals := 0 } : Room).slots) := by
  obtain ⟨S_w1, E_w1, S_w2, E_w2, S_w3, E_w3, F_w1_ordinal, F_w2_ordinal, F_w3_ordinal⟩ := id G
  refine MetFree.of_bodySF (plainFor_of_name pn1) hisR ?_
  intro p e s m args below meth c s₁ Bd hml0 hP hK
  obtain ⟨rfl, hZ, hh⟩ := hP
  have hx := Bd.exec
  have hby := Bd.bytes
  have hml : c.maxLocals = 2 := hml0
  have hown : s.vm.findClass "com/example/vipo/vipo/flow/ConceptValue" = some m.cls := findClass_of_methodNamed Bd.named
  have hnm := (name_of_methodNamed Bd.named Bd.method).1
  have hret := Bd.returns
  have hlk : meth.locks = false := BodyLoose.notSynchronized Bd
  have X0 : Stand p l e ({ frames := 0, cells := 0, slots := 0, locals := 0 } : Room) s m #[(.ref w3), (.ref w2)] below meth c s₁ [] 0 0 := Stand.of_body Bd
  have e0 : s₁.heap = h0 := by rw [← hh, Bd.state]; rfl
  have N0 := Fr.nil n0
  have pre0 : ∀ t, Steps p.tables e below (s₁.setTop (mkF m 0 #[.val (.ref w3), .val (.ref w2)] [])) t → Steps p.tables e below (s₁.setTop (entryFrame m #[(.ref w3), (.ref w2)] 2)) t := fun t k => castTop (ef9 m w3 w2) k
  obtain ⟨T1, X1, e1, st1⟩ := getS2 X0 hx hZ hown (host := "") (Or.inl (hw _ (List.mem_of_getElem? (i := 15) rfl))) Via.refl e0 (S_w3.ext O0.2) (g := (mkF m 1 #[.val (.ref w3), .val (.ref w2)] [(.ref w3)])) rfl (hb hby d1_1)
  obtain ⟨fs, hr, hrun, hended, hW, hsame⟩ := X1.leave (v := some (.int (1 : Int32))) (fun h => by rw [hret] at h; cases h)
  refine ⟨_, _, pre0 _ ?_, hrun, hended, _, _, rfl, ?_, ⟨_, rfl⟩, hW, hsame.mono (by decide) (by decide)⟩
  ·
    show Steps p.tables e below (s₁.setTop (mkF m 0 #[.val (.ref w3), .val (.ref w2)] [])) _
    refine XS.aloadN X0.here hx rfl (hb hby d1_0) rfl rfl ?_
    show Steps p.tables e below (s₁.setTop (mkF m 1 #[.val (.ref w3), .val (.ref w2)] [(.ref w3)])) _
    refine st1 _ ?_
    show Steps p.tables e below (T1.setTop (mkF m 4 #[.val (.ref w3), .val (.ref w2)] [(.ref w3), (.ref w3)])) _
    refine Jvm.RoadKit.acmp (g := (mkF m 4 #[.val (.ref w3), .val (.ref w2)] [(.ref w3), (.ref w3)])) X1 hx rfl rfl rfl (pc0 := 4) (pc' := 19) (same := true) rfl (hb hby d1_4) rfl (decide_eq_true rfl) (by decide) (by decide) ?_
    show Steps p.tables e below (T1.setTop (mkF m 19 #[.val (.ref w3), .val (.ref w2)] [])) _
    refine XS.iconst X1.here hx rfl (hb hby d1_19) ?_
    show Steps p.tables e below (T1.setTop (mkF m 20 #[.val (.ref w3), .val (.ref w2)] [(.int (1 : Int32))])) _
    refine XS.goto X1.here hx rfl (pc0 := 20) (pc' := 24) rfl (hb hby d1_20) (by decide) (by decide) ?_
    show Steps p.tables e below (T1.setTop (mkF m 24 #[.val (.ref w3), .val (.ref w2)] [(.int (1 : Int32))])) _
    exact retN X1 hx (t := .boolean) hret (by simp) (hb hby d1_24) hr
  ·
    show Q9 Z w1 w2 w3 h0 n0 _ T1.heap _
    rw [e1]
    exact ⟨rfl, N0, rfl⟩
theorem ef10 (m : MethodId) (x0 : Addr) (x1 : Addr) : entryFrame m #[(.ref x0), (.ref x1)] 2 = mkF m 0 #[.val (.ref x0), .val (.ref x1)] [] := by first | (simp [entryFrame, mkF, argsToLocals, Value.category]; done) | rfl
def Q10 (Z : State) (w1 : Addr) (w2 : Addr) (w3 : Addr) (h0 : Heap) (n0 : Nat) (v : Option Value) (h : Heap) (L : List Loc) : Prop :=
  (v = some (.int (1 : Int32)) ∧ Fr n0 L ∧ h = h0)
set_option maxRecDepth 65536 in
set_option maxHeartbeats 40000000 in
theorem rm10 (l : Launch) (Z : State) (a0 : Array Value) (hw : ∀ d ∈ tables_1, d.before a0 Z = true) (w1 : Addr) (w2 : Addr) (w3 : Addr) (G : GW Z w1 w2 w3) (ws : List Jvm.Cond) (h0 : Heap) (n0 : Nat) (O0 : Old Z n0 h0) :
    MetFree l (⟨"com/example/vipo/vipo/flow/ConceptValue", "admits", "(Lcom/example/vipo/vipo/flow/ConceptValue;)Z"⟩ : MethodName) (head1 (Jvm.Cond.code (⟨"com/example/vipo/vipo/flow/ConceptValue", "admits", "(Lcom/example/vipo/vipo/flow/ConceptValue;)Z"⟩ : MethodName) prog_11_method_5_code 2 (some .boolean) :: ws) ({ frames := 0, cells := 0, slots := 0, locals := 0 } : Room)) (fun a U => a = #[(.ref w3), (.ref w3)] ∧ Z.Warmed39 U.vm ∧ U.heap = h0) (fun _ _ _ _ _ => True) (fun _ U o U' => ∃ v L, o = .returned v ∧ Q10 Z w1 w2 w3 h0 n0 v U'.heap L ∧ FrameEnd U o U' L ({ frames := 0, cells := 0, slots := 0, locals := 0 } : Room).cells ({ frames := 0, cells := 0, slots := 0, locals := 0 } : Room).slots) := by
  obtain ⟨S_w1, E_w1, S_w2, E_w2, S_w3, E_w3, F_w1_ordinal, F_w2_ordinal, F_w3_ordinal⟩ := id G
  refine MetFree.of_bodySF (plainFor_of_name pn1) hisR ?_
  intro p e s m args below meth c s₁ Bd hml0 hP hK
  obtain ⟨rfl, hZ, hh⟩ := hP
  have hx := Bd.exec
  have hby := Bd.bytes
  have hml : c.maxLocals = 2 := hml0
  have hown : s.vm.findClass "com/example/vipo/vipo/flow/ConceptValue" = some m.cls := findClass_of_methodNamed Bd.named
  have hnm := (name_of_methodNamed Bd.named Bd.method).1
  have hret := Bd.returns
  have hlk : meth.locks = false := BodyLoose.notSynchronized Bd
  have X0 : Stand p l e ({ frames := 0, cells := 0, slots := 0, locals := 0 } : Room) s m #[(.ref w3), (.ref w3)] below meth c s₁ [] 0 0 := Stand.of_body Bd
  have e0 : s₁.heap = h0 := by rw [← hh, Bd.state]; rfl
  have N0 := Fr.nil n0
  have pre0 : ∀ t, Steps p.tables e below (s₁.setTop (mkF m 0 #[.val (.ref w3), .val (.ref w3)] [])) t → Steps p.tables e below (s₁.setTop (entryFrame m #[(.ref w3), (.ref w3)] 2)) t := fun t k => castTop (ef10 m w3 w3) k
  obtain ⟨T1, X1, e1, st1⟩ := getS2 X0 hx hZ hown (host := "") (Or.inl (hw _ (List.mem_of_getElem? (i := 15) rfl))) Via.refl e0 (S_w3.ext O0.2) (g := (mkF m 1 #[.val (.ref w3), .val (.ref w3)] [(.ref w3)])) rfl (hb hby d1_1)
  obtain ⟨fs, hr, hrun, hended, hW, hsame⟩ := X1.leave (v := some (.int (1 : Int32))) (fun h => by rw [hret] at h; cases h)
  refine ⟨_, _, pre0 _ ?_, hrun, hended, _, _, rfl, ?_, ⟨_, rfl⟩, hW, hsame.mono (by decide) (by decide)⟩
  ·
    show Steps p.tables e below (s₁.setTop (mkF m 0 #[.val (.ref w3), .val (.ref w3)] [])) _
    refine XS.aloadN X0.here hx rfl (hb hby d1_0) rfl rfl ?_
    show Steps p.tables e below (s₁.setTop (mkF m 1 #[.val (.ref w3), .val (.ref w3)] [(.ref w3)])) _
    refine st1 _ ?_
    show Steps p.tables e below (T1.setTop (mkF m 4 #[.val (.ref w3), .val (.ref w3)] [(.ref w3), (.ref w3)])) _
    refine Jvm.RoadKit.acmp (g := (mkF m 4 #[.val (.ref w3), .val (.ref w3)] [(.ref w3), (.ref w3)])) X1 hx rfl rfl rfl (pc0 := 4) (pc' := 19) (same := true) rfl (hb hby d1_4) rfl (decide_eq_true rfl) (by decide) (by decide) ?_
    show Steps p.tables e below (T1.setTop (mkF m 19 #[.val (.ref w3), .val (.ref w3)] [])) _
    refine XS.iconst X1.here hx rfl (hb hby d1_19) ?_
    show Steps p.tables e below (T1.setTop (mkF m 20 #[.val (.ref w3), .val (.ref w3)] [(.int (1 : Int32))])) _
    refine XS.goto X1.here hx rfl (pc0 := 20) (pc' := 24) rfl (hb hby d1_20) (by decide) (by decide) ?_
    show Steps p.tables e below (T1.setTop (mkF m 24 #[.val (.ref w3), .val (.ref w3)] [(.int (1 : Int32))])) _
    exact retN X1 hx (t := .boolean) hret (by simp) (hb hby d1_24) hr
  ·
    show Q10 Z w1 w2 w3 h0 n0 _ T1.heap _
    rw [e1]
    exact ⟨rfl, N0, rfl⟩
theorem ef0 (m : MethodId) (x0 : Int32) (x1 : Int32) : entryFrame m #[(.int x0), (.int x1)] maxLocals = mkF m 0 #[.val (.int x0), .val (.int x1), .unset, .unset, .unset, .unset, .unset, .unset] [] := by first | (simp [entryFrame, mkF, argsToLocals, Value.category, maxLocals]; done) | rfl
set_option maxRecDepth 65536 in
set_option maxHeartbeats 40000000 in
theorem rm0 (l : Launch) (Z : State) (a0 : Array Value) (hw : ∀ d ∈ tables_1, d.before a0 Z = true) (w1 : Addr) (w2 : Addr) (w3 : Addr) (G : GW Z w1 w2 w3) (ws : List Jvm.Cond) (p1 : Int32) (p2 : Int32) (h0 : Heap) (n0 : Nat) (O0 : Old Z n0 h0) :
    MetFree l x (head1 (Jvm.Cond.code x code maxLocals ret :: ws) room_1) (fun a U => a = #[(.int p1), (.int p2)] ∧ Z.Warmed39 U.vm ∧ U.heap = h0) (fun _ _ _ _ _ => True) (fun _ U o U' => ∃ v L, o = .returned v ∧ Q0 n0 v U'.heap L ∧ FrameEnd U o U' L 0 0) := by
  obtain ⟨S_w1, E_w1, S_w2, E_w2, S_w3, E_w3, F_w1_ordinal, F_w2_ordinal, F_w3_ordinal⟩ := id G
  refine MetFree.of_bodySF (plainFor_of_name pn0) hisR ?_
  intro p e s m args below meth c s₁ Bd hml0 hP hK
  obtain ⟨rfl, hZ, hh⟩ := hP
  have hx := Bd.exec
  have hby := Bd.bytes
  have hml : c.maxLocals = 8 := hml0
  have hown : s.vm.findClass "com/example/vipo/vipo/flow/ConceptValueAdmitsPinLaw" = some m.cls := findClass_of_methodNamed Bd.named
  have hnm := (name_of_methodNamed Bd.named Bd.method).1
  have hret := Bd.returns
  have hlk : meth.locks = false := BodyLoose.notSynchronized Bd
  have X0 : Stand p l e room_1 s m #[(.int p1), (.int p2)] below meth c s₁ [] 0 0 := Stand.of_body Bd
  have e0 : s₁.heap = h0 := by rw [← hh, Bd.state]; rfl
  have N0 := Fr.nil n0
  have pre0 : ∀ t, Steps p.tables e below (s₁.setTop (mkF m 0 #[.val (.int p1), .val (.int p2), .unset, .unset, .unset, .unset, .unset, .unset] [])) t → Steps p.tables e below (s₁.setTop (entryFrame m #[(.int p1), (.int p2)] maxLocals)) t := fun t k => castTop (ef0 m p1 p2) k
  obtain ⟨_, _, ⟨T1, L1, c1, n1⟩, -, X1, ⟨Lc1, hQ1, l1, y1, z1⟩, st1⟩ := Jvm.LawKit.callS X0 hx (y := (⟨"com/example/vipo/vipo/flow/ConceptValueAdmitsPinLaw", "pick", "(I)Lcom/example/vipo/vipo/flow/ConceptValue;"⟩ : MethodName)) hown (mvT hZ (hw _ (List.mem_of_getElem? (i := 0) rfl))) (mvT hZ (hw _ (List.mem_of_getElem? (i := 1) rfl))) (mvT hZ (hw _ (List.mem_of_getElem? (i := 2) rfl))) (mvT hZ (hw _ (List.mem_of_getElem? (i := 3) rfl))) (by decide) (backOf (W := 0) (rm1 l Z a0 hw w1 w2 w3 G [] p1 h0 n0 O0 ) hZ (hw _ (List.mem_of_getElem? (i := 3) rfl)) (hw _ (List.mem_of_getElem? (i := 2) rfl)) (by decide) (by decide)) (g := (mkF m 1 #[.val (.int p1), .val (.int p2), .unset, .unset, .unset, .unset, .unset, .unset] [(.int p1)])) rfl (by rw [hml]; rfl) (argsL := [(.int p1)]) (rest := []) (lenOf pd0 rfl) rfl (by show 2 * 0 + _ ≤ _; exact Nat.le_of_eq rfl) (hb hby at_1) (fun _ _ => ⟨rfl, e0, (by decide : 0 + 0 ≤ _), (by decide : 0 + 0 ≤ _)⟩)
  dsimp only [Pt.U, Pt.locs, Pt.cells, Pt.slots] at X1 l1 y1 z1 st1 hQ1
  subst l1 y1 z1
  have pre2 : ∀ t, Steps p.tables e below (s₁.setTop (mkF m 1 #[.val (.int p1), .val (.int p2), .unset, .unset, .unset, .unset, .unset, .unset] [(.int p1)])) t → Steps p.tables e below (s₁.setTop (entryFrame m #[(.int p1), (.int p2)] maxLocals)) t := fun t k => by
    refine pre0 _ ?_
    show Steps p.tables e below (s₁.setTop (mkF m 0 #[.val (.int p1), .val (.int p2), .unset, .unset, .unset, .unset, .unset, .unset] [])) _
    refine XS.iloadN X0.here hx rfl (hb hby at_0) rfl ?_
    exact k
  have X1 : Stand p l e room_1 s m #[(.int p1), (.int p2)] below meth c T1 _ 0 0 := X1
  rcases hQ1 with ⟨hc3, rfl, Nq4, e5⟩ | ⟨hc6, hc7, rfl, Nq8, e9⟩ | ⟨hc10, hc11, rfl, Nq12, e13⟩
  ·
    have N1 := Fr.app N0 Nq4
    obtain ⟨_, _, ⟨T14, L14, c14, n14⟩, -, X14, ⟨Lc14, hQ14, l14, y14, z14⟩, st14⟩ := Jvm.LawKit.callS X1 hx (y := (⟨"com/example/vipo/vipo/flow/ConceptValueAdmitsPinLaw", "pick", "(I)Lcom/example/vipo/vipo/flow/ConceptValue;"⟩ : MethodName)) hown (mvT hZ (hw _ (List.mem_of_getElem? (i := 0) rfl))) (mvT hZ (hw _ (List.mem_of_getElem? (i := 1) rfl))) (mvT hZ (hw _ (List.mem_of_getElem? (i := 2) rfl))) (mvT hZ (hw _ (List.mem_of_getElem? (i := 3) rfl))) (by decide) (backOf (W := 0) (rm1 l Z a0 hw w1 w2 w3 G [] p2 h0 n0 O0 ) hZ (hw _ (List.mem_of_getElem? (i := 3) rfl)) (hw _ (List.mem_of_getElem? (i := 2) rfl)) (by decide) (by decide)) (g := (mkF m 6 #[.val (.int p1), .val (.int p2), .val (.ref w1), .unset, .unset, .unset, .unset, .unset] [(.int p2)])) rfl (by rw [hml]; rfl) (argsL := [(.int p2)]) (rest := []) (lenOf pd0 rfl) rfl (by show 2 * 0 + _ ≤ _; exact Nat.le_of_eq rfl) (hb hby at_6) (fun _ _ => ⟨rfl, e5, (by decide : 0 + 0 ≤ _), (by decide : 0 + 0 ≤ _)⟩)
    dsimp only [Pt.U, Pt.locs, Pt.cells, Pt.slots] at X14 l14 y14 z14 st14 hQ14
    subst l14 y14 z14
    have pre15 : ∀ t, Steps p.tables e below (T1.setTop (mkF m 6 #[.val (.int p1), .val (.int p2), .val (.ref w1), .unset, .unset, .unset, .unset, .unset] [(.int p2)])) t → Steps p.tables e below (s₁.setTop (entryFrame m #[(.int p1), (.int p2)] maxLocals)) t := fun t k => by
      refine pre2 _ ?_
      show Steps p.tables e below (s₁.setTop (mkF m 1 #[.val (.int p1), .val (.int p2), .unset, .unset, .unset, .unset, .unset, .unset] [(.int p1)])) _
      refine st1 _ ?_
      show Steps p.tables e below (T1.setTop (mkF m 4 #[.val (.int p1), .val (.int p2), .unset, .unset, .unset, .unset, .unset, .unset] [(.ref w1)])) _
      refine XS.astoreN X1.here hx rfl (hb hby at_4) rfl rfl (l' := #[.val (.int p1), .val (.int p2), .val (.ref w1), .unset, .unset, .unset, .unset, .unset]) rfl ?_
      show Steps p.tables e below (T1.setTop (mkF m 5 #[.val (.int p1), .val (.int p2), .val (.ref w1), .unset, .unset, .unset, .unset, .unset] [])) _
      refine XS.iloadN X1.here hx rfl (hb hby at_5) rfl ?_
      exact k
    have X14 : Stand p l e room_1 s m #[(.int p1), (.int p2)] below meth c T14 _ 0 0 := X14
    rcases hQ14 with ⟨hc16, rfl, Nq17, e18⟩ | ⟨hc19, hc20, rfl, Nq21, e22⟩ | ⟨hc23, hc24, rfl, Nq25, e26⟩
    ·
      have N14 := Fr.app N1 Nq17
      obtain ⟨T27, X27, e27, st27⟩ := getS2 X14 hx hZ hown (host := "") (Or.inl (hw _ (List.mem_of_getElem? (i := 5) rfl))) Via.refl e18 (S_w1.ext O0.2) (g := (mkF m 11 #[.val (.int p1), .val (.int p2), .val (.ref w1), .val (.ref w1), .unset, .unset, .unset, .unset] [(.ref w1)])) rfl (hb hby at_11)
      obtain ⟨T28, X28, e28, st28⟩ := getS2 X27 hx hZ hown (host := "") (Or.inl (hw _ (List.mem_of_getElem? (i := 8) rfl))) Via.refl e27 (S_w2.ext O0.2) (g := (mkF m 18 #[.val (.int p1), .val (.int p2), .val (.ref w1), .val (.ref w1), .unset, .unset, .unset, .unset] [(.ref w1)])) rfl (hb hby at_18)
      obtain ⟨T29, X29, e29, st29⟩ := getS2 X28 hx hZ hown (host := "") (Or.inl (hw _ (List.mem_of_getElem? (i := 8) rfl))) Via.refl e28 (S_w2.ext O0.2) (g := (mkF m 25 #[.val (.int p1), .val (.int p2), .val (.ref w1), .val (.ref w1), .unset, .unset, .unset, .unset] [(.ref w1)])) rfl (hb hby at_25)
      obtain ⟨cq30, kq30, q30a, q30b, q30c⟩ := isOf hZ e29 (E_w1.ext O0.2)
      obtain ⟨_, _, ⟨T31, L31, c31, n31⟩, -, X31, ⟨Lc31, hQ31, l31, y31, z31⟩, st31⟩ := X29.virtualBack hx (y := (⟨"com/example/vipo/vipo/flow/ConceptValue", "admits", "(Lcom/example/vipo/vipo/flow/ConceptValue;)Z"⟩ : MethodName)) (z := (⟨"com/example/vipo/vipo/flow/ConceptValue", "admits", "(Lcom/example/vipo/vipo/flow/ConceptValue;)Z"⟩ : MethodName)) hown (mvT hZ (hw _ (List.mem_of_getElem? (i := 10) rfl))) (mvT hZ (hw _ (List.mem_of_getElem? (i := 11) rfl))) (notFace_of_selects (args := #[]) (mvT hZ (hw _ (List.mem_of_getElem? (i := 13) rfl)))) (mvT hZ (hw _ (List.mem_of_getElem? (i := 13) rfl))) (mvT hZ (hw _ (List.mem_of_getElem? (i := 12) rfl))) (by decide) (backOf (W := 0) (rm2 l Z a0 hw w1 w2 w3 G []  h0 n0 O0 ) hZ (hw _ (List.mem_of_getElem? (i := 14) rfl)) (hw _ (List.mem_of_getElem? (i := 6) rfl)) (by decide) (by decide)) q30a q30c (g := (mkF m 59 #[.val (.int p1), .val (.int p2), .val (.ref w1), .val (.ref w1), .val (.int (0 : Int32)), .val (.int (1 : Int32)), .unset, .unset] [(.ref w1), (.ref w1)])) rfl (by rw [hml]; rfl) (Steps.refl _) (argsL := [(.ref w1)]) (rest := []) (lenOf pd1 rfl) rfl (by show 2 * 0 + _ ≤ _; exact Nat.le_of_eq rfl) (hb hby at_59) (fun _ _ => ⟨rfl, e29, (by decide : 0 + 0 ≤ _), (by decide : 0 + 0 ≤ _)⟩)
      dsimp only [Pt.U, Pt.locs, Pt.cells, Pt.slots] at X31 l31 y31 z31 st31 hQ31
      subst l31 y31 z31
      have X31 : Stand p l e room_1 s m #[(.int p1), (.int p2)] below meth c T31 _ 0 0 := X31
      obtain ⟨rfl, Nq32, e33⟩ := hQ31
      have N31 := Fr.app N14 Nq32
      obtain ⟨cq34, kq34, q34a, q34b, q34c⟩ := isOf hZ e33 (E_w1.ext O0.2)
      obtain ⟨_, _, ⟨T35, L35, c35, n35⟩, -, X35, ⟨Lc35, hQ35, l35, y35, z35⟩, st35⟩ := X31.virtualBack hx (y := (⟨"com/example/vipo/vipo/flow/ConceptValue", "admits", "(Lcom/example/vipo/vipo/flow/ConceptValue;)Z"⟩ : MethodName)) (z := (⟨"com/example/vipo/vipo/flow/ConceptValue", "admits", "(Lcom/example/vipo/vipo/flow/ConceptValue;)Z"⟩ : MethodName)) hown (mvT hZ (hw _ (List.mem_of_getElem? (i := 10) rfl))) (mvT hZ (hw _ (List.mem_of_getElem? (i := 11) rfl))) (notFace_of_selects (args := #[]) (mvT hZ (hw _ (List.mem_of_getElem? (i := 13) rfl)))) (mvT hZ (hw _ (List.mem_of_getElem? (i := 13) rfl))) (mvT hZ (hw _ (List.mem_of_getElem? (i := 12) rfl))) (by decide) (backOf (W := 0) (rm2 l Z a0 hw w1 w2 w3 G []  h0 n0 O0 ) hZ (hw _ (List.mem_of_getElem? (i := 14) rfl)) (hw _ (List.mem_of_getElem? (i := 6) rfl)) (by decide) (by decide)) q34a q34c (g := (mkF m 66 #[.val (.int p1), .val (.int p2), .val (.ref w1), .val (.ref w1), .val (.int (0 : Int32)), .val (.int (1 : Int32)), .val (.int (1 : Int32)), .unset] [(.ref w1), (.ref w1)])) rfl (by rw [hml]; rfl) (Steps.refl _) (argsL := [(.ref w1)]) (rest := []) (lenOf pd1 rfl) rfl (by show 2 * 0 + _ ≤ _; exact Nat.le_of_eq rfl) (hb hby at_66) (fun _ _ => ⟨rfl, e33, (by decide : 0 + 0 ≤ _), (by decide : 0 + 0 ≤ _)⟩)
      dsimp only [Pt.U, Pt.locs, Pt.cells, Pt.slots] at X35 l35 y35 z35 st35 hQ35
      subst l35 y35 z35
      have X35 : Stand p l e room_1 s m #[(.int p1), (.int p2)] below meth c T35 _ 0 0 := X35
      obtain ⟨rfl, Nq36, e37⟩ := hQ35
      have N35 := Fr.app N31 Nq36
      obtain ⟨fs, hr, hrun, hended, hW, hsame⟩ := X35.leave (v := some (.int (1 : Int32))) (fun h => by rw [hret] at h; cases h)
      refine ⟨_, _, pre15 _ ?_, hrun, hended, _, _, rfl, ?_, ⟨_, rfl⟩, hW, hsame.mono (by decide) (by decide)⟩
      ·
        show Steps p.tables e below (T1.setTop (mkF m 6 #[.val (.int p1), .val (.int p2), .val (.ref w1), .unset, .unset, .unset, .unset, .unset] [(.int p2)])) _
        refine st14 _ ?_
        show Steps p.tables e below (T14.setTop (mkF m 9 #[.val (.int p1), .val (.int p2), .val (.ref w1), .unset, .unset, .unset, .unset, .unset] [(.ref w1)])) _
        refine XS.astoreN X14.here hx rfl (hb hby at_9) rfl rfl (l' := #[.val (.int p1), .val (.int p2), .val (.ref w1), .val (.ref w1), .unset, .unset, .unset, .unset]) rfl ?_
        show Steps p.tables e below (T14.setTop (mkF m 10 #[.val (.int p1), .val (.int p2), .val (.ref w1), .val (.ref w1), .unset, .unset, .unset, .unset] [])) _
        refine XS.aloadN X14.here hx rfl (hb hby at_10) rfl rfl ?_
        show Steps p.tables e below (T14.setTop (mkF m 11 #[.val (.int p1), .val (.int p2), .val (.ref w1), .val (.ref w1), .unset, .unset, .unset, .unset] [(.ref w1)])) _
        refine st27 _ ?_
        show Steps p.tables e below (T27.setTop (mkF m 14 #[.val (.int p1), .val (.int p2), .val (.ref w1), .val (.ref w1), .unset, .unset, .unset, .unset] [(.ref w1), (.ref w1)])) _
        refine Jvm.RoadKit.acmp (g := (mkF m 14 #[.val (.int p1), .val (.int p2), .val (.ref w1), .val (.ref w1), .unset, .unset, .unset, .unset] [(.ref w1), (.ref w1)])) X27 hx rfl rfl rfl (pc0 := 14) (pc' := 17) (same := true) rfl (hb hby at_14) rfl (decide_eq_true rfl) (by decide) (by decide) ?_
        show Steps p.tables e below (T27.setTop (mkF m 17 #[.val (.int p1), .val (.int p2), .val (.ref w1), .val (.ref w1), .unset, .unset, .unset, .unset] [])) _
        refine XS.aloadN X27.here hx rfl (hb hby at_17) rfl rfl ?_
        show Steps p.tables e below (T27.setTop (mkF m 18 #[.val (.int p1), .val (.int p2), .val (.ref w1), .val (.ref w1), .unset, .unset, .unset, .unset] [(.ref w1)])) _
        refine st28 _ ?_
        show Steps p.tables e below (T28.setTop (mkF m 21 #[.val (.int p1), .val (.int p2), .val (.ref w1), .val (.ref w1), .unset, .unset, .unset, .unset] [(.ref w2), (.ref w1)])) _
        refine Jvm.RoadKit.acmp (g := (mkF m 21 #[.val (.int p1), .val (.int p2), .val (.ref w1), .val (.ref w1), .unset, .unset, .unset, .unset] [(.ref w2), (.ref w1)])) X28 hx rfl rfl rfl (pc0 := 21) (pc' := 24) (same := false) rfl (hb hby at_21) rfl (decide_eq_false fun q => (Fld.ne F_w1_ordinal F_w2_ordinal (by decide)) (Value.ref.inj q)) (by decide) (by decide) ?_
        show Steps p.tables e below (T28.setTop (mkF m 24 #[.val (.int p1), .val (.int p2), .val (.ref w1), .val (.ref w1), .unset, .unset, .unset, .unset] [])) _
        refine XS.aloadN X28.here hx rfl (hb hby at_24) rfl rfl ?_
        show Steps p.tables e below (T28.setTop (mkF m 25 #[.val (.int p1), .val (.int p2), .val (.ref w1), .val (.ref w1), .unset, .unset, .unset, .unset] [(.ref w1)])) _
        refine st29 _ ?_
        show Steps p.tables e below (T29.setTop (mkF m 28 #[.val (.int p1), .val (.int p2), .val (.ref w1), .val (.ref w1), .unset, .unset, .unset, .unset] [(.ref w2), (.ref w1)])) _
        refine Jvm.RoadKit.acmp (g := (mkF m 28 #[.val (.int p1), .val (.int p2), .val (.ref w1), .val (.ref w1), .unset, .unset, .unset, .unset] [(.ref w2), (.ref w1)])) X29 hx rfl rfl rfl (pc0 := 28) (pc' := 42) (same := false) rfl (hb hby at_28) rfl (decide_eq_false fun q => (Fld.ne F_w1_ordinal F_w2_ordinal (by decide)) (Value.ref.inj q)) (by decide) (by decide) ?_
        show Steps p.tables e below (T29.setTop (mkF m 42 #[.val (.int p1), .val (.int p2), .val (.ref w1), .val (.ref w1), .unset, .unset, .unset, .unset] [])) _
        refine XS.iconst X29.here hx rfl (hb hby at_42) ?_
        show Steps p.tables e below (T29.setTop (mkF m 43 #[.val (.int p1), .val (.int p2), .val (.ref w1), .val (.ref w1), .unset, .unset, .unset, .unset] [(.int (0 : Int32))])) _
        refine XS.istore X29.here hx rfl (hb hby at_43) rfl (l' := #[.val (.int p1), .val (.int p2), .val (.ref w1), .val (.ref w1), .val (.int (0 : Int32)), .unset, .unset, .unset]) rfl ?_
        show Steps p.tables e below (T29.setTop (mkF m 45 #[.val (.int p1), .val (.int p2), .val (.ref w1), .val (.ref w1), .val (.int (0 : Int32)), .unset, .unset, .unset] [])) _
        refine XS.iload X29.here hx rfl (hb hby at_45) rfl ?_
        show Steps p.tables e below (T29.setTop (mkF m 47 #[.val (.int p1), .val (.int p2), .val (.ref w1), .val (.ref w1), .val (.int (0 : Int32)), .unset, .unset, .unset] [(.int (0 : Int32))])) _
        refine XS.ifNo X29.here hx rfl (hb hby at_47) rfl ((if0 _ _).trans (teq (by decide : (0 : Int32) = (0 : Int32))).2) ?_
        show Steps p.tables e below (T29.setTop (mkF m 50 #[.val (.int p1), .val (.int p2), .val (.ref w1), .val (.ref w1), .val (.int (0 : Int32)), .unset, .unset, .unset] [])) _
        refine XS.iconst X29.here hx rfl (hb hby at_50) ?_
        show Steps p.tables e below (T29.setTop (mkF m 51 #[.val (.int p1), .val (.int p2), .val (.ref w1), .val (.ref w1), .val (.int (0 : Int32)), .unset, .unset, .unset] [(.int (1 : Int32))])) _
        refine XS.goto X29.here hx rfl (pc0 := 51) (pc' := 55) rfl (hb hby at_51) (by decide) (by decide) ?_
        show Steps p.tables e below (T29.setTop (mkF m 55 #[.val (.int p1), .val (.int p2), .val (.ref w1), .val (.ref w1), .val (.int (0 : Int32)), .unset, .unset, .unset] [(.int (1 : Int32))])) _
        refine XS.istore X29.here hx rfl (hb hby at_55) rfl (l' := #[.val (.int p1), .val (.int p2), .val (.ref w1), .val (.ref w1), .val (.int (0 : Int32)), .val (.int (1 : Int32)), .unset, .unset]) rfl ?_
        show Steps p.tables e below (T29.setTop (mkF m 57 #[.val (.int p1), .val (.int p2), .val (.ref w1), .val (.ref w1), .val (.int (0 : Int32)), .val (.int (1 : Int32)), .unset, .unset] [])) _
        refine XS.aloadN X29.here hx rfl (hb hby at_57) rfl rfl ?_
        show Steps p.tables e below (T29.setTop (mkF m 58 #[.val (.int p1), .val (.int p2), .val (.ref w1), .val (.ref w1), .val (.int (0 : Int32)), .val (.int (1 : Int32)), .unset, .unset] [(.ref w1)])) _
        refine XS.aloadN X29.here hx rfl (hb hby at_58) rfl rfl ?_
        show Steps p.tables e below (T29.setTop (mkF m 59 #[.val (.int p1), .val (.int p2), .val (.ref w1), .val (.ref w1), .val (.int (0 : Int32)), .val (.int (1 : Int32)), .unset, .unset] [(.ref w1), (.ref w1)])) _
        refine st31.trans ?_
        show Steps p.tables e below (T31.setTop (mkF m 62 #[.val (.int p1), .val (.int p2), .val (.ref w1), .val (.ref w1), .val (.int (0 : Int32)), .val (.int (1 : Int32)), .unset, .unset] [(.int (1 : Int32))])) _
        refine XS.istore X31.here hx rfl (hb hby at_62) rfl (l' := #[.val (.int p1), .val (.int p2), .val (.ref w1), .val (.ref w1), .val (.int (0 : Int32)), .val (.int (1 : Int32)), .val (.int (1 : Int32)), .unset]) rfl ?_
        show Steps p.tables e below (T31.setTop (mkF m 64 #[.val (.int p1), .val (.int p2), .val (.ref w1), .val (.ref w1), .val (.int (0 : Int32)), .val (.int (1 : Int32)), .val (.int (1 : Int32)), .unset] [])) _
        refine XS.aloadN X31.here hx rfl (hb hby at_64) rfl rfl ?_
        show Steps p.tables e below (T31.setTop (mkF m 65 #[.val (.int p1), .val (.int p2), .val (.ref w1), .val (.ref w1), .val (.int (0 : Int32)), .val (.int (1 : Int32)), .val (.int (1 : Int32)), .unset] [(.ref w1)])) _
        refine XS.aloadN X31.here hx rfl (hb hby at_65) rfl rfl ?_
        show Steps p.tables e below (T31.setTop (mkF m 66 #[.val (.int p1), .val (.int p2), .val (.ref w1), .val (.ref w1), .val (.int (0 : Int32)), .val (.int (1 : Int32)), .val (.int (1 : Int32)), .unset] [(.ref w1), (.ref w1)])) _
        refine st35.trans ?_
        show Steps p.tables e below (T35.setTop (mkF m 69 #[.val (.int p1), .val (.int p2), .val (.ref w1), .val (.ref w1), .val (.int (0 : Int32)), .val (.int (1 : Int32)), .val (.int (1 : Int32)), .unset] [(.int (1 : Int32))])) _
        refine XS.istore X35.here hx rfl (hb hby at_69) rfl (l' := #[.val (.int p1), .val (.int p2), .val (.ref w1), .val (.ref w1), .val (.int (0 : Int32)), .val (.int (1 : Int32)), .val (.int (1 : Int32)), .val (.int (1 : Int32))]) rfl ?_
        show Steps p.tables e below (T35.setTop (mkF m 71 #[.val (.int p1), .val (.int p2), .val (.ref w1), .val (.ref w1), .val (.int (0 : Int32)), .val (.int (1 : Int32)), .val (.int (1 : Int32)), .val (.int (1 : Int32))] [])) _
        refine XS.iload X35.here hx rfl (hb hby at_71) rfl ?_
        show Steps p.tables e below (T35.setTop (mkF m 73 #[.val (.int p1), .val (.int p2), .val (.ref w1), .val (.ref w1), .val (.int (0 : Int32)), .val (.int (1 : Int32)), .val (.int (1 : Int32)), .val (.int (1 : Int32))] [(.int (1 : Int32))])) _
        refine XS.iload X35.here hx rfl (hb hby at_73) rfl ?_
        show Steps p.tables e below (T35.setTop (mkF m 75 #[.val (.int p1), .val (.int p2), .val (.ref w1), .val (.ref w1), .val (.int (0 : Int32)), .val (.int (1 : Int32)), .val (.int (1 : Int32)), .val (.int (1 : Int32))] [(.int (1 : Int32)), (.int (1 : Int32))])) _
        refine XS.icmpNo X35.here hx rfl (hb hby at_75) rfl (teq (by decide : (1 : Int32) = (1 : Int32))).2 ?_
        show Steps p.tables e below (T35.setTop (mkF m 78 #[.val (.int p1), .val (.int p2), .val (.ref w1), .val (.ref w1), .val (.int (0 : Int32)), .val (.int (1 : Int32)), .val (.int (1 : Int32)), .val (.int (1 : Int32))] [])) _
        refine XS.iload X35.here hx rfl (hb hby at_78) rfl ?_
        show Steps p.tables e below (T35.setTop (mkF m 80 #[.val (.int p1), .val (.int p2), .val (.ref w1), .val (.ref w1), .val (.int (0 : Int32)), .val (.int (1 : Int32)), .val (.int (1 : Int32)), .val (.int (1 : Int32))] [(.int (1 : Int32))])) _
        refine XS.iload X35.here hx rfl (hb hby at_80) rfl ?_
        show Steps p.tables e below (T35.setTop (mkF m 82 #[.val (.int p1), .val (.int p2), .val (.ref w1), .val (.ref w1), .val (.int (0 : Int32)), .val (.int (1 : Int32)), .val (.int (1 : Int32)), .val (.int (1 : Int32))] [(.int (1 : Int32)), (.int (1 : Int32))])) _
        refine XS.icmpNo X35.here hx rfl (hb hby at_82) rfl (teq (by decide : (1 : Int32) = (1 : Int32))).2 ?_
        show Steps p.tables e below (T35.setTop (mkF m 85 #[.val (.int p1), .val (.int p2), .val (.ref w1), .val (.ref w1), .val (.int (0 : Int32)), .val (.int (1 : Int32)), .val (.int (1 : Int32)), .val (.int (1 : Int32))] [])) _
        refine XS.iconst X35.here hx rfl (hb hby at_85) ?_
        show Steps p.tables e below (T35.setTop (mkF m 86 #[.val (.int p1), .val (.int p2), .val (.ref w1), .val (.ref w1), .val (.int (0 : Int32)), .val (.int (1 : Int32)), .val (.int (1 : Int32)), .val (.int (1 : Int32))] [(.int (1 : Int32))])) _
        refine XS.goto X35.here hx rfl (pc0 := 86) (pc' := 90) rfl (hb hby at_86) (by decide) (by decide) ?_
        show Steps p.tables e below (T35.setTop (mkF m 90 #[.val (.int p1), .val (.int p2), .val (.ref w1), .val (.ref w1), .val (.int (0 : Int32)), .val (.int (1 : Int32)), .val (.int (1 : Int32)), .val (.int (1 : Int32))] [(.int (1 : Int32))])) _
        exact retN X35 hx (t := .boolean) hret (by simp) (hb hby at_90) hr
      ·
        show Q0 n0 _ T35.heap _
        rw [e37]
        exact ⟨rfl, N35⟩
    ·
      have N14 := Fr.app N1 Nq21
      obtain ⟨T38, X38, e38, st38⟩ := getS2 X14 hx hZ hown (host := "") (Or.inl (hw _ (List.mem_of_getElem? (i := 5) rfl))) Via.refl e22 (S_w1.ext O0.2) (g := (mkF m 11 #[.val (.int p1), .val (.int p2), .val (.ref w1), .val (.ref w2), .unset, .unset, .unset, .unset] [(.ref w1)])) rfl (hb hby at_11)
      obtain ⟨T39, X39, e39, st39⟩ := getS2 X38 hx hZ hown (host := "") (Or.inl (hw _ (List.mem_of_getElem? (i := 8) rfl))) Via.refl e38 (S_w2.ext O0.2) (g := (mkF m 18 #[.val (.int p1), .val (.int p2), .val (.ref w1), .val (.ref w2), .unset, .unset, .unset, .unset] [(.ref w2)])) rfl (hb hby at_18)
      obtain ⟨cq40, kq40, q40a, q40b, q40c⟩ := isOf hZ e39 (E_w1.ext O0.2)
      obtain ⟨_, _, ⟨T41, L41, c41, n41⟩, -, X41, ⟨Lc41, hQ41, l41, y41, z41⟩, st41⟩ := X39.virtualBack hx (y := (⟨"com/example/vipo/vipo/flow/ConceptValue", "admits", "(Lcom/example/vipo/vipo/flow/ConceptValue;)Z"⟩ : MethodName)) (z := (⟨"com/example/vipo/vipo/flow/ConceptValue", "admits", "(Lcom/example/vipo/vipo/flow/ConceptValue;)Z"⟩ : MethodName)) hown (mvT hZ (hw _ (List.mem_of_getElem? (i := 10) rfl))) (mvT hZ (hw _ (List.mem_of_getElem? (i := 11) rfl))) (notFace_of_selects (args := #[]) (mvT hZ (hw _ (List.mem_of_getElem? (i := 13) rfl)))) (mvT hZ (hw _ (List.mem_of_getElem? (i := 13) rfl))) (mvT hZ (hw _ (List.mem_of_getElem? (i := 12) rfl))) (by decide) (backOf (W := 0) (rm3 l Z a0 hw w1 w2 w3 G []  h0 n0 O0 ) hZ (hw _ (List.mem_of_getElem? (i := 14) rfl)) (hw _ (List.mem_of_getElem? (i := 6) rfl)) (by decide) (by decide)) q40a q40c (g := (mkF m 59 #[.val (.int p1), .val (.int p2), .val (.ref w1), .val (.ref w2), .val (.int (1 : Int32)), .val (.int (0 : Int32)), .unset, .unset] [(.ref w2), (.ref w1)])) rfl (by rw [hml]; rfl) (Steps.refl _) (argsL := [(.ref w2)]) (rest := []) (lenOf pd1 rfl) rfl (by show 2 * 0 + _ ≤ _; exact Nat.le_of_eq rfl) (hb hby at_59) (fun _ _ => ⟨rfl, e39, (by decide : 0 + 0 ≤ _), (by decide : 0 + 0 ≤ _)⟩)
      dsimp only [Pt.U, Pt.locs, Pt.cells, Pt.slots] at X41 l41 y41 z41 st41 hQ41
      subst l41 y41 z41
      have X41 : Stand p l e room_1 s m #[(.int p1), (.int p2)] below meth c T41 _ 0 0 := X41
      obtain ⟨rfl, Nq42, e43⟩ := hQ41
      have N41 := Fr.app N14 Nq42
      obtain ⟨cq44, kq44, q44a, q44b, q44c⟩ := isOf hZ e43 (E_w2.ext O0.2)
      obtain ⟨_, _, ⟨T45, L45, c45, n45⟩, -, X45, ⟨Lc45, hQ45, l45, y45, z45⟩, st45⟩ := X41.virtualBack hx (y := (⟨"com/example/vipo/vipo/flow/ConceptValue", "admits", "(Lcom/example/vipo/vipo/flow/ConceptValue;)Z"⟩ : MethodName)) (z := (⟨"com/example/vipo/vipo/flow/ConceptValue", "admits", "(Lcom/example/vipo/vipo/flow/ConceptValue;)Z"⟩ : MethodName)) hown (mvT hZ (hw _ (List.mem_of_getElem? (i := 10) rfl))) (mvT hZ (hw _ (List.mem_of_getElem? (i := 11) rfl))) (notFace_of_selects (args := #[]) (mvT hZ (hw _ (List.mem_of_getElem? (i := 13) rfl)))) (mvT hZ (hw _ (List.mem_of_getElem? (i := 13) rfl))) (mvT hZ (hw _ (List.mem_of_getElem? (i := 12) rfl))) (by decide) (backOf (W := 0) (rm4 l Z a0 hw w1 w2 w3 G []  h0 n0 O0 ) hZ (hw _ (List.mem_of_getElem? (i := 14) rfl)) (hw _ (List.mem_of_getElem? (i := 6) rfl)) (by decide) (by decide)) q44a q44c (g := (mkF m 66 #[.val (.int p1), .val (.int p2), .val (.ref w1), .val (.ref w2), .val (.int (1 : Int32)), .val (.int (0 : Int32)), .val (.int (0 : Int32)), .unset] [(.ref w1), (.ref w2)])) rfl (by rw [hml]; rfl) (Steps.refl _) (argsL := [(.ref w1)]) (rest := []) (lenOf pd1 rfl) rfl (by show 2 * 0 + _ ≤ _; exact Nat.le_of_eq rfl) (hb hby at_66) (fun _ _ => ⟨rfl, e43, (by decide : 0 + 0 ≤ _), (by decide : 0 + 0 ≤ _)⟩)
      dsimp only [Pt.U, Pt.locs, Pt.cells, Pt.slots] at X45 l45 y45 z45 st45 hQ45
      subst l45 y45 z45
      have X45 : Stand p l e room_1 s m #[(.int p1), (.int p2)] below meth c T45 _ 0 0 := X45
      obtain ⟨rfl, Nq46, e47⟩ := hQ45
      have N45 := Fr.app N41 Nq46
      obtain ⟨fs, hr, hrun, hended, hW, hsame⟩ := X45.leave (v := some (.int (1 : Int32))) (fun h => by rw [hret] at h; cases h)
      refine ⟨_, _, pre15 _ ?_, hrun, hended, _, _, rfl, ?_, ⟨_, rfl⟩, hW, hsame.mono (by decide) (by decide)⟩
      ·
        show Steps p.tables e below (T1.setTop (mkF m 6 #[.val (.int p1), .val (.int p2), .val (.ref w1), .unset, .unset, .unset, .unset, .unset] [(.int p2)])) _
        refine st14 _ ?_
        show Steps p.tables e below (T14.setTop (mkF m 9 #[.val (.int p1), .val (.int p2), .val (.ref w1), .unset, .unset, .unset, .unset, .unset] [(.ref w2)])) _
        refine XS.astoreN X14.here hx rfl (hb hby at_9) rfl rfl (l' := #[.val (.int p1), .val (.int p2), .val (.ref w1), .val (.ref w2), .unset, .unset, .unset, .unset]) rfl ?_
        show Steps p.tables e below (T14.setTop (mkF m 10 #[.val (.int p1), .val (.int p2), .val (.ref w1), .val (.ref w2), .unset, .unset, .unset, .unset] [])) _
        refine XS.aloadN X14.here hx rfl (hb hby at_10) rfl rfl ?_
        show Steps p.tables e below (T14.setTop (mkF m 11 #[.val (.int p1), .val (.int p2), .val (.ref w1), .val (.ref w2), .unset, .unset, .unset, .unset] [(.ref w1)])) _
        refine st38 _ ?_
        show Steps p.tables e below (T38.setTop (mkF m 14 #[.val (.int p1), .val (.int p2), .val (.ref w1), .val (.ref w2), .unset, .unset, .unset, .unset] [(.ref w1), (.ref w1)])) _
        refine Jvm.RoadKit.acmp (g := (mkF m 14 #[.val (.int p1), .val (.int p2), .val (.ref w1), .val (.ref w2), .unset, .unset, .unset, .unset] [(.ref w1), (.ref w1)])) X38 hx rfl rfl rfl (pc0 := 14) (pc' := 17) (same := true) rfl (hb hby at_14) rfl (decide_eq_true rfl) (by decide) (by decide) ?_
        show Steps p.tables e below (T38.setTop (mkF m 17 #[.val (.int p1), .val (.int p2), .val (.ref w1), .val (.ref w2), .unset, .unset, .unset, .unset] [])) _
        refine XS.aloadN X38.here hx rfl (hb hby at_17) rfl rfl ?_
        show Steps p.tables e below (T38.setTop (mkF m 18 #[.val (.int p1), .val (.int p2), .val (.ref w1), .val (.ref w2), .unset, .unset, .unset, .unset] [(.ref w2)])) _
        refine st39 _ ?_
        show Steps p.tables e below (T39.setTop (mkF m 21 #[.val (.int p1), .val (.int p2), .val (.ref w1), .val (.ref w2), .unset, .unset, .unset, .unset] [(.ref w2), (.ref w2)])) _
        refine Jvm.RoadKit.acmp (g := (mkF m 21 #[.val (.int p1), .val (.int p2), .val (.ref w1), .val (.ref w2), .unset, .unset, .unset, .unset] [(.ref w2), (.ref w2)])) X39 hx rfl rfl rfl (pc0 := 21) (pc' := 38) (same := true) rfl (hb hby at_21) rfl (decide_eq_true rfl) (by decide) (by decide) ?_
        show Steps p.tables e below (T39.setTop (mkF m 38 #[.val (.int p1), .val (.int p2), .val (.ref w1), .val (.ref w2), .unset, .unset, .unset, .unset] [])) _
        refine XS.iconst X39.here hx rfl (hb hby at_38) ?_
        show Steps p.tables e below (T39.setTop (mkF m 39 #[.val (.int p1), .val (.int p2), .val (.ref w1), .val (.ref w2), .unset, .unset, .unset, .unset] [(.int (1 : Int32))])) _
        refine XS.goto X39.here hx rfl (pc0 := 39) (pc' := 43) rfl (hb hby at_39) (by decide) (by decide) ?_
        show Steps p.tables e below (T39.setTop (mkF m 43 #[.val (.int p1), .val (.int p2), .val (.ref w1), .val (.ref w2), .unset, .unset, .unset, .unset] [(.int (1 : Int32))])) _
        refine XS.istore X39.here hx rfl (hb hby at_43) rfl (l' := #[.val (.int p1), .val (.int p2), .val (.ref w1), .val (.ref w2), .val (.int (1 : Int32)), .unset, .unset, .unset]) rfl ?_
        show Steps p.tables e below (T39.setTop (mkF m 45 #[.val (.int p1), .val (.int p2), .val (.ref w1), .val (.ref w2), .val (.int (1 : Int32)), .unset, .unset, .unset] [])) _
        refine XS.iload X39.here hx rfl (hb hby at_45) rfl ?_
        show Steps p.tables e below (T39.setTop (mkF m 47 #[.val (.int p1), .val (.int p2), .val (.ref w1), .val (.ref w2), .val (.int (1 : Int32)), .unset, .unset, .unset] [(.int (1 : Int32))])) _
        refine XS.ifYes X39.here hx rfl (pc0 := 47) (pc' := 54) rfl (hb hby at_47) rfl ((if0 _ _).trans (feq (by decide : ¬ ((1 : Int32) = (0 : Int32)))).2) (by decide) (by decide) ?_
        show Steps p.tables e below (T39.setTop (mkF m 54 #[.val (.int p1), .val (.int p2), .val (.ref w1), .val (.ref w2), .val (.int (1 : Int32)), .unset, .unset, .unset] [])) _
        refine XS.iconst X39.here hx rfl (hb hby at_54) ?_
        show Steps p.tables e below (T39.setTop (mkF m 55 #[.val (.int p1), .val (.int p2), .val (.ref w1), .val (.ref w2), .val (.int (1 : Int32)), .unset, .unset, .unset] [(.int (0 : Int32))])) _
        refine XS.istore X39.here hx rfl (hb hby at_55) rfl (l' := #[.val (.int p1), .val (.int p2), .val (.ref w1), .val (.ref w2), .val (.int (1 : Int32)), .val (.int (0 : Int32)), .unset, .unset]) rfl ?_
        show Steps p.tables e below (T39.setTop (mkF m 57 #[.val (.int p1), .val (.int p2), .val (.ref w1), .val (.ref w2), .val (.int (1 : Int32)), .val (.int (0 : Int32)), .unset, .unset] [])) _
        refine XS.aloadN X39.here hx rfl (hb hby at_57) rfl rfl ?_
        show Steps p.tables e below (T39.setTop (mkF m 58 #[.val (.int p1), .val (.int p2), .val (.ref w1), .val (.ref w2), .val (.int (1 : Int32)), .val (.int (0 : Int32)), .unset, .unset] [(.ref w1)])) _
        refine XS.aloadN X39.here hx rfl (hb hby at_58) rfl rfl ?_
        show Steps p.tables e below (T39.setTop (mkF m 59 #[.val (.int p1), .val (.int p2), .val (.ref w1), .val (.ref w2), .val (.int (1 : Int32)), .val (.int (0 : Int32)), .unset, .unset] [(.ref w2), (.ref w1)])) _
        refine st41.trans ?_
        show Steps p.tables e below (T41.setTop (mkF m 62 #[.val (.int p1), .val (.int p2), .val (.ref w1), .val (.ref w2), .val (.int (1 : Int32)), .val (.int (0 : Int32)), .unset, .unset] [(.int (0 : Int32))])) _
        refine XS.istore X41.here hx rfl (hb hby at_62) rfl (l' := #[.val (.int p1), .val (.int p2), .val (.ref w1), .val (.ref w2), .val (.int (1 : Int32)), .val (.int (0 : Int32)), .val (.int (0 : Int32)), .unset]) rfl ?_
        show Steps p.tables e below (T41.setTop (mkF m 64 #[.val (.int p1), .val (.int p2), .val (.ref w1), .val (.ref w2), .val (.int (1 : Int32)), .val (.int (0 : Int32)), .val (.int (0 : Int32)), .unset] [])) _
        refine XS.aloadN X41.here hx rfl (hb hby at_64) rfl rfl ?_
        show Steps p.tables e below (T41.setTop (mkF m 65 #[.val (.int p1), .val (.int p2), .val (.ref w1), .val (.ref w2), .val (.int (1 : Int32)), .val (.int (0 : Int32)), .val (.int (0 : Int32)), .unset] [(.ref w2)])) _
        refine XS.aloadN X41.here hx rfl (hb hby at_65) rfl rfl ?_
        show Steps p.tables e below (T41.setTop (mkF m 66 #[.val (.int p1), .val (.int p2), .val (.ref w1), .val (.ref w2), .val (.int (1 : Int32)), .val (.int (0 : Int32)), .val (.int (0 : Int32)), .unset] [(.ref w1), (.ref w2)])) _
        refine st45.trans ?_
        show Steps p.tables e below (T45.setTop (mkF m 69 #[.val (.int p1), .val (.int p2), .val (.ref w1), .val (.ref w2), .val (.int (1 : Int32)), .val (.int (0 : Int32)), .val (.int (0 : Int32)), .unset] [(.int (0 : Int32))])) _
        refine XS.istore X45.here hx rfl (hb hby at_69) rfl (l' := #[.val (.int p1), .val (.int p2), .val (.ref w1), .val (.ref w2), .val (.int (1 : Int32)), .val (.int (0 : Int32)), .val (.int (0 : Int32)), .val (.int (0 : Int32))]) rfl ?_
        show Steps p.tables e below (T45.setTop (mkF m 71 #[.val (.int p1), .val (.int p2), .val (.ref w1), .val (.ref w2), .val (.int (1 : Int32)), .val (.int (0 : Int32)), .val (.int (0 : Int32)), .val (.int (0 : Int32))] [])) _
        refine XS.iload X45.here hx rfl (hb hby at_71) rfl ?_
        show Steps p.tables e below (T45.setTop (mkF m 73 #[.val (.int p1), .val (.int p2), .val (.ref w1), .val (.ref w2), .val (.int (1 : Int32)), .val (.int (0 : Int32)), .val (.int (0 : Int32)), .val (.int (0 : Int32))] [(.int (0 : Int32))])) _
        refine XS.iload X45.here hx rfl (hb hby at_73) rfl ?_
        show Steps p.tables e below (T45.setTop (mkF m 75 #[.val (.int p1), .val (.int p2), .val (.ref w1), .val (.ref w2), .val (.int (1 : Int32)), .val (.int (0 : Int32)), .val (.int (0 : Int32)), .val (.int (0 : Int32))] [(.int (0 : Int32)), (.int (0 : Int32))])) _
        refine XS.icmpNo X45.here hx rfl (hb hby at_75) rfl (teq (by decide : (0 : Int32) = (0 : Int32))).2 ?_
        show Steps p.tables e below (T45.setTop (mkF m 78 #[.val (.int p1), .val (.int p2), .val (.ref w1), .val (.ref w2), .val (.int (1 : Int32)), .val (.int (0 : Int32)), .val (.int (0 : Int32)), .val (.int (0 : Int32))] [])) _
        refine XS.iload X45.here hx rfl (hb hby at_78) rfl ?_
        show Steps p.tables e below (T45.setTop (mkF m 80 #[.val (.int p1), .val (.int p2), .val (.ref w1), .val (.ref w2), .val (.int (1 : Int32)), .val (.int (0 : Int32)), .val (.int (0 : Int32)), .val (.int (0 : Int32))] [(.int (0 : Int32))])) _
        refine XS.iload X45.here hx rfl (hb hby at_80) rfl ?_
        show Steps p.tables e below (T45.setTop (mkF m 82 #[.val (.int p1), .val (.int p2), .val (.ref w1), .val (.ref w2), .val (.int (1 : Int32)), .val (.int (0 : Int32)), .val (.int (0 : Int32)), .val (.int (0 : Int32))] [(.int (0 : Int32)), (.int (0 : Int32))])) _
        refine XS.icmpNo X45.here hx rfl (hb hby at_82) rfl (teq (by decide : (0 : Int32) = (0 : Int32))).2 ?_
        show Steps p.tables e below (T45.setTop (mkF m 85 #[.val (.int p1), .val (.int p2), .val (.ref w1), .val (.ref w2), .val (.int (1 : Int32)), .val (.int (0 : Int32)), .val (.int (0 : Int32)), .val (.int (0 : Int32))] [])) _
        refine XS.iconst X45.here hx rfl (hb hby at_85) ?_
        show Steps p.tables e below (T45.setTop (mkF m 86 #[.val (.int p1), .val (.int p2), .val (.ref w1), .val (.ref w2), .val (.int (1 : Int32)), .val (.int (0 : Int32)), .val (.int (0 : Int32)), .val (.int (0 : Int32))] [(.int (1 : Int32))])) _
        refine XS.goto X45.here hx rfl (pc0 := 86) (pc' := 90) rfl (hb hby at_86) (by decide) (by decide) ?_
        show Steps p.tables e below (T45.setTop (mkF m 90 #[.val (.int p1), .val (.int p2), .val (.ref w1), .val (.ref w2), .val (.int (1 : Int32)), .val (.int (0 : Int32)), .val (.int (0 : Int32)), .val (.int (0 : Int32))] [(.int (1 : Int32))])) _
        exact retN X45 hx (t := .boolean) hret (by simp) (hb hby at_90) hr
      ·
        show Q0 n0 _ T45.heap _
        rw [e47]
        exact ⟨rfl, N45⟩
    ·
      have N14 := Fr.app N1 Nq25
      obtain ⟨T48, X48, e48, st48⟩ := getS2 X14 hx hZ hown (host := "") (Or.inl (hw _ (List.mem_of_getElem? (i := 5) rfl))) Via.refl e26 (S_w1.ext O0.2) (g := (mkF m 11 #[.val (.int p1), .val (.int p2), .val (.ref w1), .val (.ref w3), .unset, .unset, .unset, .unset] [(.ref w1)])) rfl (hb hby at_11)
      obtain ⟨T49, X49, e49, st49⟩ := getS2 X48 hx hZ hown (host := "") (Or.inl (hw _ (List.mem_of_getElem? (i := 8) rfl))) Via.refl e48 (S_w2.ext O0.2) (g := (mkF m 18 #[.val (.int p1), .val (.int p2), .val (.ref w1), .val (.ref w3), .unset, .unset, .unset, .unset] [(.ref w3)])) rfl (hb hby at_18)
      obtain ⟨T50, X50, e50, st50⟩ := getS2 X49 hx hZ hown (host := "") (Or.inl (hw _ (List.mem_of_getElem? (i := 8) rfl))) Via.refl e49 (S_w2.ext O0.2) (g := (mkF m 25 #[.val (.int p1), .val (.int p2), .val (.ref w1), .val (.ref w3), .unset, .unset, .unset, .unset] [(.ref w1)])) rfl (hb hby at_25)
      obtain ⟨cq51, kq51, q51a, q51b, q51c⟩ := isOf hZ e50 (E_w1.ext O0.2)
      obtain ⟨_, _, ⟨T52, L52, c52, n52⟩, -, X52, ⟨Lc52, hQ52, l52, y52, z52⟩, st52⟩ := X50.virtualBack hx (y := (⟨"com/example/vipo/vipo/flow/ConceptValue", "admits", "(Lcom/example/vipo/vipo/flow/ConceptValue;)Z"⟩ : MethodName)) (z := (⟨"com/example/vipo/vipo/flow/ConceptValue", "admits", "(Lcom/example/vipo/vipo/flow/ConceptValue;)Z"⟩ : MethodName)) hown (mvT hZ (hw _ (List.mem_of_getElem? (i := 10) rfl))) (mvT hZ (hw _ (List.mem_of_getElem? (i := 11) rfl))) (notFace_of_selects (args := #[]) (mvT hZ (hw _ (List.mem_of_getElem? (i := 13) rfl)))) (mvT hZ (hw _ (List.mem_of_getElem? (i := 13) rfl))) (mvT hZ (hw _ (List.mem_of_getElem? (i := 12) rfl))) (by decide) (backOf (W := 0) (rm5 l Z a0 hw w1 w2 w3 G []  h0 n0 O0 ) hZ (hw _ (List.mem_of_getElem? (i := 14) rfl)) (hw _ (List.mem_of_getElem? (i := 6) rfl)) (by decide) (by decide)) q51a q51c (g := (mkF m 59 #[.val (.int p1), .val (.int p2), .val (.ref w1), .val (.ref w3), .val (.int (0 : Int32)), .val (.int (1 : Int32)), .unset, .unset] [(.ref w3), (.ref w1)])) rfl (by rw [hml]; rfl) (Steps.refl _) (argsL := [(.ref w3)]) (rest := []) (lenOf pd1 rfl) rfl (by show 2 * 0 + _ ≤ _; exact Nat.le_of_eq rfl) (hb hby at_59) (fun _ _ => ⟨rfl, e50, (by decide : 0 + 0 ≤ _), (by decide : 0 + 0 ≤ _)⟩)
      dsimp only [Pt.U, Pt.locs, Pt.cells, Pt.slots] at X52 l52 y52 z52 st52 hQ52
      subst l52 y52 z52
      have X52 : Stand p l e room_1 s m #[(.int p1), (.int p2)] below meth c T52 _ 0 0 := X52
      obtain ⟨rfl, Nq53, e54⟩ := hQ52
      have N52 := Fr.app N14 Nq53
      obtain ⟨cq55, kq55, q55a, q55b, q55c⟩ := isOf hZ e54 (E_w3.ext O0.2)
      obtain ⟨_, _, ⟨T56, L56, c56, n56⟩, -, X56, ⟨Lc56, hQ56, l56, y56, z56⟩, st56⟩ := X52.virtualBack hx (y := (⟨"com/example/vipo/vipo/flow/ConceptValue", "admits", "(Lcom/example/vipo/vipo/flow/ConceptValue;)Z"⟩ : MethodName)) (z := (⟨"com/example/vipo/vipo/flow/ConceptValue", "admits", "(Lcom/example/vipo/vipo/flow/ConceptValue;)Z"⟩ : MethodName)) hown (mvT hZ (hw _ (List.mem_of_getElem? (i := 10) rfl))) (mvT hZ (hw _ (List.mem_of_getElem? (i := 11) rfl))) (notFace_of_selects (args := #[]) (mvT hZ (hw _ (List.mem_of_getElem? (i := 13) rfl)))) (mvT hZ (hw _ (List.mem_of_getElem? (i := 13) rfl))) (mvT hZ (hw _ (List.mem_of_getElem? (i := 12) rfl))) (by decide) (backOf (W := 0) (rm6 l Z a0 hw w1 w2 w3 G []  h0 n0 O0 ) hZ (hw _ (List.mem_of_getElem? (i := 14) rfl)) (hw _ (List.mem_of_getElem? (i := 6) rfl)) (by decide) (by decide)) q55a q55c (g := (mkF m 66 #[.val (.int p1), .val (.int p2), .val (.ref w1), .val (.ref w3), .val (.int (0 : Int32)), .val (.int (1 : Int32)), .val (.int (1 : Int32)), .unset] [(.ref w1), (.ref w3)])) rfl (by rw [hml]; rfl) (Steps.refl _) (argsL := [(.ref w1)]) (rest := []) (lenOf pd1 rfl) rfl (by show 2 * 0 + _ ≤ _; exact Nat.le_of_eq rfl) (hb hby at_66) (fun _ _ => ⟨rfl, e54, (by decide : 0 + 0 ≤ _), (by decide : 0 + 0 ≤ _)⟩)
      dsimp only [Pt.U, Pt.locs, Pt.cells, Pt.slots] at X56 l56 y56 z56 st56 hQ56
      subst l56 y56 z56
      have X56 : Stand p l e room_1 s m #[(.int p1), (.int p2)] below meth c T56 _ 0 0 := X56
      obtain ⟨rfl, Nq57, e58⟩ := hQ56
      have N56 := Fr.app N52 Nq57
      obtain ⟨fs, hr, hrun, hended, hW, hsame⟩ := X56.leave (v := some (.int (1 : Int32))) (fun h => by rw [hret] at h; cases h)
      refine ⟨_, _, pre15 _ ?_, hrun, hended, _, _, rfl, ?_, ⟨_, rfl⟩, hW, hsame.mono (by decide) (by decide)⟩
      ·
        show Steps p.tables e below (T1.setTop (mkF m 6 #[.val (.int p1), .val (.int p2), .val (.ref w1), .unset, .unset, .unset, .unset, .unset] [(.int p2)])) _
        refine st14 _ ?_
        show Steps p.tables e below (T14.setTop (mkF m 9 #[.val (.int p1), .val (.int p2), .val (.ref w1), .unset, .unset, .unset, .unset, .unset] [(.ref w3)])) _
        refine XS.astoreN X14.here hx rfl (hb hby at_9) rfl rfl (l' := #[.val (.int p1), .val (.int p2), .val (.ref w1), .val (.ref w3), .unset, .unset, .unset, .unset]) rfl ?_
        show Steps p.tables e below (T14.setTop (mkF m 10 #[.val (.int p1), .val (.int p2), .val (.ref w1), .val (.ref w3), .unset, .unset, .unset, .unset] [])) _
        refine XS.aloadN X14.here hx rfl (hb hby at_10) rfl rfl ?_
        show Steps p.tables e below (T14.setTop (mkF m 11 #[.val (.int p1), .val (.int p2), .val (.ref w1), .val (.ref w3), .unset, .unset, .unset, .unset] [(.ref w1)])) _
        refine st48 _ ?_
        show Steps p.tables e below (T48.setTop (mkF m 14 #[.val (.int p1), .val (.int p2), .val (.ref w1), .val (.ref w3), .unset, .unset, .unset, .unset] [(.ref w1), (.ref w1)])) _
        refine Jvm.RoadKit.acmp (g := (mkF m 14 #[.val (.int p1), .val (.int p2), .val (.ref w1), .val (.ref w3), .unset, .unset, .unset, .unset] [(.ref w1), (.ref w1)])) X48 hx rfl rfl rfl (pc0 := 14) (pc' := 17) (same := true) rfl (hb hby at_14) rfl (decide_eq_true rfl) (by decide) (by decide) ?_
        show Steps p.tables e below (T48.setTop (mkF m 17 #[.val (.int p1), .val (.int p2), .val (.ref w1), .val (.ref w3), .unset, .unset, .unset, .unset] [])) _
        refine XS.aloadN X48.here hx rfl (hb hby at_17) rfl rfl ?_
        show Steps p.tables e below (T48.setTop (mkF m 18 #[.val (.int p1), .val (.int p2), .val (.ref w1), .val (.ref w3), .unset, .unset, .unset, .unset] [(.ref w3)])) _
        refine st49 _ ?_
        show Steps p.tables e below (T49.setTop (mkF m 21 #[.val (.int p1), .val (.int p2), .val (.ref w1), .val (.ref w3), .unset, .unset, .unset, .unset] [(.ref w2), (.ref w3)])) _
        refine Jvm.RoadKit.acmp (g := (mkF m 21 #[.val (.int p1), .val (.int p2), .val (.ref w1), .val (.ref w3), .unset, .unset, .unset, .unset] [(.ref w2), (.ref w3)])) X49 hx rfl rfl rfl (pc0 := 21) (pc' := 24) (same := false) rfl (hb hby at_21) rfl (decide_eq_false fun q => (Fld.ne F_w3_ordinal F_w2_ordinal (by decide)) (Value.ref.inj q)) (by decide) (by decide) ?_
        show Steps p.tables e below (T49.setTop (mkF m 24 #[.val (.int p1), .val (.int p2), .val (.ref w1), .val (.ref w3), .unset, .unset, .unset, .unset] [])) _
        refine XS.aloadN X49.here hx rfl (hb hby at_24) rfl rfl ?_
        show Steps p.tables e below (T49.setTop (mkF m 25 #[.val (.int p1), .val (.int p2), .val (.ref w1), .val (.ref w3), .unset, .unset, .unset, .unset] [(.ref w1)])) _
        refine st50 _ ?_
        show Steps p.tables e below (T50.setTop (mkF m 28 #[.val (.int p1), .val (.int p2), .val (.ref w1), .val (.ref w3), .unset, .unset, .unset, .unset] [(.ref w2), (.ref w1)])) _
        refine Jvm.RoadKit.acmp (g := (mkF m 28 #[.val (.int p1), .val (.int p2), .val (.ref w1), .val (.ref w3), .unset, .unset, .unset, .unset] [(.ref w2), (.ref w1)])) X50 hx rfl rfl rfl (pc0 := 28) (pc' := 42) (same := false) rfl (hb hby at_28) rfl (decide_eq_false fun q => (Fld.ne F_w1_ordinal F_w2_ordinal (by decide)) (Value.ref.inj q)) (by decide) (by decide) ?_
        show Steps p.tables e below (T50.setTop (mkF m 42 #[.val (.int p1), .val (.int p2), .val (.ref w1), .val (.ref w3), .unset, .unset, .unset, .unset] [])) _
        refine XS.iconst X50.here hx rfl (hb hby at_42) ?_
        show Steps p.tables e below (T50.setTop (mkF m 43 #[.val (.int p1), .val (.int p2), .val (.ref w1), .val (.ref w3), .unset, .unset, .unset, .unset] [(.int (0 : Int32))])) _
        refine XS.istore X50.here hx rfl (hb hby at_43) rfl (l' := #[.val (.int p1), .val (.int p2), .val (.ref w1), .val (.ref w3), .val (.int (0 : Int32)), .unset, .unset, .unset]) rfl ?_
        show Steps p.tables e below (T50.setTop (mkF m 45 #[.val (.int p1), .val (.int p2), .val (.ref w1), .val (.ref w3), .val (.int (0 : Int32)), .unset, .unset, .unset] [])) _
        refine XS.iload X50.here hx rfl (hb hby at_45) rfl ?_
        show Steps p.tables e below (T50.setTop (mkF m 47 #[.val (.int p1), .val (.int p2), .val (.ref w1), .val (.ref w3), .val (.int (0 : Int32)), .unset, .unset, .unset] [(.int (0 : Int32))])) _
        refine XS.ifNo X50.here hx rfl (hb hby at_47) rfl ((if0 _ _).trans (teq (by decide : (0 : Int32) = (0 : Int32))).2) ?_
        show Steps p.tables e below (T50.setTop (mkF m 50 #[.val (.int p1), .val (.int p2), .val (.ref w1), .val (.ref w3), .val (.int (0 : Int32)), .unset, .unset, .unset] [])) _
        refine XS.iconst X50.here hx rfl (hb hby at_50) ?_
        show Steps p.tables e below (T50.setTop (mkF m 51 #[.val (.int p1), .val (.int p2), .val (.ref w1), .val (.ref w3), .val (.int (0 : Int32)), .unset, .unset, .unset] [(.int (1 : Int32))])) _
        refine XS.goto X50.here hx rfl (pc0 := 51) (pc' := 55) rfl (hb hby at_51) (by decide) (by decide) ?_
        show Steps p.tables e below (T50.setTop (mkF m 55 #[.val (.int p1), .val (.int p2), .val (.ref w1), .val (.ref w3), .val (.int (0 : Int32)), .unset, .unset, .unset] [(.int (1 : Int32))])) _
        refine XS.istore X50.here hx rfl (hb hby at_55) rfl (l' := #[.val (.int p1), .val (.int p2), .val (.ref w1), .val (.ref w3), .val (.int (0 : Int32)), .val (.int (1 : Int32)), .unset, .unset]) rfl ?_
        show Steps p.tables e below (T50.setTop (mkF m 57 #[.val (.int p1), .val (.int p2), .val (.ref w1), .val (.ref w3), .val (.int (0 : Int32)), .val (.int (1 : Int32)), .unset, .unset] [])) _
        refine XS.aloadN X50.here hx rfl (hb hby at_57) rfl rfl ?_
        show Steps p.tables e below (T50.setTop (mkF m 58 #[.val (.int p1), .val (.int p2), .val (.ref w1), .val (.ref w3), .val (.int (0 : Int32)), .val (.int (1 : Int32)), .unset, .unset] [(.ref w1)])) _
        refine XS.aloadN X50.here hx rfl (hb hby at_58) rfl rfl ?_
        show Steps p.tables e below (T50.setTop (mkF m 59 #[.val (.int p1), .val (.int p2), .val (.ref w1), .val (.ref w3), .val (.int (0 : Int32)), .val (.int (1 : Int32)), .unset, .unset] [(.ref w3), (.ref w1)])) _
        refine st52.trans ?_
        show Steps p.tables e below (T52.setTop (mkF m 62 #[.val (.int p1), .val (.int p2), .val (.ref w1), .val (.ref w3), .val (.int (0 : Int32)), .val (.int (1 : Int32)), .unset, .unset] [(.int (1 : Int32))])) _
        refine XS.istore X52.here hx rfl (hb hby at_62) rfl (l' := #[.val (.int p1), .val (.int p2), .val (.ref w1), .val (.ref w3), .val (.int (0 : Int32)), .val (.int (1 : Int32)), .val (.int (1 : Int32)), .unset]) rfl ?_
        show Steps p.tables e below (T52.setTop (mkF m 64 #[.val (.int p1), .val (.int p2), .val (.ref w1), .val (.ref w3), .val (.int (0 : Int32)), .val (.int (1 : Int32)), .val (.int (1 : Int32)), .unset] [])) _
        refine XS.aloadN X52.here hx rfl (hb hby at_64) rfl rfl ?_
        show Steps p.tables e below (T52.setTop (mkF m 65 #[.val (.int p1), .val (.int p2), .val (.ref w1), .val (.ref w3), .val (.int (0 : Int32)), .val (.int (1 : Int32)), .val (.int (1 : Int32)), .unset] [(.ref w3)])) _
        refine XS.aloadN X52.here hx rfl (hb hby at_65) rfl rfl ?_
        show Steps p.tables e below (T52.setTop (mkF m 66 #[.val (.int p1), .val (.int p2), .val (.ref w1), .val (.ref w3), .val (.int (0 : Int32)), .val (.int (1 : Int32)), .val (.int (1 : Int32)), .unset] [(.ref w1), (.ref w3)])) _
        refine st56.trans ?_
        show Steps p.tables e below (T56.setTop (mkF m 69 #[.val (.int p1), .val (.int p2), .val (.ref w1), .val (.ref w3), .val (.int (0 : Int32)), .val (.int (1 : Int32)), .val (.int (1 : Int32)), .unset] [(.int (1 : Int32))])) _
        refine XS.istore X56.here hx rfl (hb hby at_69) rfl (l' := #[.val (.int p1), .val (.int p2), .val (.ref w1), .val (.ref w3), .val (.int (0 : Int32)), .val (.int (1 : Int32)), .val (.int (1 : Int32)), .val (.int (1 : Int32))]) rfl ?_
        show Steps p.tables e below (T56.setTop (mkF m 71 #[.val (.int p1), .val (.int p2), .val (.ref w1), .val (.ref w3), .val (.int (0 : Int32)), .val (.int (1 : Int32)), .val (.int (1 : Int32)), .val (.int (1 : Int32))] [])) _
        refine XS.iload X56.here hx rfl (hb hby at_71) rfl ?_
        show Steps p.tables e below (T56.setTop (mkF m 73 #[.val (.int p1), .val (.int p2), .val (.ref w1), .val (.ref w3), .val (.int (0 : Int32)), .val (.int (1 : Int32)), .val (.int (1 : Int32)), .val (.int (1 : Int32))] [(.int (1 : Int32))])) _
        refine XS.iload X56.here hx rfl (hb hby at_73) rfl ?_
        show Steps p.tables e below (T56.setTop (mkF m 75 #[.val (.int p1), .val (.int p2), .val (.ref w1), .val (.ref w3), .val (.int (0 : Int32)), .val (.int (1 : Int32)), .val (.int (1 : Int32)), .val (.int (1 : Int32))] [(.int (1 : Int32)), (.int (1 : Int32))])) _
        refine XS.icmpNo X56.here hx rfl (hb hby at_75) rfl (teq (by decide : (1 : Int32) = (1 : Int32))).2 ?_
        show Steps p.tables e below (T56.setTop (mkF m 78 #[.val (.int p1), .val (.int p2), .val (.ref w1), .val (.ref w3), .val (.int (0 : Int32)), .val (.int (1 : Int32)), .val (.int (1 : Int32)), .val (.int (1 : Int32))] [])) _
        refine XS.iload X56.here hx rfl (hb hby at_78) rfl ?_
        show Steps p.tables e below (T56.setTop (mkF m 80 #[.val (.int p1), .val (.int p2), .val (.ref w1), .val (.ref w3), .val (.int (0 : Int32)), .val (.int (1 : Int32)), .val (.int (1 : Int32)), .val (.int (1 : Int32))] [(.int (1 : Int32))])) _
        refine XS.iload X56.here hx rfl (hb hby at_80) rfl ?_
        show Steps p.tables e below (T56.setTop (mkF m 82 #[.val (.int p1), .val (.int p2), .val (.ref w1), .val (.ref w3), .val (.int (0 : Int32)), .val (.int (1 : Int32)), .val (.int (1 : Int32)), .val (.int (1 : Int32))] [(.int (1 : Int32)), (.int (1 : Int32))])) _
        refine XS.icmpNo X56.here hx rfl (hb hby at_82) rfl (teq (by decide : (1 : Int32) = (1 : Int32))).2 ?_
        show Steps p.tables e below (T56.setTop (mkF m 85 #[.val (.int p1), .val (.int p2), .val (.ref w1), .val (.ref w3), .val (.int (0 : Int32)), .val (.int (1 : Int32)), .val (.int (1 : Int32)), .val (.int (1 : Int32))] [])) _
        refine XS.iconst X56.here hx rfl (hb hby at_85) ?_
        show Steps p.tables e below (T56.setTop (mkF m 86 #[.val (.int p1), .val (.int p2), .val (.ref w1), .val (.ref w3), .val (.int (0 : Int32)), .val (.int (1 : Int32)), .val (.int (1 : Int32)), .val (.int (1 : Int32))] [(.int (1 : Int32))])) _
        refine XS.goto X56.here hx rfl (pc0 := 86) (pc' := 90) rfl (hb hby at_86) (by decide) (by decide) ?_
        show Steps p.tables e below (T56.setTop (mkF m 90 #[.val (.int p1), .val (.int p2), .val (.ref w1), .val (.ref w3), .val (.int (0 : Int32)), .val (.int (1 : Int32)), .val (.int (1 : Int32)), .val (.int (1 : Int32))] [(.int (1 : Int32))])) _
        exact retN X56 hx (t := .boolean) hret (by simp) (hb hby at_90) hr
      ·
        show Q0 n0 _ T56.heap _
        rw [e58]
        exact ⟨rfl, N56⟩
  ·
    have N1 := Fr.app N0 Nq8
    obtain ⟨_, _, ⟨T59, L59, c59, n59⟩, -, X59, ⟨Lc59, hQ59, l59, y59, z59⟩, st59⟩ := Jvm.LawKit.callS X1 hx (y := (⟨"com/example/vipo/vipo/flow/ConceptValueAdmitsPinLaw", "pick", "(I)Lcom/example/vipo/vipo/flow/ConceptValue;"⟩ : MethodName)) hown (mvT hZ (hw _ (List.mem_of_getElem? (i := 0) rfl))) (mvT hZ (hw _ (List.mem_of_getElem? (i := 1) rfl))) (mvT hZ (hw _ (List.mem_of_getElem? (i := 2) rfl))) (mvT hZ (hw _ (List.mem_of_getElem? (i := 3) rfl))) (by decide) (backOf (W := 0) (rm1 l Z a0 hw w1 w2 w3 G [] p2 h0 n0 O0 ) hZ (hw _ (List.mem_of_getElem? (i := 3) rfl)) (hw _ (List.mem_of_getElem? (i := 2) rfl)) (by decide) (by decide)) (g := (mkF m 6 #[.val (.int p1), .val (.int p2), .val (.ref w2), .unset, .unset, .unset, .unset, .unset] [(.int p2)])) rfl (by rw [hml]; rfl) (argsL := [(.int p2)]) (rest := []) (lenOf pd0 rfl) rfl (by show 2 * 0 + _ ≤ _; exact Nat.le_of_eq rfl) (hb hby at_6) (fun _ _ => ⟨rfl, e9, (by decide : 0 + 0 ≤ _), (by decide : 0 + 0 ≤ _)⟩)
    dsimp only [Pt.U, Pt.locs, Pt.cells, Pt.slots] at X59 l59 y59 z59 st59 hQ59
    subst l59 y59 z59
    have pre60 : ∀ t, Steps p.tables e below (T1.setTop (mkF m 6 #[.val (.int p1), .val (.int p2), .val (.ref w2), .unset, .unset, .unset, .unset, .unset] [(.int p2)])) t → Steps p.tables e below (s₁.setTop (entryFrame m #[(.int p1), (.int p2)] maxLocals)) t := fun t k => by
      refine pre2 _ ?_
      show Steps p.tables e below (s₁.setTop (mkF m 1 #[.val (.int p1), .val (.int p2), .unset, .unset, .unset, .unset, .unset, .unset] [(.int p1)])) _
      refine st1 _ ?_
      show Steps p.tables e below (T1.setTop (mkF m 4 #[.val (.int p1), .val (.int p2), .unset, .unset, .unset, .unset, .unset, .unset] [(.ref w2)])) _
      refine XS.astoreN X1.here hx rfl (hb hby at_4) rfl rfl (l' := #[.val (.int p1), .val (.int p2), .val (.ref w2), .unset, .unset, .unset, .unset, .unset]) rfl ?_
      show Steps p.tables e below (T1.setTop (mkF m 5 #[.val (.int p1), .val (.int p2), .val (.ref w2), .unset, .unset, .unset, .unset, .unset] [])) _
      refine XS.iloadN X1.here hx rfl (hb hby at_5) rfl ?_
      exact k
    have X59 : Stand p l e room_1 s m #[(.int p1), (.int p2)] below meth c T59 _ 0 0 := X59
    rcases hQ59 with ⟨hc61, rfl, Nq62, e63⟩ | ⟨hc64, hc65, rfl, Nq66, e67⟩ | ⟨hc68, hc69, rfl, Nq70, e71⟩
    ·
      have N59 := Fr.app N1 Nq62
      obtain ⟨T72, X72, e72, st72⟩ := getS2 X59 hx hZ hown (host := "") (Or.inl (hw _ (List.mem_of_getElem? (i := 5) rfl))) Via.refl e63 (S_w1.ext O0.2) (g := (mkF m 11 #[.val (.int p1), .val (.int p2), .val (.ref w2), .val (.ref w1), .unset, .unset, .unset, .unset] [(.ref w2)])) rfl (hb hby at_11)
      obtain ⟨T73, X73, e73, st73⟩ := getS2 X72 hx hZ hown (host := "") (Or.inl (hw _ (List.mem_of_getElem? (i := 8) rfl))) Via.refl e72 (S_w2.ext O0.2) (g := (mkF m 25 #[.val (.int p1), .val (.int p2), .val (.ref w2), .val (.ref w1), .unset, .unset, .unset, .unset] [(.ref w2)])) rfl (hb hby at_25)
      obtain ⟨T74, X74, e74, st74⟩ := getS2 X73 hx hZ hown (host := "") (Or.inl (hw _ (List.mem_of_getElem? (i := 5) rfl))) Via.refl e73 (S_w1.ext O0.2) (g := (mkF m 32 #[.val (.int p1), .val (.int p2), .val (.ref w2), .val (.ref w1), .unset, .unset, .unset, .unset] [(.ref w1)])) rfl (hb hby at_32)
      obtain ⟨cq75, kq75, q75a, q75b, q75c⟩ := isOf hZ e74 (E_w2.ext O0.2)
      obtain ⟨_, _, ⟨T76, L76, c76, n76⟩, -, X76, ⟨Lc76, hQ76, l76, y76, z76⟩, st76⟩ := X74.virtualBack hx (y := (⟨"com/example/vipo/vipo/flow/ConceptValue", "admits", "(Lcom/example/vipo/vipo/flow/ConceptValue;)Z"⟩ : MethodName)) (z := (⟨"com/example/vipo/vipo/flow/ConceptValue", "admits", "(Lcom/example/vipo/vipo/flow/ConceptValue;)Z"⟩ : MethodName)) hown (mvT hZ (hw _ (List.mem_of_getElem? (i := 10) rfl))) (mvT hZ (hw _ (List.mem_of_getElem? (i := 11) rfl))) (notFace_of_selects (args := #[]) (mvT hZ (hw _ (List.mem_of_getElem? (i := 13) rfl)))) (mvT hZ (hw _ (List.mem_of_getElem? (i := 13) rfl))) (mvT hZ (hw _ (List.mem_of_getElem? (i := 12) rfl))) (by decide) (backOf (W := 0) (rm4 l Z a0 hw w1 w2 w3 G []  h0 n0 O0 ) hZ (hw _ (List.mem_of_getElem? (i := 14) rfl)) (hw _ (List.mem_of_getElem? (i := 6) rfl)) (by decide) (by decide)) q75a q75c (g := (mkF m 59 #[.val (.int p1), .val (.int p2), .val (.ref w2), .val (.ref w1), .val (.int (1 : Int32)), .val (.int (0 : Int32)), .unset, .unset] [(.ref w1), (.ref w2)])) rfl (by rw [hml]; rfl) (Steps.refl _) (argsL := [(.ref w1)]) (rest := []) (lenOf pd1 rfl) rfl (by show 2 * 0 + _ ≤ _; exact Nat.le_of_eq rfl) (hb hby at_59) (fun _ _ => ⟨rfl, e74, (by decide : 0 + 0 ≤ _), (by decide : 0 + 0 ≤ _)⟩)
      dsimp only [Pt.U, Pt.locs, Pt.cells, Pt.slots] at X76 l76 y76 z76 st76 hQ76
      subst l76 y76 z76
      have X76 : Stand p l e room_1 s m #[(.int p1), (.int p2)] below meth c T76 _ 0 0 := X76
      obtain ⟨rfl, Nq77, e78⟩ := hQ76
      have N76 := Fr.app N59 Nq77
      obtain ⟨cq79, kq79, q79a, q79b, q79c⟩ := isOf hZ e78 (E_w1.ext O0.2)
      obtain ⟨_, _, ⟨T80, L80, c80, n80⟩, -, X80, ⟨Lc80, hQ80, l80, y80, z80⟩, st80⟩ := X76.virtualBack hx (y := (⟨"com/example/vipo/vipo/flow/ConceptValue", "admits", "(Lcom/example/vipo/vipo/flow/ConceptValue;)Z"⟩ : MethodName)) (z := (⟨"com/example/vipo/vipo/flow/ConceptValue", "admits", "(Lcom/example/vipo/vipo/flow/ConceptValue;)Z"⟩ : MethodName)) hown (mvT hZ (hw _ (List.mem_of_getElem? (i := 10) rfl))) (mvT hZ (hw _ (List.mem_of_getElem? (i := 11) rfl))) (notFace_of_selects (args := #[]) (mvT hZ (hw _ (List.mem_of_getElem? (i := 13) rfl)))) (mvT hZ (hw _ (List.mem_of_getElem? (i := 13) rfl))) (mvT hZ (hw _ (List.mem_of_getElem? (i := 12) rfl))) (by decide) (backOf (W := 0) (rm3 l Z a0 hw w1 w2 w3 G []  h0 n0 O0 ) hZ (hw _ (List.mem_of_getElem? (i := 14) rfl)) (hw _ (List.mem_of_getElem? (i := 6) rfl)) (by decide) (by decide)) q79a q79c (g := (mkF m 66 #[.val (.int p1), .val (.int p2), .val (.ref w2), .val (.ref w1), .val (.int (1 : Int32)), .val (.int (0 : Int32)), .val (.int (0 : Int32)), .unset] [(.ref w2), (.ref w1)])) rfl (by rw [hml]; rfl) (Steps.refl _) (argsL := [(.ref w2)]) (rest := []) (lenOf pd1 rfl) rfl (by show 2 * 0 + _ ≤ _; exact Nat.le_of_eq rfl) (hb hby at_66) (fun _ _ => ⟨rfl, e78, (by decide : 0 + 0 ≤ _), (by decide : 0 + 0 ≤ _)⟩)
      dsimp only [Pt.U, Pt.locs, Pt.cells, Pt.slots] at X80 l80 y80 z80 st80 hQ80
      subst l80 y80 z80
      have X80 : Stand p l e room_1 s m #[(.int p1), (.int p2)] below meth c T80 _ 0 0 := X80
      obtain ⟨rfl, Nq81, e82⟩ := hQ80
      have N80 := Fr.app N76 Nq81
      obtain ⟨fs, hr, hrun, hended, hW, hsame⟩ := X80.leave (v := some (.int (1 : Int32))) (fun h => by rw [hret] at h; cases h)
      refine ⟨_, _, pre60 _ ?_, hrun, hended, _, _, rfl, ?_, ⟨_, rfl⟩, hW, hsame.mono (by decide) (by decide)⟩
      ·
        show Steps p.tables e below (T1.setTop (mkF m 6 #[.val (.int p1), .val (.int p2), .val (.ref w2), .unset, .unset, .unset, .unset, .unset] [(.int p2)])) _
        refine st59 _ ?_
        show Steps p.tables e below (T59.setTop (mkF m 9 #[.val (.int p1), .val (.int p2), .val (.ref w2), .unset, .unset, .unset, .unset, .unset] [(.ref w1)])) _
        refine XS.astoreN X59.here hx rfl (hb hby at_9) rfl rfl (l' := #[.val (.int p1), .val (.int p2), .val (.ref w2), .val (.ref w1), .unset, .unset, .unset, .unset]) rfl ?_
        show Steps p.tables e below (T59.setTop (mkF m 10 #[.val (.int p1), .val (.int p2), .val (.ref w2), .val (.ref w1), .unset, .unset, .unset, .unset] [])) _
        refine XS.aloadN X59.here hx rfl (hb hby at_10) rfl rfl ?_
        show Steps p.tables e below (T59.setTop (mkF m 11 #[.val (.int p1), .val (.int p2), .val (.ref w2), .val (.ref w1), .unset, .unset, .unset, .unset] [(.ref w2)])) _
        refine st72 _ ?_
        show Steps p.tables e below (T72.setTop (mkF m 14 #[.val (.int p1), .val (.int p2), .val (.ref w2), .val (.ref w1), .unset, .unset, .unset, .unset] [(.ref w1), (.ref w2)])) _
        refine Jvm.RoadKit.acmp (g := (mkF m 14 #[.val (.int p1), .val (.int p2), .val (.ref w2), .val (.ref w1), .unset, .unset, .unset, .unset] [(.ref w1), (.ref w2)])) X72 hx rfl rfl rfl (pc0 := 14) (pc' := 24) (same := false) rfl (hb hby at_14) rfl (decide_eq_false fun q => (Fld.ne F_w2_ordinal F_w1_ordinal (by decide)) (Value.ref.inj q)) (by decide) (by decide) ?_
        show Steps p.tables e below (T72.setTop (mkF m 24 #[.val (.int p1), .val (.int p2), .val (.ref w2), .val (.ref w1), .unset, .unset, .unset, .unset] [])) _
        refine XS.aloadN X72.here hx rfl (hb hby at_24) rfl rfl ?_
        show Steps p.tables e below (T72.setTop (mkF m 25 #[.val (.int p1), .val (.int p2), .val (.ref w2), .val (.ref w1), .unset, .unset, .unset, .unset] [(.ref w2)])) _
        refine st73 _ ?_
        show Steps p.tables e below (T73.setTop (mkF m 28 #[.val (.int p1), .val (.int p2), .val (.ref w2), .val (.ref w1), .unset, .unset, .unset, .unset] [(.ref w2), (.ref w2)])) _
        refine Jvm.RoadKit.acmp (g := (mkF m 28 #[.val (.int p1), .val (.int p2), .val (.ref w2), .val (.ref w1), .unset, .unset, .unset, .unset] [(.ref w2), (.ref w2)])) X73 hx rfl rfl rfl (pc0 := 28) (pc' := 31) (same := true) rfl (hb hby at_28) rfl (decide_eq_true rfl) (by decide) (by decide) ?_
        show Steps p.tables e below (T73.setTop (mkF m 31 #[.val (.int p1), .val (.int p2), .val (.ref w2), .val (.ref w1), .unset, .unset, .unset, .unset] [])) _
        refine XS.aloadN X73.here hx rfl (hb hby at_31) rfl rfl ?_
        show Steps p.tables e below (T73.setTop (mkF m 32 #[.val (.int p1), .val (.int p2), .val (.ref w2), .val (.ref w1), .unset, .unset, .unset, .unset] [(.ref w1)])) _
        refine st74 _ ?_
        show Steps p.tables e below (T74.setTop (mkF m 35 #[.val (.int p1), .val (.int p2), .val (.ref w2), .val (.ref w1), .unset, .unset, .unset, .unset] [(.ref w1), (.ref w1)])) _
        refine Jvm.RoadKit.acmp (g := (mkF m 35 #[.val (.int p1), .val (.int p2), .val (.ref w2), .val (.ref w1), .unset, .unset, .unset, .unset] [(.ref w1), (.ref w1)])) X74 hx rfl rfl rfl (pc0 := 35) (pc' := 38) (same := true) rfl (hb hby at_35) rfl (decide_eq_true rfl) (by decide) (by decide) ?_
        show Steps p.tables e below (T74.setTop (mkF m 38 #[.val (.int p1), .val (.int p2), .val (.ref w2), .val (.ref w1), .unset, .unset, .unset, .unset] [])) _
        refine XS.iconst X74.here hx rfl (hb hby at_38) ?_
        show Steps p.tables e below (T74.setTop (mkF m 39 #[.val (.int p1), .val (.int p2), .val (.ref w2), .val (.ref w1), .unset, .unset, .unset, .unset] [(.int (1 : Int32))])) _
        refine XS.goto X74.here hx rfl (pc0 := 39) (pc' := 43) rfl (hb hby at_39) (by decide) (by decide) ?_
        show Steps p.tables e below (T74.setTop (mkF m 43 #[.val (.int p1), .val (.int p2), .val (.ref w2), .val (.ref w1), .unset, .unset, .unset, .unset] [(.int (1 : Int32))])) _
        refine XS.istore X74.here hx rfl (hb hby at_43) rfl (l' := #[.val (.int p1), .val (.int p2), .val (.ref w2), .val (.ref w1), .val (.int (1 : Int32)), .unset, .unset, .unset]) rfl ?_
        show Steps p.tables e below (T74.setTop (mkF m 45 #[.val (.int p1), .val (.int p2), .val (.ref w2), .val (.ref w1), .val (.int (1 : Int32)), .unset, .unset, .unset] [])) _
        refine XS.iload X74.here hx rfl (hb hby at_45) rfl ?_
        show Steps p.tables e below (T74.setTop (mkF m 47 #[.val (.int p1), .val (.int p2), .val (.ref w2), .val (.ref w1), .val (.int (1 : Int32)), .unset, .unset, .unset] [(.int (1 : Int32))])) _
        refine XS.ifYes X74.here hx rfl (pc0 := 47) (pc' := 54) rfl (hb hby at_47) rfl ((if0 _ _).trans (feq (by decide : ¬ ((1 : Int32) = (0 : Int32)))).2) (by decide) (by decide) ?_
        show Steps p.tables e below (T74.setTop (mkF m 54 #[.val (.int p1), .val (.int p2), .val (.ref w2), .val (.ref w1), .val (.int (1 : Int32)), .unset, .unset, .unset] [])) _
        refine XS.iconst X74.here hx rfl (hb hby at_54) ?_
        show Steps p.tables e below (T74.setTop (mkF m 55 #[.val (.int p1), .val (.int p2), .val (.ref w2), .val (.ref w1), .val (.int (1 : Int32)), .unset, .unset, .unset] [(.int (0 : Int32))])) _
        refine XS.istore X74.here hx rfl (hb hby at_55) rfl (l' := #[.val (.int p1), .val (.int p2), .val (.ref w2), .val (.ref w1), .val (.int (1 : Int32)), .val (.int (0 : Int32)), .unset, .unset]) rfl ?_
        show Steps p.tables e below (T74.setTop (mkF m 57 #[.val (.int p1), .val (.int p2), .val (.ref w2), .val (.ref w1), .val (.int (1 : Int32)), .val (.int (0 : Int32)), .unset, .unset] [])) _
        refine XS.aloadN X74.here hx rfl (hb hby at_57) rfl rfl ?_
        show Steps p.tables e below (T74.setTop (mkF m 58 #[.val (.int p1), .val (.int p2), .val (.ref w2), .val (.ref w1), .val (.int (1 : Int32)), .val (.int (0 : Int32)), .unset, .unset] [(.ref w2)])) _
        refine XS.aloadN X74.here hx rfl (hb hby at_58) rfl rfl ?_
        show Steps p.tables e below (T74.setTop (mkF m 59 #[.val (.int p1), .val (.int p2), .val (.ref w2), .val (.ref w1), .val (.int (1 : Int32)), .val (.int (0 : Int32)), .unset, .unset] [(.ref w1), (.ref w2)])) _
        refine st76.trans ?_
        show Steps p.tables e below (T76.setTop (mkF m 62 #[.val (.int p1), .val (.int p2), .val (.ref w2), .val (.ref w1), .val (.int (1 : Int32)), .val (.int (0 : Int32)), .unset, .unset] [(.int (0 : Int32))])) _
        refine XS.istore X76.here hx rfl (hb hby at_62) rfl (l' := #[.val (.int p1), .val (.int p2), .val (.ref w2), .val (.ref w1), .val (.int (1 : Int32)), .val (.int (0 : Int32)), .val (.int (0 : Int32)), .unset]) rfl ?_
        show Steps p.tables e below (T76.setTop (mkF m 64 #[.val (.int p1), .val (.int p2), .val (.ref w2), .val (.ref w1), .val (.int (1 : Int32)), .val (.int (0 : Int32)), .val (.int (0 : Int32)), .unset] [])) _
        refine XS.aloadN X76.here hx rfl (hb hby at_64) rfl rfl ?_
        show Steps p.tables e below (T76.setTop (mkF m 65 #[.val (.int p1), .val (.int p2), .val (.ref w2), .val (.ref w1), .val (.int (1 : Int32)), .val (.int (0 : Int32)), .val (.int (0 : Int32)), .unset] [(.ref w1)])) _
        refine XS.aloadN X76.here hx rfl (hb hby at_65) rfl rfl ?_
        show Steps p.tables e below (T76.setTop (mkF m 66 #[.val (.int p1), .val (.int p2), .val (.ref w2), .val (.ref w1), .val (.int (1 : Int32)), .val (.int (0 : Int32)), .val (.int (0 : Int32)), .unset] [(.ref w2), (.ref w1)])) _
        refine st80.trans ?_
        show Steps p.tables e below (T80.setTop (mkF m 69 #[.val (.int p1), .val (.int p2), .val (.ref w2), .val (.ref w1), .val (.int (1 : Int32)), .val (.int (0 : Int32)), .val (.int (0 : Int32)), .unset] [(.int (0 : Int32))])) _
        refine XS.istore X80.here hx rfl (hb hby at_69) rfl (l' := #[.val (.int p1), .val (.int p2), .val (.ref w2), .val (.ref w1), .val (.int (1 : Int32)), .val (.int (0 : Int32)), .val (.int (0 : Int32)), .val (.int (0 : Int32))]) rfl ?_
        show Steps p.tables e below (T80.setTop (mkF m 71 #[.val (.int p1), .val (.int p2), .val (.ref w2), .val (.ref w1), .val (.int (1 : Int32)), .val (.int (0 : Int32)), .val (.int (0 : Int32)), .val (.int (0 : Int32))] [])) _
        refine XS.iload X80.here hx rfl (hb hby at_71) rfl ?_
        show Steps p.tables e below (T80.setTop (mkF m 73 #[.val (.int p1), .val (.int p2), .val (.ref w2), .val (.ref w1), .val (.int (1 : Int32)), .val (.int (0 : Int32)), .val (.int (0 : Int32)), .val (.int (0 : Int32))] [(.int (0 : Int32))])) _
        refine XS.iload X80.here hx rfl (hb hby at_73) rfl ?_
        show Steps p.tables e below (T80.setTop (mkF m 75 #[.val (.int p1), .val (.int p2), .val (.ref w2), .val (.ref w1), .val (.int (1 : Int32)), .val (.int (0 : Int32)), .val (.int (0 : Int32)), .val (.int (0 : Int32))] [(.int (0 : Int32)), (.int (0 : Int32))])) _
        refine XS.icmpNo X80.here hx rfl (hb hby at_75) rfl (teq (by decide : (0 : Int32) = (0 : Int32))).2 ?_
        show Steps p.tables e below (T80.setTop (mkF m 78 #[.val (.int p1), .val (.int p2), .val (.ref w2), .val (.ref w1), .val (.int (1 : Int32)), .val (.int (0 : Int32)), .val (.int (0 : Int32)), .val (.int (0 : Int32))] [])) _
        refine XS.iload X80.here hx rfl (hb hby at_78) rfl ?_
        show Steps p.tables e below (T80.setTop (mkF m 80 #[.val (.int p1), .val (.int p2), .val (.ref w2), .val (.ref w1), .val (.int (1 : Int32)), .val (.int (0 : Int32)), .val (.int (0 : Int32)), .val (.int (0 : Int32))] [(.int (0 : Int32))])) _
        refine XS.iload X80.here hx rfl (hb hby at_80) rfl ?_
        show Steps p.tables e below (T80.setTop (mkF m 82 #[.val (.int p1), .val (.int p2), .val (.ref w2), .val (.ref w1), .val (.int (1 : Int32)), .val (.int (0 : Int32)), .val (.int (0 : Int32)), .val (.int (0 : Int32))] [(.int (0 : Int32)), (.int (0 : Int32))])) _
        refine XS.icmpNo X80.here hx rfl (hb hby at_82) rfl (teq (by decide : (0 : Int32) = (0 : Int32))).2 ?_
        show Steps p.tables e below (T80.setTop (mkF m 85 #[.val (.int p1), .val (.int p2), .val (.ref w2), .val (.ref w1), .val (.int (1 : Int32)), .val (.int (0 : Int32)), .val (.int (0 : Int32)), .val (.int (0 : Int32))] [])) _
        refine XS.iconst X80.here hx rfl (hb hby at_85) ?_
        show Steps p.tables e below (T80.setTop (mkF m 86 #[.val (.int p1), .val (.int p2), .val (.ref w2), .val (.ref w1), .val (.int (1 : Int32)), .val (.int (0 : Int32)), .val (.int (0 : Int32)), .val (.int (0 : Int32))] [(.int (1 : Int32))])) _
        refine XS.goto X80.here hx rfl (pc0 := 86) (pc' := 90) rfl (hb hby at_86) (by decide) (by decide) ?_
        show Steps p.tables e below (T80.setTop (mkF m 90 #[.val (.int p1), .val (.int p2), .val (.ref w2), .val (.ref w1), .val (.int (1 : Int32)), .val (.int (0 : Int32)), .val (.int (0 : Int32)), .val (.int (0 : Int32))] [(.int (1 : Int32))])) _
        exact retN X80 hx (t := .boolean) hret (by simp) (hb hby at_90) hr
      ·
        show Q0 n0 _ T80.heap _
        rw [e82]
        exact ⟨rfl, N80⟩
    ·
      have N59 := Fr.app N1 Nq66
      obtain ⟨T83, X83, e83, st83⟩ := getS2 X59 hx hZ hown (host := "") (Or.inl (hw _ (List.mem_of_getElem? (i := 5) rfl))) Via.refl e67 (S_w1.ext O0.2) (g := (mkF m 11 #[.val (.int p1), .val (.int p2), .val (.ref w2), .val (.ref w2), .unset, .unset, .unset, .unset] [(.ref w2)])) rfl (hb hby at_11)
      obtain ⟨T84, X84, e84, st84⟩ := getS2 X83 hx hZ hown (host := "") (Or.inl (hw _ (List.mem_of_getElem? (i := 8) rfl))) Via.refl e83 (S_w2.ext O0.2) (g := (mkF m 25 #[.val (.int p1), .val (.int p2), .val (.ref w2), .val (.ref w2), .unset, .unset, .unset, .unset] [(.ref w2)])) rfl (hb hby at_25)
      obtain ⟨T85, X85, e85, st85⟩ := getS2 X84 hx hZ hown (host := "") (Or.inl (hw _ (List.mem_of_getElem? (i := 5) rfl))) Via.refl e84 (S_w1.ext O0.2) (g := (mkF m 32 #[.val (.int p1), .val (.int p2), .val (.ref w2), .val (.ref w2), .unset, .unset, .unset, .unset] [(.ref w2)])) rfl (hb hby at_32)
      obtain ⟨cq86, kq86, q86a, q86b, q86c⟩ := isOf hZ e85 (E_w2.ext O0.2)
      obtain ⟨_, _, ⟨T87, L87, c87, n87⟩, -, X87, ⟨Lc87, hQ87, l87, y87, z87⟩, st87⟩ := X85.virtualBack hx (y := (⟨"com/example/vipo/vipo/flow/ConceptValue", "admits", "(Lcom/example/vipo/vipo/flow/ConceptValue;)Z"⟩ : MethodName)) (z := (⟨"com/example/vipo/vipo/flow/ConceptValue", "admits", "(Lcom/example/vipo/vipo/flow/ConceptValue;)Z"⟩ : MethodName)) hown (mvT hZ (hw _ (List.mem_of_getElem? (i := 10) rfl))) (mvT hZ (hw _ (List.mem_of_getElem? (i := 11) rfl))) (notFace_of_selects (args := #[]) (mvT hZ (hw _ (List.mem_of_getElem? (i := 13) rfl)))) (mvT hZ (hw _ (List.mem_of_getElem? (i := 13) rfl))) (mvT hZ (hw _ (List.mem_of_getElem? (i := 12) rfl))) (by decide) (backOf (W := 0) (rm7 l Z a0 hw w1 w2 w3 G []  h0 n0 O0 ) hZ (hw _ (List.mem_of_getElem? (i := 14) rfl)) (hw _ (List.mem_of_getElem? (i := 6) rfl)) (by decide) (by decide)) q86a q86c (g := (mkF m 59 #[.val (.int p1), .val (.int p2), .val (.ref w2), .val (.ref w2), .val (.int (0 : Int32)), .val (.int (1 : Int32)), .unset, .unset] [(.ref w2), (.ref w2)])) rfl (by rw [hml]; rfl) (Steps.refl _) (argsL := [(.ref w2)]) (rest := []) (lenOf pd1 rfl) rfl (by show 2 * 0 + _ ≤ _; exact Nat.le_of_eq rfl) (hb hby at_59) (fun _ _ => ⟨rfl, e85, (by decide : 0 + 0 ≤ _), (by decide : 0 + 0 ≤ _)⟩)
      dsimp only [Pt.U, Pt.locs, Pt.cells, Pt.slots] at X87 l87 y87 z87 st87 hQ87
      subst l87 y87 z87
      have X87 : Stand p l e room_1 s m #[(.int p1), (.int p2)] below meth c T87 _ 0 0 := X87
      obtain ⟨rfl, Nq88, e89⟩ := hQ87
      have N87 := Fr.app N59 Nq88
      obtain ⟨cq90, kq90, q90a, q90b, q90c⟩ := isOf hZ e89 (E_w2.ext O0.2)
      obtain ⟨_, _, ⟨T91, L91, c91, n91⟩, -, X91, ⟨Lc91, hQ91, l91, y91, z91⟩, st91⟩ := X87.virtualBack hx (y := (⟨"com/example/vipo/vipo/flow/ConceptValue", "admits", "(Lcom/example/vipo/vipo/flow/ConceptValue;)Z"⟩ : MethodName)) (z := (⟨"com/example/vipo/vipo/flow/ConceptValue", "admits", "(Lcom/example/vipo/vipo/flow/ConceptValue;)Z"⟩ : MethodName)) hown (mvT hZ (hw _ (List.mem_of_getElem? (i := 10) rfl))) (mvT hZ (hw _ (List.mem_of_getElem? (i := 11) rfl))) (notFace_of_selects (args := #[]) (mvT hZ (hw _ (List.mem_of_getElem? (i := 13) rfl)))) (mvT hZ (hw _ (List.mem_of_getElem? (i := 13) rfl))) (mvT hZ (hw _ (List.mem_of_getElem? (i := 12) rfl))) (by decide) (backOf (W := 0) (rm7 l Z a0 hw w1 w2 w3 G []  h0 n0 O0 ) hZ (hw _ (List.mem_of_getElem? (i := 14) rfl)) (hw _ (List.mem_of_getElem? (i := 6) rfl)) (by decide) (by decide)) q90a q90c (g := (mkF m 66 #[.val (.int p1), .val (.int p2), .val (.ref w2), .val (.ref w2), .val (.int (0 : Int32)), .val (.int (1 : Int32)), .val (.int (1 : Int32)), .unset] [(.ref w2), (.ref w2)])) rfl (by rw [hml]; rfl) (Steps.refl _) (argsL := [(.ref w2)]) (rest := []) (lenOf pd1 rfl) rfl (by show 2 * 0 + _ ≤ _; exact Nat.le_of_eq rfl) (hb hby at_66) (fun _ _ => ⟨rfl, e89, (by decide : 0 + 0 ≤ _), (by decide : 0 + 0 ≤ _)⟩)
      dsimp only [Pt.U, Pt.locs, Pt.cells, Pt.slots] at X91 l91 y91 z91 st91 hQ91
      subst l91 y91 z91
      have X91 : Stand p l e room_1 s m #[(.int p1), (.int p2)] below meth c T91 _ 0 0 := X91
      obtain ⟨rfl, Nq92, e93⟩ := hQ91
      have N91 := Fr.app N87 Nq92
      obtain ⟨fs, hr, hrun, hended, hW, hsame⟩ := X91.leave (v := some (.int (1 : Int32))) (fun h => by rw [hret] at h; cases h)
      refine ⟨_, _, pre60 _ ?_, hrun, hended, _, _, rfl, ?_, ⟨_, rfl⟩, hW, hsame.mono (by decide) (by decide)⟩
      ·
        show Steps p.tables e below (T1.setTop (mkF m 6 #[.val (.int p1), .val (.int p2), .val (.ref w2), .unset, .unset, .unset, .unset, .unset] [(.int p2)])) _
        refine st59 _ ?_
        show Steps p.tables e below (T59.setTop (mkF m 9 #[.val (.int p1), .val (.int p2), .val (.ref w2), .unset, .unset, .unset, .unset, .unset] [(.ref w2)])) _
        refine XS.astoreN X59.here hx rfl (hb hby at_9) rfl rfl (l' := #[.val (.int p1), .val (.int p2), .val (.ref w2), .val (.ref w2), .unset, .unset, .unset, .unset]) rfl ?_
        show Steps p.tables e below (T59.setTop (mkF m 10 #[.val (.int p1), .val (.int p2), .val (.ref w2), .val (.ref w2), .unset, .unset, .unset, .unset] [])) _
        refine XS.aloadN X59.here hx rfl (hb hby at_10) rfl rfl ?_
        show Steps p.tables e below (T59.setTop (mkF m 11 #[.val (.int p1), .val (.int p2), .val (.ref w2), .val (.ref w2), .unset, .unset, .unset, .unset] [(.ref w2)])) _
        refine st83 _ ?_
        show Steps p.tables e below (T83.setTop (mkF m 14 #[.val (.int p1), .val (.int p2), .val (.ref w2), .val (.ref w2), .unset, .unset, .unset, .unset] [(.ref w1), (.ref w2)])) _
        refine Jvm.RoadKit.acmp (g := (mkF m 14 #[.val (.int p1), .val (.int p2), .val (.ref w2), .val (.ref w2), .unset, .unset, .unset, .unset] [(.ref w1), (.ref w2)])) X83 hx rfl rfl rfl (pc0 := 14) (pc' := 24) (same := false) rfl (hb hby at_14) rfl (decide_eq_false fun q => (Fld.ne F_w2_ordinal F_w1_ordinal (by decide)) (Value.ref.inj q)) (by decide) (by decide) ?_
        show Steps p.tables e below (T83.setTop (mkF m 24 #[.val (.int p1), .val (.int p2), .val (.ref w2), .val (.ref w2), .unset, .unset, .unset, .unset] [])) _
        refine XS.aloadN X83.here hx rfl (hb hby at_24) rfl rfl ?_
        show Steps p.tables e below (T83.setTop (mkF m 25 #[.val (.int p1), .val (.int p2), .val (.ref w2), .val (.ref w2), .unset, .unset, .unset, .unset] [(.ref w2)])) _
        refine st84 _ ?_
        show Steps p.tables e below (T84.setTop (mkF m 28 #[.val (.int p1), .val (.int p2), .val (.ref w2), .val (.ref w2), .unset, .unset, .unset, .unset] [(.ref w2), (.ref w2)])) _
        refine Jvm.RoadKit.acmp (g := (mkF m 28 #[.val (.int p1), .val (.int p2), .val (.ref w2), .val (.ref w2), .unset, .unset, .unset, .unset] [(.ref w2), (.ref w2)])) X84 hx rfl rfl rfl (pc0 := 28) (pc' := 31) (same := true) rfl (hb hby at_28) rfl (decide_eq_true rfl) (by decide) (by decide) ?_
        show Steps p.tables e below (T84.setTop (mkF m 31 #[.val (.int p1), .val (.int p2), .val (.ref w2), .val (.ref w2), .unset, .unset, .unset, .unset] [])) _
        refine XS.aloadN X84.here hx rfl (hb hby at_31) rfl rfl ?_
        show Steps p.tables e below (T84.setTop (mkF m 32 #[.val (.int p1), .val (.int p2), .val (.ref w2), .val (.ref w2), .unset, .unset, .unset, .unset] [(.ref w2)])) _
        refine st85 _ ?_
        show Steps p.tables e below (T85.setTop (mkF m 35 #[.val (.int p1), .val (.int p2), .val (.ref w2), .val (.ref w2), .unset, .unset, .unset, .unset] [(.ref w1), (.ref w2)])) _
        refine Jvm.RoadKit.acmp (g := (mkF m 35 #[.val (.int p1), .val (.int p2), .val (.ref w2), .val (.ref w2), .unset, .unset, .unset, .unset] [(.ref w1), (.ref w2)])) X85 hx rfl rfl rfl (pc0 := 35) (pc' := 42) (same := false) rfl (hb hby at_35) rfl (decide_eq_false fun q => (Fld.ne F_w2_ordinal F_w1_ordinal (by decide)) (Value.ref.inj q)) (by decide) (by decide) ?_
        show Steps p.tables e below (T85.setTop (mkF m 42 #[.val (.int p1), .val (.int p2), .val (.ref w2), .val (.ref w2), .unset, .unset, .unset, .unset] [])) _
        refine XS.iconst X85.here hx rfl (hb hby at_42) ?_
        show Steps p.tables e below (T85.setTop (mkF m 43 #[.val (.int p1), .val (.int p2), .val (.ref w2), .val (.ref w2), .unset, .unset, .unset, .unset] [(.int (0 : Int32))])) _
        refine XS.istore X85.here hx rfl (hb hby at_43) rfl (l' := #[.val (.int p1), .val (.int p2), .val (.ref w2), .val (.ref w2), .val (.int (0 : Int32)), .unset, .unset, .unset]) rfl ?_
        show Steps p.tables e below (T85.setTop (mkF m 45 #[.val (.int p1), .val (.int p2), .val (.ref w2), .val (.ref w2), .val (.int (0 : Int32)), .unset, .unset, .unset] [])) _
        refine XS.iload X85.here hx rfl (hb hby at_45) rfl ?_
        show Steps p.tables e below (T85.setTop (mkF m 47 #[.val (.int p1), .val (.int p2), .val (.ref w2), .val (.ref w2), .val (.int (0 : Int32)), .unset, .unset, .unset] [(.int (0 : Int32))])) _
        refine XS.ifNo X85.here hx rfl (hb hby at_47) rfl ((if0 _ _).trans (teq (by decide : (0 : Int32) = (0 : Int32))).2) ?_
        show Steps p.tables e below (T85.setTop (mkF m 50 #[.val (.int p1), .val (.int p2), .val (.ref w2), .val (.ref w2), .val (.int (0 : Int32)), .unset, .unset, .unset] [])) _
        refine XS.iconst X85.here hx rfl (hb hby at_50) ?_
        show Steps p.tables e below (T85.setTop (mkF m 51 #[.val (.int p1), .val (.int p2), .val (.ref w2), .val (.ref w2), .val (.int (0 : Int32)), .unset, .unset, .unset] [(.int (1 : Int32))])) _
        refine XS.goto X85.here hx rfl (pc0 := 51) (pc' := 55) rfl (hb hby at_51) (by decide) (by decide) ?_
        show Steps p.tables e below (T85.setTop (mkF m 55 #[.val (.int p1), .val (.int p2), .val (.ref w2), .val (.ref w2), .val (.int (0 : Int32)), .unset, .unset, .unset] [(.int (1 : Int32))])) _
        refine XS.istore X85.here hx rfl (hb hby at_55) rfl (l' := #[.val (.int p1), .val (.int p2), .val (.ref w2), .val (.ref w2), .val (.int (0 : Int32)), .val (.int (1 : Int32)), .unset, .unset]) rfl ?_
        show Steps p.tables e below (T85.setTop (mkF m 57 #[.val (.int p1), .val (.int p2), .val (.ref w2), .val (.ref w2), .val (.int (0 : Int32)), .val (.int (1 : Int32)), .unset, .unset] [])) _
        refine XS.aloadN X85.here hx rfl (hb hby at_57) rfl rfl ?_
        show Steps p.tables e below (T85.setTop (mkF m 58 #[.val (.int p1), .val (.int p2), .val (.ref w2), .val (.ref w2), .val (.int (0 : Int32)), .val (.int (1 : Int32)), .unset, .unset] [(.ref w2)])) _
        refine XS.aloadN X85.here hx rfl (hb hby at_58) rfl rfl ?_
        show Steps p.tables e below (T85.setTop (mkF m 59 #[.val (.int p1), .val (.int p2), .val (.ref w2), .val (.ref w2), .val (.int (0 : Int32)), .val (.int (1 : Int32)), .unset, .unset] [(.ref w2), (.ref w2)])) _
        refine st87.trans ?_
        show Steps p.tables e below (T87.setTop (mkF m 62 #[.val (.int p1), .val (.int p2), .val (.ref w2), .val (.ref w2), .val (.int (0 : Int32)), .val (.int (1 : Int32)), .unset, .unset] [(.int (1 : Int32))])) _
        refine XS.istore X87.here hx rfl (hb hby at_62) rfl (l' := #[.val (.int p1), .val (.int p2), .val (.ref w2), .val (.ref w2), .val (.int (0 : Int32)), .val (.int (1 : Int32)), .val (.int (1 : Int32)), .unset]) rfl ?_
        show Steps p.tables e below (T87.setTop (mkF m 64 #[.val (.int p1), .val (.int p2), .val (.ref w2), .val (.ref w2), .val (.int (0 : Int32)), .val (.int (1 : Int32)), .val (.int (1 : Int32)), .unset] [])) _
        refine XS.aloadN X87.here hx rfl (hb hby at_64) rfl rfl ?_
        show Steps p.tables e below (T87.setTop (mkF m 65 #[.val (.int p1), .val (.int p2), .val (.ref w2), .val (.ref w2), .val (.int (0 : Int32)), .val (.int (1 : Int32)), .val (.int (1 : Int32)), .unset] [(.ref w2)])) _
        refine XS.aloadN X87.here hx rfl (hb hby at_65) rfl rfl ?_
        show Steps p.tables e below (T87.setTop (mkF m 66 #[.val (.int p1), .val (.int p2), .val (.ref w2), .val (.ref w2), .val (.int (0 : Int32)), .val (.int (1 : Int32)), .val (.int (1 : Int32)), .unset] [(.ref w2), (.ref w2)])) _
        refine st91.trans ?_
        show Steps p.tables e below (T91.setTop (mkF m 69 #[.val (.int p1), .val (.int p2), .val (.ref w2), .val (.ref w2), .val (.int (0 : Int32)), .val (.int (1 : Int32)), .val (.int (1 : Int32)), .unset] [(.int (1 : Int32))])) _
        refine XS.istore X91.here hx rfl (hb hby at_69) rfl (l' := #[.val (.int p1), .val (.int p2), .val (.ref w2), .val (.ref w2), .val (.int (0 : Int32)), .val (.int (1 : Int32)), .val (.int (1 : Int32)), .val (.int (1 : Int32))]) rfl ?_
        show Steps p.tables e below (T91.setTop (mkF m 71 #[.val (.int p1), .val (.int p2), .val (.ref w2), .val (.ref w2), .val (.int (0 : Int32)), .val (.int (1 : Int32)), .val (.int (1 : Int32)), .val (.int (1 : Int32))] [])) _
        refine XS.iload X91.here hx rfl (hb hby at_71) rfl ?_
        show Steps p.tables e below (T91.setTop (mkF m 73 #[.val (.int p1), .val (.int p2), .val (.ref w2), .val (.ref w2), .val (.int (0 : Int32)), .val (.int (1 : Int32)), .val (.int (1 : Int32)), .val (.int (1 : Int32))] [(.int (1 : Int32))])) _
        refine XS.iload X91.here hx rfl (hb hby at_73) rfl ?_
        show Steps p.tables e below (T91.setTop (mkF m 75 #[.val (.int p1), .val (.int p2), .val (.ref w2), .val (.ref w2), .val (.int (0 : Int32)), .val (.int (1 : Int32)), .val (.int (1 : Int32)), .val (.int (1 : Int32))] [(.int (1 : Int32)), (.int (1 : Int32))])) _
        refine XS.icmpNo X91.here hx rfl (hb hby at_75) rfl (teq (by decide : (1 : Int32) = (1 : Int32))).2 ?_
        show Steps p.tables e below (T91.setTop (mkF m 78 #[.val (.int p1), .val (.int p2), .val (.ref w2), .val (.ref w2), .val (.int (0 : Int32)), .val (.int (1 : Int32)), .val (.int (1 : Int32)), .val (.int (1 : Int32))] [])) _
        refine XS.iload X91.here hx rfl (hb hby at_78) rfl ?_
        show Steps p.tables e below (T91.setTop (mkF m 80 #[.val (.int p1), .val (.int p2), .val (.ref w2), .val (.ref w2), .val (.int (0 : Int32)), .val (.int (1 : Int32)), .val (.int (1 : Int32)), .val (.int (1 : Int32))] [(.int (1 : Int32))])) _
        refine XS.iload X91.here hx rfl (hb hby at_80) rfl ?_
        show Steps p.tables e below (T91.setTop (mkF m 82 #[.val (.int p1), .val (.int p2), .val (.ref w2), .val (.ref w2), .val (.int (0 : Int32)), .val (.int (1 : Int32)), .val (.int (1 : Int32)), .val (.int (1 : Int32))] [(.int (1 : Int32)), (.int (1 : Int32))])) _
        refine XS.icmpNo X91.here hx rfl (hb hby at_82) rfl (teq (by decide : (1 : Int32) = (1 : Int32))).2 ?_
        show Steps p.tables e below (T91.setTop (mkF m 85 #[.val (.int p1), .val (.int p2), .val (.ref w2), .val (.ref w2), .val (.int (0 : Int32)), .val (.int (1 : Int32)), .val (.int (1 : Int32)), .val (.int (1 : Int32))] [])) _
        refine XS.iconst X91.here hx rfl (hb hby at_85) ?_
        show Steps p.tables e below (T91.setTop (mkF m 86 #[.val (.int p1), .val (.int p2), .val (.ref w2), .val (.ref w2), .val (.int (0 : Int32)), .val (.int (1 : Int32)), .val (.int (1 : Int32)), .val (.int (1 : Int32))] [(.int (1 : Int32))])) _
        refine XS.goto X91.here hx rfl (pc0 := 86) (pc' := 90) rfl (hb hby at_86) (by decide) (by decide) ?_
        show Steps p.tables e below (T91.setTop (mkF m 90 #[.val (.int p1), .val (.int p2), .val (.ref w2), .val (.ref w2), .val (.int (0 : Int32)), .val (.int (1 : Int32)), .val (.int (1 : Int32)), .val (.int (1 : Int32))] [(.int (1 : Int32))])) _
        exact retN X91 hx (t := .boolean) hret (by simp) (hb hby at_90) hr
      ·
        show Q0 n0 _ T91.heap _
        rw [e93]
        exact ⟨rfl, N91⟩
    ·
      have N59 := Fr.app N1 Nq70
      obtain ⟨T94, X94, e94, st94⟩ := getS2 X59 hx hZ hown (host := "") (Or.inl (hw _ (List.mem_of_getElem? (i := 5) rfl))) Via.refl e71 (S_w1.ext O0.2) (g := (mkF m 11 #[.val (.int p1), .val (.int p2), .val (.ref w2), .val (.ref w3), .unset, .unset, .unset, .unset] [(.ref w2)])) rfl (hb hby at_11)
      obtain ⟨T95, X95, e95, st95⟩ := getS2 X94 hx hZ hown (host := "") (Or.inl (hw _ (List.mem_of_getElem? (i := 8) rfl))) Via.refl e94 (S_w2.ext O0.2) (g := (mkF m 25 #[.val (.int p1), .val (.int p2), .val (.ref w2), .val (.ref w3), .unset, .unset, .unset, .unset] [(.ref w2)])) rfl (hb hby at_25)
      obtain ⟨T96, X96, e96, st96⟩ := getS2 X95 hx hZ hown (host := "") (Or.inl (hw _ (List.mem_of_getElem? (i := 5) rfl))) Via.refl e95 (S_w1.ext O0.2) (g := (mkF m 32 #[.val (.int p1), .val (.int p2), .val (.ref w2), .val (.ref w3), .unset, .unset, .unset, .unset] [(.ref w3)])) rfl (hb hby at_32)
      obtain ⟨cq97, kq97, q97a, q97b, q97c⟩ := isOf hZ e96 (E_w2.ext O0.2)
      obtain ⟨_, _, ⟨T98, L98, c98, n98⟩, -, X98, ⟨Lc98, hQ98, l98, y98, z98⟩, st98⟩ := X96.virtualBack hx (y := (⟨"com/example/vipo/vipo/flow/ConceptValue", "admits", "(Lcom/example/vipo/vipo/flow/ConceptValue;)Z"⟩ : MethodName)) (z := (⟨"com/example/vipo/vipo/flow/ConceptValue", "admits", "(Lcom/example/vipo/vipo/flow/ConceptValue;)Z"⟩ : MethodName)) hown (mvT hZ (hw _ (List.mem_of_getElem? (i := 10) rfl))) (mvT hZ (hw _ (List.mem_of_getElem? (i := 11) rfl))) (notFace_of_selects (args := #[]) (mvT hZ (hw _ (List.mem_of_getElem? (i := 13) rfl)))) (mvT hZ (hw _ (List.mem_of_getElem? (i := 13) rfl))) (mvT hZ (hw _ (List.mem_of_getElem? (i := 12) rfl))) (by decide) (backOf (W := 0) (rm8 l Z a0 hw w1 w2 w3 G []  h0 n0 O0 ) hZ (hw _ (List.mem_of_getElem? (i := 14) rfl)) (hw _ (List.mem_of_getElem? (i := 6) rfl)) (by decide) (by decide)) q97a q97c (g := (mkF m 59 #[.val (.int p1), .val (.int p2), .val (.ref w2), .val (.ref w3), .val (.int (0 : Int32)), .val (.int (1 : Int32)), .unset, .unset] [(.ref w3), (.ref w2)])) rfl (by rw [hml]; rfl) (Steps.refl _) (argsL := [(.ref w3)]) (rest := []) (lenOf pd1 rfl) rfl (by show 2 * 0 + _ ≤ _; exact Nat.le_of_eq rfl) (hb hby at_59) (fun _ _ => ⟨rfl, e96, (by decide : 0 + 0 ≤ _), (by decide : 0 + 0 ≤ _)⟩)
      dsimp only [Pt.U, Pt.locs, Pt.cells, Pt.slots] at X98 l98 y98 z98 st98 hQ98
      subst l98 y98 z98
      have X98 : Stand p l e room_1 s m #[(.int p1), (.int p2)] below meth c T98 _ 0 0 := X98
      obtain ⟨rfl, Nq99, e100⟩ := hQ98
      have N98 := Fr.app N59 Nq99
      obtain ⟨cq101, kq101, q101a, q101b, q101c⟩ := isOf hZ e100 (E_w3.ext O0.2)
      obtain ⟨_, _, ⟨T102, L102, c102, n102⟩, -, X102, ⟨Lc102, hQ102, l102, y102, z102⟩, st102⟩ := X98.virtualBack hx (y := (⟨"com/example/vipo/vipo/flow/ConceptValue", "admits", "(Lcom/example/vipo/vipo/flow/ConceptValue;)Z"⟩ : MethodName)) (z := (⟨"com/example/vipo/vipo/flow/ConceptValue", "admits", "(Lcom/example/vipo/vipo/flow/ConceptValue;)Z"⟩ : MethodName)) hown (mvT hZ (hw _ (List.mem_of_getElem? (i := 10) rfl))) (mvT hZ (hw _ (List.mem_of_getElem? (i := 11) rfl))) (notFace_of_selects (args := #[]) (mvT hZ (hw _ (List.mem_of_getElem? (i := 13) rfl)))) (mvT hZ (hw _ (List.mem_of_getElem? (i := 13) rfl))) (mvT hZ (hw _ (List.mem_of_getElem? (i := 12) rfl))) (by decide) (backOf (W := 0) (rm9 l Z a0 hw w1 w2 w3 G []  h0 n0 O0 ) hZ (hw _ (List.mem_of_getElem? (i := 14) rfl)) (hw _ (List.mem_of_getElem? (i := 6) rfl)) (by decide) (by decide)) q101a q101c (g := (mkF m 66 #[.val (.int p1), .val (.int p2), .val (.ref w2), .val (.ref w3), .val (.int (0 : Int32)), .val (.int (1 : Int32)), .val (.int (1 : Int32)), .unset] [(.ref w2), (.ref w3)])) rfl (by rw [hml]; rfl) (Steps.refl _) (argsL := [(.ref w2)]) (rest := []) (lenOf pd1 rfl) rfl (by show 2 * 0 + _ ≤ _; exact Nat.le_of_eq rfl) (hb hby at_66) (fun _ _ => ⟨rfl, e100, (by decide : 0 + 0 ≤ _), (by decide : 0 + 0 ≤ _)⟩)
      dsimp only [Pt.U, Pt.locs, Pt.cells, Pt.slots] at X102 l102 y102 z102 st102 hQ102
      subst l102 y102 z102
      have X102 : Stand p l e room_1 s m #[(.int p1), (.int p2)] below meth c T102 _ 0 0 := X102
      obtain ⟨rfl, Nq103, e104⟩ := hQ102
      have N102 := Fr.app N98 Nq103
      obtain ⟨fs, hr, hrun, hended, hW, hsame⟩ := X102.leave (v := some (.int (1 : Int32))) (fun h => by rw [hret] at h; cases h)
      refine ⟨_, _, pre60 _ ?_, hrun, hended, _, _, rfl, ?_, ⟨_, rfl⟩, hW, hsame.mono (by decide) (by decide)⟩
      ·
        show Steps p.tables e below (T1.setTop (mkF m 6 #[.val (.int p1), .val (.int p2), .val (.ref w2), .unset, .unset, .unset, .unset, .unset] [(.int p2)])) _
        refine st59 _ ?_
        show Steps p.tables e below (T59.setTop (mkF m 9 #[.val (.int p1), .val (.int p2), .val (.ref w2), .unset, .unset, .unset, .unset, .unset] [(.ref w3)])) _
        refine XS.astoreN X59.here hx rfl (hb hby at_9) rfl rfl (l' := #[.val (.int p1), .val (.int p2), .val (.ref w2), .val (.ref w3), .unset, .unset, .unset, .unset]) rfl ?_
        show Steps p.tables e below (T59.setTop (mkF m 10 #[.val (.int p1), .val (.int p2), .val (.ref w2), .val (.ref w3), .unset, .unset, .unset, .unset] [])) _
        refine XS.aloadN X59.here hx rfl (hb hby at_10) rfl rfl ?_
        show Steps p.tables e below (T59.setTop (mkF m 11 #[.val (.int p1), .val (.int p2), .val (.ref w2), .val (.ref w3), .unset, .unset, .unset, .unset] [(.ref w2)])) _
        refine st94 _ ?_
        show Steps p.tables e below (T94.setTop (mkF m 14 #[.val (.int p1), .val (.int p2), .val (.ref w2), .val (.ref w3), .unset, .unset, .unset, .unset] [(.ref w1), (.ref w2)])) _
        refine Jvm.RoadKit.acmp (g := (mkF m 14 #[.val (.int p1), .val (.int p2), .val (.ref w2), .val (.ref w3), .unset, .unset, .unset, .unset] [(.ref w1), (.ref w2)])) X94 hx rfl rfl rfl (pc0 := 14) (pc' := 24) (same := false) rfl (hb hby at_14) rfl (decide_eq_false fun q => (Fld.ne F_w2_ordinal F_w1_ordinal (by decide)) (Value.ref.inj q)) (by decide) (by decide) ?_
        show Steps p.tables e below (T94.setTop (mkF m 24 #[.val (.int p1), .val (.int p2), .val (.ref w2), .val (.ref w3), .unset, .unset, .unset, .unset] [])) _
        refine XS.aloadN X94.here hx rfl (hb hby at_24) rfl rfl ?_
        show Steps p.tables e below (T94.setTop (mkF m 25 #[.val (.int p1), .val (.int p2), .val (.ref w2), .val (.ref w3), .unset, .unset, .unset, .unset] [(.ref w2)])) _
        refine st95 _ ?_
        show Steps p.tables e below (T95.setTop (mkF m 28 #[.val (.int p1), .val (.int p2), .val (.ref w2), .val (.ref w3), .unset, .unset, .unset, .unset] [(.ref w2), (.ref w2)])) _
        refine Jvm.RoadKit.acmp (g := (mkF m 28 #[.val (.int p1), .val (.int p2), .val (.ref w2), .val (.ref w3), .unset, .unset, .unset, .unset] [(.ref w2), (.ref w2)])) X95 hx rfl rfl rfl (pc0 := 28) (pc' := 31) (same := true) rfl (hb hby at_28) rfl (decide_eq_true rfl) (by decide) (by decide) ?_
        show Steps p.tables e below (T95.setTop (mkF m 31 #[.val (.int p1), .val (.int p2), .val (.ref w2), .val (.ref w3), .unset, .unset, .unset, .unset] [])) _
        refine XS.aloadN X95.here hx rfl (hb hby at_31) rfl rfl ?_
        show Steps p.tables e below (T95.setTop (mkF m 32 #[.val (.int p1), .val (.int p2), .val (.ref w2), .val (.ref w3), .unset, .unset, .unset, .unset] [(.ref w3)])) _
        refine st96 _ ?_
        show Steps p.tables e below (T96.setTop (mkF m 35 #[.val (.int p1), .val (.int p2), .val (.ref w2), .val (.ref w3), .unset, .unset, .unset, .unset] [(.ref w1), (.ref w3)])) _
        refine Jvm.RoadKit.acmp (g := (mkF m 35 #[.val (.int p1), .val (.int p2), .val (.ref w2), .val (.ref w3), .unset, .unset, .unset, .unset] [(.ref w1), (.ref w3)])) X96 hx rfl rfl rfl (pc0 := 35) (pc' := 42) (same := false) rfl (hb hby at_35) rfl (decide_eq_false fun q => (Fld.ne F_w3_ordinal F_w1_ordinal (by decide)) (Value.ref.inj q)) (by decide) (by decide) ?_
        show Steps p.tables e below (T96.setTop (mkF m 42 #[.val (.int p1), .val (.int p2), .val (.ref w2), .val (.ref w3), .unset, .unset, .unset, .unset] [])) _
        refine XS.iconst X96.here hx rfl (hb hby at_42) ?_
        show Steps p.tables e below (T96.setTop (mkF m 43 #[.val (.int p1), .val (.int p2), .val (.ref w2), .val (.ref w3), .unset, .unset, .unset, .unset] [(.int (0 : Int32))])) _
        refine XS.istore X96.here hx rfl (hb hby at_43) rfl (l' := #[.val (.int p1), .val (.int p2), .val (.ref w2), .val (.ref w3), .val (.int (0 : Int32)), .unset, .unset, .unset]) rfl ?_
        show Steps p.tables e below (T96.setTop (mkF m 45 #[.val (.int p1), .val (.int p2), .val (.ref w2), .val (.ref w3), .val (.int (0 : Int32)), .unset, .unset, .unset] [])) _
        refine XS.iload X96.here hx rfl (hb hby at_45) rfl ?_
        show Steps p.tables e below (T96.setTop (mkF m 47 #[.val (.int p1), .val (.int p2), .val (.ref w2), .val (.ref w3), .val (.int (0 : Int32)), .unset, .unset, .unset] [(.int (0 : Int32))])) _
        refine XS.ifNo X96.here hx rfl (hb hby at_47) rfl ((if0 _ _).trans (teq (by decide : (0 : Int32) = (0 : Int32))).2) ?_
        show Steps p.tables e below (T96.setTop (mkF m 50 #[.val (.int p1), .val (.int p2), .val (.ref w2), .val (.ref w3), .val (.int (0 : Int32)), .unset, .unset, .unset] [])) _
        refine XS.iconst X96.here hx rfl (hb hby at_50) ?_
        show Steps p.tables e below (T96.setTop (mkF m 51 #[.val (.int p1), .val (.int p2), .val (.ref w2), .val (.ref w3), .val (.int (0 : Int32)), .unset, .unset, .unset] [(.int (1 : Int32))])) _
        refine XS.goto X96.here hx rfl (pc0 := 51) (pc' := 55) rfl (hb hby at_51) (by decide) (by decide) ?_
        show Steps p.tables e below (T96.setTop (mkF m 55 #[.val (.int p1), .val (.int p2), .val (.ref w2), .val (.ref w3), .val (.int (0 : Int32)), .unset, .unset, .unset] [(.int (1 : Int32))])) _
        refine XS.istore X96.here hx rfl (hb hby at_55) rfl (l' := #[.val (.int p1), .val (.int p2), .val (.ref w2), .val (.ref w3), .val (.int (0 : Int32)), .val (.int (1 : Int32)), .unset, .unset]) rfl ?_
        show Steps p.tables e below (T96.setTop (mkF m 57 #[.val (.int p1), .val (.int p2), .val (.ref w2), .val (.ref w3), .val (.int (0 : Int32)), .val (.int (1 : Int32)), .unset, .unset] [])) _
        refine XS.aloadN X96.here hx rfl (hb hby at_57) rfl rfl ?_
        show Steps p.tables e below (T96.setTop (mkF m 58 #[.val (.int p1), .val (.int p2), .val (.ref w2), .val (.ref w3), .val (.int (0 : Int32)), .val (.int (1 : Int32)), .unset, .unset] [(.ref w2)])) _
        refine XS.aloadN X96.here hx rfl (hb hby at_58) rfl rfl ?_
        show Steps p.tables e below (T96.setTop (mkF m 59 #[.val (.int p1), .val (.int p2), .val (.ref w2), .val (.ref w3), .val (.int (0 : Int32)), .val (.int (1 : Int32)), .unset, .unset] [(.ref w3), (.ref w2)])) _
        refine st98.trans ?_
        show Steps p.tables e below (T98.setTop (mkF m 62 #[.val (.int p1), .val (.int p2), .val (.ref w2), .val (.ref w3), .val (.int (0 : Int32)), .val (.int (1 : Int32)), .unset, .unset] [(.int (1 : Int32))])) _
        refine XS.istore X98.here hx rfl (hb hby at_62) rfl (l' := #[.val (.int p1), .val (.int p2), .val (.ref w2), .val (.ref w3), .val (.int (0 : Int32)), .val (.int (1 : Int32)), .val (.int (1 : Int32)), .unset]) rfl ?_
        show Steps p.tables e below (T98.setTop (mkF m 64 #[.val (.int p1), .val (.int p2), .val (.ref w2), .val (.ref w3), .val (.int (0 : Int32)), .val (.int (1 : Int32)), .val (.int (1 : Int32)), .unset] [])) _
        refine XS.aloadN X98.here hx rfl (hb hby at_64) rfl rfl ?_
        show Steps p.tables e below (T98.setTop (mkF m 65 #[.val (.int p1), .val (.int p2), .val (.ref w2), .val (.ref w3), .val (.int (0 : Int32)), .val (.int (1 : Int32)), .val (.int (1 : Int32)), .unset] [(.ref w3)])) _
        refine XS.aloadN X98.here hx rfl (hb hby at_65) rfl rfl ?_
        show Steps p.tables e below (T98.setTop (mkF m 66 #[.val (.int p1), .val (.int p2), .val (.ref w2), .val (.ref w3), .val (.int (0 : Int32)), .val (.int (1 : Int32)), .val (.int (1 : Int32)), .unset] [(.ref w2), (.ref w3)])) _
        refine st102.trans ?_
        show Steps p.tables e below (T102.setTop (mkF m 69 #[.val (.int p1), .val (.int p2), .val (.ref w2), .val (.ref w3), .val (.int (0 : Int32)), .val (.int (1 : Int32)), .val (.int (1 : Int32)), .unset] [(.int (1 : Int32))])) _
        refine XS.istore X102.here hx rfl (hb hby at_69) rfl (l' := #[.val (.int p1), .val (.int p2), .val (.ref w2), .val (.ref w3), .val (.int (0 : Int32)), .val (.int (1 : Int32)), .val (.int (1 : Int32)), .val (.int (1 : Int32))]) rfl ?_
        show Steps p.tables e below (T102.setTop (mkF m 71 #[.val (.int p1), .val (.int p2), .val (.ref w2), .val (.ref w3), .val (.int (0 : Int32)), .val (.int (1 : Int32)), .val (.int (1 : Int32)), .val (.int (1 : Int32))] [])) _
        refine XS.iload X102.here hx rfl (hb hby at_71) rfl ?_
        show Steps p.tables e below (T102.setTop (mkF m 73 #[.val (.int p1), .val (.int p2), .val (.ref w2), .val (.ref w3), .val (.int (0 : Int32)), .val (.int (1 : Int32)), .val (.int (1 : Int32)), .val (.int (1 : Int32))] [(.int (1 : Int32))])) _
        refine XS.iload X102.here hx rfl (hb hby at_73) rfl ?_
        show Steps p.tables e below (T102.setTop (mkF m 75 #[.val (.int p1), .val (.int p2), .val (.ref w2), .val (.ref w3), .val (.int (0 : Int32)), .val (.int (1 : Int32)), .val (.int (1 : Int32)), .val (.int (1 : Int32))] [(.int (1 : Int32)), (.int (1 : Int32))])) _
        refine XS.icmpNo X102.here hx rfl (hb hby at_75) rfl (teq (by decide : (1 : Int32) = (1 : Int32))).2 ?_
        show Steps p.tables e below (T102.setTop (mkF m 78 #[.val (.int p1), .val (.int p2), .val (.ref w2), .val (.ref w3), .val (.int (0 : Int32)), .val (.int (1 : Int32)), .val (.int (1 : Int32)), .val (.int (1 : Int32))] [])) _
        refine XS.iload X102.here hx rfl (hb hby at_78) rfl ?_
        show Steps p.tables e below (T102.setTop (mkF m 80 #[.val (.int p1), .val (.int p2), .val (.ref w2), .val (.ref w3), .val (.int (0 : Int32)), .val (.int (1 : Int32)), .val (.int (1 : Int32)), .val (.int (1 : Int32))] [(.int (1 : Int32))])) _
        refine XS.iload X102.here hx rfl (hb hby at_80) rfl ?_
        show Steps p.tables e below (T102.setTop (mkF m 82 #[.val (.int p1), .val (.int p2), .val (.ref w2), .val (.ref w3), .val (.int (0 : Int32)), .val (.int (1 : Int32)), .val (.int (1 : Int32)), .val (.int (1 : Int32))] [(.int (1 : Int32)), (.int (1 : Int32))])) _
        refine XS.icmpNo X102.here hx rfl (hb hby at_82) rfl (teq (by decide : (1 : Int32) = (1 : Int32))).2 ?_
        show Steps p.tables e below (T102.setTop (mkF m 85 #[.val (.int p1), .val (.int p2), .val (.ref w2), .val (.ref w3), .val (.int (0 : Int32)), .val (.int (1 : Int32)), .val (.int (1 : Int32)), .val (.int (1 : Int32))] [])) _
        refine XS.iconst X102.here hx rfl (hb hby at_85) ?_
        show Steps p.tables e below (T102.setTop (mkF m 86 #[.val (.int p1), .val (.int p2), .val (.ref w2), .val (.ref w3), .val (.int (0 : Int32)), .val (.int (1 : Int32)), .val (.int (1 : Int32)), .val (.int (1 : Int32))] [(.int (1 : Int32))])) _
        refine XS.goto X102.here hx rfl (pc0 := 86) (pc' := 90) rfl (hb hby at_86) (by decide) (by decide) ?_
        show Steps p.tables e below (T102.setTop (mkF m 90 #[.val (.int p1), .val (.int p2), .val (.ref w2), .val (.ref w3), .val (.int (0 : Int32)), .val (.int (1 : Int32)), .val (.int (1 : Int32)), .val (.int (1 : Int32))] [(.int (1 : Int32))])) _
        exact retN X102 hx (t := .boolean) hret (by simp) (hb hby at_90) hr
      ·
        show Q0 n0 _ T102.heap _
        rw [e104]
        exact ⟨rfl, N102⟩
  ·
    have N1 := Fr.app N0 Nq12
    obtain ⟨_, _, ⟨T105, L105, c105, n105⟩, -, X105, ⟨Lc105, hQ105, l105, y105, z105⟩, st105⟩ := Jvm.LawKit.callS X1 hx (y := (⟨"com/example/vipo/vipo/flow/ConceptValueAdmitsPinLaw", "pick", "(I)Lcom/example/vipo/vipo/flow/ConceptValue;"⟩ : MethodName)) hown (mvT hZ (hw _ (List.mem_of_getElem? (i := 0) rfl))) (mvT hZ (hw _ (List.mem_of_getElem? (i := 1) rfl))) (mvT hZ (hw _ (List.mem_of_getElem? (i := 2) rfl))) (mvT hZ (hw _ (List.mem_of_getElem? (i := 3) rfl))) (by decide) (backOf (W := 0) (rm1 l Z a0 hw w1 w2 w3 G [] p2 h0 n0 O0 ) hZ (hw _ (List.mem_of_getElem? (i := 3) rfl)) (hw _ (List.mem_of_getElem? (i := 2) rfl)) (by decide) (by decide)) (g := (mkF m 6 #[.val (.int p1), .val (.int p2), .val (.ref w3), .unset, .unset, .unset, .unset, .unset] [(.int p2)])) rfl (by rw [hml]; rfl) (argsL := [(.int p2)]) (rest := []) (lenOf pd0 rfl) rfl (by show 2 * 0 + _ ≤ _; exact Nat.le_of_eq rfl) (hb hby at_6) (fun _ _ => ⟨rfl, e13, (by decide : 0 + 0 ≤ _), (by decide : 0 + 0 ≤ _)⟩)
    dsimp only [Pt.U, Pt.locs, Pt.cells, Pt.slots] at X105 l105 y105 z105 st105 hQ105
    subst l105 y105 z105
    have pre106 : ∀ t, Steps p.tables e below (T1.setTop (mkF m 6 #[.val (.int p1), .val (.int p2), .val (.ref w3), .unset, .unset, .unset, .unset, .unset] [(.int p2)])) t → Steps p.tables e below (s₁.setTop (entryFrame m #[(.int p1), (.int p2)] maxLocals)) t := fun t k => by
      refine pre2 _ ?_
      show Steps p.tables e below (s₁.setTop (mkF m 1 #[.val (.int p1), .val (.int p2), .unset, .unset, .unset, .unset, .unset, .unset] [(.int p1)])) _
      refine st1 _ ?_
      show Steps p.tables e below (T1.setTop (mkF m 4 #[.val (.int p1), .val (.int p2), .unset, .unset, .unset, .unset, .unset, .unset] [(.ref w3)])) _
      refine XS.astoreN X1.here hx rfl (hb hby at_4) rfl rfl (l' := #[.val (.int p1), .val (.int p2), .val (.ref w3), .unset, .unset, .unset, .unset, .unset]) rfl ?_
      show Steps p.tables e below (T1.setTop (mkF m 5 #[.val (.int p1), .val (.int p2), .val (.ref w3), .unset, .unset, .unset, .unset, .unset] [])) _
      refine XS.iloadN X1.here hx rfl (hb hby at_5) rfl ?_
      exact k
    have X105 : Stand p l e room_1 s m #[(.int p1), (.int p2)] below meth c T105 _ 0 0 := X105
    rcases hQ105 with ⟨hc107, rfl, Nq108, e109⟩ | ⟨hc110, hc111, rfl, Nq112, e113⟩ | ⟨hc114, hc115, rfl, Nq116, e117⟩
    ·
      have N105 := Fr.app N1 Nq108
      obtain ⟨T118, X118, e118, st118⟩ := getS2 X105 hx hZ hown (host := "") (Or.inl (hw _ (List.mem_of_getElem? (i := 5) rfl))) Via.refl e109 (S_w1.ext O0.2) (g := (mkF m 11 #[.val (.int p1), .val (.int p2), .val (.ref w3), .val (.ref w1), .unset, .unset, .unset, .unset] [(.ref w3)])) rfl (hb hby at_11)
      obtain ⟨T119, X119, e119, st119⟩ := getS2 X118 hx hZ hown (host := "") (Or.inl (hw _ (List.mem_of_getElem? (i := 8) rfl))) Via.refl e118 (S_w2.ext O0.2) (g := (mkF m 25 #[.val (.int p1), .val (.int p2), .val (.ref w3), .val (.ref w1), .unset, .unset, .unset, .unset] [(.ref w3)])) rfl (hb hby at_25)
      obtain ⟨cq120, kq120, q120a, q120b, q120c⟩ := isOf hZ e119 (E_w3.ext O0.2)
      obtain ⟨_, _, ⟨T121, L121, c121, n121⟩, -, X121, ⟨Lc121, hQ121, l121, y121, z121⟩, st121⟩ := X119.virtualBack hx (y := (⟨"com/example/vipo/vipo/flow/ConceptValue", "admits", "(Lcom/example/vipo/vipo/flow/ConceptValue;)Z"⟩ : MethodName)) (z := (⟨"com/example/vipo/vipo/flow/ConceptValue", "admits", "(Lcom/example/vipo/vipo/flow/ConceptValue;)Z"⟩ : MethodName)) hown (mvT hZ (hw _ (List.mem_of_getElem? (i := 10) rfl))) (mvT hZ (hw _ (List.mem_of_getElem? (i := 11) rfl))) (notFace_of_selects (args := #[]) (mvT hZ (hw _ (List.mem_of_getElem? (i := 13) rfl)))) (mvT hZ (hw _ (List.mem_of_getElem? (i := 13) rfl))) (mvT hZ (hw _ (List.mem_of_getElem? (i := 12) rfl))) (by decide) (backOf (W := 0) (rm6 l Z a0 hw w1 w2 w3 G []  h0 n0 O0 ) hZ (hw _ (List.mem_of_getElem? (i := 14) rfl)) (hw _ (List.mem_of_getElem? (i := 6) rfl)) (by decide) (by decide)) q120a q120c (g := (mkF m 59 #[.val (.int p1), .val (.int p2), .val (.ref w3), .val (.ref w1), .val (.int (0 : Int32)), .val (.int (1 : Int32)), .unset, .unset] [(.ref w1), (.ref w3)])) rfl (by rw [hml]; rfl) (Steps.refl _) (argsL := [(.ref w1)]) (rest := []) (lenOf pd1 rfl) rfl (by show 2 * 0 + _ ≤ _; exact Nat.le_of_eq rfl) (hb hby at_59) (fun _ _ => ⟨rfl, e119, (by decide : 0 + 0 ≤ _), (by decide : 0 + 0 ≤ _)⟩)
      dsimp only [Pt.U, Pt.locs, Pt.cells, Pt.slots] at X121 l121 y121 z121 st121 hQ121
      subst l121 y121 z121
      have X121 : Stand p l e room_1 s m #[(.int p1), (.int p2)] below meth c T121 _ 0 0 := X121
      obtain ⟨rfl, Nq122, e123⟩ := hQ121
      have N121 := Fr.app N105 Nq122
      obtain ⟨cq124, kq124, q124a, q124b, q124c⟩ := isOf hZ e123 (E_w1.ext O0.2)
      obtain ⟨_, _, ⟨T125, L125, c125, n125⟩, -, X125, ⟨Lc125, hQ125, l125, y125, z125⟩, st125⟩ := X121.virtualBack hx (y := (⟨"com/example/vipo/vipo/flow/ConceptValue", "admits", "(Lcom/example/vipo/vipo/flow/ConceptValue;)Z"⟩ : MethodName)) (z := (⟨"com/example/vipo/vipo/flow/ConceptValue", "admits", "(Lcom/example/vipo/vipo/flow/ConceptValue;)Z"⟩ : MethodName)) hown (mvT hZ (hw _ (List.mem_of_getElem? (i := 10) rfl))) (mvT hZ (hw _ (List.mem_of_getElem? (i := 11) rfl))) (notFace_of_selects (args := #[]) (mvT hZ (hw _ (List.mem_of_getElem? (i := 13) rfl)))) (mvT hZ (hw _ (List.mem_of_getElem? (i := 13) rfl))) (mvT hZ (hw _ (List.mem_of_getElem? (i := 12) rfl))) (by decide) (backOf (W := 0) (rm5 l Z a0 hw w1 w2 w3 G []  h0 n0 O0 ) hZ (hw _ (List.mem_of_getElem? (i := 14) rfl)) (hw _ (List.mem_of_getElem? (i := 6) rfl)) (by decide) (by decide)) q124a q124c (g := (mkF m 66 #[.val (.int p1), .val (.int p2), .val (.ref w3), .val (.ref w1), .val (.int (0 : Int32)), .val (.int (1 : Int32)), .val (.int (1 : Int32)), .unset] [(.ref w3), (.ref w1)])) rfl (by rw [hml]; rfl) (Steps.refl _) (argsL := [(.ref w3)]) (rest := []) (lenOf pd1 rfl) rfl (by show 2 * 0 + _ ≤ _; exact Nat.le_of_eq rfl) (hb hby at_66) (fun _ _ => ⟨rfl, e123, (by decide : 0 + 0 ≤ _), (by decide : 0 + 0 ≤ _)⟩)
      dsimp only [Pt.U, Pt.locs, Pt.cells, Pt.slots] at X125 l125 y125 z125 st125 hQ125
      subst l125 y125 z125
      have X125 : Stand p l e room_1 s m #[(.int p1), (.int p2)] below meth c T125 _ 0 0 := X125
      obtain ⟨rfl, Nq126, e127⟩ := hQ125
      have N125 := Fr.app N121 Nq126
      obtain ⟨fs, hr, hrun, hended, hW, hsame⟩ := X125.leave (v := some (.int (1 : Int32))) (fun h => by rw [hret] at h; cases h)
      refine ⟨_, _, pre106 _ ?_, hrun, hended, _, _, rfl, ?_, ⟨_, rfl⟩, hW, hsame.mono (by decide) (by decide)⟩
      ·
        show Steps p.tables e below (T1.setTop (mkF m 6 #[.val (.int p1), .val (.int p2), .val (.ref w3), .unset, .unset, .unset, .unset, .unset] [(.int p2)])) _
        refine st105 _ ?_
        show Steps p.tables e below (T105.setTop (mkF m 9 #[.val (.int p1), .val (.int p2), .val (.ref w3), .unset, .unset, .unset, .unset, .unset] [(.ref w1)])) _
        refine XS.astoreN X105.here hx rfl (hb hby at_9) rfl rfl (l' := #[.val (.int p1), .val (.int p2), .val (.ref w3), .val (.ref w1), .unset, .unset, .unset, .unset]) rfl ?_
        show Steps p.tables e below (T105.setTop (mkF m 10 #[.val (.int p1), .val (.int p2), .val (.ref w3), .val (.ref w1), .unset, .unset, .unset, .unset] [])) _
        refine XS.aloadN X105.here hx rfl (hb hby at_10) rfl rfl ?_
        show Steps p.tables e below (T105.setTop (mkF m 11 #[.val (.int p1), .val (.int p2), .val (.ref w3), .val (.ref w1), .unset, .unset, .unset, .unset] [(.ref w3)])) _
        refine st118 _ ?_
        show Steps p.tables e below (T118.setTop (mkF m 14 #[.val (.int p1), .val (.int p2), .val (.ref w3), .val (.ref w1), .unset, .unset, .unset, .unset] [(.ref w1), (.ref w3)])) _
        refine Jvm.RoadKit.acmp (g := (mkF m 14 #[.val (.int p1), .val (.int p2), .val (.ref w3), .val (.ref w1), .unset, .unset, .unset, .unset] [(.ref w1), (.ref w3)])) X118 hx rfl rfl rfl (pc0 := 14) (pc' := 24) (same := false) rfl (hb hby at_14) rfl (decide_eq_false fun q => (Fld.ne F_w3_ordinal F_w1_ordinal (by decide)) (Value.ref.inj q)) (by decide) (by decide) ?_
        show Steps p.tables e below (T118.setTop (mkF m 24 #[.val (.int p1), .val (.int p2), .val (.ref w3), .val (.ref w1), .unset, .unset, .unset, .unset] [])) _
        refine XS.aloadN X118.here hx rfl (hb hby at_24) rfl rfl ?_
        show Steps p.tables e below (T118.setTop (mkF m 25 #[.val (.int p1), .val (.int p2), .val (.ref w3), .val (.ref w1), .unset, .unset, .unset, .unset] [(.ref w3)])) _
        refine st119 _ ?_
        show Steps p.tables e below (T119.setTop (mkF m 28 #[.val (.int p1), .val (.int p2), .val (.ref w3), .val (.ref w1), .unset, .unset, .unset, .unset] [(.ref w2), (.ref w3)])) _
        refine Jvm.RoadKit.acmp (g := (mkF m 28 #[.val (.int p1), .val (.int p2), .val (.ref w3), .val (.ref w1), .unset, .unset, .unset, .unset] [(.ref w2), (.ref w3)])) X119 hx rfl rfl rfl (pc0 := 28) (pc' := 42) (same := false) rfl (hb hby at_28) rfl (decide_eq_false fun q => (Fld.ne F_w3_ordinal F_w2_ordinal (by decide)) (Value.ref.inj q)) (by decide) (by decide) ?_
        show Steps p.tables e below (T119.setTop (mkF m 42 #[.val (.int p1), .val (.int p2), .val (.ref w3), .val (.ref w1), .unset, .unset, .unset, .unset] [])) _
        refine XS.iconst X119.here hx rfl (hb hby at_42) ?_
        show Steps p.tables e below (T119.setTop (mkF m 43 #[.val (.int p1), .val (.int p2), .val (.ref w3), .val (.ref w1), .unset, .unset, .unset, .unset] [(.int (0 : Int32))])) _
        refine XS.istore X119.here hx rfl (hb hby at_43) rfl (l' := #[.val (.int p1), .val (.int p2), .val (.ref w3), .val (.ref w1), .val (.int (0 : Int32)), .unset, .unset, .unset]) rfl ?_
        show Steps p.tables e below (T119.setTop (mkF m 45 #[.val (.int p1), .val (.int p2), .val (.ref w3), .val (.ref w1), .val (.int (0 : Int32)), .unset, .unset, .unset] [])) _
        refine XS.iload X119.here hx rfl (hb hby at_45) rfl ?_
        show Steps p.tables e below (T119.setTop (mkF m 47 #[.val (.int p1), .val (.int p2), .val (.ref w3), .val (.ref w1), .val (.int (0 : Int32)), .unset, .unset, .unset] [(.int (0 : Int32))])) _
        refine XS.ifNo X119.here hx rfl (hb hby at_47) rfl ((if0 _ _).trans (teq (by decide : (0 : Int32) = (0 : Int32))).2) ?_
        show Steps p.tables e below (T119.setTop (mkF m 50 #[.val (.int p1), .val (.int p2), .val (.ref w3), .val (.ref w1), .val (.int (0 : Int32)), .unset, .unset, .unset] [])) _
        refine XS.iconst X119.here hx rfl (hb hby at_50) ?_
        show Steps p.tables e below (T119.setTop (mkF m 51 #[.val (.int p1), .val (.int p2), .val (.ref w3), .val (.ref w1), .val (.int (0 : Int32)), .unset, .unset, .unset] [(.int (1 : Int32))])) _
        refine XS.goto X119.here hx rfl (pc0 := 51) (pc' := 55) rfl (hb hby at_51) (by decide) (by decide) ?_
        show Steps p.tables e below (T119.setTop (mkF m 55 #[.val (.int p1), .val (.int p2), .val (.ref w3), .val (.ref w1), .val (.int (0 : Int32)), .unset, .unset, .unset] [(.int (1 : Int32))])) _
        refine XS.istore X119.here hx rfl (hb hby at_55) rfl (l' := #[.val (.int p1), .val (.int p2), .val (.ref w3), .val (.ref w1), .val (.int (0 : Int32)), .val (.int (1 : Int32)), .unset, .unset]) rfl ?_
        show Steps p.tables e below (T119.setTop (mkF m 57 #[.val (.int p1), .val (.int p2), .val (.ref w3), .val (.ref w1), .val (.int (0 : Int32)), .val (.int (1 : Int32)), .unset, .unset] [])) _
        refine XS.aloadN X119.here hx rfl (hb hby at_57) rfl rfl ?_
        show Steps p.tables e below (T119.setTop (mkF m 58 #[.val (.int p1), .val (.int p2), .val (.ref w3), .val (.ref w1), .val (.int (0 : Int32)), .val (.int (1 : Int32)), .unset, .unset] [(.ref w3)])) _
        refine XS.aloadN X119.here hx rfl (hb hby at_58) rfl rfl ?_
        show Steps p.tables e below (T119.setTop (mkF m 59 #[.val (.int p1), .val (.int p2), .val (.ref w3), .val (.ref w1), .val (.int (0 : Int32)), .val (.int (1 : Int32)), .unset, .unset] [(.ref w1), (.ref w3)])) _
        refine st121.trans ?_
        show Steps p.tables e below (T121.setTop (mkF m 62 #[.val (.int p1), .val (.int p2), .val (.ref w3), .val (.ref w1), .val (.int (0 : Int32)), .val (.int (1 : Int32)), .unset, .unset] [(.int (1 : Int32))])) _
        refine XS.istore X121.here hx rfl (hb hby at_62) rfl (l' := #[.val (.int p1), .val (.int p2), .val (.ref w3), .val (.ref w1), .val (.int (0 : Int32)), .val (.int (1 : Int32)), .val (.int (1 : Int32)), .unset]) rfl ?_
        show Steps p.tables e below (T121.setTop (mkF m 64 #[.val (.int p1), .val (.int p2), .val (.ref w3), .val (.ref w1), .val (.int (0 : Int32)), .val (.int (1 : Int32)), .val (.int (1 : Int32)), .unset] [])) _
        refine XS.aloadN X121.here hx rfl (hb hby at_64) rfl rfl ?_
        show Steps p.tables e below (T121.setTop (mkF m 65 #[.val (.int p1), .val (.int p2), .val (.ref w3), .val (.ref w1), .val (.int (0 : Int32)), .val (.int (1 : Int32)), .val (.int (1 : Int32)), .unset] [(.ref w1)])) _
        refine XS.aloadN X121.here hx rfl (hb hby at_65) rfl rfl ?_
        show Steps p.tables e below (T121.setTop (mkF m 66 #[.val (.int p1), .val (.int p2), .val (.ref w3), .val (.ref w1), .val (.int (0 : Int32)), .val (.int (1 : Int32)), .val (.int (1 : Int32)), .unset] [(.ref w3), (.ref w1)])) _
        refine st125.trans ?_
        show Steps p.tables e below (T125.setTop (mkF m 69 #[.val (.int p1), .val (.int p2), .val (.ref w3), .val (.ref w1), .val (.int (0 : Int32)), .val (.int (1 : Int32)), .val (.int (1 : Int32)), .unset] [(.int (1 : Int32))])) _
        refine XS.istore X125.here hx rfl (hb hby at_69) rfl (l' := #[.val (.int p1), .val (.int p2), .val (.ref w3), .val (.ref w1), .val (.int (0 : Int32)), .val (.int (1 : Int32)), .val (.int (1 : Int32)), .val (.int (1 : Int32))]) rfl ?_
        show Steps p.tables e below (T125.setTop (mkF m 71 #[.val (.int p1), .val (.int p2), .val (.ref w3), .val (.ref w1), .val (.int (0 : Int32)), .val (.int (1 : Int32)), .val (.int (1 : Int32)), .val (.int (1 : Int32))] [])) _
        refine XS.iload X125.here hx rfl (hb hby at_71) rfl ?_
        show Steps p.tables e below (T125.setTop (mkF m 73 #[.val (.int p1), .val (.int p2), .val (.ref w3), .val (.ref w1), .val (.int (0 : Int32)), .val (.int (1 : Int32)), .val (.int (1 : Int32)), .val (.int (1 : Int32))] [(.int (1 : Int32))])) _
        refine XS.iload X125.here hx rfl (hb hby at_73) rfl ?_
        show Steps p.tables e below (T125.setTop (mkF m 75 #[.val (.int p1), .val (.int p2), .val (.ref w3), .val (.ref w1), .val (.int (0 : Int32)), .val (.int (1 : Int32)), .val (.int (1 : Int32)), .val (.int (1 : Int32))] [(.int (1 : Int32)), (.int (1 : Int32))])) _
        refine XS.icmpNo X125.here hx rfl (hb hby at_75) rfl (teq (by decide : (1 : Int32) = (1 : Int32))).2 ?_
        show Steps p.tables e below (T125.setTop (mkF m 78 #[.val (.int p1), .val (.int p2), .val (.ref w3), .val (.ref w1), .val (.int (0 : Int32)), .val (.int (1 : Int32)), .val (.int (1 : Int32)), .val (.int (1 : Int32))] [])) _
        refine XS.iload X125.here hx rfl (hb hby at_78) rfl ?_
        show Steps p.tables e below (T125.setTop (mkF m 80 #[.val (.int p1), .val (.int p2), .val (.ref w3), .val (.ref w1), .val (.int (0 : Int32)), .val (.int (1 : Int32)), .val (.int (1 : Int32)), .val (.int (1 : Int32))] [(.int (1 : Int32))])) _
        refine XS.iload X125.here hx rfl (hb hby at_80) rfl ?_
        show Steps p.tables e below (T125.setTop (mkF m 82 #[.val (.int p1), .val (.int p2), .val (.ref w3), .val (.ref w1), .val (.int (0 : Int32)), .val (.int (1 : Int32)), .val (.int (1 : Int32)), .val (.int (1 : Int32))] [(.int (1 : Int32)), (.int (1 : Int32))])) _
        refine XS.icmpNo X125.here hx rfl (hb hby at_82) rfl (teq (by decide : (1 : Int32) = (1 : Int32))).2 ?_
        show Steps p.tables e below (T125.setTop (mkF m 85 #[.val (.int p1), .val (.int p2), .val (.ref w3), .val (.ref w1), .val (.int (0 : Int32)), .val (.int (1 : Int32)), .val (.int (1 : Int32)), .val (.int (1 : Int32))] [])) _
        refine XS.iconst X125.here hx rfl (hb hby at_85) ?_
        show Steps p.tables e below (T125.setTop (mkF m 86 #[.val (.int p1), .val (.int p2), .val (.ref w3), .val (.ref w1), .val (.int (0 : Int32)), .val (.int (1 : Int32)), .val (.int (1 : Int32)), .val (.int (1 : Int32))] [(.int (1 : Int32))])) _
        refine XS.goto X125.here hx rfl (pc0 := 86) (pc' := 90) rfl (hb hby at_86) (by decide) (by decide) ?_
        show Steps p.tables e below (T125.setTop (mkF m 90 #[.val (.int p1), .val (.int p2), .val (.ref w3), .val (.ref w1), .val (.int (0 : Int32)), .val (.int (1 : Int32)), .val (.int (1 : Int32)), .val (.int (1 : Int32))] [(.int (1 : Int32))])) _
        exact retN X125 hx (t := .boolean) hret (by simp) (hb hby at_90) hr
      ·
        show Q0 n0 _ T125.heap _
        rw [e127]
        exact ⟨rfl, N125⟩
    ·
      have N105 := Fr.app N1 Nq112
      obtain ⟨T128, X128, e128, st128⟩ := getS2 X105 hx hZ hown (host := "") (Or.inl (hw _ (List.mem_of_getElem? (i := 5) rfl))) Via.refl e113 (S_w1.ext O0.2) (g := (mkF m 11 #[.val (.int p1), .val (.int p2), .val (.ref w3), .val (.ref w2), .unset, .unset, .unset, .unset] [(.ref w3)])) rfl (hb hby at_11)
      obtain ⟨T129, X129, e129, st129⟩ := getS2 X128 hx hZ hown (host := "") (Or.inl (hw _ (List.mem_of_getElem? (i := 8) rfl))) Via.refl e128 (S_w2.ext O0.2) (g := (mkF m 25 #[.val (.int p1), .val (.int p2), .val (.ref w3), .val (.ref w2), .unset, .unset, .unset, .unset] [(.ref w3)])) rfl (hb hby at_25)
      obtain ⟨cq130, kq130, q130a, q130b, q130c⟩ := isOf hZ e129 (E_w3.ext O0.2)
      obtain ⟨_, _, ⟨T131, L131, c131, n131⟩, -, X131, ⟨Lc131, hQ131, l131, y131, z131⟩, st131⟩ := X129.virtualBack hx (y := (⟨"com/example/vipo/vipo/flow/ConceptValue", "admits", "(Lcom/example/vipo/vipo/flow/ConceptValue;)Z"⟩ : MethodName)) (z := (⟨"com/example/vipo/vipo/flow/ConceptValue", "admits", "(Lcom/example/vipo/vipo/flow/ConceptValue;)Z"⟩ : MethodName)) hown (mvT hZ (hw _ (List.mem_of_getElem? (i := 10) rfl))) (mvT hZ (hw _ (List.mem_of_getElem? (i := 11) rfl))) (notFace_of_selects (args := #[]) (mvT hZ (hw _ (List.mem_of_getElem? (i := 13) rfl)))) (mvT hZ (hw _ (List.mem_of_getElem? (i := 13) rfl))) (mvT hZ (hw _ (List.mem_of_getElem? (i := 12) rfl))) (by decide) (backOf (W := 0) (rm9 l Z a0 hw w1 w2 w3 G []  h0 n0 O0 ) hZ (hw _ (List.mem_of_getElem? (i := 14) rfl)) (hw _ (List.mem_of_getElem? (i := 6) rfl)) (by decide) (by decide)) q130a q130c (g := (mkF m 59 #[.val (.int p1), .val (.int p2), .val (.ref w3), .val (.ref w2), .val (.int (0 : Int32)), .val (.int (1 : Int32)), .unset, .unset] [(.ref w2), (.ref w3)])) rfl (by rw [hml]; rfl) (Steps.refl _) (argsL := [(.ref w2)]) (rest := []) (lenOf pd1 rfl) rfl (by show 2 * 0 + _ ≤ _; exact Nat.le_of_eq rfl) (hb hby at_59) (fun _ _ => ⟨rfl, e129, (by decide : 0 + 0 ≤ _), (by decide : 0 + 0 ≤ _)⟩)
      dsimp only [Pt.U, Pt.locs, Pt.cells, Pt.slots] at X131 l131 y131 z131 st131 hQ131
      subst l131 y131 z131
      have X131 : Stand p l e room_1 s m #[(.int p1), (.int p2)] below meth c T131 _ 0 0 := X131
      obtain ⟨rfl, Nq132, e133⟩ := hQ131
      have N131 := Fr.app N105 Nq132
      obtain ⟨cq134, kq134, q134a, q134b, q134c⟩ := isOf hZ e133 (E_w2.ext O0.2)
      obtain ⟨_, _, ⟨T135, L135, c135, n135⟩, -, X135, ⟨Lc135, hQ135, l135, y135, z135⟩, st135⟩ := X131.virtualBack hx (y := (⟨"com/example/vipo/vipo/flow/ConceptValue", "admits", "(Lcom/example/vipo/vipo/flow/ConceptValue;)Z"⟩ : MethodName)) (z := (⟨"com/example/vipo/vipo/flow/ConceptValue", "admits", "(Lcom/example/vipo/vipo/flow/ConceptValue;)Z"⟩ : MethodName)) hown (mvT hZ (hw _ (List.mem_of_getElem? (i := 10) rfl))) (mvT hZ (hw _ (List.mem_of_getElem? (i := 11) rfl))) (notFace_of_selects (args := #[]) (mvT hZ (hw _ (List.mem_of_getElem? (i := 13) rfl)))) (mvT hZ (hw _ (List.mem_of_getElem? (i := 13) rfl))) (mvT hZ (hw _ (List.mem_of_getElem? (i := 12) rfl))) (by decide) (backOf (W := 0) (rm8 l Z a0 hw w1 w2 w3 G []  h0 n0 O0 ) hZ (hw _ (List.mem_of_getElem? (i := 14) rfl)) (hw _ (List.mem_of_getElem? (i := 6) rfl)) (by decide) (by decide)) q134a q134c (g := (mkF m 66 #[.val (.int p1), .val (.int p2), .val (.ref w3), .val (.ref w2), .val (.int (0 : Int32)), .val (.int (1 : Int32)), .val (.int (1 : Int32)), .unset] [(.ref w3), (.ref w2)])) rfl (by rw [hml]; rfl) (Steps.refl _) (argsL := [(.ref w3)]) (rest := []) (lenOf pd1 rfl) rfl (by show 2 * 0 + _ ≤ _; exact Nat.le_of_eq rfl) (hb hby at_66) (fun _ _ => ⟨rfl, e133, (by decide : 0 + 0 ≤ _), (by decide : 0 + 0 ≤ _)⟩)
      dsimp only [Pt.U, Pt.locs, Pt.cells, Pt.slots] at X135 l135 y135 z135 st135 hQ135
      subst l135 y135 z135
      have X135 : Stand p l e room_1 s m #[(.int p1), (.int p2)] below meth c T135 _ 0 0 := X135
      obtain ⟨rfl, Nq136, e137⟩ := hQ135
      have N135 := Fr.app N131 Nq136
      obtain ⟨fs, hr, hrun, hended, hW, hsame⟩ := X135.leave (v := some (.int (1 : Int32))) (fun h => by rw [hret] at h; cases h)
      refine ⟨_, _, pre106 _ ?_, hrun, hended, _, _, rfl, ?_, ⟨_, rfl⟩, hW, hsame.mono (by decide) (by decide)⟩
      ·
        show Steps p.tables e below (T1.setTop (mkF m 6 #[.val (.int p1), .val (.int p2), .val (.ref w3), .unset, .unset, .unset, .unset, .unset] [(.int p2)])) _
        refine st105 _ ?_
        show Steps p.tables e below (T105.setTop (mkF m 9 #[.val (.int p1), .val (.int p2), .val (.ref w3), .unset, .unset, .unset, .unset, .unset] [(.ref w2)])) _
        refine XS.astoreN X105.here hx rfl (hb hby at_9) rfl rfl (l' := #[.val (.int p1), .val (.int p2), .val (.ref w3), .val (.ref w2), .unset, .unset, .unset, .unset]) rfl ?_
        show Steps p.tables e below (T105.setTop (mkF m 10 #[.val (.int p1), .val (.int p2), .val (.ref w3), .val (.ref w2), .unset, .unset, .unset, .unset] [])) _
        refine XS.aloadN X105.here hx rfl (hb hby at_10) rfl rfl ?_
        show Steps p.tables e below (T105.setTop (mkF m 11 #[.val (.int p1), .val (.int p2), .val (.ref w3), .val (.ref w2), .unset, .unset, .unset, .unset] [(.ref w3)])) _
        refine st128 _ ?_
        show Steps p.tables e below (T128.setTop (mkF m 14 #[.val (.int p1), .val (.int p2), .val (.ref w3), .val (.ref w2), .unset, .unset, .unset, .unset] [(.ref w1), (.ref w3)])) _
        refine Jvm.RoadKit.acmp (g := (mkF m 14 #[.val (.int p1), .val (.int p2), .val (.ref w3), .val (.ref w2), .unset, .unset, .unset, .unset] [(.ref w1), (.ref w3)])) X128 hx rfl rfl rfl (pc0 := 14) (pc' := 24) (same := false) rfl (hb hby at_14) rfl (decide_eq_false fun q => (Fld.ne F_w3_ordinal F_w1_ordinal (by decide)) (Value.ref.inj q)) (by decide) (by decide) ?_
        show Steps p.tables e below (T128.setTop (mkF m 24 #[.val (.int p1), .val (.int p2), .val (.ref w3), .val (.ref w2), .unset, .unset, .unset, .unset] [])) _
        refine XS.aloadN X128.here hx rfl (hb hby at_24) rfl rfl ?_
        show Steps p.tables e below (T128.setTop (mkF m 25 #[.val (.int p1), .val (.int p2), .val (.ref w3), .val (.ref w2), .unset, .unset, .unset, .unset] [(.ref w3)])) _
        refine st129 _ ?_
        show Steps p.tables e below (T129.setTop (mkF m 28 #[.val (.int p1), .val (.int p2), .val (.ref w3), .val (.ref w2), .unset, .unset, .unset, .unset] [(.ref w2), (.ref w3)])) _
        refine Jvm.RoadKit.acmp (g := (mkF m 28 #[.val (.int p1), .val (.int p2), .val (.ref w3), .val (.ref w2), .unset, .unset, .unset, .unset] [(.ref w2), (.ref w3)])) X129 hx rfl rfl rfl (pc0 := 28) (pc' := 42) (same := false) rfl (hb hby at_28) rfl (decide_eq_false fun q => (Fld.ne F_w3_ordinal F_w2_ordinal (by decide)) (Value.ref.inj q)) (by decide) (by decide) ?_
        show Steps p.tables e below (T129.setTop (mkF m 42 #[.val (.int p1), .val (.int p2), .val (.ref w3), .val (.ref w2), .unset, .unset, .unset, .unset] [])) _
        refine XS.iconst X129.here hx rfl (hb hby at_42) ?_
        show Steps p.tables e below (T129.setTop (mkF m 43 #[.val (.int p1), .val (.int p2), .val (.ref w3), .val (.ref w2), .unset, .unset, .unset, .unset] [(.int (0 : Int32))])) _
        refine XS.istore X129.here hx rfl (hb hby at_43) rfl (l' := #[.val (.int p1), .val (.int p2), .val (.ref w3), .val (.ref w2), .val (.int (0 : Int32)), .unset, .unset, .unset]) rfl ?_
        show Steps p.tables e below (T129.setTop (mkF m 45 #[.val (.int p1), .val (.int p2), .val (.ref w3), .val (.ref w2), .val (.int (0 : Int32)), .unset, .unset, .unset] [])) _
        refine XS.iload X129.here hx rfl (hb hby at_45) rfl ?_
        show Steps p.tables e below (T129.setTop (mkF m 47 #[.val (.int p1), .val (.int p2), .val (.ref w3), .val (.ref w2), .val (.int (0 : Int32)), .unset, .unset, .unset] [(.int (0 : Int32))])) _
        refine XS.ifNo X129.here hx rfl (hb hby at_47) rfl ((if0 _ _).trans (teq (by decide : (0 : Int32) = (0 : Int32))).2) ?_
        show Steps p.tables e below (T129.setTop (mkF m 50 #[.val (.int p1), .val (.int p2), .val (.ref w3), .val (.ref w2), .val (.int (0 : Int32)), .unset, .unset, .unset] [])) _
        refine XS.iconst X129.here hx rfl (hb hby at_50) ?_
        show Steps p.tables e below (T129.setTop (mkF m 51 #[.val (.int p1), .val (.int p2), .val (.ref w3), .val (.ref w2), .val (.int (0 : Int32)), .unset, .unset, .unset] [(.int (1 : Int32))])) _
        refine XS.goto X129.here hx rfl (pc0 := 51) (pc' := 55) rfl (hb hby at_51) (by decide) (by decide) ?_
        show Steps p.tables e below (T129.setTop (mkF m 55 #[.val (.int p1), .val (.int p2), .val (.ref w3), .val (.ref w2), .val (.int (0 : Int32)), .unset, .unset, .unset] [(.int (1 : Int32))])) _
        refine XS.istore X129.here hx rfl (hb hby at_55) rfl (l' := #[.val (.int p1), .val (.int p2), .val (.ref w3), .val (.ref w2), .val (.int (0 : Int32)), .val (.int (1 : Int32)), .unset, .unset]) rfl ?_
        show Steps p.tables e below (T129.setTop (mkF m 57 #[.val (.int p1), .val (.int p2), .val (.ref w3), .val (.ref w2), .val (.int (0 : Int32)), .val (.int (1 : Int32)), .unset, .unset] [])) _
        refine XS.aloadN X129.here hx rfl (hb hby at_57) rfl rfl ?_
        show Steps p.tables e below (T129.setTop (mkF m 58 #[.val (.int p1), .val (.int p2), .val (.ref w3), .val (.ref w2), .val (.int (0 : Int32)), .val (.int (1 : Int32)), .unset, .unset] [(.ref w3)])) _
        refine XS.aloadN X129.here hx rfl (hb hby at_58) rfl rfl ?_
        show Steps p.tables e below (T129.setTop (mkF m 59 #[.val (.int p1), .val (.int p2), .val (.ref w3), .val (.ref w2), .val (.int (0 : Int32)), .val (.int (1 : Int32)), .unset, .unset] [(.ref w2), (.ref w3)])) _
        refine st131.trans ?_
        show Steps p.tables e below (T131.setTop (mkF m 62 #[.val (.int p1), .val (.int p2), .val (.ref w3), .val (.ref w2), .val (.int (0 : Int32)), .val (.int (1 : Int32)), .unset, .unset] [(.int (1 : Int32))])) _
        refine XS.istore X131.here hx rfl (hb hby at_62) rfl (l' := #[.val (.int p1), .val (.int p2), .val (.ref w3), .val (.ref w2), .val (.int (0 : Int32)), .val (.int (1 : Int32)), .val (.int (1 : Int32)), .unset]) rfl ?_
        show Steps p.tables e below (T131.setTop (mkF m 64 #[.val (.int p1), .val (.int p2), .val (.ref w3), .val (.ref w2), .val (.int (0 : Int32)), .val (.int (1 : Int32)), .val (.int (1 : Int32)), .unset] [])) _
        refine XS.aloadN X131.here hx rfl (hb hby at_64) rfl rfl ?_
        show Steps p.tables e below (T131.setTop (mkF m 65 #[.val (.int p1), .val (.int p2), .val (.ref w3), .val (.ref w2), .val (.int (0 : Int32)), .val (.int (1 : Int32)), .val (.int (1 : Int32)), .unset] [(.ref w2)])) _
        refine XS.aloadN X131.here hx rfl (hb hby at_65) rfl rfl ?_
        show Steps p.tables e below (T131.setTop (mkF m 66 #[.val (.int p1), .val (.int p2), .val (.ref w3), .val (.ref w2), .val (.int (0 : Int32)), .val (.int (1 : Int32)), .val (.int (1 : Int32)), .unset] [(.ref w3), (.ref w2)])) _
        refine st135.trans ?_
        show Steps p.tables e below (T135.setTop (mkF m 69 #[.val (.int p1), .val (.int p2), .val (.ref w3), .val (.ref w2), .val (.int (0 : Int32)), .val (.int (1 : Int32)), .val (.int (1 : Int32)), .unset] [(.int (1 : Int32))])) _
        refine XS.istore X135.here hx rfl (hb hby at_69) rfl (l' := #[.val (.int p1), .val (.int p2), .val (.ref w3), .val (.ref w2), .val (.int (0 : Int32)), .val (.int (1 : Int32)), .val (.int (1 : Int32)), .val (.int (1 : Int32))]) rfl ?_
        show Steps p.tables e below (T135.setTop (mkF m 71 #[.val (.int p1), .val (.int p2), .val (.ref w3), .val (.ref w2), .val (.int (0 : Int32)), .val (.int (1 : Int32)), .val (.int (1 : Int32)), .val (.int (1 : Int32))] [])) _
        refine XS.iload X135.here hx rfl (hb hby at_71) rfl ?_
        show Steps p.tables e below (T135.setTop (mkF m 73 #[.val (.int p1), .val (.int p2), .val (.ref w3), .val (.ref w2), .val (.int (0 : Int32)), .val (.int (1 : Int32)), .val (.int (1 : Int32)), .val (.int (1 : Int32))] [(.int (1 : Int32))])) _
        refine XS.iload X135.here hx rfl (hb hby at_73) rfl ?_
        show Steps p.tables e below (T135.setTop (mkF m 75 #[.val (.int p1), .val (.int p2), .val (.ref w3), .val (.ref w2), .val (.int (0 : Int32)), .val (.int (1 : Int32)), .val (.int (1 : Int32)), .val (.int (1 : Int32))] [(.int (1 : Int32)), (.int (1 : Int32))])) _
        refine XS.icmpNo X135.here hx rfl (hb hby at_75) rfl (teq (by decide : (1 : Int32) = (1 : Int32))).2 ?_
        show Steps p.tables e below (T135.setTop (mkF m 78 #[.val (.int p1), .val (.int p2), .val (.ref w3), .val (.ref w2), .val (.int (0 : Int32)), .val (.int (1 : Int32)), .val (.int (1 : Int32)), .val (.int (1 : Int32))] [])) _
        refine XS.iload X135.here hx rfl (hb hby at_78) rfl ?_
        show Steps p.tables e below (T135.setTop (mkF m 80 #[.val (.int p1), .val (.int p2), .val (.ref w3), .val (.ref w2), .val (.int (0 : Int32)), .val (.int (1 : Int32)), .val (.int (1 : Int32)), .val (.int (1 : Int32))] [(.int (1 : Int32))])) _
        refine XS.iload X135.here hx rfl (hb hby at_80) rfl ?_
        show Steps p.tables e below (T135.setTop (mkF m 82 #[.val (.int p1), .val (.int p2), .val (.ref w3), .val (.ref w2), .val (.int (0 : Int32)), .val (.int (1 : Int32)), .val (.int (1 : Int32)), .val (.int (1 : Int32))] [(.int (1 : Int32)), (.int (1 : Int32))])) _
        refine XS.icmpNo X135.here hx rfl (hb hby at_82) rfl (teq (by decide : (1 : Int32) = (1 : Int32))).2 ?_
        show Steps p.tables e below (T135.setTop (mkF m 85 #[.val (.int p1), .val (.int p2), .val (.ref w3), .val (.ref w2), .val (.int (0 : Int32)), .val (.int (1 : Int32)), .val (.int (1 : Int32)), .val (.int (1 : Int32))] [])) _
        refine XS.iconst X135.here hx rfl (hb hby at_85) ?_
        show Steps p.tables e below (T135.setTop (mkF m 86 #[.val (.int p1), .val (.int p2), .val (.ref w3), .val (.ref w2), .val (.int (0 : Int32)), .val (.int (1 : Int32)), .val (.int (1 : Int32)), .val (.int (1 : Int32))] [(.int (1 : Int32))])) _
        refine XS.goto X135.here hx rfl (pc0 := 86) (pc' := 90) rfl (hb hby at_86) (by decide) (by decide) ?_
        show Steps p.tables e below (T135.setTop (mkF m 90 #[.val (.int p1), .val (.int p2), .val (.ref w3), .val (.ref w2), .val (.int (0 : Int32)), .val (.int (1 : Int32)), .val (.int (1 : Int32)), .val (.int (1 : Int32))] [(.int (1 : Int32))])) _
        exact retN X135 hx (t := .boolean) hret (by simp) (hb hby at_90) hr
      ·
        show Q0 n0 _ T135.heap _
        rw [e137]
        exact ⟨rfl, N135⟩
    ·
      have N105 := Fr.app N1 Nq116
      obtain ⟨T138, X138, e138, st138⟩ := getS2 X105 hx hZ hown (host := "") (Or.inl (hw _ (List.mem_of_getElem? (i := 5) rfl))) Via.refl e117 (S_w1.ext O0.2) (g := (mkF m 11 #[.val (.int p1), .val (.int p2), .val (.ref w3), .val (.ref w3), .unset, .unset, .unset, .unset] [(.ref w3)])) rfl (hb hby at_11)
      obtain ⟨T139, X139, e139, st139⟩ := getS2 X138 hx hZ hown (host := "") (Or.inl (hw _ (List.mem_of_getElem? (i := 8) rfl))) Via.refl e138 (S_w2.ext O0.2) (g := (mkF m 25 #[.val (.int p1), .val (.int p2), .val (.ref w3), .val (.ref w3), .unset, .unset, .unset, .unset] [(.ref w3)])) rfl (hb hby at_25)
      obtain ⟨cq140, kq140, q140a, q140b, q140c⟩ := isOf hZ e139 (E_w3.ext O0.2)
      obtain ⟨_, _, ⟨T141, L141, c141, n141⟩, -, X141, ⟨Lc141, hQ141, l141, y141, z141⟩, st141⟩ := X139.virtualBack hx (y := (⟨"com/example/vipo/vipo/flow/ConceptValue", "admits", "(Lcom/example/vipo/vipo/flow/ConceptValue;)Z"⟩ : MethodName)) (z := (⟨"com/example/vipo/vipo/flow/ConceptValue", "admits", "(Lcom/example/vipo/vipo/flow/ConceptValue;)Z"⟩ : MethodName)) hown (mvT hZ (hw _ (List.mem_of_getElem? (i := 10) rfl))) (mvT hZ (hw _ (List.mem_of_getElem? (i := 11) rfl))) (notFace_of_selects (args := #[]) (mvT hZ (hw _ (List.mem_of_getElem? (i := 13) rfl)))) (mvT hZ (hw _ (List.mem_of_getElem? (i := 13) rfl))) (mvT hZ (hw _ (List.mem_of_getElem? (i := 12) rfl))) (by decide) (backOf (W := 0) (rm10 l Z a0 hw w1 w2 w3 G []  h0 n0 O0 ) hZ (hw _ (List.mem_of_getElem? (i := 14) rfl)) (hw _ (List.mem_of_getElem? (i := 6) rfl)) (by decide) (by decide)) q140a q140c (g := (mkF m 59 #[.val (.int p1), .val (.int p2), .val (.ref w3), .val (.ref w3), .val (.int (0 : Int32)), .val (.int (1 : Int32)), .unset, .unset] [(.ref w3), (.ref w3)])) rfl (by rw [hml]; rfl) (Steps.refl _) (argsL := [(.ref w3)]) (rest := []) (lenOf pd1 rfl) rfl (by show 2 * 0 + _ ≤ _; exact Nat.le_of_eq rfl) (hb hby at_59) (fun _ _ => ⟨rfl, e139, (by decide : 0 + 0 ≤ _), (by decide : 0 + 0 ≤ _)⟩)
      dsimp only [Pt.U, Pt.locs, Pt.cells, Pt.slots] at X141 l141 y141 z141 st141 hQ141
      subst l141 y141 z141
      have X141 : Stand p l e room_1 s m #[(.int p1), (.int p2)] below meth c T141 _ 0 0 := X141
      obtain ⟨rfl, Nq142, e143⟩ := hQ141
      have N141 := Fr.app N105 Nq142
      obtain ⟨cq144, kq144, q144a, q144b, q144c⟩ := isOf hZ e143 (E_w3.ext O0.2)
      obtain ⟨_, _, ⟨T145, L145, c145, n145⟩, -, X145, ⟨Lc145, hQ145, l145, y145, z145⟩, st145⟩ := X141.virtualBack hx (y := (⟨"com/example/vipo/vipo/flow/ConceptValue", "admits", "(Lcom/example/vipo/vipo/flow/ConceptValue;)Z"⟩ : MethodName)) (z := (⟨"com/example/vipo/vipo/flow/ConceptValue", "admits", "(Lcom/example/vipo/vipo/flow/ConceptValue;)Z"⟩ : MethodName)) hown (mvT hZ (hw _ (List.mem_of_getElem? (i := 10) rfl))) (mvT hZ (hw _ (List.mem_of_getElem? (i := 11) rfl))) (notFace_of_selects (args := #[]) (mvT hZ (hw _ (List.mem_of_getElem? (i := 13) rfl)))) (mvT hZ (hw _ (List.mem_of_getElem? (i := 13) rfl))) (mvT hZ (hw _ (List.mem_of_getElem? (i := 12) rfl))) (by decide) (backOf (W := 0) (rm10 l Z a0 hw w1 w2 w3 G []  h0 n0 O0 ) hZ (hw _ (List.mem_of_getElem? (i := 14) rfl)) (hw _ (List.mem_of_getElem? (i := 6) rfl)) (by decide) (by decide)) q144a q144c (g := (mkF m 66 #[.val (.int p1), .val (.int p2), .val (.ref w3), .val (.ref w3), .val (.int (0 : Int32)), .val (.int (1 : Int32)), .val (.int (1 : Int32)), .unset] [(.ref w3), (.ref w3)])) rfl (by rw [hml]; rfl) (Steps.refl _) (argsL := [(.ref w3)]) (rest := []) (lenOf pd1 rfl) rfl (by show 2 * 0 + _ ≤ _; exact Nat.le_of_eq rfl) (hb hby at_66) (fun _ _ => ⟨rfl, e143, (by decide : 0 + 0 ≤ _), (by decide : 0 + 0 ≤ _)⟩)
      dsimp only [Pt.U, Pt.locs, Pt.cells, Pt.slots] at X145 l145 y145 z145 st145 hQ145
      subst l145 y145 z145
      have X145 : Stand p l e room_1 s m #[(.int p1), (.int p2)] below meth c T145 _ 0 0 := X145
      obtain ⟨rfl, Nq146, e147⟩ := hQ145
      have N145 := Fr.app N141 Nq146
      obtain ⟨fs, hr, hrun, hended, hW, hsame⟩ := X145.leave (v := some (.int (1 : Int32))) (fun h => by rw [hret] at h; cases h)
      refine ⟨_, _, pre106 _ ?_, hrun, hended, _, _, rfl, ?_, ⟨_, rfl⟩, hW, hsame.mono (by decide) (by decide)⟩
      ·
        show Steps p.tables e below (T1.setTop (mkF m 6 #[.val (.int p1), .val (.int p2), .val (.ref w3), .unset, .unset, .unset, .unset, .unset] [(.int p2)])) _
        refine st105 _ ?_
        show Steps p.tables e below (T105.setTop (mkF m 9 #[.val (.int p1), .val (.int p2), .val (.ref w3), .unset, .unset, .unset, .unset, .unset] [(.ref w3)])) _
        refine XS.astoreN X105.here hx rfl (hb hby at_9) rfl rfl (l' := #[.val (.int p1), .val (.int p2), .val (.ref w3), .val (.ref w3), .unset, .unset, .unset, .unset]) rfl ?_
        show Steps p.tables e below (T105.setTop (mkF m 10 #[.val (.int p1), .val (.int p2), .val (.ref w3), .val (.ref w3), .unset, .unset, .unset, .unset] [])) _
        refine XS.aloadN X105.here hx rfl (hb hby at_10) rfl rfl ?_
        show Steps p.tables e below (T105.setTop (mkF m 11 #[.val (.int p1), .val (.int p2), .val (.ref w3), .val (.ref w3), .unset, .unset, .unset, .unset] [(.ref w3)])) _
        refine st138 _ ?_
        show Steps p.tables e below (T138.setTop (mkF m 14 #[.val (.int p1), .val (.int p2), .val (.ref w3), .val (.ref w3), .unset, .unset, .unset, .unset] [(.ref w1), (.ref w3)])) _
        refine Jvm.RoadKit.acmp (g := (mkF m 14 #[.val (.int p1), .val (.int p2), .val (.ref w3), .val (.ref w3), .unset, .unset, .unset, .unset] [(.ref w1), (.ref w3)])) X138 hx rfl rfl rfl (pc0 := 14) (pc' := 24) (same := false) rfl (hb hby at_14) rfl (decide_eq_false fun q => (Fld.ne F_w3_ordinal F_w1_ordinal (by decide)) (Value.ref.inj q)) (by decide) (by decide) ?_
        show Steps p.tables e below (T138.setTop (mkF m 24 #[.val (.int p1), .val (.int p2), .val (.ref w3), .val (.ref w3), .unset, .unset, .unset, .unset] [])) _
        refine XS.aloadN X138.here hx rfl (hb hby at_24) rfl rfl ?_
        show Steps p.tables e below (T138.setTop (mkF m 25 #[.val (.int p1), .val (.int p2), .val (.ref w3), .val (.ref w3), .unset, .unset, .unset, .unset] [(.ref w3)])) _
        refine st139 _ ?_
        show Steps p.tables e below (T139.setTop (mkF m 28 #[.val (.int p1), .val (.int p2), .val (.ref w3), .val (.ref w3), .unset, .unset, .unset, .unset] [(.ref w2), (.ref w3)])) _
        refine Jvm.RoadKit.acmp (g := (mkF m 28 #[.val (.int p1), .val (.int p2), .val (.ref w3), .val (.ref w3), .unset, .unset, .unset, .unset] [(.ref w2), (.ref w3)])) X139 hx rfl rfl rfl (pc0 := 28) (pc' := 42) (same := false) rfl (hb hby at_28) rfl (decide_eq_false fun q => (Fld.ne F_w3_ordinal F_w2_ordinal (by decide)) (Value.ref.inj q)) (by decide) (by decide) ?_
        show Steps p.tables e below (T139.setTop (mkF m 42 #[.val (.int p1), .val (.int p2), .val (.ref w3), .val (.ref w3), .unset, .unset, .unset, .unset] [])) _
        refine XS.iconst X139.here hx rfl (hb hby at_42) ?_
        show Steps p.tables e below (T139.setTop (mkF m 43 #[.val (.int p1), .val (.int p2), .val (.ref w3), .val (.ref w3), .unset, .unset, .unset, .unset] [(.int (0 : Int32))])) _
        refine XS.istore X139.here hx rfl (hb hby at_43) rfl (l' := #[.val (.int p1), .val (.int p2), .val (.ref w3), .val (.ref w3), .val (.int (0 : Int32)), .unset, .unset, .unset]) rfl ?_
        show Steps p.tables e below (T139.setTop (mkF m 45 #[.val (.int p1), .val (.int p2), .val (.ref w3), .val (.ref w3), .val (.int (0 : Int32)), .unset, .unset, .unset] [])) _
        refine XS.iload X139.here hx rfl (hb hby at_45) rfl ?_
        show Steps p.tables e below (T139.setTop (mkF m 47 #[.val (.int p1), .val (.int p2), .val (.ref w3), .val (.ref w3), .val (.int (0 : Int32)), .unset, .unset, .unset] [(.int (0 : Int32))])) _
        refine XS.ifNo X139.here hx rfl (hb hby at_47) rfl ((if0 _ _).trans (teq (by decide : (0 : Int32) = (0 : Int32))).2) ?_
        show Steps p.tables e below (T139.setTop (mkF m 50 #[.val (.int p1), .val (.int p2), .val (.ref w3), .val (.ref w3), .val (.int (0 : Int32)), .unset, .unset, .unset] [])) _
        refine XS.iconst X139.here hx rfl (hb hby at_50) ?_
        show Steps p.tables e below (T139.setTop (mkF m 51 #[.val (.int p1), .val (.int p2), .val (.ref w3), .val (.ref w3), .val (.int (0 : Int32)), .unset, .unset, .unset] [(.int (1 : Int32))])) _
        refine XS.goto X139.here hx rfl (pc0 := 51) (pc' := 55) rfl (hb hby at_51) (by decide) (by decide) ?_
        show Steps p.tables e below (T139.setTop (mkF m 55 #[.val (.int p1), .val (.int p2), .val (.ref w3), .val (.ref w3), .val (.int (0 : Int32)), .unset, .unset, .unset] [(.int (1 : Int32))])) _
        refine XS.istore X139.here hx rfl (hb hby at_55) rfl (l' := #[.val (.int p1), .val (.int p2), .val (.ref w3), .val (.ref w3), .val (.int (0 : Int32)), .val (.int (1 : Int32)), .unset, .unset]) rfl ?_
        show Steps p.tables e below (T139.setTop (mkF m 57 #[.val (.int p1), .val (.int p2), .val (.ref w3), .val (.ref w3), .val (.int (0 : Int32)), .val (.int (1 : Int32)), .unset, .unset] [])) _
        refine XS.aloadN X139.here hx rfl (hb hby at_57) rfl rfl ?_
        show Steps p.tables e below (T139.setTop (mkF m 58 #[.val (.int p1), .val (.int p2), .val (.ref w3), .val (.ref w3), .val (.int (0 : Int32)), .val (.int (1 : Int32)), .unset, .unset] [(.ref w3)])) _
        refine XS.aloadN X139.here hx rfl (hb hby at_58) rfl rfl ?_
        show Steps p.tables e below (T139.setTop (mkF m 59 #[.val (.int p1), .val (.int p2), .val (.ref w3), .val (.ref w3), .val (.int (0 : Int32)), .val (.int (1 : Int32)), .unset, .unset] [(.ref w3), (.ref w3)])) _
        refine st141.trans ?_
        show Steps p.tables e below (T141.setTop (mkF m 62 #[.val (.int p1), .val (.int p2), .val (.ref w3), .val (.ref w3), .val (.int (0 : Int32)), .val (.int (1 : Int32)), .unset, .unset] [(.int (1 : Int32))])) _
        refine XS.istore X141.here hx rfl (hb hby at_62) rfl (l' := #[.val (.int p1), .val (.int p2), .val (.ref w3), .val (.ref w3), .val (.int (0 : Int32)), .val (.int (1 : Int32)), .val (.int (1 : Int32)), .unset]) rfl ?_
        show Steps p.tables e below (T141.setTop (mkF m 64 #[.val (.int p1), .val (.int p2), .val (.ref w3), .val (.ref w3), .val (.int (0 : Int32)), .val (.int (1 : Int32)), .val (.int (1 : Int32)), .unset] [])) _
        refine XS.aloadN X141.here hx rfl (hb hby at_64) rfl rfl ?_
        show Steps p.tables e below (T141.setTop (mkF m 65 #[.val (.int p1), .val (.int p2), .val (.ref w3), .val (.ref w3), .val (.int (0 : Int32)), .val (.int (1 : Int32)), .val (.int (1 : Int32)), .unset] [(.ref w3)])) _
        refine XS.aloadN X141.here hx rfl (hb hby at_65) rfl rfl ?_
        show Steps p.tables e below (T141.setTop (mkF m 66 #[.val (.int p1), .val (.int p2), .val (.ref w3), .val (.ref w3), .val (.int (0 : Int32)), .val (.int (1 : Int32)), .val (.int (1 : Int32)), .unset] [(.ref w3), (.ref w3)])) _
        refine st145.trans ?_
        show Steps p.tables e below (T145.setTop (mkF m 69 #[.val (.int p1), .val (.int p2), .val (.ref w3), .val (.ref w3), .val (.int (0 : Int32)), .val (.int (1 : Int32)), .val (.int (1 : Int32)), .unset] [(.int (1 : Int32))])) _
        refine XS.istore X145.here hx rfl (hb hby at_69) rfl (l' := #[.val (.int p1), .val (.int p2), .val (.ref w3), .val (.ref w3), .val (.int (0 : Int32)), .val (.int (1 : Int32)), .val (.int (1 : Int32)), .val (.int (1 : Int32))]) rfl ?_
        show Steps p.tables e below (T145.setTop (mkF m 71 #[.val (.int p1), .val (.int p2), .val (.ref w3), .val (.ref w3), .val (.int (0 : Int32)), .val (.int (1 : Int32)), .val (.int (1 : Int32)), .val (.int (1 : Int32))] [])) _
        refine XS.iload X145.here hx rfl (hb hby at_71) rfl ?_
        show Steps p.tables e below (T145.setTop (mkF m 73 #[.val (.int p1), .val (.int p2), .val (.ref w3), .val (.ref w3), .val (.int (0 : Int32)), .val (.int (1 : Int32)), .val (.int (1 : Int32)), .val (.int (1 : Int32))] [(.int (1 : Int32))])) _
        refine XS.iload X145.here hx rfl (hb hby at_73) rfl ?_
        show Steps p.tables e below (T145.setTop (mkF m 75 #[.val (.int p1), .val (.int p2), .val (.ref w3), .val (.ref w3), .val (.int (0 : Int32)), .val (.int (1 : Int32)), .val (.int (1 : Int32)), .val (.int (1 : Int32))] [(.int (1 : Int32)), (.int (1 : Int32))])) _
        refine XS.icmpNo X145.here hx rfl (hb hby at_75) rfl (teq (by decide : (1 : Int32) = (1 : Int32))).2 ?_
        show Steps p.tables e below (T145.setTop (mkF m 78 #[.val (.int p1), .val (.int p2), .val (.ref w3), .val (.ref w3), .val (.int (0 : Int32)), .val (.int (1 : Int32)), .val (.int (1 : Int32)), .val (.int (1 : Int32))] [])) _
        refine XS.iload X145.here hx rfl (hb hby at_78) rfl ?_
        show Steps p.tables e below (T145.setTop (mkF m 80 #[.val (.int p1), .val (.int p2), .val (.ref w3), .val (.ref w3), .val (.int (0 : Int32)), .val (.int (1 : Int32)), .val (.int (1 : Int32)), .val (.int (1 : Int32))] [(.int (1 : Int32))])) _
        refine XS.iload X145.here hx rfl (hb hby at_80) rfl ?_
        show Steps p.tables e below (T145.setTop (mkF m 82 #[.val (.int p1), .val (.int p2), .val (.ref w3), .val (.ref w3), .val (.int (0 : Int32)), .val (.int (1 : Int32)), .val (.int (1 : Int32)), .val (.int (1 : Int32))] [(.int (1 : Int32)), (.int (1 : Int32))])) _
        refine XS.icmpNo X145.here hx rfl (hb hby at_82) rfl (teq (by decide : (1 : Int32) = (1 : Int32))).2 ?_
        show Steps p.tables e below (T145.setTop (mkF m 85 #[.val (.int p1), .val (.int p2), .val (.ref w3), .val (.ref w3), .val (.int (0 : Int32)), .val (.int (1 : Int32)), .val (.int (1 : Int32)), .val (.int (1 : Int32))] [])) _
        refine XS.iconst X145.here hx rfl (hb hby at_85) ?_
        show Steps p.tables e below (T145.setTop (mkF m 86 #[.val (.int p1), .val (.int p2), .val (.ref w3), .val (.ref w3), .val (.int (0 : Int32)), .val (.int (1 : Int32)), .val (.int (1 : Int32)), .val (.int (1 : Int32))] [(.int (1 : Int32))])) _
        refine XS.goto X145.here hx rfl (pc0 := 86) (pc' := 90) rfl (hb hby at_86) (by decide) (by decide) ?_
        show Steps p.tables e below (T145.setTop (mkF m 90 #[.val (.int p1), .val (.int p2), .val (.ref w3), .val (.ref w3), .val (.int (0 : Int32)), .val (.int (1 : Int32)), .val (.int (1 : Int32)), .val (.int (1 : Int32))] [(.int (1 : Int32))])) _
        exact retN X145 hx (t := .boolean) hret (by simp) (hb hby at_90) hr
      ·
        show Q0 n0 _ T145.heap _
        rw [e147]
        exact ⟨rfl, N145⟩
set_option maxRecDepth 65536 in
set_option maxHeartbeats 40000000 in
theorem comes_1 {Post : Tables → Env → Array Value → State → Outcome → State → Prop} (hpost : ∀ tb e args s v u, (limb_1_1.after args s (.returned v) u = true ∧ limb_1_2.after args s (.returned v) u = true ∧ True) → FrameEnd s (.returned v) u (Jvm.fieldLocs frame_1_writes args s ++ Jvm.arrayLocs frame_1_arrays args s ++ Jvm.staticLocs frame_1_statics s) 0 0 → Post tb e args s (.returned v) u) :
    ArmFor flags0 classFile x code maxLocals ret World_1 tables_1 room_1 Calls_1 rest_1 Pre_1 Post := by
  intro l hfl _ _ p e ha hc hk s m args below hf hA hF happ hP
  obtain ⟨hcalls, hrest, hpre⟩ := hP
  obtain ⟨-, -, -, hnamed, -, -, -, hat⟩ := (Spec.applies_iff hf).mp happ
  obtain ⟨hg, hn⟩ := and_e (Cond.before_iff.mp (show (Jvm.Cond.and given_1 narrow_1).before args s = true from hpre))
  obtain ⟨hcount, hk0⟩ := and_e hg
  obtain ⟨hi0, hk1⟩ := and_e hk0
  have hi1 := hk1
  obtain ⟨w_a0, w_a1, rfl⟩ : ∃ w_a0 w_a1 : Value, args = #[w_a0, w_a1] := by
    have hs : args.size = 2 := by simpa [Cond.value, given_1] using hcount
    obtain ⟨L⟩ := args
    match L, hs with
    | [w_a0, w_a1], _ => exact ⟨w_a0, w_a1, rfl⟩
  have hw := fun d (hd : d ∈ tables_1) => atoms_spec (ws := Jvm.Cond.code x code maxLocals ret :: tables_1) hat d (List.mem_cons_of_mem _ hd)
  have hfit : Fit s := fun {y c} hc i hi => by
    obtain ⟨ha, rfl⟩ := Array.getElem?_eq_some_iff.mp hc
    have q := List.all_eq_true.mp ((Array.all_eq_true_iff_forall_mem.mp hF) _ (Array.getElem_mem ha)) i (List.mem_range.mpr hi)
    simpa [Array.getElem?_eq_getElem hi] using q
  obtain ⟨i0, ei0⟩ := is_v hi0
  obtain rfl : w_a0 = (.int i0) := Option.some.inj ei0
  obtain ⟨i1, ei1⟩ := is_v hi1
  obtain rfl : w_a1 = (.int i1) := Option.some.inj ei1
  obtain ⟨gl0, gr0⟩ := and_e hn
  obtain ⟨gl1, gr1⟩ := and_e gr0
  obtain ⟨gl2, gr2⟩ := and_e gr1
  obtain ⟨gl3, gr3⟩ := and_e gr2
  obtain ⟨gl4, gr4⟩ := and_e gr3
  obtain ⟨w1, ev_w1⟩ := exa_v gl0
  have S_w1 : Sta s s.heap "com/example/vipo/vipo/flow/ConceptValue" "YES" "Lcom/example/vipo/vipo/flow/ConceptValue;" (.ref w1) := Sta.start ev_w1 (Or.inr ⟨(hw _ (List.mem_of_getElem? (i := 6) rfl)), (hw _ (List.mem_of_getElem? (i := 7) rfl))⟩)
  have E_w1 : Exa s s.heap w1 "com/example/vipo/vipo/flow/ConceptValue" := Exa.start ev_w1 gl0
  obtain ⟨w2, ev_w2⟩ := exa_v gl1
  have S_w2 : Sta s s.heap "com/example/vipo/vipo/flow/ConceptValue" "NO" "Lcom/example/vipo/vipo/flow/ConceptValue;" (.ref w2) := Sta.start ev_w2 (Or.inr ⟨(hw _ (List.mem_of_getElem? (i := 6) rfl)), (hw _ (List.mem_of_getElem? (i := 9) rfl))⟩)
  have E_w2 : Exa s s.heap w2 "com/example/vipo/vipo/flow/ConceptValue" := Exa.start ev_w2 gl1
  obtain ⟨w3, ev_w3⟩ := exa_v gl4
  have S_w3 : Sta s s.heap "com/example/vipo/vipo/flow/ConceptValue" "ANY" "Lcom/example/vipo/vipo/flow/ConceptValue;" (.ref w3) := Sta.start ev_w3 (Or.inr ⟨(hw _ (List.mem_of_getElem? (i := 6) rfl)), (hw _ (List.mem_of_getElem? (i := 16) rfl))⟩)
  have E_w3 : Exa s s.heap w3 "com/example/vipo/vipo/flow/ConceptValue" := Exa.start ev_w3 gl4
  have F_w1_ordinal : Fld s s.heap w1 "java/lang/Enum" "ordinal" "I" (.int (0 : Int32)) := Fld.start ((fld_at ev_w1).symm.trans (eqv_i rfl gl2))
  have F_w2_ordinal : Fld s s.heap w2 "java/lang/Enum" "ordinal" "I" (.int (1 : Int32)) := Fld.start ((fld_at ev_w2).symm.trans (eqv_i rfl gl3))
  have F_w3_ordinal : Fld s s.heap w3 "java/lang/Enum" "ordinal" "I" (.int (2 : Int32)) := Fld.start ((fld_at ev_w3).symm.trans (eqv_i rfl gr4))
  have G : GW s w1 w2 w3 := ⟨S_w1, E_w1, S_w2, E_w2, S_w3, E_w3, F_w1_ordinal, F_w2_ordinal, F_w3_ordinal⟩
  obtain ⟨n, o, h1, h2, h3, _, L, rfl, ⟨rfl, N⟩, hq⟩ := rm0 l s _ hw w1 w2 w3 G tables_1 i0 i1 s.heap s.heap.size (Old.start s) p e ha hc hk s m _ below hf ((Spec.applies_iff_loose hf).mp happ).1 ⟨rfl, State.Warmed39.refl s, rfl⟩ trivial
  refine ⟨n, _, h1, h2, h3, hpost _ _ _ _ _ _ ⟨Cond.after_iff.mpr rfl, Cond.after_iff.mpr (eq_i res_at (Term.int_eval (1)) rfl), trivial⟩ ⟨hq.1, hq.2.1, (hq.2.2.sift fun y hy => Or.inr (N y hy)).mono (by decide) (by decide)⟩⟩
theorem main_1_1 : Claimed_1_1 := comes_1 fun _ _ _ _ _ _ h hF => ⟨h.1, hF⟩
theorem main_1_2 : Claimed_1_2 := comes_1 fun _ _ _ _ _ _ h hF => ⟨h.2.1, hF⟩
end Jvm.Pilot.@@N@@
namespace Jvm.Pilot.@@N@@
open Jvm Jvm.ClassFile Sem Op Lib Jvm.Free Jvm.Stand Jvm.Pilot.@@N@@.Jvm.D
/-! MADE BY PROGRAM (witnessworld.py) out of the Statement's table words and the real class files: 13 classes; the members and pool entries that the words name. The judged class is class 1, her method 2. -/
namespace start1
open Jvm.ClassFile
def u (s : String) : CpInfo := .utf8 (stringToUtf16 s)
/-- a pool by its gaps: so many unusable entries, then the entry; so many at the end -/
def gap : Nat → List CpInfo → List CpInfo
  | 0, r => r
  | n + 1, r => .unusable :: gap n r
def poolList (es : List (Nat × CpInfo)) (last : Nat) : List CpInfo := es.foldr (fun e r => gap e.1 (e.2 :: r)) (gap last [])
def pool (es : List (Nat × CpInfo)) (last : Nat) : Array CpInfo := ⟨poolList es last⟩
def fileOf (pool : Array CpInfo) (this : Nat) (attrs : Array Attribute := #[]) (ms : Array MethodInfo := #[]) (fl : Nat := 33) (sup : Nat := 0) (ifs : Array Nat := #[]) (fds : Array FieldInfo := #[]) : ClassFile where
  minorVersion := 0
  majorVersion := 65
  constantPool := pool
  accessFlags := fl
  thisClass := this
  superClass := sup
  interfaces := ifs
  fields := fds
  methods := ms
  attributes := attrs
def plain (name : String) (sup : Option ClassId) : Class where
  name := name
  kind := .ordinary
  loader := none
  accessFlags := 33
  super := sup
  interfaces := #[]
  cf := none
  fields := #[]
  methods := #[]
  instanceTypes := #[]
  staticTypes := #[]
  resolved := #[]
  callSites := []
  init := .initialized
  statics := none
  mirror := none

def pool0 : Array CpInfo := pool [(5, u "<init>"), (0, u "()V"), (1, .class_ 10), (1, u "java/lang/Object")] 113

def k0m0 : Method := { name := "<init>", desc := "()V", sig := { parameters := [], returnType := none }, accessFlags := 1, code := none }
/-- java/lang/Object -/
def k0 : Class := { plain "java/lang/Object" none with
  accessFlags := 33
  interfaces := #[]
  cf := some (fileOf pool0 8 #[] #[{ accessFlags := 1, nameIndex := 5, descriptorIndex := 6, attributes := #[] }] 33 0 #[] #[])
  fields := #[]
  methods := #[k0m0]
  instanceTypes := #[]
  staticTypes := #[]
  resolved := Array.replicate 124 none
  statics := none }

def pool1 : Array CpInfo := pool [(2, .class_ 4), (1, u "java/lang/Object"), (0, u "<init>"), (0, u "()V"), (0, .integer 2147483647), (0, .fieldref 9 10), (0, .class_ 11), (0, .nameAndType 12 13), (0, u "com/example/vipo/vipo/flow/ConceptValue"), (0, u "YES"), (0, u "Lcom/example/vipo/vipo/flow/ConceptValue;"), (0, .fieldref 9 15), (0, .nameAndType 16 13), (0, u "NO"), (0, .fieldref 9 18), (0, .nameAndType 19 13), (0, u "ANY"), (0, .methodref 21 22), (0, .class_ 23), (0, .nameAndType 24 25), (0, u "com/example/vipo/vipo/flow/ConceptValueAdmitsPinLaw"), (0, u "pick"), (0, u "(I)Lcom/example/vipo/vipo/flow/ConceptValue;"), (0, .methodref 9 27), (0, .nameAndType 28 29), (0, u "admits"), (0, u "(Lcom/example/vipo/vipo/flow/ConceptValue;)Z"), (3, u "law"), (0, u "(II)Z")] 2

def k1m0 : Method := { name := "<init>", desc := "()V", sig := { parameters := [], returnType := none }, accessFlags := 2, code := none }
def k1c1 : Code := { maxStack := 2, maxLocals := 2, code := method_2_code, exceptionTable := #[], attributes := #[] }
def k1m1 : Method := { name := "pick", desc := "(I)Lcom/example/vipo/vipo/flow/ConceptValue;", sig := { parameters := [.int], returnType := some (.object "com/example/vipo/vipo/flow/ConceptValue") }, accessFlags := 10, code := some k1c1 }
def k1c2 : Code := { maxStack := 2, maxLocals := 8, code := code, exceptionTable := #[], attributes := #[] }
def k1m2 : Method := { name := "law", desc := "(II)Z", sig := { parameters := [.int, .int], returnType := some .boolean }, accessFlags := 9, code := some k1c2 }
/-- com/example/vipo/vipo/flow/ConceptValueAdmitsPinLaw -/
def k1 : Class := { plain "com/example/vipo/vipo/flow/ConceptValueAdmitsPinLaw" (some 0) with
  accessFlags := 49
  interfaces := #[]
  cf := some (fileOf pool1 21 #[] #[{ accessFlags := 2, nameIndex := 5, descriptorIndex := 6, attributes := #[] }, { accessFlags := 10, nameIndex := 24, descriptorIndex := 25, attributes := #[] }, { accessFlags := 9, nameIndex := 33, descriptorIndex := 34, attributes := #[] }] 49 2 #[] #[])
  fields := #[]
  methods := #[k1m0, k1m1, k1m2]
  instanceTypes := #[]
  staticTypes := #[]
  resolved := Array.replicate 37 none
  statics := none }

def pool2 : Array CpInfo := pool [(1, .class_ 2), (0, u "java/lang/constant/Constable"), (0, .class_ 4), (0, u "java/lang/Object")] 6

/-- java/lang/constant/Constable -/
def k2 : Class := { plain "java/lang/constant/Constable" (some 0) with
  accessFlags := 1537
  interfaces := #[]
  cf := some (fileOf pool2 1 #[] #[] 1537 3 #[] #[])
  fields := #[]
  methods := #[]
  instanceTypes := #[]
  staticTypes := #[]
  resolved := Array.replicate 11 none
  statics := none }

def pool3 : Array CpInfo := pool [(1, .class_ 2), (0, u "java/lang/Comparable"), (0, .class_ 4), (0, u "java/lang/Object")] 7

/-- java/lang/Comparable -/
def k3 : Class := { plain "java/lang/Comparable" (some 0) with
  accessFlags := 1537
  interfaces := #[]
  cf := some (fileOf pool3 1 #[] #[] 1537 3 #[] #[])
  fields := #[]
  methods := #[]
  instanceTypes := #[]
  staticTypes := #[]
  resolved := Array.replicate 12 none
  statics := none }

def pool4 : Array CpInfo := pool [(1, .class_ 2), (0, u "java/io/Serializable"), (0, .class_ 4), (0, u "java/lang/Object")] 2

/-- java/io/Serializable -/
def k4 : Class := { plain "java/io/Serializable" (some 0) with
  accessFlags := 1537
  interfaces := #[]
  cf := some (fileOf pool4 1 #[] #[] 1537 3 #[] #[])
  fields := #[]
  methods := #[]
  instanceTypes := #[]
  staticTypes := #[]
  resolved := Array.replicate 7 none
  statics := none }

def pool5 : Array CpInfo := pool [(2, .class_ 4), (1, u "java/lang/Enum"), (0, u "name"), (0, u "Ljava/lang/String;"), (2, u "ordinal"), (0, u "I"), (1, .class_ 14), (1, u "java/lang/Object"), (4, u "hash"), (86, .class_ 108), (1, u "java/lang/Enum$EnumDesc"), (2, .class_ 112), (0, u "java/lang/constant/Constable"), (0, .class_ 114), (0, u "java/lang/Comparable"), (0, .class_ 116), (0, u "java/io/Serializable")] 87

/-- java/lang/Enum -/
def k5 : Class := { plain "java/lang/Enum" (some 0) with
  accessFlags := 1057
  interfaces := #[2, 3, 4]
  cf := some (fileOf pool5 2 #[.nestMembers #[106]] #[] 1057 12 #[111, 113, 115] #[{ accessFlags := 18, nameIndex := 5, descriptorIndex := 6, attributes := #[] }, { accessFlags := 18, nameIndex := 9, descriptorIndex := 10, attributes := #[] }, { accessFlags := 2, nameIndex := 19, descriptorIndex := 10, attributes := #[] }])
  fields := #[{ name := "name", type := (.object "java/lang/String"), accessFlags := 18, slot := 0, constantValue := 0 }, { name := "ordinal", type := .int, accessFlags := 18, slot := 1, constantValue := 0 }, { name := "hash", type := .int, accessFlags := 2, slot := 2, constantValue := 0 }]
  methods := #[]
  instanceTypes := #[(.object "java/lang/String"), .int, .int]
  staticTypes := #[]
  resolved := Array.replicate 204 none
  statics := none }

def pool6 : Array CpInfo := pool [(9, .class_ 10), (0, u "com/example/vipo/vipo/json/Labelled"), (57, .class_ 69), (0, u "java/lang/Object")] 13

/-- com/example/vipo/vipo/json/Labelled -/
def k6 : Class := { plain "com/example/vipo/vipo/json/Labelled" (some 0) with
  accessFlags := 1537
  interfaces := #[]
  cf := some (fileOf pool6 9 #[] #[] 1537 68 #[] #[])
  fields := #[]
  methods := #[]
  instanceTypes := #[]
  staticTypes := #[]
  resolved := Array.replicate 83 none
  statics := none }

def pool7 : Array CpInfo := pool [(1, .class_ 2), (0, u "com/example/vipo/vipo/flow/ConceptValue"), (2, u "YES"), (0, u "Lcom/example/vipo/vipo/flow/ConceptValue;"), (2, u "NO"), (0, .fieldref 1 11), (0, .nameAndType 12 6), (0, u "ANY"), (2, u "$VALUES"), (0, u "[Lcom/example/vipo/vipo/flow/ConceptValue;"), (6, .class_ 25), (1, u "java/lang/Enum"), (8, u "label"), (0, u "Ljava/lang/String;"), (16, .class_ 53), (0, u "com/example/vipo/vipo/json/Labelled"), (8, u "admits"), (0, u "(Lcom/example/vipo/vipo/flow/ConceptValue;)Z")] 6

def k7c0 : Code := { maxStack := 2, maxLocals := 2, code := prog_11_method_5_code, exceptionTable := #[], attributes := #[] }
def k7m0 : Method := { name := "admits", desc := "(Lcom/example/vipo/vipo/flow/ConceptValue;)Z", sig := { parameters := [(.object "com/example/vipo/vipo/flow/ConceptValue")], returnType := some .boolean }, accessFlags := 1, code := some k7c0 }
/-- com/example/vipo/vipo/flow/ConceptValue -/
def k7 : Class := { plain "com/example/vipo/vipo/flow/ConceptValue" (some 5) with
  accessFlags := 16433
  interfaces := #[6]
  cf := some (fileOf pool7 1 #[] #[{ accessFlags := 1, nameIndex := 62, descriptorIndex := 63, attributes := #[] }] 16433 23 #[52] #[{ accessFlags := 16409, nameIndex := 5, descriptorIndex := 6, attributes := #[] }, { accessFlags := 16409, nameIndex := 9, descriptorIndex := 6, attributes := #[] }, { accessFlags := 16409, nameIndex := 12, descriptorIndex := 6, attributes := #[] }, { accessFlags := 18, nameIndex := 34, descriptorIndex := 35, attributes := #[] }, { accessFlags := 4122, nameIndex := 15, descriptorIndex := 16, attributes := #[] }])
  fields := #[{ name := "YES", type := (.object "com/example/vipo/vipo/flow/ConceptValue"), accessFlags := 16409, slot := 0, constantValue := 0 }, { name := "NO", type := (.object "com/example/vipo/vipo/flow/ConceptValue"), accessFlags := 16409, slot := 1, constantValue := 0 }, { name := "ANY", type := (.object "com/example/vipo/vipo/flow/ConceptValue"), accessFlags := 16409, slot := 2, constantValue := 0 }, { name := "label", type := (.object "java/lang/String"), accessFlags := 18, slot := 3, constantValue := 0 }, { name := "$VALUES", type := (.array (.object "com/example/vipo/vipo/flow/ConceptValue")), accessFlags := 4122, slot := 3, constantValue := 0 }]
  methods := #[k7m0]
  instanceTypes := #[(.object "java/lang/String"), .int, .int, (.object "java/lang/String")]
  staticTypes := #[(.object "com/example/vipo/vipo/flow/ConceptValue"), (.object "com/example/vipo/vipo/flow/ConceptValue"), (.object "com/example/vipo/vipo/flow/ConceptValue"), (.array (.object "com/example/vipo/vipo/flow/ConceptValue"))]
  resolved := Array.replicate 70 none
  statics := some 0 }

def pool8 : Array CpInfo := pool [(1, u "java/lang/Cloneable"), (0, .class_ 1), (0, u "java/lang/Object"), (0, .class_ 3)] 3

/-- java/lang/Cloneable -/
def k8 : Class := { plain "java/lang/Cloneable" (some 0) with
  accessFlags := 1537
  interfaces := #[]
  cf := some (fileOf pool8 2 #[] #[] 1537 4 #[] #[])
  fields := #[]
  methods := #[]
  instanceTypes := #[]
  staticTypes := #[]
  resolved := Array.replicate 8 none
  statics := none }

/-- the primitive byte -/
def k9 : Class := { plain "byte" none with kind := .primitive 'B', accessFlags := 0x411 }
/-- [B -/
def k10 : Class := { plain "[B" (some 0) with kind := .array 9 .byte, interfaces := #[8, 4], accessFlags := 1041 }

/-- the primitive int -/
def k11 : Class := { plain "int" none with kind := .primitive 'I', accessFlags := 0x411 }
/-- [I -/
def k12 : Class := { plain "[I" (some 0) with kind := .array 11 .int, interfaces := #[8, 4], accessFlags := 1041 }

def heap : Heap := #[{ cls := 7, slots := #[.ref 1, .ref 2, .ref 3, .null], vm := .statics 7 },
  { cls := 7, slots := #[.null, .int 0, .int 0, .null], vm := .none },
  { cls := 7, slots := #[.null, .int 1, .int 0, .null], vm := .none },
  { cls := 7, slots := #[.null, .int 2, .int 0, .null], vm := .none }]
def classes : Array Class := #[k0, k1, k2, k3, k4, k5, k6, k7, k8, k9, k10, k11, k12]
def interned : List (Array UInt16 × Addr) := []
def slotsUsed : Nat := 16
def theMethod : MethodId := ⟨1, 2⟩
def args0 : Array Value := #[.int 5, .int 5]
def aboutOver (below : List Frame) : State where
  vm := { classes := classes, interned := interned.toArray }
  heap := heap
  slotsUsed := slotsUsed
  threads := #[{ frames := .invoking theMethod args0 :: below }]
def below0 : List Frame := [.native { method := ⟨0, 0⟩, args := #[] }]
def about1 : State := aboutOver below0
def p0 : Program := .bare "" "" ""
def e0 : Env := launch0.env 0 0 0
theorem w_frames : about1.frames = Frame.invoking theMethod args0 :: below0 := rfl
set_option maxRecDepth 65536 in
theorem w_args : argsFit about1.vm theMethod args0 = true := by decide +kernel
set_option maxRecDepth 65536 in
theorem w_heap : heapFits about1 = true := by decide +kernel
set_option maxRecDepth 65536 in
theorem w_runnable : about1.curStatus? = some .runnable := by decide +kernel
set_option maxRecDepth 65536 in
theorem w_alone : about1.alone = true := by decide +kernel
set_option maxRecDepth 65536 in
theorem w_named : about1.methodNamed? x = some theMethod := by decide +kernel
set_option maxRecDepth 65536 in
theorem w_hears : about1.hears theMethod below0 = true := by decide +kernel
set_option maxRecDepth 65536 in
theorem w_ripe : about1.ripe theMethod args0 below0 = true := by decide +kernel
theorem w_running : about1.status = .running := rfl
set_option maxRecDepth 65536 in
theorem w_room : about1.hasRoom e0.platform room_1 = true :=
  launch0.hasRoom_least _ room_1 (by decide +kernel) (by decide +kernel) (by decide +kernel) (by decide +kernel) (by decide +kernel) (by decide +kernel)
theorem allAtoms_all (ts : List Jvm.Cond) (a : Array Jvm.Value) (st : Jvm.State) : (allAtoms ts).before a st = ts.all (fun c => c.before a st) := by
  induction ts with
  | nil => rfl
  | cons c t ih =>
    show (Jvm.Cond.and c (allAtoms t)).before a st = _
    rw [Jvm.Cond.before_and, ih, List.all_cons]
def words1 : List Jvm.Cond := Jvm.Cond.code x code maxLocals ret :: tables_1
/-- a 'code' word, met by the world's own term for the bytes: nothing is compared byte by byte -/
theorem code_word {y : MethodName} {bytes : ByteArray} {mx : Nat} {rt : Option FieldType} {a : Array Value} {s : State} {m : MethodId} {meth : Method} {c : Code} (h1 : s.methodNamed? y = some m) (h2 : s.vm.method? m = some meth) (h3 : meth.code = some c) (h4 : c.code = bytes)
    (h5 : (c.maxLocals == mx && c.exceptionTable.isEmpty && decide (c.maxStack ≤ mostOperands) && decide (meth.sig.returnType = rt) && !meth.locks && decide (parseMethodDescriptor y.desc = some meth.sig)) = true) : (Jvm.Cond.code y bytes mx rt).before a s = true := by
  simp only [Bool.and_eq_true, beq_iff_eq, Bool.not_eq_true', decide_eq_true_eq] at h5
  obtain ⟨⟨⟨⟨⟨g1, g2⟩, g3⟩, g4⟩, g5⟩, g6⟩ := h5
  simp [Cond.before, Cond.holds, Cond.value, h1, h2, h3, h4, g1, g2, g3, g4, g5, g6]
def isCode : Jvm.Cond → Bool
  | .code _ _ _ _ => true
  | _ => false
theorem all_split {L : List Jvm.Cond} {P : Jvm.Cond → Bool} (h1 : L.all (fun c => isCode c || P c) = true) (h2 : ∀ c ∈ L.filter isCode, P c = true) : L.all P = true := by
  refine List.all_eq_true.mpr fun c hc => ?_
  have h := List.all_eq_true.mp h1 c hc
  rcases Bool.eq_false_or_eq_true (isCode c) with hi | hi
  · exact h2 c (List.mem_filter.mpr ⟨hc, hi⟩)
  · simpa [hi] using h
set_option maxRecDepth 65536 in
theorem w_c0 : (Jvm.Cond.code x code maxLocals ret).before args0 about1 = true := code_word (m := ⟨1, 2⟩) (meth := k1m2) (c := k1c2) (by decide +kernel) rfl rfl rfl (by decide +kernel)
set_option maxRecDepth 65536 in
theorem w_c1 : (Jvm.Cond.code ({ cls := "com/example/vipo/vipo/flow/ConceptValueAdmitsPinLaw", name := "pick", desc := "(I)Lcom/example/vipo/vipo/flow/ConceptValue;" } : Jvm.MethodName) method_2_code (2 : Nat) (Option.some (Jvm.ClassFile.FieldType.object "com/example/vipo/vipo/flow/ConceptValue"))).before args0 about1 = true := code_word (m := ⟨1, 1⟩) (meth := k1m1) (c := k1c1) (by decide +kernel) rfl rfl rfl (by decide +kernel)
set_option maxRecDepth 65536 in
theorem w_c2 : (Jvm.Cond.code ({ cls := "com/example/vipo/vipo/flow/ConceptValue", name := "admits", desc := "(Lcom/example/vipo/vipo/flow/ConceptValue;)Z" } : Jvm.MethodName) prog_11_method_5_code (2 : Nat) (Option.some Jvm.ClassFile.FieldType.boolean)).before args0 about1 = true := code_word (m := ⟨7, 0⟩) (meth := k7m0) (c := k7c0) (by decide +kernel) rfl rfl rfl (by decide +kernel)
def codes1 : List Jvm.Cond := [Jvm.Cond.code x code maxLocals ret, Jvm.Cond.code ({ cls := "com/example/vipo/vipo/flow/ConceptValueAdmitsPinLaw", name := "pick", desc := "(I)Lcom/example/vipo/vipo/flow/ConceptValue;" } : Jvm.MethodName) method_2_code (2 : Nat) (Option.some (Jvm.ClassFile.FieldType.object "com/example/vipo/vipo/flow/ConceptValue")), Jvm.Cond.code ({ cls := "com/example/vipo/vipo/flow/ConceptValue", name := "admits", desc := "(Lcom/example/vipo/vipo/flow/ConceptValue;)Z" } : Jvm.MethodName) prog_11_method_5_code (2 : Nat) (Option.some Jvm.ClassFile.FieldType.boolean)]
set_option maxRecDepth 65536 in
theorem codes_eq : words1.filter isCode = codes1 := rfl
theorem w_codes : ∀ c ∈ words1.filter isCode, c.before args0 about1 = true := by
  rw [codes_eq]
  intro c hc
  simp only [codes1, List.mem_cons, List.not_mem_nil, or_false] at hc
  rcases hc with rfl | rfl | rfl
  · exact w_c0
  · exact w_c1
  · exact w_c2
set_option maxRecDepth 65536 in
theorem w_t1 : words1.all (fun c => isCode c || c.before args0 about1) = true := by decide +kernel
theorem w_tables : (allAtoms (Jvm.Cond.code x code maxLocals ret :: tables_1)).before args0 about1 = true := by
  rw [allAtoms_all]
  show words1.all (fun c => c.before args0 about1) = true
  refine all_split ?_ w_codes
  rw [w_t1]
set_option maxRecDepth 65536 in
theorem w_case : (Jvm.Cond.and given_1 narrow_1).before args0 about1 = true := by decide +kernel
theorem w_applies : (headSpec (Jvm.Cond.code x code maxLocals ret :: tables_1) room_1).applies x e0.platform about1 = true :=
  (Spec.applies_iff w_frames).mpr ⟨w_running, w_runnable, w_alone, w_named, w_hears, w_ripe, w_room, w_tables⟩
theorem atStart : AtStart classFile x code maxLocals ret World_1 tables_1 room_1 Calls_1 rest_1 Pre_1 launch0 p0 e0 about1 theMethod args0 below0 :=
  ⟨lists_1, trivial, launch0.admits_env _ _ _, launch0.least_env, fairChoices_fair.cas, fairChoices_fair.clock, w_frames, w_args, w_heap, w_applies, trivial, trivial, w_case⟩
end start1
theorem witness_1 : WitnessClaimed_1 := ⟨start1.p0, start1.e0, start1.about1, start1.theMethod, start1.args0, start1.below0, start1.atStart⟩
end Jvm.Pilot.@@N@@
