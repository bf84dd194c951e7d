import JvmDerived
import JvmDerived.Pilot.@@N@@Statement
import JvmDerived.Pilot.@@N@@Code
set_option linter.unusedVariables false
set_option linter.unusedSimpArgs false
namespace Jvm.RoadKit
open Sem ClassFile Op Lib Jvm.Stand Jvm.Free Jvm.LawKit
section New
variable {p : Program} {l : Launch} {e : Env} {R : Room} {s : State} {m : MethodId} {args : Array Value} {below : List Frame} {meth : Method} {c : Code} {T : State} {locs : List Loc} {cells slots : Nat}
theorem retI (X : Stand p l e R s m args below meth c T locs cells slots) (hx : p.tables.exec = Jvm.exec) {pc : Nat} {Ls : Array Slot} {z : Int32} {rest : List Value} (hret : meth.sig.returnType = some .int) (hd : decode c.code pc = .ok (.ireturn, 1)) {fs : List Frame}
    (hl : ∀ (f : JFrame) (acts : List Action), f.method = m → f.locked = none → f.entered = [] → (doReturn e (T.setTop f) acts (some (.int z))).1 = T.setFrames fs) : Steps p.tables e below (T.setTop (mkF m pc Ls (.int z :: rest))) (T.setFrames fs) := by
  have hm' : T.vm.method? m = some meth := X.method'
  have hn : narrow .int (.int z) = .int z := rfl
  show Steps p.tables e below (T.setTop { method := m, pc := pc, locals := Ls, stack := _ :: rest, locked := none }) _
  jvm_step X.here [X.here.top, hx, hd, hm', hret, hn]
  first | (intro acts; rw [hl _ acts rfl rfl rfl]) | rw [hl _ _ rfl rfl rfl]
  exact Steps.refl _
end New
end Jvm.RoadKit
namespace Jvm.Pilot.@@N@@
open Jvm Jvm.ClassFile Sem Op Lib Jvm.Free Jvm.Stand Jvm.LawKit Jvm.RoadKit Bundle Jvm.Pilot.@@N@@.Jvm.D
theorem own_oz {Z : State} {n0 : Nat} {h : Heap} (O : Old Z n0 h) : n0 ≤ h.size := by
  rw [← O.1]; exact O.2.1
theorem own_lsw {tb : Tables} [Ours tb] {e : Env} {below : List Frame} {T target : State} {m : MethodId} {c : Code} {g : JFrame} (h : At T m c below) (hx : tb.exec = Jvm.exec) (hg : g.method = m) {dflt : Int} {prs : Array (Int × Int)} {len : Nat} {o : Int} {pc0 pc' : Nat} (hpc : g.pc = pc0) (hd : decode c.code g.pc = .ok (.lookupswitch dflt prs, len)) {i : Int32} {rest : List Value} (hs : g.stack = .int i :: rest)
    (hsort : (prs.toList.zip (prs.toList.drop 1)).all (fun (a, next) => a.1 < next.1) = true) (hoff : lookupswitch.offset prs.toList dflt i.toInt = o) (ho : 0 ≤ (pc0 : Int) + o) (hp : ((pc0 : Int) + o).toNat = pc')
    (hr : Steps tb e below (T.setTop { g with pc := pc', stack := rest }) target) : Steps tb e below (T.setTop g) target := by
  subst hg hpc hp
  jvm_step h [h.top, hx, hd, hs, hoff, ho, lookupswitch.wp_chain]
  exact ⟨by simpa using hsort, hr⟩
section Nums
variable {x k : Int32} {n : Int}
theorem own_lt1 (hk : k.toInt = n) (h : x < k) : x.toInt < n := by rw [← hk]; exact Int32.lt_iff_toInt_lt.mp h
theorem own_lt2 (hk : k.toInt = n) (h : k < x) : n < x.toInt := by rw [← hk]; exact Int32.lt_iff_toInt_lt.mp h
theorem own_nlt1 (hk : k.toInt = n) (h : ¬ x < k) : n ≤ x.toInt := by rw [Int32.lt_iff_toInt_lt, hk] at h; omega
theorem own_nlt2 (hk : k.toInt = n) (h : ¬ k < x) : x.toInt ≤ n := by rw [Int32.lt_iff_toInt_lt, hk] at h; omega
theorem own_eq (hk : k.toInt = n) (h : x = k) : x.toInt = n := by rw [← hk, h]
theorem own_neq (hk : k.toInt = n) (h : ¬ x = k) : x.toInt ≠ n := fun q => h (Int32.toInt_inj.mp (by rw [hk, q]))
theorem own_glt1 (hk : k.toInt = n) (h : x.toInt < n) : x < k := Int32.lt_iff_toInt_lt.mpr (by rw [hk]; exact h)
theorem own_glt2 (hk : k.toInt = n) (h : n < x.toInt) : k < x := Int32.lt_iff_toInt_lt.mpr (by rw [hk]; exact h)
theorem own_gnlt1 (hk : k.toInt = n) (h : n ≤ x.toInt) : ¬ x < k := fun q => by have := own_lt1 hk q; omega
theorem own_gnlt2 (hk : k.toInt = n) (h : x.toInt ≤ n) : ¬ k < x := fun q => by have := own_lt2 hk q; omega
theorem own_geq (hk : k.toInt = n) (h : x.toInt = n) : x = k := Int32.toInt_inj.mp (by rw [hk, h])
theorem own_gneq (hk : k.toInt = n) (h : x.toInt ≠ n) : ¬ x = k := fun q => h (own_eq hk q)
theorem own_and (hk : k.toInt = n) (h0 : 0 ≤ n) : 0 ≤ (x &&& k).toInt ∧ (x &&& k).toInt ≤ n := by have := c_and x k (by rw [hk]; exact h0); rw [hk] at this; exact this
theorem own_and2 (hk : k.toInt = n) (h0 : 0 ≤ n) : 0 ≤ (k &&& x).toInt ∧ (k &&& x).toInt ≤ n := by have := c_and' k x (by rw [hk]; exact h0); rw [hk] at this; exact this
theorem own_rem (hk : k.toInt = n) (h0 : 0 < n) (hx : 0 ≤ x.toInt) : 0 ≤ (x % k).toInt ∧ (x % k).toInt < n ∧ (x % k).toInt ≤ x.toInt := by
  have := (c_iremV x k).1 hx (by rw [hk]; exact h0); rw [hk] at this; exact ⟨this.1, this.2.1, this.2.2.1⟩
theorem own_add {lo hi : Int} (hk : k.toInt = n) (hx : lo ≤ x.toInt ∧ x.toInt ≤ hi) (h1 : -2147483648 ≤ lo + n) (h2 : hi + n < 2147483648) : lo + n ≤ (x + k).toInt ∧ (x + k).toInt ≤ hi + n := by
  have := c_iadd x k; have := rng32 (x + k); rw [hk] at *; omega
theorem own_add2 {lo hi : Int} (hk : k.toInt = n) (hx : lo ≤ x.toInt ∧ x.toInt ≤ hi) (h1 : -2147483648 ≤ lo + n) (h2 : hi + n < 2147483648) : lo + n ≤ (k + x).toInt ∧ (k + x).toInt ≤ hi + n := by
  have := c_iadd k x; have := rng32 (k + x); rw [hk] at *; omega
end Nums
theorem own_len {Z : State} {args : Array Value} {t : Term} {a : Addr} {c : Cell} {ty : FieldType} {n : Int32} (A : Arr Z Z.heap a c ty) (ev : t.eval args Z none [] Z = some (.ref a)) (h : (Term.length t).eval args Z none [] Z = some (.int n)) : c.slots.size < 2 ^ 31 ∧ c.slots.size.toInt32 = n := by
  have q := A.fin (Vm.Alike.refl _)
  by_cases z : c.slots.size < 2 ^ 31
  · rw [len_f ev q z] at h; exact ⟨z, Value.int.inj (Option.some.inj h)⟩
  · simp [Term.eval, ev, q, z] at h
theorem own_selp {s : State} {args : Array Value} {y z : MethodName} {C : String} (w : (Cond.selects C z z).before args s = true) (hc : z.cls = y.cls) (hp : s.PrivateAt y) (hi : (Cond.instanceMethod y).before args s = true) (hy : y.cls ≠ "java/lang/invoke/MethodHandle" ∧ y.cls ≠ "java/lang/invoke/VarHandle") : (Cond.selects y.cls y y).before args s = true := by
  obtain ⟨c2, r2, m2, -, -, q3, -, kP, hkP, hkPi⟩ := Cond.selects_spec w
  exact selects_self_of_private (by rw [← hc]; exact findClass_of_methodNamed q3) hkP hkPi hp hi hy
theorem own_max64 (x : Int64) : ¬ (9223372036854775807 : Int64) < x := fun h => by have := rng64 x; rw [Int64.lt_iff_toInt_lt, show (9223372036854775807 : Int64).toInt = 9223372036854775807 by decide] at h; omega
theorem own_min64 (x : Int64) : ¬ x < (-9223372036854775808 : Int64) := fun h => by have := rng64 x; rw [Int64.lt_iff_toInt_lt, show (-9223372036854775808 : Int64).toInt = -9223372036854775808 by decide] at h; omega
theorem own_root {Z : State} {a0 : Array Value} {O K : String} {n : Nat} (w : (Cond.noSuperclass O).before a0 Z = true) (wk : (Cond.instantiable K n).before a0 Z = true) (hn : O ≠ K) : NS Z O K := by
  obtain ⟨c, k, h1, h2, h3, -, -⟩ := Cond.noSuperclass_spec w
  obtain ⟨t, kt, g1, -⟩ := Cond.instantiable_spec wk
  have ne := ids_ne h1 g1 hn
  refine ⟨c, t, h1, g1, fun fuel => ?_⟩
  cases fuel with
  | zero => rfl
  | succ f => simp [Vm.isSubclassAux, ne, h2, h3]
theorem own_no {Z : State} {a0 : Array Value} {C S K : String} {n : Nat} (w : (Cond.superclass C S).before a0 Z = true) (wk : (Cond.instantiable K n).before a0 Z = true) (q : NS Z C K) (hn : C ≠ K) : ∃ c t, Z.vm.findClass C = some c ∧ Z.vm.findClass K = some t ∧ Z.vm.assignable c t = false := by
  obtain ⟨c, t, h0, g0, n3⟩ := q
  obtain ⟨p, k, kp, h1, h2, h3, h4, h5, -, h7⟩ := Cond.superclass_spec h0 w
  obtain ⟨t', k', g1, g2, g3, g4, -⟩ := Cond.instantiable_spec wk
  cases g0.symm.trans g1
  have ne := ids_ne h0 g0 hn
  have g5 : k'.isInterface = false := by simp only [Bool.or_eq_false_iff] at g4; exact g4.1
  refine ⟨c, t, h0, g0, ?_⟩
  show Z.vm.assignableAux (255 + 1) c t = false
  simp [Vm.assignableAux, ne, h2, g2, h5, g3, g5, Vm.isSubclass, n3]
theorem own_eqR {Z : State} {args : Array Value} {a b : Term} {idx : List Nat} {w : Addr} (hb : b.eval args Z none idx Z = some (.ref w)) (h : (Cond.eq a b).value args Z none Z idx = some true) : a.eval args Z none idx Z = some (.ref w) := by
  simp only [Cond.value, hb] at h
  cases ht : a.eval args Z none idx Z with
  | none => simp [ht] at h
  | some x => cases x <;> simp [ht] at h ⊢; exact h
def GW (Z : State) (w1 : Addr) (w2 : Addr) (w3 : Addr) (w4 : Addr) (w5 : Addr) (w6 : Addr) (w7 : Addr) (kw1 : ClassId) : Prop :=
  (Sta Z Z.heap "com/example/sablegrid/sablegrid/io/BinaryProtocol$Operation" "$VALUES" "[Lcom/example/sablegrid/sablegrid/io/BinaryProtocol$Operation;" (.ref w1))
  ∧ (Exa Z Z.heap w1 "[Lcom/example/sablegrid/sablegrid/io/BinaryProtocol$Operation;")
  ∧ (Sta Z Z.heap "com/example/sablegrid/sablegrid/io/BinaryProtocol$Operation" "PUT" "Lcom/example/sablegrid/sablegrid/io/BinaryProtocol$Operation;" (.ref w2))
  ∧ (Exa Z Z.heap w2 "com/example/sablegrid/sablegrid/io/BinaryProtocol$Operation")
  ∧ (Sta Z Z.heap "com/example/sablegrid/sablegrid/io/BinaryProtocol$Operation" "GET" "Lcom/example/sablegrid/sablegrid/io/BinaryProtocol$Operation;" (.ref w3))
  ∧ (Exa Z Z.heap w3 "com/example/sablegrid/sablegrid/io/BinaryProtocol$Operation")
  ∧ (Sta Z Z.heap "com/example/sablegrid/sablegrid/io/BinaryProtocol$Operation" "PUT_IF_ABSENT" "Lcom/example/sablegrid/sablegrid/io/BinaryProtocol$Operation;" (.ref w4))
  ∧ (Exa Z Z.heap w4 "com/example/sablegrid/sablegrid/io/BinaryProtocol$Operation")
  ∧ (Sta Z Z.heap "com/example/sablegrid/sablegrid/io/BinaryProtocol$Operation" "REMOVE" "Lcom/example/sablegrid/sablegrid/io/BinaryProtocol$Operation;" (.ref w5))
  ∧ (Exa Z Z.heap w5 "com/example/sablegrid/sablegrid/io/BinaryProtocol$Operation")
  ∧ (Sta Z Z.heap "com/example/sablegrid/sablegrid/io/BinaryProtocol$Operation" "CONTAINS_KEY" "Lcom/example/sablegrid/sablegrid/io/BinaryProtocol$Operation;" (.ref w6))
  ∧ (Exa Z Z.heap w6 "com/example/sablegrid/sablegrid/io/BinaryProtocol$Operation")
  ∧ (Sta Z Z.heap "com/example/sablegrid/sablegrid/io/BinaryProtocol$Operation" "PING" "Lcom/example/sablegrid/sablegrid/io/BinaryProtocol$Operation;" (.ref w7))
  ∧ (Exa Z Z.heap w7 "com/example/sablegrid/sablegrid/io/BinaryProtocol$Operation")
  ∧ (Fld Z Z.heap w2 "com/example/sablegrid/sablegrid/io/BinaryProtocol$Operation" "code" "I" (.int (1 : Int32)))
  ∧ (Fld Z Z.heap w3 "com/example/sablegrid/sablegrid/io/BinaryProtocol$Operation" "code" "I" (.int (3 : Int32)))
  ∧ (Fld Z Z.heap w4 "com/example/sablegrid/sablegrid/io/BinaryProtocol$Operation" "code" "I" (.int (5 : Int32)))
  ∧ (Fld Z Z.heap w5 "com/example/sablegrid/sablegrid/io/BinaryProtocol$Operation" "code" "I" (.int (11 : Int32)))
  ∧ (Fld Z Z.heap w6 "com/example/sablegrid/sablegrid/io/BinaryProtocol$Operation" "code" "I" (.int (15 : Int32)))
  ∧ (Fld Z Z.heap w7 "com/example/sablegrid/sablegrid/io/BinaryProtocol$Operation" "code" "I" (.int (23 : Int32)))
  ∧ (Arv Z Z.heap w1 kw1 (.object "com/example/sablegrid/sablegrid/io/BinaryProtocol$Operation") (6 : Int32) [(.ref w2), (.ref w3), (.ref w4), (.ref w5), (.ref w6), (.ref w7)] .null)
def Q0 (n0 : Nat) (v : Option Value) (h : Heap) (L : List Loc) : Prop := v = some (.int (1 : Int32)) ∧ Fr n0 L
theorem d0_0 : decode prog_2_method_4_code 0 = .ok (.invokestatic 52, 3) := by decide +kernel
theorem d1_0 : decode prog_2_method_1_code 0 = .ok (.getstatic 22, 3) := by decide +kernel
theorem d1_3 : decode prog_2_method_1_code 3 = .ok (.invokevirtual 26, 3) := by decide +kernel
theorem d1_6 : decode prog_2_method_1_code 6 = .ok (.checkcast 27, 3) := by decide +kernel
theorem d1_9 : decode prog_2_method_1_code 9 = .ok (.areturn, 1) := by decide +kernel
theorem pn0 : plainName "com/example/sablegrid/sablegrid/io/BinaryProtocol$Operation" = true := by first | (simp [plainName, overriddenIn]; done) | decide +kernel
theorem ef1 (m : MethodId)  : entryFrame m #[] 0 = mkF m 0 #[] [] := by first | (simp [entryFrame, mkF, argsToLocals, Value.category]; done) | rfl
def Q1 (Z : State) (w1 : Addr) (w2 : Addr) (w3 : Addr) (w4 : Addr) (w5 : Addr) (w6 : Addr) (w7 : Addr) (kw1 : ClassId) (h0 : Heap) (n0 : Nat) (v : Option Value) (h : Heap) (L : List Loc) : Prop :=
  (∃ b2 : Addr, ∃ kw1 : ClassId, v = some (.ref b2) ∧ Fr n0 L ∧ Keep h0 h [] ∧ h0.size ≤ b2 ∧ (Arv Z h b2 kw1 (.object "com/example/sablegrid/sablegrid/io/BinaryProtocol$Operation") (6 : Int32) [(.ref w2), (.ref w3), (.ref w4), (.ref w5), (.ref w6), (.ref w7)] .null) ∧ (Exa Z h b2 "[Lcom/example/sablegrid/sablegrid/io/BinaryProtocol$Operation;"))
set_option maxRecDepth 65536 in
set_option maxHeartbeats 40000000 in
theorem rm1 (l : Launch) (Z : State) (a0 : Array Value) (hw : ∀ d ∈ tables_1, d.before a0 Z = true) (w1 : Addr) (w2 : Addr) (w3 : Addr) (w4 : Addr) (w5 : Addr) (w6 : Addr) (w7 : Addr) (kw1 : ClassId) (G : GW Z w1 w2 w3 w4 w5 w6 w7 kw1) (ws : List Jvm.Cond) (h0 : Heap) (n0 : Nat) (O0 : Old Z n0 h0) :
    MetFree l (⟨"com/example/sablegrid/sablegrid/io/BinaryProtocol$Operation", "values", "()[Lcom/example/sablegrid/sablegrid/io/BinaryProtocol$Operation;"⟩ : MethodName) (head1 (Jvm.Cond.code (⟨"com/example/sablegrid/sablegrid/io/BinaryProtocol$Operation", "values", "()[Lcom/example/sablegrid/sablegrid/io/BinaryProtocol$Operation;"⟩ : MethodName) prog_2_method_1_code 0 (some (.array (.object "com/example/sablegrid/sablegrid/io/BinaryProtocol$Operation"))) :: ws) ({ frames := 1, cells := 1, slots := 6, locals := 14 } : Room)) (fun a U => a = #[] ∧ Z.Warmed39 U.vm ∧ U.heap = h0) (fun _ _ _ _ _ => True) (fun _ U o U' => ∃ v L, o = .returned v ∧ Q1 Z w1 w2 w3 w4 w5 w6 w7 kw1 h0 n0 v U'.heap L ∧ FrameEnd U o U' L ({ frames := 1, cells := 1, slots := 6, locals := 14 } : Room).cells ({ frames := 1, cells := 1, slots := 6, locals := 14 } : Room).slots) := by
  obtain ⟨S_w1, E_w1, S_w2, E_w2, S_w3, E_w3, S_w4, E_w4, S_w5, E_w5, S_w6, E_w6, S_w7, E_w7, F_w2_code, F_w3_code, F_w4_code, F_w5_code, F_w6_code, F_w7_code, A_w1⟩ := id G
  refine MetFree.of_bodySF (plainFor_of_name pn0) hisR ?_
  intro p e s m args below meth c s₁ Bd hml0 hP hK
  obtain ⟨rfl, hZ, hh⟩ := hP
  have hx := Bd.exec
  have hby := Bd.bytes
  have hml : c.maxLocals = 0 := hml0
  have hown : s.vm.findClass "com/example/sablegrid/sablegrid/io/BinaryProtocol$Operation" = some m.cls := findClass_of_methodNamed Bd.named
  have hnm := (name_of_methodNamed Bd.named Bd.method).1
  have hret := Bd.returns
  have hlk : meth.locks = false := BodyLoose.notSynchronized Bd
  have X0 : Stand p l e ({ frames := 1, cells := 1, slots := 6, locals := 14 } : Room) s m #[] below meth c s₁ [] 0 0 := Stand.of_body Bd
  have e0 : s₁.heap = h0 := by rw [← hh, Bd.state]; rfl
  have N0 := Fr.nil n0
  have pre0 : ∀ t, Steps p.tables e below (s₁.setTop (mkF m 0 #[] [])) t → Steps p.tables e below (s₁.setTop (entryFrame m #[] 0)) t := fun t k => castTop (ef1 m ) k
  obtain ⟨T1, X1, e1, st1⟩ := getS2 X0 hx hZ hown (host := "") (Or.inl (hw _ (List.mem_of_getElem? (i := 7) rfl))) Via.refl e0 (S_w1.ext O0.2) (g := (mkF m 0 #[] [])) rfl (hb hby d1_0)
  obtain ⟨T2, h2, X2, e2, E2, VV2, EX2, st2⟩ := cloneH X1 hx hZ hown (hw _ (List.mem_of_getElem? (i := 9) rfl)) (hw _ (List.mem_of_getElem? (i := 10) rfl)) (hw _ (List.mem_of_getElem? (i := 14) rfl)) (hw _ (List.mem_of_getElem? (i := 12) rfl)) (hw _ (List.mem_of_getElem? (i := 13) rfl)) (hw _ (List.mem_of_getElem? (i := 15) rfl)) e1 (Arv.arh (A_w1.ext O0.2)) (E_w1.ext O0.2) (g := (mkF m 3 #[] [(.ref w1)])) rfl (by rw [hml]; rfl) rfl (hb hby d1_3) (by decide) (W := 0) (cap := 6) (by show 2 * 0 + _ ≤ _; exact Nat.le_of_eq rfl) (by decide) (by decide) (by decide) (by decide)
  obtain ⟨b2, g2⟩ : ∃ z, z = h0.size := ⟨_, rfl⟩
  rw [← g2] at VV2 EX2 st2
  have V2 : Arv Z h2 b2 kw1 (.object "com/example/sablegrid/sablegrid/io/BinaryProtocol$Operation") (6 : Int32) [(.ref w2), (.ref w3), (.ref w4), (.ref w5), (.ref w6), (.ref w7)] .null := VV2
  have M2 : h0.size ≤ h2.size := Nat.le_trans (Nat.le_refl _) E2.1
  have O2 := Old.ext O0 E2
  have sz_b2 : h0.size ≤ b2 := Nat.le_of_eq g2.symm
  have g_b2 : n0 ≤ b2 := Nat.le_trans (own_oz O0) (Nat.le_trans (Nat.le_refl _) sz_b2)
  obtain ⟨T3, X3, e3, st3⟩ := castY X2 hx hZ hown (hw _ (List.mem_of_getElem? (i := 23) rfl)) e2 (Ins.self EX2) (g := (mkF m 6 #[] [(.ref b2)])) rfl rfl (hb hby d1_6)
  obtain ⟨fs, hr, hrun, hended, hW, hsame⟩ := X3.leave (v := some (.ref b2)) (fun h => by rw [hret] at h; cases h)
  have KL : Keep h0 h2 [] := ((Keep.refl h0 []).ext E2)
  refine ⟨_, _, pre0 _ ?_, hrun, hended, _, _, rfl, ?_, ⟨_, rfl⟩, hW, hsame.mono (by decide) (by decide)⟩
  ·
    show Steps p.tables e below (s₁.setTop (mkF m 0 #[] [])) _
    refine st1 _ ?_
    show Steps p.tables e below (T1.setTop (mkF m 3 #[] [(.ref w1)])) _
    refine st2 _ ?_
    show Steps p.tables e below (T2.setTop (mkF m 6 #[] [(.ref b2)])) _
    refine st3 _ ?_
    show Steps p.tables e below (T3.setTop (mkF m 9 #[] [(.ref b2)])) _
    exact retOut X3 hx hret rfl (Or.inr (Or.inr (Or.inr (Or.inr ⟨rfl, rfl, rfl⟩)))) (hb hby d1_9) hr
  ·
    show Q1 Z w1 w2 w3 w4 w5 w6 w7 kw1 h0 n0 _ T3.heap _
    rw [e3]
    exact ⟨b2, kw1, rfl, N0, KL, (Nat.le_trans (Nat.le_refl _) sz_b2), V2, EX2⟩
theorem pd0 : parseMethodDescriptor "()[Lcom/example/sablegrid/sablegrid/io/BinaryProtocol$Operation;" = some ⟨[], some (.array (.object "com/example/sablegrid/sablegrid/io/BinaryProtocol$Operation"))⟩ := by decide +kernel
theorem d0_3 : decode prog_2_method_4_code 3 = .ok (.astore_n 1, 1) := by decide +kernel
theorem d0_4 : decode prog_2_method_4_code 4 = .ok (.aload_n 1, 1) := by decide +kernel
theorem d0_5 : decode prog_2_method_4_code 5 = .ok (.arraylength, 1) := by decide +kernel
theorem d0_6 : decode prog_2_method_4_code 6 = .ok (.istore_n 2, 1) := by decide +kernel
theorem d0_7 : decode prog_2_method_4_code 7 = .ok (.iconst 0, 1) := by decide +kernel
theorem d0_8 : decode prog_2_method_4_code 8 = .ok (.istore_n 3, 1) := by decide +kernel
theorem d0_9 : decode prog_2_method_4_code 9 = .ok (.iload_n 3, 1) := by decide +kernel
theorem d0_10 : decode prog_2_method_4_code 10 = .ok (.iload_n 2, 1) := by decide +kernel
theorem d0_11 : decode prog_2_method_4_code 11 = .ok (.if_icmp .ge 26, 3) := by decide +kernel
theorem d0_14 : decode prog_2_method_4_code 14 = .ok (.aload_n 1, 1) := by decide +kernel
theorem d0_15 : decode prog_2_method_4_code 15 = .ok (.iload_n 3, 1) := by decide +kernel
theorem d0_16 : decode prog_2_method_4_code 16 = .ok (.aaload, 1) := by decide +kernel
theorem d0_17 : decode prog_2_method_4_code 17 = .ok (.astore 4, 2) := by decide +kernel
theorem d0_19 : decode prog_2_method_4_code 19 = .ok (.aload 4, 2) := by decide +kernel
theorem d0_21 : decode prog_2_method_4_code 21 = .ok (.getfield 41, 3) := by decide +kernel
theorem d0_24 : decode prog_2_method_4_code 24 = .ok (.iload_n 0, 1) := by decide +kernel
theorem d0_25 : decode prog_2_method_4_code 25 = .ok (.if_icmp .ne 6, 3) := by decide +kernel
theorem d0_28 : decode prog_2_method_4_code 28 = .ok (.aload 4, 2) := by decide +kernel
theorem d0_30 : decode prog_2_method_4_code 30 = .ok (.areturn, 1) := by decide +kernel
theorem d0_31 : decode prog_2_method_4_code 31 = .ok (.iinc 3 1, 3) := by decide +kernel
theorem d0_34 : decode prog_2_method_4_code 34 = .ok (.goto (-25), 3) := by decide +kernel
theorem d0_37 : decode prog_2_method_4_code 37 = .ok (.aconst_null, 1) := by decide +kernel
theorem d0_38 : decode prog_2_method_4_code 38 = .ok (.areturn, 1) := by decide +kernel
theorem ef2 (m : MethodId) (x0 : Int32) : entryFrame m #[(.int x0)] 5 = mkF m 0 #[.val (.int x0), .unset, .unset, .unset, .unset] [] := by first | (simp [entryFrame, mkF, argsToLocals, Value.category]; done) | rfl
def Q2 (Z : State) (w1 : Addr) (w2 : Addr) (w3 : Addr) (w4 : Addr) (w5 : Addr) (w6 : Addr) (w7 : Addr) (kw1 : ClassId) (p1 : Int32) (h0 : Heap) (n0 : Nat) (v : Option Value) (h : Heap) (L : List Loc) : Prop :=
  (((1 : Int32) = p1) ∧ v = some (.ref w2) ∧ Fr n0 L ∧ Keep h0 h [])
  ∨ ((¬ ((1 : Int32) = p1)) ∧ ((3 : Int32) = p1) ∧ v = some (.ref w3) ∧ Fr n0 L ∧ Keep h0 h [])
  ∨ ((¬ ((1 : Int32) = p1)) ∧ (¬ ((3 : Int32) = p1)) ∧ ((5 : Int32) = p1) ∧ v = some (.ref w4) ∧ Fr n0 L ∧ Keep h0 h [])
  ∨ ((¬ ((1 : Int32) = p1)) ∧ (¬ ((3 : Int32) = p1)) ∧ (¬ ((5 : Int32) = p1)) ∧ ((11 : Int32) = p1) ∧ v = some (.ref w5) ∧ Fr n0 L ∧ Keep h0 h [])
  ∨ ((¬ ((1 : Int32) = p1)) ∧ (¬ ((3 : Int32) = p1)) ∧ (¬ ((5 : Int32) = p1)) ∧ (¬ ((11 : Int32) = p1)) ∧ ((15 : Int32) = p1) ∧ v = some (.ref w6) ∧ Fr n0 L ∧ Keep h0 h [])
  ∨ ((¬ ((1 : Int32) = p1)) ∧ (¬ ((3 : Int32) = p1)) ∧ (¬ ((5 : Int32) = p1)) ∧ (¬ ((11 : Int32) = p1)) ∧ (¬ ((15 : Int32) = p1)) ∧ ((23 : Int32) = p1) ∧ v = some (.ref w7) ∧ Fr n0 L ∧ Keep h0 h [])
  ∨ ((¬ ((1 : Int32) = p1)) ∧ (¬ ((3 : Int32) = p1)) ∧ (¬ ((5 : Int32) = p1)) ∧ (¬ ((11 : Int32) = p1)) ∧ (¬ ((15 : Int32) = p1)) ∧ (¬ ((23 : Int32) = p1)) ∧ v = some .null ∧ Fr n0 L ∧ Keep h0 h [])
set_option maxRecDepth 65536 in
set_option maxHeartbeats 40000000 in
theorem rm2 (l : Launch) (Z : State) (a0 : Array Value) (hw : ∀ d ∈ tables_1, d.before a0 Z = true) (w1 : Addr) (w2 : Addr) (w3 : Addr) (w4 : Addr) (w5 : Addr) (w6 : Addr) (w7 : Addr) (kw1 : ClassId) (G : GW Z w1 w2 w3 w4 w5 w6 w7 kw1) (ws : List Jvm.Cond) (p1 : Int32) (h0 : Heap) (n0 : Nat) (O0 : Old Z n0 h0) :
    MetFree l (⟨"com/example/sablegrid/sablegrid/io/BinaryProtocol$Operation", "of", "(I)Lcom/example/sablegrid/sablegrid/io/BinaryProtocol$Operation;"⟩ : MethodName) (head1 (Jvm.Cond.code (⟨"com/example/sablegrid/sablegrid/io/BinaryProtocol$Operation", "of", "(I)Lcom/example/sablegrid/sablegrid/io/BinaryProtocol$Operation;"⟩ : MethodName) prog_2_method_4_code 5 (some (.object "com/example/sablegrid/sablegrid/io/BinaryProtocol$Operation")) :: ws) ({ frames := 2, cells := 1, slots := 6, locals := 25 } : Room)) (fun a U => a = #[(.int p1)] ∧ Z.Warmed39 U.vm ∧ U.heap = h0) (fun _ _ _ _ _ => True) (fun _ U o U' => ∃ v L, o = .returned v ∧ Q2 Z w1 w2 w3 w4 w5 w6 w7 kw1 p1 h0 n0 v U'.heap L ∧ FrameEnd U o U' L ({ frames := 2, cells := 1, slots := 6, locals := 25 } : Room).cells ({ frames := 2, cells := 1, slots := 6, locals := 25 } : Room).slots) := by
  obtain ⟨S_w1, E_w1, S_w2, E_w2, S_w3, E_w3, S_w4, E_w4, S_w5, E_w5, S_w6, E_w6, S_w7, E_w7, F_w2_code, F_w3_code, F_w4_code, F_w5_code, F_w6_code, F_w7_code, A_w1⟩ := id G
  refine MetFree.of_bodySF (plainFor_of_name pn0) hisR ?_
  intro p e s m args below meth c s₁ Bd hml0 hP hK
  obtain ⟨rfl, hZ, hh⟩ := hP
  have hx := Bd.exec
  have hby := Bd.bytes
  have hml : c.maxLocals = 5 := hml0
  have hown : s.vm.findClass "com/example/sablegrid/sablegrid/io/BinaryProtocol$Operation" = some m.cls := findClass_of_methodNamed Bd.named
  have hnm := (name_of_methodNamed Bd.named Bd.method).1
  have hret := Bd.returns
  have hlk : meth.locks = false := BodyLoose.notSynchronized Bd
  have X0 : Stand p l e ({ frames := 2, cells := 1, slots := 6, locals := 25 } : Room) s m #[(.int p1)] below meth c s₁ [] 0 0 := Stand.of_body Bd
  have e0 : s₁.heap = h0 := by rw [← hh, Bd.state]; rfl
  have N0 := Fr.nil n0
  have pre0 : ∀ t, Steps p.tables e below (s₁.setTop (mkF m 0 #[.val (.int p1), .unset, .unset, .unset, .unset] [])) t → Steps p.tables e below (s₁.setTop (entryFrame m #[(.int p1)] 5)) t := fun t k => castTop (ef2 m p1) k
  obtain ⟨_, _, ⟨T1, L1, c1, n1⟩, -, X1, ⟨Lc1, hQ1, l1, y1, z1⟩, st1⟩ := Jvm.LawKit.callS X0 hx (y := (⟨"com/example/sablegrid/sablegrid/io/BinaryProtocol$Operation", "values", "()[Lcom/example/sablegrid/sablegrid/io/BinaryProtocol$Operation;"⟩ : MethodName)) hown (mvT hZ (hw _ (List.mem_of_getElem? (i := 4) rfl))) (mvT hZ (hw _ (List.mem_of_getElem? (i := 5) rfl))) (mvT hZ (hw _ (List.mem_of_getElem? (i := 2) rfl))) (mvT hZ (hw _ (List.mem_of_getElem? (i := 6) rfl))) (by decide) (backOf (W := 0) (rm1 l Z a0 hw w1 w2 w3 w4 w5 w6 w7 kw1 G []  h0 n0 O0 ) hZ (hw _ (List.mem_of_getElem? (i := 6) rfl)) (hw _ (List.mem_of_getElem? (i := 2) rfl)) (by decide) (by decide)) (g := (mkF m 0 #[.val (.int p1), .unset, .unset, .unset, .unset] [])) rfl (by rw [hml]; rfl) (argsL := []) (rest := []) (lenOf pd0 rfl) rfl (by show 2 * 0 + _ ≤ _; exact Nat.le_of_eq rfl) (hb hby d0_0) (fun _ _ => ⟨rfl, e0, (by decide : 0 + 1 ≤ _), (by decide : 0 + 6 ≤ _)⟩)
  dsimp only [Pt.U, Pt.locs, Pt.cells, Pt.slots] at X1 l1 y1 z1 st1 hQ1
  subst l1 y1 z1
  have X1 : Stand p l e ({ frames := 2, cells := 1, slots := 6, locals := 25 } : Room) s m #[(.int p1)] below meth c T1 _ 1 6 := X1
  obtain ⟨b2, k3, rfl, Nq4, K5, sz_b2, f6, f7⟩ := hQ1
  have N1 := Fr.app N0 Nq4
  have g_b2 : n0 ≤ b2 := Nat.le_trans (own_oz O0) sz_b2
  have M1 : h0.size ≤ T1.heap.size := Nat.le_trans (Nat.le_refl _) K5.1
  have O1 := Old.keep O0 K5 all0
  obtain ⟨cl8, Ar8, qa8, Sa8, Na8, Ha8, Ga8⟩ := id (f6)
  obtain ⟨cl9, Ar9, qa9, Sa9, Na9, Ha9, Ga9⟩ := id (f6)
  have hin9 : ¬ ((0 : Int32) < 0 ∨ cl9.slots.size ≤ ((0 : Int32)).toNatClampNeg) := inb_of Sa9 ⟨by decide, by decide⟩
  have hat9 : cl9.slots[((0 : Int32)).toNatClampNeg]? = some (.ref w2) := Has.at Ha9 hin9 rfl
  obtain ⟨T10, X10, e10, st10⟩ := getF X1 hx hZ hown (host := "") (Or.inl (hw _ (List.mem_of_getElem? (i := 25) rfl))) Via.refl rfl (F_w2_code.ext O1.2) (g := (mkF m 21 #[.val (.int p1), .val (.ref b2), .val (.int (6 : Int32)), .val (.int (0 : Int32)), .val (.ref w2)] [(.ref w2)])) rfl rfl (hb hby d0_21)
  have pre11 : ∀ t, Steps p.tables e below (T10.setTop (mkF m 25 #[.val (.int p1), .val (.ref b2), .val (.int (6 : Int32)), .val (.int (0 : Int32)), .val (.ref w2)] [(.int p1), (.int (1 : Int32))])) t → Steps p.tables e below (s₁.setTop (entryFrame m #[(.int p1)] 5)) t := fun t k => by
    refine pre0 _ ?_
    show Steps p.tables e below (s₁.setTop (mkF m 0 #[.val (.int p1), .unset, .unset, .unset, .unset] [])) _
    refine st1 _ ?_
    show Steps p.tables e below (T1.setTop (mkF m 3 #[.val (.int p1), .unset, .unset, .unset, .unset] [(.ref b2)])) _
    refine XS.astoreN X1.here hx rfl (hb hby d0_3) rfl rfl (l' := #[.val (.int p1), .val (.ref b2), .unset, .unset, .unset]) rfl ?_
    show Steps p.tables e below (T1.setTop (mkF m 4 #[.val (.int p1), .val (.ref b2), .unset, .unset, .unset] [])) _
    refine XS.aloadN X1.here hx rfl (hb hby d0_4) rfl rfl ?_
    show Steps p.tables e below (T1.setTop (mkF m 5 #[.val (.int p1), .val (.ref b2), .unset, .unset, .unset] [(.ref b2)])) _
    refine X1.arraylength hx Ar8.1 (State.isArrayOf_alike hZ.alike Ar8.2.1) (g := (mkF m 5 #[.val (.int p1), .val (.ref b2), .unset, .unset, .unset] [(.ref b2)])) rfl rfl (hb hby d0_5) _ ?_
    rw [len_of Sa8 Na8]
    show Steps p.tables e below (T1.setTop (mkF m 6 #[.val (.int p1), .val (.ref b2), .unset, .unset, .unset] [(.int (6 : Int32))])) _
    refine XS.istoreN X1.here hx rfl (hb hby d0_6) rfl (l' := #[.val (.int p1), .val (.ref b2), .val (.int (6 : Int32)), .unset, .unset]) rfl ?_
    show Steps p.tables e below (T1.setTop (mkF m 7 #[.val (.int p1), .val (.ref b2), .val (.int (6 : Int32)), .unset, .unset] [])) _
    refine XS.iconst X1.here hx rfl (hb hby d0_7) ?_
    show Steps p.tables e below (T1.setTop (mkF m 8 #[.val (.int p1), .val (.ref b2), .val (.int (6 : Int32)), .unset, .unset] [(.int (0 : Int32))])) _
    refine XS.istoreN X1.here hx rfl (hb hby d0_8) rfl (l' := #[.val (.int p1), .val (.ref b2), .val (.int (6 : Int32)), .val (.int (0 : Int32)), .unset]) rfl ?_
    show Steps p.tables e below (T1.setTop (mkF m 9 #[.val (.int p1), .val (.ref b2), .val (.int (6 : Int32)), .val (.int (0 : Int32)), .unset] [])) _
    refine XS.iloadN X1.here hx rfl (hb hby d0_9) rfl ?_
    show Steps p.tables e below (T1.setTop (mkF m 10 #[.val (.int p1), .val (.ref b2), .val (.int (6 : Int32)), .val (.int (0 : Int32)), .unset] [(.int (0 : Int32))])) _
    refine XS.iloadN X1.here hx rfl (hb hby d0_10) rfl ?_
    show Steps p.tables e below (T1.setTop (mkF m 11 #[.val (.int p1), .val (.ref b2), .val (.int (6 : Int32)), .val (.int (0 : Int32)), .unset] [(.int (6 : Int32)), (.int (0 : Int32))])) _
    refine XS.icmpNo X1.here hx rfl (hb hby d0_11) rfl (tlt (by decide : (0 : Int32) < (6 : Int32))).2.1 ?_
    show Steps p.tables e below (T1.setTop (mkF m 14 #[.val (.int p1), .val (.ref b2), .val (.int (6 : Int32)), .val (.int (0 : Int32)), .unset] [])) _
    refine XS.aloadN X1.here hx rfl (hb hby d0_14) rfl rfl ?_
    show Steps p.tables e below (T1.setTop (mkF m 15 #[.val (.int p1), .val (.ref b2), .val (.int (6 : Int32)), .val (.int (0 : Int32)), .unset] [(.ref b2)])) _
    refine XS.iloadN X1.here hx rfl (hb hby d0_15) rfl ?_
    show Steps p.tables e below (T1.setTop (mkF m 16 #[.val (.int p1), .val (.ref b2), .val (.int (6 : Int32)), .val (.int (0 : Int32)), .unset] [(.int (0 : Int32)), (.ref b2)])) _
    refine X1.aaload hx (j := (0 : Int32)) (v := (.ref w2)) Ar9.1 (State.isArrayOf_alike hZ.alike Ar9.2.1) rfl Ar9.2.2 hin9 hat9 (g := (mkF m 16 #[.val (.int p1), .val (.ref b2), .val (.int (6 : Int32)), .val (.int (0 : Int32)), .unset] [(.int (0 : Int32)), (.ref b2)])) rfl rfl (hb hby d0_16) _ ?_
    show Steps p.tables e below (T1.setTop (mkF m 17 #[.val (.int p1), .val (.ref b2), .val (.int (6 : Int32)), .val (.int (0 : Int32)), .unset] [(.ref w2)])) _
    refine XS.astore X1.here hx rfl (hb hby d0_17) rfl rfl (l' := #[.val (.int p1), .val (.ref b2), .val (.int (6 : Int32)), .val (.int (0 : Int32)), .val (.ref w2)]) rfl ?_
    show Steps p.tables e below (T1.setTop (mkF m 19 #[.val (.int p1), .val (.ref b2), .val (.int (6 : Int32)), .val (.int (0 : Int32)), .val (.ref w2)] [])) _
    refine XS.aload X1.here hx rfl (hb hby d0_19) rfl rfl ?_
    show Steps p.tables e below (T1.setTop (mkF m 21 #[.val (.int p1), .val (.ref b2), .val (.int (6 : Int32)), .val (.int (0 : Int32)), .val (.ref w2)] [(.ref w2)])) _
    refine st10 _ ?_
    show Steps p.tables e below (T10.setTop (mkF m 24 #[.val (.int p1), .val (.ref b2), .val (.int (6 : Int32)), .val (.int (0 : Int32)), .val (.ref w2)] [(.int (1 : Int32))])) _
    refine XS.iloadN X10.here hx rfl (hb hby d0_24) rfl ?_
    exact k
  by_cases hc12 : (1 : Int32) = p1
  ·
    have pre13 : ∀ t, Steps p.tables e below (T10.setTop (mkF m 25 #[.val (.int (1 : Int32)), .val (.ref b2), .val (.int (6 : Int32)), .val (.int (0 : Int32)), .val (.ref w2)] [(.int (1 : Int32)), (.int (1 : Int32))])) t → Steps p.tables e below (s₁.setTop (entryFrame m #[(.int p1)] 5)) t := fun t k => pre11 t (by rw [hc12.symm]; exact k)
    obtain ⟨fs, hr, hrun, hended, hW, hsame⟩ := X10.leave (v := some (.ref w2)) (fun h => by rw [hret] at h; cases h)
    have KL : Keep h0 T1.heap [] := ((Keep.refl h0 []).trans K5 all0)
    refine ⟨_, _, pre13 _ ?_, hrun, hended, _, _, rfl, ?_, ⟨_, rfl⟩, hW, hsame.mono (by decide) (by decide)⟩
    ·
      show Steps p.tables e below (T10.setTop (mkF m 25 #[.val (.int (1 : Int32)), .val (.ref b2), .val (.int (6 : Int32)), .val (.int (0 : Int32)), .val (.ref w2)] [(.int (1 : Int32)), (.int (1 : Int32))])) _
      refine XS.icmpNo X10.here hx rfl (hb hby d0_25) rfl (teq (by decide : (1 : Int32) = (1 : Int32))).2 ?_
      show Steps p.tables e below (T10.setTop (mkF m 28 #[.val (.int (1 : Int32)), .val (.ref b2), .val (.int (6 : Int32)), .val (.int (0 : Int32)), .val (.ref w2)] [])) _
      refine XS.aload X10.here hx rfl (hb hby d0_28) rfl rfl ?_
      show Steps p.tables e below (T10.setTop (mkF m 30 #[.val (.int (1 : Int32)), .val (.ref b2), .val (.int (6 : Int32)), .val (.int (0 : Int32)), .val (.ref w2)] [(.ref w2)])) _
      exact retOut X10 hx hret rfl (Or.inr (Or.inr (Or.inr (Or.inr ⟨rfl, rfl, rfl⟩)))) (hb hby d0_30) hr
    ·
      show Q2 Z w1 w2 w3 w4 w5 w6 w7 kw1 p1 h0 n0 _ T10.heap _
      rw [e10]
      exact (Or.inl ⟨hc12, rfl, N1, KL⟩)
  ·
    obtain ⟨cl14, Ar14, qa14, Sa14, Na14, Ha14, Ga14⟩ := id (f6)
    have hin14 : ¬ ((1 : Int32) < 0 ∨ cl14.slots.size ≤ ((1 : Int32)).toNatClampNeg) := inb_of Sa14 ⟨by decide, by decide⟩
    have hat14 : cl14.slots[((1 : Int32)).toNatClampNeg]? = some (.ref w3) := Has.at Ha14 hin14 rfl
    obtain ⟨T15, X15, e15, st15⟩ := getF X10 hx hZ hown (host := "") (Or.inl (hw _ (List.mem_of_getElem? (i := 25) rfl))) Via.refl e10 (F_w3_code.ext O1.2) (g := (mkF m 21 #[.val (.int p1), .val (.ref b2), .val (.int (6 : Int32)), .val (.int (1 : Int32)), .val (.ref w3)] [(.ref w3)])) rfl rfl (hb hby d0_21)
    have pre16 : ∀ t, Steps p.tables e below (T15.setTop (mkF m 25 #[.val (.int p1), .val (.ref b2), .val (.int (6 : Int32)), .val (.int (1 : Int32)), .val (.ref w3)] [(.int p1), (.int (3 : Int32))])) t → Steps p.tables e below (s₁.setTop (entryFrame m #[(.int p1)] 5)) t := fun t k => by
      refine pre11 _ ?_
      show Steps p.tables e below (T10.setTop (mkF m 25 #[.val (.int p1), .val (.ref b2), .val (.int (6 : Int32)), .val (.int (0 : Int32)), .val (.ref w2)] [(.int p1), (.int (1 : Int32))])) _
      refine XS.icmpYes X10.here hx rfl (pc0 := 25) (pc' := 31) rfl (hb hby d0_25) rfl (feq hc12).2 (by decide) (by decide) ?_
      show Steps p.tables e below (T10.setTop (mkF m 31 #[.val (.int p1), .val (.ref b2), .val (.int (6 : Int32)), .val (.int (0 : Int32)), .val (.ref w2)] [])) _
      refine XS.iinc X10.here hx rfl (hb hby d0_31) rfl (l' := #[.val (.int p1), .val (.ref b2), .val (.int (6 : Int32)), .val (.int (1 : Int32)), .val (.ref w2)]) rfl ?_
      show Steps p.tables e below (T10.setTop (mkF m 34 #[.val (.int p1), .val (.ref b2), .val (.int (6 : Int32)), .val (.int (1 : Int32)), .val (.ref w2)] [])) _
      refine XS.goto X10.here hx rfl (pc0 := 34) (pc' := 9) rfl (hb hby d0_34) (by decide) (by decide) ?_
      show Steps p.tables e below (T10.setTop (mkF m 9 #[.val (.int p1), .val (.ref b2), .val (.int (6 : Int32)), .val (.int (1 : Int32)), .val (.ref w2)] [])) _
      refine XS.iloadN X10.here hx rfl (hb hby d0_9) rfl ?_
      show Steps p.tables e below (T10.setTop (mkF m 10 #[.val (.int p1), .val (.ref b2), .val (.int (6 : Int32)), .val (.int (1 : Int32)), .val (.ref w2)] [(.int (1 : Int32))])) _
      refine XS.iloadN X10.here hx rfl (hb hby d0_10) rfl ?_
      show Steps p.tables e below (T10.setTop (mkF m 11 #[.val (.int p1), .val (.ref b2), .val (.int (6 : Int32)), .val (.int (1 : Int32)), .val (.ref w2)] [(.int (6 : Int32)), (.int (1 : Int32))])) _
      refine XS.icmpNo X10.here hx rfl (hb hby d0_11) rfl (tlt (by decide : (1 : Int32) < (6 : Int32))).2.1 ?_
      show Steps p.tables e below (T10.setTop (mkF m 14 #[.val (.int p1), .val (.ref b2), .val (.int (6 : Int32)), .val (.int (1 : Int32)), .val (.ref w2)] [])) _
      refine XS.aloadN X10.here hx rfl (hb hby d0_14) rfl rfl ?_
      show Steps p.tables e below (T10.setTop (mkF m 15 #[.val (.int p1), .val (.ref b2), .val (.int (6 : Int32)), .val (.int (1 : Int32)), .val (.ref w2)] [(.ref b2)])) _
      refine XS.iloadN X10.here hx rfl (hb hby d0_15) rfl ?_
      show Steps p.tables e below (T10.setTop (mkF m 16 #[.val (.int p1), .val (.ref b2), .val (.int (6 : Int32)), .val (.int (1 : Int32)), .val (.ref w2)] [(.int (1 : Int32)), (.ref b2)])) _
      refine X10.aaload hx (j := (1 : Int32)) (v := (.ref w3)) (by rw [e10]; exact Ar14.1) (State.isArrayOf_alike hZ.alike Ar14.2.1) rfl Ar14.2.2 hin14 hat14 (g := (mkF m 16 #[.val (.int p1), .val (.ref b2), .val (.int (6 : Int32)), .val (.int (1 : Int32)), .val (.ref w2)] [(.int (1 : Int32)), (.ref b2)])) rfl rfl (hb hby d0_16) _ ?_
      show Steps p.tables e below (T10.setTop (mkF m 17 #[.val (.int p1), .val (.ref b2), .val (.int (6 : Int32)), .val (.int (1 : Int32)), .val (.ref w2)] [(.ref w3)])) _
      refine XS.astore X10.here hx rfl (hb hby d0_17) rfl rfl (l' := #[.val (.int p1), .val (.ref b2), .val (.int (6 : Int32)), .val (.int (1 : Int32)), .val (.ref w3)]) rfl ?_
      show Steps p.tables e below (T10.setTop (mkF m 19 #[.val (.int p1), .val (.ref b2), .val (.int (6 : Int32)), .val (.int (1 : Int32)), .val (.ref w3)] [])) _
      refine XS.aload X10.here hx rfl (hb hby d0_19) rfl rfl ?_
      show Steps p.tables e below (T10.setTop (mkF m 21 #[.val (.int p1), .val (.ref b2), .val (.int (6 : Int32)), .val (.int (1 : Int32)), .val (.ref w3)] [(.ref w3)])) _
      refine st15 _ ?_
      show Steps p.tables e below (T15.setTop (mkF m 24 #[.val (.int p1), .val (.ref b2), .val (.int (6 : Int32)), .val (.int (1 : Int32)), .val (.ref w3)] [(.int (3 : Int32))])) _
      refine XS.iloadN X15.here hx rfl (hb hby d0_24) rfl ?_
      exact k
    by_cases hc17 : (3 : Int32) = p1
    ·
      have pre18 : ∀ t, Steps p.tables e below (T15.setTop (mkF m 25 #[.val (.int (3 : Int32)), .val (.ref b2), .val (.int (6 : Int32)), .val (.int (1 : Int32)), .val (.ref w3)] [(.int (3 : Int32)), (.int (3 : Int32))])) t → Steps p.tables e below (s₁.setTop (entryFrame m #[(.int p1)] 5)) t := fun t k => pre16 t (by rw [hc17.symm]; exact k)
      obtain ⟨fs, hr, hrun, hended, hW, hsame⟩ := X15.leave (v := some (.ref w3)) (fun h => by rw [hret] at h; cases h)
      have KL : Keep h0 T1.heap [] := ((Keep.refl h0 []).trans K5 all0)
      refine ⟨_, _, pre18 _ ?_, hrun, hended, _, _, rfl, ?_, ⟨_, rfl⟩, hW, hsame.mono (by decide) (by decide)⟩
      ·
        show Steps p.tables e below (T15.setTop (mkF m 25 #[.val (.int (3 : Int32)), .val (.ref b2), .val (.int (6 : Int32)), .val (.int (1 : Int32)), .val (.ref w3)] [(.int (3 : Int32)), (.int (3 : Int32))])) _
        refine XS.icmpNo X15.here hx rfl (hb hby d0_25) rfl (teq (by decide : (3 : Int32) = (3 : Int32))).2 ?_
        show Steps p.tables e below (T15.setTop (mkF m 28 #[.val (.int (3 : Int32)), .val (.ref b2), .val (.int (6 : Int32)), .val (.int (1 : Int32)), .val (.ref w3)] [])) _
        refine XS.aload X15.here hx rfl (hb hby d0_28) rfl rfl ?_
        show Steps p.tables e below (T15.setTop (mkF m 30 #[.val (.int (3 : Int32)), .val (.ref b2), .val (.int (6 : Int32)), .val (.int (1 : Int32)), .val (.ref w3)] [(.ref w3)])) _
        exact retOut X15 hx hret rfl (Or.inr (Or.inr (Or.inr (Or.inr ⟨rfl, rfl, rfl⟩)))) (hb hby d0_30) hr
      ·
        show Q2 Z w1 w2 w3 w4 w5 w6 w7 kw1 p1 h0 n0 _ T15.heap _
        rw [e15]
        exact (Or.inr (Or.inl ⟨hc12, hc17, rfl, N1, KL⟩))
    ·
      obtain ⟨cl19, Ar19, qa19, Sa19, Na19, Ha19, Ga19⟩ := id (f6)
      have hin19 : ¬ ((2 : Int32) < 0 ∨ cl19.slots.size ≤ ((2 : Int32)).toNatClampNeg) := inb_of Sa19 ⟨by decide, by decide⟩
      have hat19 : cl19.slots[((2 : Int32)).toNatClampNeg]? = some (.ref w4) := Has.at Ha19 hin19 rfl
      obtain ⟨T20, X20, e20, st20⟩ := getF X15 hx hZ hown (host := "") (Or.inl (hw _ (List.mem_of_getElem? (i := 25) rfl))) Via.refl e15 (F_w4_code.ext O1.2) (g := (mkF m 21 #[.val (.int p1), .val (.ref b2), .val (.int (6 : Int32)), .val (.int (2 : Int32)), .val (.ref w4)] [(.ref w4)])) rfl rfl (hb hby d0_21)
      have pre21 : ∀ t, Steps p.tables e below (T20.setTop (mkF m 25 #[.val (.int p1), .val (.ref b2), .val (.int (6 : Int32)), .val (.int (2 : Int32)), .val (.ref w4)] [(.int p1), (.int (5 : Int32))])) t → Steps p.tables e below (s₁.setTop (entryFrame m #[(.int p1)] 5)) t := fun t k => by
        refine pre16 _ ?_
        show Steps p.tables e below (T15.setTop (mkF m 25 #[.val (.int p1), .val (.ref b2), .val (.int (6 : Int32)), .val (.int (1 : Int32)), .val (.ref w3)] [(.int p1), (.int (3 : Int32))])) _
        refine XS.icmpYes X15.here hx rfl (pc0 := 25) (pc' := 31) rfl (hb hby d0_25) rfl (feq hc17).2 (by decide) (by decide) ?_
        show Steps p.tables e below (T15.setTop (mkF m 31 #[.val (.int p1), .val (.ref b2), .val (.int (6 : Int32)), .val (.int (1 : Int32)), .val (.ref w3)] [])) _
        refine XS.iinc X15.here hx rfl (hb hby d0_31) rfl (l' := #[.val (.int p1), .val (.ref b2), .val (.int (6 : Int32)), .val (.int (2 : Int32)), .val (.ref w3)]) rfl ?_
        show Steps p.tables e below (T15.setTop (mkF m 34 #[.val (.int p1), .val (.ref b2), .val (.int (6 : Int32)), .val (.int (2 : Int32)), .val (.ref w3)] [])) _
        refine XS.goto X15.here hx rfl (pc0 := 34) (pc' := 9) rfl (hb hby d0_34) (by decide) (by decide) ?_
        show Steps p.tables e below (T15.setTop (mkF m 9 #[.val (.int p1), .val (.ref b2), .val (.int (6 : Int32)), .val (.int (2 : Int32)), .val (.ref w3)] [])) _
        refine XS.iloadN X15.here hx rfl (hb hby d0_9) rfl ?_
        show Steps p.tables e below (T15.setTop (mkF m 10 #[.val (.int p1), .val (.ref b2), .val (.int (6 : Int32)), .val (.int (2 : Int32)), .val (.ref w3)] [(.int (2 : Int32))])) _
        refine XS.iloadN X15.here hx rfl (hb hby d0_10) rfl ?_
        show Steps p.tables e below (T15.setTop (mkF m 11 #[.val (.int p1), .val (.ref b2), .val (.int (6 : Int32)), .val (.int (2 : Int32)), .val (.ref w3)] [(.int (6 : Int32)), (.int (2 : Int32))])) _
        refine XS.icmpNo X15.here hx rfl (hb hby d0_11) rfl (tlt (by decide : (2 : Int32) < (6 : Int32))).2.1 ?_
        show Steps p.tables e below (T15.setTop (mkF m 14 #[.val (.int p1), .val (.ref b2), .val (.int (6 : Int32)), .val (.int (2 : Int32)), .val (.ref w3)] [])) _
        refine XS.aloadN X15.here hx rfl (hb hby d0_14) rfl rfl ?_
        show Steps p.tables e below (T15.setTop (mkF m 15 #[.val (.int p1), .val (.ref b2), .val (.int (6 : Int32)), .val (.int (2 : Int32)), .val (.ref w3)] [(.ref b2)])) _
        refine XS.iloadN X15.here hx rfl (hb hby d0_15) rfl ?_
        show Steps p.tables e below (T15.setTop (mkF m 16 #[.val (.int p1), .val (.ref b2), .val (.int (6 : Int32)), .val (.int (2 : Int32)), .val (.ref w3)] [(.int (2 : Int32)), (.ref b2)])) _
        refine X15.aaload hx (j := (2 : Int32)) (v := (.ref w4)) (by rw [e15]; exact Ar19.1) (State.isArrayOf_alike hZ.alike Ar19.2.1) rfl Ar19.2.2 hin19 hat19 (g := (mkF m 16 #[.val (.int p1), .val (.ref b2), .val (.int (6 : Int32)), .val (.int (2 : Int32)), .val (.ref w3)] [(.int (2 : Int32)), (.ref b2)])) rfl rfl (hb hby d0_16) _ ?_
        show Steps p.tables e below (T15.setTop (mkF m 17 #[.val (.int p1), .val (.ref b2), .val (.int (6 : Int32)), .val (.int (2 : Int32)), .val (.ref w3)] [(.ref w4)])) _
        refine XS.astore X15.here hx rfl (hb hby d0_17) rfl rfl (l' := #[.val (.int p1), .val (.ref b2), .val (.int (6 : Int32)), .val (.int (2 : Int32)), .val (.ref w4)]) rfl ?_
        show Steps p.tables e below (T15.setTop (mkF m 19 #[.val (.int p1), .val (.ref b2), .val (.int (6 : Int32)), .val (.int (2 : Int32)), .val (.ref w4)] [])) _
        refine XS.aload X15.here hx rfl (hb hby d0_19) rfl rfl ?_
        show Steps p.tables e below (T15.setTop (mkF m 21 #[.val (.int p1), .val (.ref b2), .val (.int (6 : Int32)), .val (.int (2 : Int32)), .val (.ref w4)] [(.ref w4)])) _
        refine st20 _ ?_
        show Steps p.tables e below (T20.setTop (mkF m 24 #[.val (.int p1), .val (.ref b2), .val (.int (6 : Int32)), .val (.int (2 : Int32)), .val (.ref w4)] [(.int (5 : Int32))])) _
        refine XS.iloadN X20.here hx rfl (hb hby d0_24) rfl ?_
        exact k
      by_cases hc22 : (5 : Int32) = p1
      ·
        have pre23 : ∀ t, Steps p.tables e below (T20.setTop (mkF m 25 #[.val (.int (5 : Int32)), .val (.ref b2), .val (.int (6 : Int32)), .val (.int (2 : Int32)), .val (.ref w4)] [(.int (5 : Int32)), (.int (5 : Int32))])) t → Steps p.tables e below (s₁.setTop (entryFrame m #[(.int p1)] 5)) t := fun t k => pre21 t (by rw [hc22.symm]; exact k)
        obtain ⟨fs, hr, hrun, hended, hW, hsame⟩ := X20.leave (v := some (.ref w4)) (fun h => by rw [hret] at h; cases h)
        have KL : Keep h0 T1.heap [] := ((Keep.refl h0 []).trans K5 all0)
        refine ⟨_, _, pre23 _ ?_, hrun, hended, _, _, rfl, ?_, ⟨_, rfl⟩, hW, hsame.mono (by decide) (by decide)⟩
        ·
          show Steps p.tables e below (T20.setTop (mkF m 25 #[.val (.int (5 : Int32)), .val (.ref b2), .val (.int (6 : Int32)), .val (.int (2 : Int32)), .val (.ref w4)] [(.int (5 : Int32)), (.int (5 : Int32))])) _
          refine XS.icmpNo X20.here hx rfl (hb hby d0_25) rfl (teq (by decide : (5 : Int32) = (5 : Int32))).2 ?_
          show Steps p.tables e below (T20.setTop (mkF m 28 #[.val (.int (5 : Int32)), .val (.ref b2), .val (.int (6 : Int32)), .val (.int (2 : Int32)), .val (.ref w4)] [])) _
          refine XS.aload X20.here hx rfl (hb hby d0_28) rfl rfl ?_
          show Steps p.tables e below (T20.setTop (mkF m 30 #[.val (.int (5 : Int32)), .val (.ref b2), .val (.int (6 : Int32)), .val (.int (2 : Int32)), .val (.ref w4)] [(.ref w4)])) _
          exact retOut X20 hx hret rfl (Or.inr (Or.inr (Or.inr (Or.inr ⟨rfl, rfl, rfl⟩)))) (hb hby d0_30) hr
        ·
          show Q2 Z w1 w2 w3 w4 w5 w6 w7 kw1 p1 h0 n0 _ T20.heap _
          rw [e20]
          exact (Or.inr (Or.inr (Or.inl ⟨hc12, hc17, hc22, rfl, N1, KL⟩)))
      ·
        obtain ⟨cl24, Ar24, qa24, Sa24, Na24, Ha24, Ga24⟩ := id (f6)
        have hin24 : ¬ ((3 : Int32) < 0 ∨ cl24.slots.size ≤ ((3 : Int32)).toNatClampNeg) := inb_of Sa24 ⟨by decide, by decide⟩
        have hat24 : cl24.slots[((3 : Int32)).toNatClampNeg]? = some (.ref w5) := Has.at Ha24 hin24 rfl
        obtain ⟨T25, X25, e25, st25⟩ := getF X20 hx hZ hown (host := "") (Or.inl (hw _ (List.mem_of_getElem? (i := 25) rfl))) Via.refl e20 (F_w5_code.ext O1.2) (g := (mkF m 21 #[.val (.int p1), .val (.ref b2), .val (.int (6 : Int32)), .val (.int (3 : Int32)), .val (.ref w5)] [(.ref w5)])) rfl rfl (hb hby d0_21)
        have pre26 : ∀ t, Steps p.tables e below (T25.setTop (mkF m 25 #[.val (.int p1), .val (.ref b2), .val (.int (6 : Int32)), .val (.int (3 : Int32)), .val (.ref w5)] [(.int p1), (.int (11 : Int32))])) t → Steps p.tables e below (s₁.setTop (entryFrame m #[(.int p1)] 5)) t := fun t k => by
          refine pre21 _ ?_
          show Steps p.tables e below (T20.setTop (mkF m 25 #[.val (.int p1), .val (.ref b2), .val (.int (6 : Int32)), .val (.int (2 : Int32)), .val (.ref w4)] [(.int p1), (.int (5 : Int32))])) _
          refine XS.icmpYes X20.here hx rfl (pc0 := 25) (pc' := 31) rfl (hb hby d0_25) rfl (feq hc22).2 (by decide) (by decide) ?_
          show Steps p.tables e below (T20.setTop (mkF m 31 #[.val (.int p1), .val (.ref b2), .val (.int (6 : Int32)), .val (.int (2 : Int32)), .val (.ref w4)] [])) _
          refine XS.iinc X20.here hx rfl (hb hby d0_31) rfl (l' := #[.val (.int p1), .val (.ref b2), .val (.int (6 : Int32)), .val (.int (3 : Int32)), .val (.ref w4)]) rfl ?_
          show Steps p.tables e below (T20.setTop (mkF m 34 #[.val (.int p1), .val (.ref b2), .val (.int (6 : Int32)), .val (.int (3 : Int32)), .val (.ref w4)] [])) _
          refine XS.goto X20.here hx rfl (pc0 := 34) (pc' := 9) rfl (hb hby d0_34) (by decide) (by decide) ?_
          show Steps p.tables e below (T20.setTop (mkF m 9 #[.val (.int p1), .val (.ref b2), .val (.int (6 : Int32)), .val (.int (3 : Int32)), .val (.ref w4)] [])) _
          refine XS.iloadN X20.here hx rfl (hb hby d0_9) rfl ?_
          show Steps p.tables e below (T20.setTop (mkF m 10 #[.val (.int p1), .val (.ref b2), .val (.int (6 : Int32)), .val (.int (3 : Int32)), .val (.ref w4)] [(.int (3 : Int32))])) _
          refine XS.iloadN X20.here hx rfl (hb hby d0_10) rfl ?_
          show Steps p.tables e below (T20.setTop (mkF m 11 #[.val (.int p1), .val (.ref b2), .val (.int (6 : Int32)), .val (.int (3 : Int32)), .val (.ref w4)] [(.int (6 : Int32)), (.int (3 : Int32))])) _
          refine XS.icmpNo X20.here hx rfl (hb hby d0_11) rfl (tlt (by decide : (3 : Int32) < (6 : Int32))).2.1 ?_
          show Steps p.tables e below (T20.setTop (mkF m 14 #[.val (.int p1), .val (.ref b2), .val (.int (6 : Int32)), .val (.int (3 : Int32)), .val (.ref w4)] [])) _
          refine XS.aloadN X20.here hx rfl (hb hby d0_14) rfl rfl ?_
          show Steps p.tables e below (T20.setTop (mkF m 15 #[.val (.int p1), .val (.ref b2), .val (.int (6 : Int32)), .val (.int (3 : Int32)), .val (.ref w4)] [(.ref b2)])) _
          refine XS.iloadN X20.here hx rfl (hb hby d0_15) rfl ?_
          show Steps p.tables e below (T20.setTop (mkF m 16 #[.val (.int p1), .val (.ref b2), .val (.int (6 : Int32)), .val (.int (3 : Int32)), .val (.ref w4)] [(.int (3 : Int32)), (.ref b2)])) _
          refine X20.aaload hx (j := (3 : Int32)) (v := (.ref w5)) (by rw [e20]; exact Ar24.1) (State.isArrayOf_alike hZ.alike Ar24.2.1) rfl Ar24.2.2 hin24 hat24 (g := (mkF m 16 #[.val (.int p1), .val (.ref b2), .val (.int (6 : Int32)), .val (.int (3 : Int32)), .val (.ref w4)] [(.int (3 : Int32)), (.ref b2)])) rfl rfl (hb hby d0_16) _ ?_
          show Steps p.tables e below (T20.setTop (mkF m 17 #[.val (.int p1), .val (.ref b2), .val (.int (6 : Int32)), .val (.int (3 : Int32)), .val (.ref w4)] [(.ref w5)])) _
          refine XS.astore X20.here hx rfl (hb hby d0_17) rfl rfl (l' := #[.val (.int p1), .val (.ref b2), .val (.int (6 : Int32)), .val (.int (3 : Int32)), .val (.ref w5)]) rfl ?_
          show Steps p.tables e below (T20.setTop (mkF m 19 #[.val (.int p1), .val (.ref b2), .val (.int (6 : Int32)), .val (.int (3 : Int32)), .val (.ref w5)] [])) _
          refine XS.aload X20.here hx rfl (hb hby d0_19) rfl rfl ?_
          show Steps p.tables e below (T20.setTop (mkF m 21 #[.val (.int p1), .val (.ref b2), .val (.int (6 : Int32)), .val (.int (3 : Int32)), .val (.ref w5)] [(.ref w5)])) _
          refine st25 _ ?_
          show Steps p.tables e below (T25.setTop (mkF m 24 #[.val (.int p1), .val (.ref b2), .val (.int (6 : Int32)), .val (.int (3 : Int32)), .val (.ref w5)] [(.int (11 : Int32))])) _
          refine XS.iloadN X25.here hx rfl (hb hby d0_24) rfl ?_
          exact k
        by_cases hc27 : (11 : Int32) = p1
        ·
          have pre28 : ∀ t, Steps p.tables e below (T25.setTop (mkF m 25 #[.val (.int (11 : Int32)), .val (.ref b2), .val (.int (6 : Int32)), .val (.int (3 : Int32)), .val (.ref w5)] [(.int (11 : Int32)), (.int (11 : Int32))])) t → Steps p.tables e below (s₁.setTop (entryFrame m #[(.int p1)] 5)) t := fun t k => pre26 t (by rw [hc27.symm]; exact k)
          obtain ⟨fs, hr, hrun, hended, hW, hsame⟩ := X25.leave (v := some (.ref w5)) (fun h => by rw [hret] at h; cases h)
          have KL : Keep h0 T1.heap [] := ((Keep.refl h0 []).trans K5 all0)
          refine ⟨_, _, pre28 _ ?_, hrun, hended, _, _, rfl, ?_, ⟨_, rfl⟩, hW, hsame.mono (by decide) (by decide)⟩
          ·
            show Steps p.tables e below (T25.setTop (mkF m 25 #[.val (.int (11 : Int32)), .val (.ref b2), .val (.int (6 : Int32)), .val (.int (3 : Int32)), .val (.ref w5)] [(.int (11 : Int32)), (.int (11 : Int32))])) _
            refine XS.icmpNo X25.here hx rfl (hb hby d0_25) rfl (teq (by decide : (11 : Int32) = (11 : Int32))).2 ?_
            show Steps p.tables e below (T25.setTop (mkF m 28 #[.val (.int (11 : Int32)), .val (.ref b2), .val (.int (6 : Int32)), .val (.int (3 : Int32)), .val (.ref w5)] [])) _
            refine XS.aload X25.here hx rfl (hb hby d0_28) rfl rfl ?_
            show Steps p.tables e below (T25.setTop (mkF m 30 #[.val (.int (11 : Int32)), .val (.ref b2), .val (.int (6 : Int32)), .val (.int (3 : Int32)), .val (.ref w5)] [(.ref w5)])) _
            exact retOut X25 hx hret rfl (Or.inr (Or.inr (Or.inr (Or.inr ⟨rfl, rfl, rfl⟩)))) (hb hby d0_30) hr
          ·
            show Q2 Z w1 w2 w3 w4 w5 w6 w7 kw1 p1 h0 n0 _ T25.heap _
            rw [e25]
            exact (Or.inr (Or.inr (Or.inr (Or.inl ⟨hc12, hc17, hc22, hc27, rfl, N1, KL⟩))))
        ·
          obtain ⟨cl29, Ar29, qa29, Sa29, Na29, Ha29, Ga29⟩ := id (f6)
          have hin29 : ¬ ((4 : Int32) < 0 ∨ cl29.slots.size ≤ ((4 : Int32)).toNatClampNeg) := inb_of Sa29 ⟨by decide, by decide⟩
          have hat29 : cl29.slots[((4 : Int32)).toNatClampNeg]? = some (.ref w6) := Has.at Ha29 hin29 rfl
          obtain ⟨T30, X30, e30, st30⟩ := getF X25 hx hZ hown (host := "") (Or.inl (hw _ (List.mem_of_getElem? (i := 25) rfl))) Via.refl e25 (F_w6_code.ext O1.2) (g := (mkF m 21 #[.val (.int p1), .val (.ref b2), .val (.int (6 : Int32)), .val (.int (4 : Int32)), .val (.ref w6)] [(.ref w6)])) rfl rfl (hb hby d0_21)
          have pre31 : ∀ t, Steps p.tables e below (T30.setTop (mkF m 25 #[.val (.int p1), .val (.ref b2), .val (.int (6 : Int32)), .val (.int (4 : Int32)), .val (.ref w6)] [(.int p1), (.int (15 : Int32))])) t → Steps p.tables e below (s₁.setTop (entryFrame m #[(.int p1)] 5)) t := fun t k => by
            refine pre26 _ ?_
            show Steps p.tables e below (T25.setTop (mkF m 25 #[.val (.int p1), .val (.ref b2), .val (.int (6 : Int32)), .val (.int (3 : Int32)), .val (.ref w5)] [(.int p1), (.int (11 : Int32))])) _
            refine XS.icmpYes X25.here hx rfl (pc0 := 25) (pc' := 31) rfl (hb hby d0_25) rfl (feq hc27).2 (by decide) (by decide) ?_
            show Steps p.tables e below (T25.setTop (mkF m 31 #[.val (.int p1), .val (.ref b2), .val (.int (6 : Int32)), .val (.int (3 : Int32)), .val (.ref w5)] [])) _
            refine XS.iinc X25.here hx rfl (hb hby d0_31) rfl (l' := #[.val (.int p1), .val (.ref b2), .val (.int (6 : Int32)), .val (.int (4 : Int32)), .val (.ref w5)]) rfl ?_
            show Steps p.tables e below (T25.setTop (mkF m 34 #[.val (.int p1), .val (.ref b2), .val (.int (6 : Int32)), .val (.int (4 : Int32)), .val (.ref w5)] [])) _
            refine XS.goto X25.here hx rfl (pc0 := 34) (pc' := 9) rfl (hb hby d0_34) (by decide) (by decide) ?_
            show Steps p.tables e below (T25.setTop (mkF m 9 #[.val (.int p1), .val (.ref b2), .val (.int (6 : Int32)), .val (.int (4 : Int32)), .val (.ref w5)] [])) _
            refine XS.iloadN X25.here hx rfl (hb hby d0_9) rfl ?_
            show Steps p.tables e below (T25.setTop (mkF m 10 #[.val (.int p1), .val (.ref b2), .val (.int (6 : Int32)), .val (.int (4 : Int32)), .val (.ref w5)] [(.int (4 : Int32))])) _
            refine XS.iloadN X25.here hx rfl (hb hby d0_10) rfl ?_
            show Steps p.tables e below (T25.setTop (mkF m 11 #[.val (.int p1), .val (.ref b2), .val (.int (6 : Int32)), .val (.int (4 : Int32)), .val (.ref w5)] [(.int (6 : Int32)), (.int (4 : Int32))])) _
            refine XS.icmpNo X25.here hx rfl (hb hby d0_11) rfl (tlt (by decide : (4 : Int32) < (6 : Int32))).2.1 ?_
            show Steps p.tables e below (T25.setTop (mkF m 14 #[.val (.int p1), .val (.ref b2), .val (.int (6 : Int32)), .val (.int (4 : Int32)), .val (.ref w5)] [])) _
            refine XS.aloadN X25.here hx rfl (hb hby d0_14) rfl rfl ?_
            show Steps p.tables e below (T25.setTop (mkF m 15 #[.val (.int p1), .val (.ref b2), .val (.int (6 : Int32)), .val (.int (4 : Int32)), .val (.ref w5)] [(.ref b2)])) _
            refine XS.iloadN X25.here hx rfl (hb hby d0_15) rfl ?_
            show Steps p.tables e below (T25.setTop (mkF m 16 #[.val (.int p1), .val (.ref b2), .val (.int (6 : Int32)), .val (.int (4 : Int32)), .val (.ref w5)] [(.int (4 : Int32)), (.ref b2)])) _
            refine X25.aaload hx (j := (4 : Int32)) (v := (.ref w6)) (by rw [e25]; exact Ar29.1) (State.isArrayOf_alike hZ.alike Ar29.2.1) rfl Ar29.2.2 hin29 hat29 (g := (mkF m 16 #[.val (.int p1), .val (.ref b2), .val (.int (6 : Int32)), .val (.int (4 : Int32)), .val (.ref w5)] [(.int (4 : Int32)), (.ref b2)])) rfl rfl (hb hby d0_16) _ ?_
            show Steps p.tables e below (T25.setTop (mkF m 17 #[.val (.int p1), .val (.ref b2), .val (.int (6 : Int32)), .val (.int (4 : Int32)), .val (.ref w5)] [(.ref w6)])) _
            refine XS.astore X25.here hx rfl (hb hby d0_17) rfl rfl (l' := #[.val (.int p1), .val (.ref b2), .val (.int (6 : Int32)), .val (.int (4 : Int32)), .val (.ref w6)]) rfl ?_
            show Steps p.tables e below (T25.setTop (mkF m 19 #[.val (.int p1), .val (.ref b2), .val (.int (6 : Int32)), .val (.int (4 : Int32)), .val (.ref w6)] [])) _
            refine XS.aload X25.here hx rfl (hb hby d0_19) rfl rfl ?_
            show Steps p.tables e below (T25.setTop (mkF m 21 #[.val (.int p1), .val (.ref b2), .val (.int (6 : Int32)), .val (.int (4 : Int32)), .val (.ref w6)] [(.ref w6)])) _
            refine st30 _ ?_
            show Steps p.tables e below (T30.setTop (mkF m 24 #[.val (.int p1), .val (.ref b2), .val (.int (6 : Int32)), .val (.int (4 : Int32)), .val (.ref w6)] [(.int (15 : Int32))])) _
            refine XS.iloadN X30.here hx rfl (hb hby d0_24) rfl ?_
            exact k
          by_cases hc32 : (15 : Int32) = p1
          ·
            have pre33 : ∀ t, Steps p.tables e below (T30.setTop (mkF m 25 #[.val (.int (15 : Int32)), .val (.ref b2), .val (.int (6 : Int32)), .val (.int (4 : Int32)), .val (.ref w6)] [(.int (15 : Int32)), (.int (15 : Int32))])) t → Steps p.tables e below (s₁.setTop (entryFrame m #[(.int p1)] 5)) t := fun t k => pre31 t (by rw [hc32.symm]; exact k)
            obtain ⟨fs, hr, hrun, hended, hW, hsame⟩ := X30.leave (v := some (.ref w6)) (fun h => by rw [hret] at h; cases h)
            have KL : Keep h0 T1.heap [] := ((Keep.refl h0 []).trans K5 all0)
            refine ⟨_, _, pre33 _ ?_, hrun, hended, _, _, rfl, ?_, ⟨_, rfl⟩, hW, hsame.mono (by decide) (by decide)⟩
            ·
              show Steps p.tables e below (T30.setTop (mkF m 25 #[.val (.int (15 : Int32)), .val (.ref b2), .val (.int (6 : Int32)), .val (.int (4 : Int32)), .val (.ref w6)] [(.int (15 : Int32)), (.int (15 : Int32))])) _
              refine XS.icmpNo X30.here hx rfl (hb hby d0_25) rfl (teq (by decide : (15 : Int32) = (15 : Int32))).2 ?_
              show Steps p.tables e below (T30.setTop (mkF m 28 #[.val (.int (15 : Int32)), .val (.ref b2), .val (.int (6 : Int32)), .val (.int (4 : Int32)), .val (.ref w6)] [])) _
              refine XS.aload X30.here hx rfl (hb hby d0_28) rfl rfl ?_
              show Steps p.tables e below (T30.setTop (mkF m 30 #[.val (.int (15 : Int32)), .val (.ref b2), .val (.int (6 : Int32)), .val (.int (4 : Int32)), .val (.ref w6)] [(.ref w6)])) _
              exact retOut X30 hx hret rfl (Or.inr (Or.inr (Or.inr (Or.inr ⟨rfl, rfl, rfl⟩)))) (hb hby d0_30) hr
            ·
              show Q2 Z w1 w2 w3 w4 w5 w6 w7 kw1 p1 h0 n0 _ T30.heap _
              rw [e30]
              exact (Or.inr (Or.inr (Or.inr (Or.inr (Or.inl ⟨hc12, hc17, hc22, hc27, hc32, rfl, N1, KL⟩)))))
          ·
            obtain ⟨cl34, Ar34, qa34, Sa34, Na34, Ha34, Ga34⟩ := id (f6)
            have hin34 : ¬ ((5 : Int32) < 0 ∨ cl34.slots.size ≤ ((5 : Int32)).toNatClampNeg) := inb_of Sa34 ⟨by decide, by decide⟩
            have hat34 : cl34.slots[((5 : Int32)).toNatClampNeg]? = some (.ref w7) := Has.at Ha34 hin34 rfl
            obtain ⟨T35, X35, e35, st35⟩ := getF X30 hx hZ hown (host := "") (Or.inl (hw _ (List.mem_of_getElem? (i := 25) rfl))) Via.refl e30 (F_w7_code.ext O1.2) (g := (mkF m 21 #[.val (.int p1), .val (.ref b2), .val (.int (6 : Int32)), .val (.int (5 : Int32)), .val (.ref w7)] [(.ref w7)])) rfl rfl (hb hby d0_21)
            have pre36 : ∀ t, Steps p.tables e below (T35.setTop (mkF m 25 #[.val (.int p1), .val (.ref b2), .val (.int (6 : Int32)), .val (.int (5 : Int32)), .val (.ref w7)] [(.int p1), (.int (23 : Int32))])) t → Steps p.tables e below (s₁.setTop (entryFrame m #[(.int p1)] 5)) t := fun t k => by
              refine pre31 _ ?_
              show Steps p.tables e below (T30.setTop (mkF m 25 #[.val (.int p1), .val (.ref b2), .val (.int (6 : Int32)), .val (.int (4 : Int32)), .val (.ref w6)] [(.int p1), (.int (15 : Int32))])) _
              refine XS.icmpYes X30.here hx rfl (pc0 := 25) (pc' := 31) rfl (hb hby d0_25) rfl (feq hc32).2 (by decide) (by decide) ?_
              show Steps p.tables e below (T30.setTop (mkF m 31 #[.val (.int p1), .val (.ref b2), .val (.int (6 : Int32)), .val (.int (4 : Int32)), .val (.ref w6)] [])) _
              refine XS.iinc X30.here hx rfl (hb hby d0_31) rfl (l' := #[.val (.int p1), .val (.ref b2), .val (.int (6 : Int32)), .val (.int (5 : Int32)), .val (.ref w6)]) rfl ?_
              show Steps p.tables e below (T30.setTop (mkF m 34 #[.val (.int p1), .val (.ref b2), .val (.int (6 : Int32)), .val (.int (5 : Int32)), .val (.ref w6)] [])) _
              refine XS.goto X30.here hx rfl (pc0 := 34) (pc' := 9) rfl (hb hby d0_34) (by decide) (by decide) ?_
              show Steps p.tables e below (T30.setTop (mkF m 9 #[.val (.int p1), .val (.ref b2), .val (.int (6 : Int32)), .val (.int (5 : Int32)), .val (.ref w6)] [])) _
              refine XS.iloadN X30.here hx rfl (hb hby d0_9) rfl ?_
              show Steps p.tables e below (T30.setTop (mkF m 10 #[.val (.int p1), .val (.ref b2), .val (.int (6 : Int32)), .val (.int (5 : Int32)), .val (.ref w6)] [(.int (5 : Int32))])) _
              refine XS.iloadN X30.here hx rfl (hb hby d0_10) rfl ?_
              show Steps p.tables e below (T30.setTop (mkF m 11 #[.val (.int p1), .val (.ref b2), .val (.int (6 : Int32)), .val (.int (5 : Int32)), .val (.ref w6)] [(.int (6 : Int32)), (.int (5 : Int32))])) _
              refine XS.icmpNo X30.here hx rfl (hb hby d0_11) rfl (tlt (by decide : (5 : Int32) < (6 : Int32))).2.1 ?_
              show Steps p.tables e below (T30.setTop (mkF m 14 #[.val (.int p1), .val (.ref b2), .val (.int (6 : Int32)), .val (.int (5 : Int32)), .val (.ref w6)] [])) _
              refine XS.aloadN X30.here hx rfl (hb hby d0_14) rfl rfl ?_
              show Steps p.tables e below (T30.setTop (mkF m 15 #[.val (.int p1), .val (.ref b2), .val (.int (6 : Int32)), .val (.int (5 : Int32)), .val (.ref w6)] [(.ref b2)])) _
              refine XS.iloadN X30.here hx rfl (hb hby d0_15) rfl ?_
              show Steps p.tables e below (T30.setTop (mkF m 16 #[.val (.int p1), .val (.ref b2), .val (.int (6 : Int32)), .val (.int (5 : Int32)), .val (.ref w6)] [(.int (5 : Int32)), (.ref b2)])) _
              refine X30.aaload hx (j := (5 : Int32)) (v := (.ref w7)) (by rw [e30]; exact Ar34.1) (State.isArrayOf_alike hZ.alike Ar34.2.1) rfl Ar34.2.2 hin34 hat34 (g := (mkF m 16 #[.val (.int p1), .val (.ref b2), .val (.int (6 : Int32)), .val (.int (5 : Int32)), .val (.ref w6)] [(.int (5 : Int32)), (.ref b2)])) rfl rfl (hb hby d0_16) _ ?_
              show Steps p.tables e below (T30.setTop (mkF m 17 #[.val (.int p1), .val (.ref b2), .val (.int (6 : Int32)), .val (.int (5 : Int32)), .val (.ref w6)] [(.ref w7)])) _
              refine XS.astore X30.here hx rfl (hb hby d0_17) rfl rfl (l' := #[.val (.int p1), .val (.ref b2), .val (.int (6 : Int32)), .val (.int (5 : Int32)), .val (.ref w7)]) rfl ?_
              show Steps p.tables e below (T30.setTop (mkF m 19 #[.val (.int p1), .val (.ref b2), .val (.int (6 : Int32)), .val (.int (5 : Int32)), .val (.ref w7)] [])) _
              refine XS.aload X30.here hx rfl (hb hby d0_19) rfl rfl ?_
              show Steps p.tables e below (T30.setTop (mkF m 21 #[.val (.int p1), .val (.ref b2), .val (.int (6 : Int32)), .val (.int (5 : Int32)), .val (.ref w7)] [(.ref w7)])) _
              refine st35 _ ?_
              show Steps p.tables e below (T35.setTop (mkF m 24 #[.val (.int p1), .val (.ref b2), .val (.int (6 : Int32)), .val (.int (5 : Int32)), .val (.ref w7)] [(.int (23 : Int32))])) _
              refine XS.iloadN X35.here hx rfl (hb hby d0_24) rfl ?_
              exact k
            by_cases hc37 : (23 : Int32) = p1
            ·
              have pre38 : ∀ t, Steps p.tables e below (T35.setTop (mkF m 25 #[.val (.int (23 : Int32)), .val (.ref b2), .val (.int (6 : Int32)), .val (.int (5 : Int32)), .val (.ref w7)] [(.int (23 : Int32)), (.int (23 : Int32))])) t → Steps p.tables e below (s₁.setTop (entryFrame m #[(.int p1)] 5)) t := fun t k => pre36 t (by rw [hc37.symm]; exact k)
              obtain ⟨fs, hr, hrun, hended, hW, hsame⟩ := X35.leave (v := some (.ref w7)) (fun h => by rw [hret] at h; cases h)
              have KL : Keep h0 T1.heap [] := ((Keep.refl h0 []).trans K5 all0)
              refine ⟨_, _, pre38 _ ?_, hrun, hended, _, _, rfl, ?_, ⟨_, rfl⟩, hW, hsame.mono (by decide) (by decide)⟩
              ·
                show Steps p.tables e below (T35.setTop (mkF m 25 #[.val (.int (23 : Int32)), .val (.ref b2), .val (.int (6 : Int32)), .val (.int (5 : Int32)), .val (.ref w7)] [(.int (23 : Int32)), (.int (23 : Int32))])) _
                refine XS.icmpNo X35.here hx rfl (hb hby d0_25) rfl (teq (by decide : (23 : Int32) = (23 : Int32))).2 ?_
                show Steps p.tables e below (T35.setTop (mkF m 28 #[.val (.int (23 : Int32)), .val (.ref b2), .val (.int (6 : Int32)), .val (.int (5 : Int32)), .val (.ref w7)] [])) _
                refine XS.aload X35.here hx rfl (hb hby d0_28) rfl rfl ?_
                show Steps p.tables e below (T35.setTop (mkF m 30 #[.val (.int (23 : Int32)), .val (.ref b2), .val (.int (6 : Int32)), .val (.int (5 : Int32)), .val (.ref w7)] [(.ref w7)])) _
                exact retOut X35 hx hret rfl (Or.inr (Or.inr (Or.inr (Or.inr ⟨rfl, rfl, rfl⟩)))) (hb hby d0_30) hr
              ·
                show Q2 Z w1 w2 w3 w4 w5 w6 w7 kw1 p1 h0 n0 _ T35.heap _
                rw [e35]
                exact (Or.inr (Or.inr (Or.inr (Or.inr (Or.inr (Or.inl ⟨hc12, hc17, hc22, hc27, hc32, hc37, rfl, N1, KL⟩))))))
            ·
              obtain ⟨fs, hr, hrun, hended, hW, hsame⟩ := X35.leave (v := some .null) (fun h => by rw [hret] at h; cases h)
              have KL : Keep h0 T1.heap [] := ((Keep.refl h0 []).trans K5 all0)
              refine ⟨_, _, pre36 _ ?_, hrun, hended, _, _, rfl, ?_, ⟨_, rfl⟩, hW, hsame.mono (by decide) (by decide)⟩
              ·
                show Steps p.tables e below (T35.setTop (mkF m 25 #[.val (.int p1), .val (.ref b2), .val (.int (6 : Int32)), .val (.int (5 : Int32)), .val (.ref w7)] [(.int p1), (.int (23 : Int32))])) _
                refine XS.icmpYes X35.here hx rfl (pc0 := 25) (pc' := 31) rfl (hb hby d0_25) rfl (feq hc37).2 (by decide) (by decide) ?_
                show Steps p.tables e below (T35.setTop (mkF m 31 #[.val (.int p1), .val (.ref b2), .val (.int (6 : Int32)), .val (.int (5 : Int32)), .val (.ref w7)] [])) _
                refine XS.iinc X35.here hx rfl (hb hby d0_31) rfl (l' := #[.val (.int p1), .val (.ref b2), .val (.int (6 : Int32)), .val (.int (6 : Int32)), .val (.ref w7)]) rfl ?_
                show Steps p.tables e below (T35.setTop (mkF m 34 #[.val (.int p1), .val (.ref b2), .val (.int (6 : Int32)), .val (.int (6 : Int32)), .val (.ref w7)] [])) _
                refine XS.goto X35.here hx rfl (pc0 := 34) (pc' := 9) rfl (hb hby d0_34) (by decide) (by decide) ?_
                show Steps p.tables e below (T35.setTop (mkF m 9 #[.val (.int p1), .val (.ref b2), .val (.int (6 : Int32)), .val (.int (6 : Int32)), .val (.ref w7)] [])) _
                refine XS.iloadN X35.here hx rfl (hb hby d0_9) rfl ?_
                show Steps p.tables e below (T35.setTop (mkF m 10 #[.val (.int p1), .val (.ref b2), .val (.int (6 : Int32)), .val (.int (6 : Int32)), .val (.ref w7)] [(.int (6 : Int32))])) _
                refine XS.iloadN X35.here hx rfl (hb hby d0_10) rfl ?_
                show Steps p.tables e below (T35.setTop (mkF m 11 #[.val (.int p1), .val (.ref b2), .val (.int (6 : Int32)), .val (.int (6 : Int32)), .val (.ref w7)] [(.int (6 : Int32)), (.int (6 : Int32))])) _
                refine XS.icmpYes X35.here hx rfl (pc0 := 11) (pc' := 37) rfl (hb hby d0_11) rfl (flt (by decide : ¬ ((6 : Int32) < (6 : Int32)))).2.1 (by decide) (by decide) ?_
                show Steps p.tables e below (T35.setTop (mkF m 37 #[.val (.int p1), .val (.ref b2), .val (.int (6 : Int32)), .val (.int (6 : Int32)), .val (.ref w7)] [])) _
                refine XS.aconstNull X35.here hx rfl (hb hby d0_37) ?_
                show Steps p.tables e below (T35.setTop (mkF m 38 #[.val (.int p1), .val (.ref b2), .val (.int (6 : Int32)), .val (.int (6 : Int32)), .val (.ref w7)] [.null])) _
                exact retOut X35 hx hret rfl (Or.inr (Or.inr (Or.inr (Or.inr ⟨rfl, rfl, rfl⟩)))) (hb hby d0_38) hr
              ·
                show Q2 Z w1 w2 w3 w4 w5 w6 w7 kw1 p1 h0 n0 _ T35.heap _
                rw [e35]
                exact (Or.inr (Or.inr (Or.inr (Or.inr (Or.inr (Or.inr ⟨hc12, hc17, hc22, hc27, hc32, hc37, rfl, N1, KL⟩))))))
theorem pd1 : parseMethodDescriptor "(I)Lcom/example/sablegrid/sablegrid/io/BinaryProtocol$Operation;" = some ⟨[.int], some (.object "com/example/sablegrid/sablegrid/io/BinaryProtocol$Operation")⟩ := by decide +kernel
theorem d2_0 : decode method_3_code 0 = .ok (.iload_n 0, 1) := by decide +kernel
theorem d2_1 : decode method_3_code 1 = .ok (.iconst 1, 1) := by decide +kernel
theorem d2_2 : decode method_3_code 2 = .ok (.if_icmp .ne 7, 3) := by decide +kernel
theorem d2_5 : decode method_3_code 5 = .ok (.getstatic 18, 3) := by decide +kernel
theorem d2_8 : decode method_3_code 8 = .ok (.areturn, 1) := by decide +kernel
theorem d2_9 : decode method_3_code 9 = .ok (.iload_n 0, 1) := by decide +kernel
theorem d2_10 : decode method_3_code 10 = .ok (.iconst 3, 1) := by decide +kernel
theorem d2_11 : decode method_3_code 11 = .ok (.if_icmp .ne 7, 3) := by decide +kernel
theorem d2_14 : decode method_3_code 14 = .ok (.getstatic 22, 3) := by decide +kernel
theorem d2_17 : decode method_3_code 17 = .ok (.areturn, 1) := by decide +kernel
theorem d2_18 : decode method_3_code 18 = .ok (.iload_n 0, 1) := by decide +kernel
theorem d2_19 : decode method_3_code 19 = .ok (.iconst 5, 1) := by decide +kernel
theorem d2_20 : decode method_3_code 20 = .ok (.if_icmp .ne 7, 3) := by decide +kernel
theorem d2_23 : decode method_3_code 23 = .ok (.getstatic 25, 3) := by decide +kernel
theorem d2_26 : decode method_3_code 26 = .ok (.areturn, 1) := by decide +kernel
theorem d2_27 : decode method_3_code 27 = .ok (.iload_n 0, 1) := by decide +kernel
theorem d2_28 : decode method_3_code 28 = .ok (.bipush 11, 2) := by decide +kernel
theorem d2_30 : decode method_3_code 30 = .ok (.if_icmp .ne 7, 3) := by decide +kernel
theorem d2_33 : decode method_3_code 33 = .ok (.getstatic 28, 3) := by decide +kernel
theorem d2_36 : decode method_3_code 36 = .ok (.areturn, 1) := by decide +kernel
theorem d2_37 : decode method_3_code 37 = .ok (.iload_n 0, 1) := by decide +kernel
theorem d2_38 : decode method_3_code 38 = .ok (.bipush 15, 2) := by decide +kernel
theorem d2_40 : decode method_3_code 40 = .ok (.if_icmp .ne 7, 3) := by decide +kernel
theorem d2_43 : decode method_3_code 43 = .ok (.getstatic 31, 3) := by decide +kernel
theorem d2_46 : decode method_3_code 46 = .ok (.areturn, 1) := by decide +kernel
theorem d2_47 : decode method_3_code 47 = .ok (.iload_n 0, 1) := by decide +kernel
theorem d2_48 : decode method_3_code 48 = .ok (.bipush 23, 2) := by decide +kernel
theorem d2_50 : decode method_3_code 50 = .ok (.if_icmp .ne 7, 3) := by decide +kernel
theorem d2_53 : decode method_3_code 53 = .ok (.getstatic 34, 3) := by decide +kernel
theorem d2_56 : decode method_3_code 56 = .ok (.areturn, 1) := by decide +kernel
theorem d2_57 : decode method_3_code 57 = .ok (.aconst_null, 1) := by decide +kernel
theorem d2_58 : decode method_3_code 58 = .ok (.areturn, 1) := by decide +kernel
theorem pn1 : plainName "com/example/sablegrid/sablegrid/io/OperationOfPinLaw" = true := by first | (simp [plainName, overriddenIn]; done) | decide +kernel
theorem ef3 (m : MethodId) (x0 : Int32) : entryFrame m #[(.int x0)] 1 = mkF m 0 #[.val (.int x0)] [] := by first | (simp [entryFrame, mkF, argsToLocals, Value.category]; done) | rfl
def Q3 (Z : State) (w1 : Addr) (w2 : Addr) (w3 : Addr) (w4 : Addr) (w5 : Addr) (w6 : Addr) (w7 : Addr) (kw1 : ClassId) (p1 : Int32) (h0 : Heap) (n0 : Nat) (v : Option Value) (h : Heap) (L : List Loc) : Prop :=
  ((p1 = (1 : Int32)) ∧ v = some (.ref w2) ∧ Fr n0 L ∧ h = h0)
  ∨ ((¬ (p1 = (1 : Int32))) ∧ (p1 = (3 : Int32)) ∧ v = some (.ref w3) ∧ Fr n0 L ∧ h = h0)
  ∨ ((¬ (p1 = (1 : Int32))) ∧ (¬ (p1 = (3 : Int32))) ∧ (p1 = (5 : Int32)) ∧ v = some (.ref w4) ∧ Fr n0 L ∧ h = h0)
  ∨ ((¬ (p1 = (1 : Int32))) ∧ (¬ (p1 = (3 : Int32))) ∧ (¬ (p1 = (5 : Int32))) ∧ (p1 = (11 : Int32)) ∧ v = some (.ref w5) ∧ Fr n0 L ∧ h = h0)
  ∨ ((¬ (p1 = (1 : Int32))) ∧ (¬ (p1 = (3 : Int32))) ∧ (¬ (p1 = (5 : Int32))) ∧ (¬ (p1 = (11 : Int32))) ∧ (p1 = (15 : Int32)) ∧ v = some (.ref w6) ∧ Fr n0 L ∧ h = h0)
  ∨ ((¬ (p1 = (1 : Int32))) ∧ (¬ (p1 = (3 : Int32))) ∧ (¬ (p1 = (5 : Int32))) ∧ (¬ (p1 = (11 : Int32))) ∧ (¬ (p1 = (15 : Int32))) ∧ (p1 = (23 : Int32)) ∧ v = some (.ref w7) ∧ Fr n0 L ∧ h = h0)
  ∨ ((¬ (p1 = (1 : Int32))) ∧ (¬ (p1 = (3 : Int32))) ∧ (¬ (p1 = (5 : Int32))) ∧ (¬ (p1 = (11 : Int32))) ∧ (¬ (p1 = (15 : Int32))) ∧ (¬ (p1 = (23 : Int32))) ∧ v = some .null ∧ Fr n0 L ∧ h = h0)
set_option maxRecDepth 65536 in
set_option maxHeartbeats 40000000 in
theorem rm3 (l : Launch) (Z : State) (a0 : Array Value) (hw : ∀ d ∈ tables_1, d.before a0 Z = true) (w1 : Addr) (w2 : Addr) (w3 : Addr) (w4 : Addr) (w5 : Addr) (w6 : Addr) (w7 : Addr) (kw1 : ClassId) (G : GW Z w1 w2 w3 w4 w5 w6 w7 kw1) (ws : List Jvm.Cond) (p1 : Int32) (h0 : Heap) (n0 : Nat) (O0 : Old Z n0 h0) :
    MetFree l (⟨"com/example/sablegrid/sablegrid/io/OperationOfPinLaw", "expected", "(I)Lcom/example/sablegrid/sablegrid/io/BinaryProtocol$Operation;"⟩ : MethodName) (head1 (Jvm.Cond.code (⟨"com/example/sablegrid/sablegrid/io/OperationOfPinLaw", "expected", "(I)Lcom/example/sablegrid/sablegrid/io/BinaryProtocol$Operation;"⟩ : MethodName) method_3_code 1 (some (.object "com/example/sablegrid/sablegrid/io/BinaryProtocol$Operation")) :: ws) ({ frames := 0, cells := 0, slots := 0, locals := 0 } : Room)) (fun a U => a = #[(.int p1)] ∧ Z.Warmed39 U.vm ∧ U.heap = h0) (fun _ _ _ _ _ => True) (fun _ U o U' => ∃ v L, o = .returned v ∧ Q3 Z w1 w2 w3 w4 w5 w6 w7 kw1 p1 h0 n0 v U'.heap L ∧ FrameEnd U o U' L ({ frames := 0, cells := 0, slots := 0, locals := 0 } : Room).cells ({ frames := 0, cells := 0, slots := 0, locals := 0 } : Room).slots) := by
  obtain ⟨S_w1, E_w1, S_w2, E_w2, S_w3, E_w3, S_w4, E_w4, S_w5, E_w5, S_w6, E_w6, S_w7, E_w7, F_w2_code, F_w3_code, F_w4_code, F_w5_code, F_w6_code, F_w7_code, A_w1⟩ := id G
  refine MetFree.of_bodySF (plainFor_of_name pn1) hisR ?_
  intro p e s m args below meth c s₁ Bd hml0 hP hK
  obtain ⟨rfl, hZ, hh⟩ := hP
  have hx := Bd.exec
  have hby := Bd.bytes
  have hml : c.maxLocals = 1 := hml0
  have hown : s.vm.findClass "com/example/sablegrid/sablegrid/io/OperationOfPinLaw" = some m.cls := findClass_of_methodNamed Bd.named
  have hnm := (name_of_methodNamed Bd.named Bd.method).1
  have hret := Bd.returns
  have hlk : meth.locks = false := BodyLoose.notSynchronized Bd
  have X0 : Stand p l e ({ frames := 0, cells := 0, slots := 0, locals := 0 } : Room) s m #[(.int p1)] below meth c s₁ [] 0 0 := Stand.of_body Bd
  have e0 : s₁.heap = h0 := by rw [← hh, Bd.state]; rfl
  have N0 := Fr.nil n0
  have pre0 : ∀ t, Steps p.tables e below (s₁.setTop (mkF m 0 #[.val (.int p1)] [])) t → Steps p.tables e below (s₁.setTop (entryFrame m #[(.int p1)] 1)) t := fun t k => castTop (ef3 m p1) k
  have pre1 : ∀ t, Steps p.tables e below (s₁.setTop (mkF m 2 #[.val (.int p1)] [(.int (1 : Int32)), (.int p1)])) t → Steps p.tables e below (s₁.setTop (entryFrame m #[(.int p1)] 1)) t := fun t k => by
    refine pre0 _ ?_
    show Steps p.tables e below (s₁.setTop (mkF m 0 #[.val (.int p1)] [])) _
    refine XS.iloadN X0.here hx rfl (hb hby d2_0) rfl ?_
    show Steps p.tables e below (s₁.setTop (mkF m 1 #[.val (.int p1)] [(.int p1)])) _
    refine XS.iconst X0.here hx rfl (hb hby d2_1) ?_
    exact k
  by_cases hc2 : p1 = (1 : Int32)
  ·
    have pre3 : ∀ t, Steps p.tables e below (s₁.setTop (mkF m 2 #[.val (.int (1 : Int32))] [(.int (1 : Int32)), (.int (1 : Int32))])) t → Steps p.tables e below (s₁.setTop (entryFrame m #[(.int p1)] 1)) t := fun t k => pre1 t (by rw [hc2]; exact k)
    obtain ⟨T4, X4, e4, st4⟩ := getS2 X0 hx hZ hown (host := "") (Or.inl (hw _ (List.mem_of_getElem? (i := 32) rfl))) Via.refl e0 (S_w2.ext O0.2) (g := (mkF m 5 #[.val (.int (1 : Int32))] [])) rfl (hb hby d2_5)
    obtain ⟨fs, hr, hrun, hended, hW, hsame⟩ := X4.leave (v := some (.ref w2)) (fun h => by rw [hret] at h; cases h)
    refine ⟨_, _, pre3 _ ?_, hrun, hended, _, _, rfl, ?_, ⟨_, rfl⟩, hW, hsame.mono (by decide) (by decide)⟩
    ·
      show Steps p.tables e below (s₁.setTop (mkF m 2 #[.val (.int (1 : Int32))] [(.int (1 : Int32)), (.int (1 : Int32))])) _
      refine XS.icmpNo X0.here hx rfl (hb hby d2_2) rfl (teq (by decide : (1 : Int32) = (1 : Int32))).2 ?_
      show Steps p.tables e below (s₁.setTop (mkF m 5 #[.val (.int (1 : Int32))] [])) _
      refine st4 _ ?_
      show Steps p.tables e below (T4.setTop (mkF m 8 #[.val (.int (1 : Int32))] [(.ref w2)])) _
      exact retOut X4 hx hret rfl (Or.inr (Or.inr (Or.inr (Or.inr ⟨rfl, rfl, rfl⟩)))) (hb hby d2_8) hr
    ·
      show Q3 Z w1 w2 w3 w4 w5 w6 w7 kw1 p1 h0 n0 _ T4.heap _
      rw [e4]
      exact (Or.inl ⟨hc2, rfl, N0, rfl⟩)
  ·
    have pre5 : ∀ t, Steps p.tables e below (s₁.setTop (mkF m 11 #[.val (.int p1)] [(.int (3 : Int32)), (.int p1)])) t → Steps p.tables e below (s₁.setTop (entryFrame m #[(.int p1)] 1)) t := fun t k => by
      refine pre1 _ ?_
      show Steps p.tables e below (s₁.setTop (mkF m 2 #[.val (.int p1)] [(.int (1 : Int32)), (.int p1)])) _
      refine XS.icmpYes X0.here hx rfl (pc0 := 2) (pc' := 9) rfl (hb hby d2_2) rfl (feq hc2).2 (by decide) (by decide) ?_
      show Steps p.tables e below (s₁.setTop (mkF m 9 #[.val (.int p1)] [])) _
      refine XS.iloadN X0.here hx rfl (hb hby d2_9) rfl ?_
      show Steps p.tables e below (s₁.setTop (mkF m 10 #[.val (.int p1)] [(.int p1)])) _
      refine XS.iconst X0.here hx rfl (hb hby d2_10) ?_
      exact k
    by_cases hc6 : p1 = (3 : Int32)
    ·
      have pre7 : ∀ t, Steps p.tables e below (s₁.setTop (mkF m 11 #[.val (.int (3 : Int32))] [(.int (3 : Int32)), (.int (3 : Int32))])) t → Steps p.tables e below (s₁.setTop (entryFrame m #[(.int p1)] 1)) t := fun t k => pre5 t (by rw [hc6]; exact k)
      obtain ⟨T8, X8, e8, st8⟩ := getS2 X0 hx hZ hown (host := "") (Or.inl (hw _ (List.mem_of_getElem? (i := 31) rfl))) Via.refl e0 (S_w3.ext O0.2) (g := (mkF m 14 #[.val (.int (3 : Int32))] [])) rfl (hb hby d2_14)
      obtain ⟨fs, hr, hrun, hended, hW, hsame⟩ := X8.leave (v := some (.ref w3)) (fun h => by rw [hret] at h; cases h)
      refine ⟨_, _, pre7 _ ?_, hrun, hended, _, _, rfl, ?_, ⟨_, rfl⟩, hW, hsame.mono (by decide) (by decide)⟩
      ·
        show Steps p.tables e below (s₁.setTop (mkF m 11 #[.val (.int (3 : Int32))] [(.int (3 : Int32)), (.int (3 : Int32))])) _
        refine XS.icmpNo X0.here hx rfl (hb hby d2_11) rfl (teq (by decide : (3 : Int32) = (3 : Int32))).2 ?_
        show Steps p.tables e below (s₁.setTop (mkF m 14 #[.val (.int (3 : Int32))] [])) _
        refine st8 _ ?_
        show Steps p.tables e below (T8.setTop (mkF m 17 #[.val (.int (3 : Int32))] [(.ref w3)])) _
        exact retOut X8 hx hret rfl (Or.inr (Or.inr (Or.inr (Or.inr ⟨rfl, rfl, rfl⟩)))) (hb hby d2_17) hr
      ·
        show Q3 Z w1 w2 w3 w4 w5 w6 w7 kw1 p1 h0 n0 _ T8.heap _
        rw [e8]
        exact (Or.inr (Or.inl ⟨hc2, hc6, rfl, N0, rfl⟩))
    ·
      have pre9 : ∀ t, Steps p.tables e below (s₁.setTop (mkF m 20 #[.val (.int p1)] [(.int (5 : Int32)), (.int p1)])) t → Steps p.tables e below (s₁.setTop (entryFrame m #[(.int p1)] 1)) t := fun t k => by
        refine pre5 _ ?_
        show Steps p.tables e below (s₁.setTop (mkF m 11 #[.val (.int p1)] [(.int (3 : Int32)), (.int p1)])) _
        refine XS.icmpYes X0.here hx rfl (pc0 := 11) (pc' := 18) rfl (hb hby d2_11) rfl (feq hc6).2 (by decide) (by decide) ?_
        show Steps p.tables e below (s₁.setTop (mkF m 18 #[.val (.int p1)] [])) _
        refine XS.iloadN X0.here hx rfl (hb hby d2_18) rfl ?_
        show Steps p.tables e below (s₁.setTop (mkF m 19 #[.val (.int p1)] [(.int p1)])) _
        refine XS.iconst X0.here hx rfl (hb hby d2_19) ?_
        exact k
      by_cases hc10 : p1 = (5 : Int32)
      ·
        have pre11 : ∀ t, Steps p.tables e below (s₁.setTop (mkF m 20 #[.val (.int (5 : Int32))] [(.int (5 : Int32)), (.int (5 : Int32))])) t → Steps p.tables e below (s₁.setTop (entryFrame m #[(.int p1)] 1)) t := fun t k => pre9 t (by rw [hc10]; exact k)
        obtain ⟨T12, X12, e12, st12⟩ := getS2 X0 hx hZ hown (host := "") (Or.inl (hw _ (List.mem_of_getElem? (i := 34) rfl))) Via.refl e0 (S_w4.ext O0.2) (g := (mkF m 23 #[.val (.int (5 : Int32))] [])) rfl (hb hby d2_23)
        obtain ⟨fs, hr, hrun, hended, hW, hsame⟩ := X12.leave (v := some (.ref w4)) (fun h => by rw [hret] at h; cases h)
        refine ⟨_, _, pre11 _ ?_, hrun, hended, _, _, rfl, ?_, ⟨_, rfl⟩, hW, hsame.mono (by decide) (by decide)⟩
        ·
          show Steps p.tables e below (s₁.setTop (mkF m 20 #[.val (.int (5 : Int32))] [(.int (5 : Int32)), (.int (5 : Int32))])) _
          refine XS.icmpNo X0.here hx rfl (hb hby d2_20) rfl (teq (by decide : (5 : Int32) = (5 : Int32))).2 ?_
          show Steps p.tables e below (s₁.setTop (mkF m 23 #[.val (.int (5 : Int32))] [])) _
          refine st12 _ ?_
          show Steps p.tables e below (T12.setTop (mkF m 26 #[.val (.int (5 : Int32))] [(.ref w4)])) _
          exact retOut X12 hx hret rfl (Or.inr (Or.inr (Or.inr (Or.inr ⟨rfl, rfl, rfl⟩)))) (hb hby d2_26) hr
        ·
          show Q3 Z w1 w2 w3 w4 w5 w6 w7 kw1 p1 h0 n0 _ T12.heap _
          rw [e12]
          exact (Or.inr (Or.inr (Or.inl ⟨hc2, hc6, hc10, rfl, N0, rfl⟩)))
      ·
        have pre13 : ∀ t, Steps p.tables e below (s₁.setTop (mkF m 30 #[.val (.int p1)] [(.int (11 : Int32)), (.int p1)])) t → Steps p.tables e below (s₁.setTop (entryFrame m #[(.int p1)] 1)) t := fun t k => by
          refine pre9 _ ?_
          show Steps p.tables e below (s₁.setTop (mkF m 20 #[.val (.int p1)] [(.int (5 : Int32)), (.int p1)])) _
          refine XS.icmpYes X0.here hx rfl (pc0 := 20) (pc' := 27) rfl (hb hby d2_20) rfl (feq hc10).2 (by decide) (by decide) ?_
          show Steps p.tables e below (s₁.setTop (mkF m 27 #[.val (.int p1)] [])) _
          refine XS.iloadN X0.here hx rfl (hb hby d2_27) rfl ?_
          show Steps p.tables e below (s₁.setTop (mkF m 28 #[.val (.int p1)] [(.int p1)])) _
          refine XS.bipush X0.here hx rfl (hb hby d2_28) ?_
          exact k
        by_cases hc14 : p1 = (11 : Int32)
        ·
          have pre15 : ∀ t, Steps p.tables e below (s₁.setTop (mkF m 30 #[.val (.int (11 : Int32))] [(.int (11 : Int32)), (.int (11 : Int32))])) t → Steps p.tables e below (s₁.setTop (entryFrame m #[(.int p1)] 1)) t := fun t k => pre13 t (by rw [hc14]; exact k)
          obtain ⟨T16, X16, e16, st16⟩ := getS2 X0 hx hZ hown (host := "") (Or.inl (hw _ (List.mem_of_getElem? (i := 33) rfl))) Via.refl e0 (S_w5.ext O0.2) (g := (mkF m 33 #[.val (.int (11 : Int32))] [])) rfl (hb hby d2_33)
          obtain ⟨fs, hr, hrun, hended, hW, hsame⟩ := X16.leave (v := some (.ref w5)) (fun h => by rw [hret] at h; cases h)
          refine ⟨_, _, pre15 _ ?_, hrun, hended, _, _, rfl, ?_, ⟨_, rfl⟩, hW, hsame.mono (by decide) (by decide)⟩
          ·
            show Steps p.tables e below (s₁.setTop (mkF m 30 #[.val (.int (11 : Int32))] [(.int (11 : Int32)), (.int (11 : Int32))])) _
            refine XS.icmpNo X0.here hx rfl (hb hby d2_30) rfl (teq (by decide : (11 : Int32) = (11 : Int32))).2 ?_
            show Steps p.tables e below (s₁.setTop (mkF m 33 #[.val (.int (11 : Int32))] [])) _
            refine st16 _ ?_
            show Steps p.tables e below (T16.setTop (mkF m 36 #[.val (.int (11 : Int32))] [(.ref w5)])) _
            exact retOut X16 hx hret rfl (Or.inr (Or.inr (Or.inr (Or.inr ⟨rfl, rfl, rfl⟩)))) (hb hby d2_36) hr
          ·
            show Q3 Z w1 w2 w3 w4 w5 w6 w7 kw1 p1 h0 n0 _ T16.heap _
            rw [e16]
            exact (Or.inr (Or.inr (Or.inr (Or.inl ⟨hc2, hc6, hc10, hc14, rfl, N0, rfl⟩))))
        ·
          have pre17 : ∀ t, Steps p.tables e below (s₁.setTop (mkF m 40 #[.val (.int p1)] [(.int (15 : Int32)), (.int p1)])) t → Steps p.tables e below (s₁.setTop (entryFrame m #[(.int p1)] 1)) t := fun t k => by
            refine pre13 _ ?_
            show Steps p.tables e below (s₁.setTop (mkF m 30 #[.val (.int p1)] [(.int (11 : Int32)), (.int p1)])) _
            refine XS.icmpYes X0.here hx rfl (pc0 := 30) (pc' := 37) rfl (hb hby d2_30) rfl (feq hc14).2 (by decide) (by decide) ?_
            show Steps p.tables e below (s₁.setTop (mkF m 37 #[.val (.int p1)] [])) _
            refine XS.iloadN X0.here hx rfl (hb hby d2_37) rfl ?_
            show Steps p.tables e below (s₁.setTop (mkF m 38 #[.val (.int p1)] [(.int p1)])) _
            refine XS.bipush X0.here hx rfl (hb hby d2_38) ?_
            exact k
          by_cases hc18 : p1 = (15 : Int32)
          ·
            have pre19 : ∀ t, Steps p.tables e below (s₁.setTop (mkF m 40 #[.val (.int (15 : Int32))] [(.int (15 : Int32)), (.int (15 : Int32))])) t → Steps p.tables e below (s₁.setTop (entryFrame m #[(.int p1)] 1)) t := fun t k => pre17 t (by rw [hc18]; exact k)
            obtain ⟨T20, X20, e20, st20⟩ := getS2 X0 hx hZ hown (host := "") (Or.inl (hw _ (List.mem_of_getElem? (i := 35) rfl))) Via.refl e0 (S_w6.ext O0.2) (g := (mkF m 43 #[.val (.int (15 : Int32))] [])) rfl (hb hby d2_43)
            obtain ⟨fs, hr, hrun, hended, hW, hsame⟩ := X20.leave (v := some (.ref w6)) (fun h => by rw [hret] at h; cases h)
            refine ⟨_, _, pre19 _ ?_, hrun, hended, _, _, rfl, ?_, ⟨_, rfl⟩, hW, hsame.mono (by decide) (by decide)⟩
            ·
              show Steps p.tables e below (s₁.setTop (mkF m 40 #[.val (.int (15 : Int32))] [(.int (15 : Int32)), (.int (15 : Int32))])) _
              refine XS.icmpNo X0.here hx rfl (hb hby d2_40) rfl (teq (by decide : (15 : Int32) = (15 : Int32))).2 ?_
              show Steps p.tables e below (s₁.setTop (mkF m 43 #[.val (.int (15 : Int32))] [])) _
              refine st20 _ ?_
              show Steps p.tables e below (T20.setTop (mkF m 46 #[.val (.int (15 : Int32))] [(.ref w6)])) _
              exact retOut X20 hx hret rfl (Or.inr (Or.inr (Or.inr (Or.inr ⟨rfl, rfl, rfl⟩)))) (hb hby d2_46) hr
            ·
              show Q3 Z w1 w2 w3 w4 w5 w6 w7 kw1 p1 h0 n0 _ T20.heap _
              rw [e20]
              exact (Or.inr (Or.inr (Or.inr (Or.inr (Or.inl ⟨hc2, hc6, hc10, hc14, hc18, rfl, N0, rfl⟩)))))
          ·
            have pre21 : ∀ t, Steps p.tables e below (s₁.setTop (mkF m 50 #[.val (.int p1)] [(.int (23 : Int32)), (.int p1)])) t → Steps p.tables e below (s₁.setTop (entryFrame m #[(.int p1)] 1)) t := fun t k => by
              refine pre17 _ ?_
              show Steps p.tables e below (s₁.setTop (mkF m 40 #[.val (.int p1)] [(.int (15 : Int32)), (.int p1)])) _
              refine XS.icmpYes X0.here hx rfl (pc0 := 40) (pc' := 47) rfl (hb hby d2_40) rfl (feq hc18).2 (by decide) (by decide) ?_
              show Steps p.tables e below (s₁.setTop (mkF m 47 #[.val (.int p1)] [])) _
              refine XS.iloadN X0.here hx rfl (hb hby d2_47) rfl ?_
              show Steps p.tables e below (s₁.setTop (mkF m 48 #[.val (.int p1)] [(.int p1)])) _
              refine XS.bipush X0.here hx rfl (hb hby d2_48) ?_
              exact k
            by_cases hc22 : p1 = (23 : Int32)
            ·
              have pre23 : ∀ t, Steps p.tables e below (s₁.setTop (mkF m 50 #[.val (.int (23 : Int32))] [(.int (23 : Int32)), (.int (23 : Int32))])) t → Steps p.tables e below (s₁.setTop (entryFrame m #[(.int p1)] 1)) t := fun t k => pre21 t (by rw [hc22]; exact k)
              obtain ⟨T24, X24, e24, st24⟩ := getS2 X0 hx hZ hown (host := "") (Or.inl (hw _ (List.mem_of_getElem? (i := 36) rfl))) Via.refl e0 (S_w7.ext O0.2) (g := (mkF m 53 #[.val (.int (23 : Int32))] [])) rfl (hb hby d2_53)
              obtain ⟨fs, hr, hrun, hended, hW, hsame⟩ := X24.leave (v := some (.ref w7)) (fun h => by rw [hret] at h; cases h)
              refine ⟨_, _, pre23 _ ?_, hrun, hended, _, _, rfl, ?_, ⟨_, rfl⟩, hW, hsame.mono (by decide) (by decide)⟩
              ·
                show Steps p.tables e below (s₁.setTop (mkF m 50 #[.val (.int (23 : Int32))] [(.int (23 : Int32)), (.int (23 : Int32))])) _
                refine XS.icmpNo X0.here hx rfl (hb hby d2_50) rfl (teq (by decide : (23 : Int32) = (23 : Int32))).2 ?_
                show Steps p.tables e below (s₁.setTop (mkF m 53 #[.val (.int (23 : Int32))] [])) _
                refine st24 _ ?_
                show Steps p.tables e below (T24.setTop (mkF m 56 #[.val (.int (23 : Int32))] [(.ref w7)])) _
                exact retOut X24 hx hret rfl (Or.inr (Or.inr (Or.inr (Or.inr ⟨rfl, rfl, rfl⟩)))) (hb hby d2_56) hr
              ·
                show Q3 Z w1 w2 w3 w4 w5 w6 w7 kw1 p1 h0 n0 _ T24.heap _
                rw [e24]
                exact (Or.inr (Or.inr (Or.inr (Or.inr (Or.inr (Or.inl ⟨hc2, hc6, hc10, hc14, hc18, hc22, rfl, N0, rfl⟩))))))
            ·
              obtain ⟨fs, hr, hrun, hended, hW, hsame⟩ := X0.leave (v := some .null) (fun h => by rw [hret] at h; cases h)
              refine ⟨_, _, pre21 _ ?_, hrun, hended, _, _, rfl, ?_, ⟨_, rfl⟩, hW, hsame.mono (by decide) (by decide)⟩
              ·
                show Steps p.tables e below (s₁.setTop (mkF m 50 #[.val (.int p1)] [(.int (23 : Int32)), (.int p1)])) _
                refine XS.icmpYes X0.here hx rfl (pc0 := 50) (pc' := 57) rfl (hb hby d2_50) rfl (feq hc22).2 (by decide) (by decide) ?_
                show Steps p.tables e below (s₁.setTop (mkF m 57 #[.val (.int p1)] [])) _
                refine XS.aconstNull X0.here hx rfl (hb hby d2_57) ?_
                show Steps p.tables e below (s₁.setTop (mkF m 58 #[.val (.int p1)] [.null])) _
                exact retOut X0 hx hret rfl (Or.inr (Or.inr (Or.inr (Or.inr ⟨rfl, rfl, rfl⟩)))) (hb hby d2_58) hr
              ·
                show Q3 Z w1 w2 w3 w4 w5 w6 w7 kw1 p1 h0 n0 _ s₁.heap _
                rw [e0]
                exact (Or.inr (Or.inr (Or.inr (Or.inr (Or.inr (Or.inr ⟨hc2, hc6, hc10, hc14, hc18, hc22, rfl, N0, rfl⟩))))))
theorem ef0 (m : MethodId) (x0 : Int32) (x1 : Int32) : entryFrame m #[(.int x0), (.int x1)] maxLocals = mkF m 0 #[.val (.int x0), .val (.int x1), .unset, .unset] [] := by first | (simp [entryFrame, mkF, argsToLocals, Value.category, maxLocals]; done) | rfl
set_option maxRecDepth 65536 in
set_option maxHeartbeats 40000000 in
theorem rm0 (l : Launch) (Z : State) (a0 : Array Value) (hw : ∀ d ∈ tables_1, d.before a0 Z = true) (w1 : Addr) (w2 : Addr) (w3 : Addr) (w4 : Addr) (w5 : Addr) (w6 : Addr) (w7 : Addr) (kw1 : ClassId) (G : GW Z w1 w2 w3 w4 w5 w6 w7 kw1) (ws : List Jvm.Cond) (p1 : Int32) (p2 : Int32) (h0 : Heap) (n0 : Nat) (O0 : Old Z n0 h0) :
    MetFree l x (head1 (Jvm.Cond.code x code maxLocals ret :: ws) room_1) (fun a U => a = #[(.int p1), (.int p2)] ∧ Z.Warmed39 U.vm ∧ U.heap = h0) (fun _ _ _ _ _ => True) (fun _ U o U' => ∃ v L, o = .returned v ∧ Q0 n0 v U'.heap L ∧ FrameEnd U o U' L 16 128) := by
  obtain ⟨S_w1, E_w1, S_w2, E_w2, S_w3, E_w3, S_w4, E_w4, S_w5, E_w5, S_w6, E_w6, S_w7, E_w7, F_w2_code, F_w3_code, F_w4_code, F_w5_code, F_w6_code, F_w7_code, A_w1⟩ := id G
  refine MetFree.of_bodySF (plainFor_of_name pn1) hisR ?_
  intro p e s m args below meth c s₁ Bd hml0 hP hK
  obtain ⟨rfl, hZ, hh⟩ := hP
  have hx := Bd.exec
  have hby := Bd.bytes
  have hml : c.maxLocals = 4 := hml0
  have hown : s.vm.findClass "com/example/sablegrid/sablegrid/io/OperationOfPinLaw" = some m.cls := findClass_of_methodNamed Bd.named
  have hnm := (name_of_methodNamed Bd.named Bd.method).1
  have hret := Bd.returns
  have hlk : meth.locks = false := BodyLoose.notSynchronized Bd
  have X0 : Stand p l e room_1 s m #[(.int p1), (.int p2)] below meth c s₁ [] 0 0 := Stand.of_body Bd
  have e0 : s₁.heap = h0 := by rw [← hh, Bd.state]; rfl
  have N0 := Fr.nil n0
  have pre0 : ∀ t, Steps p.tables e below (s₁.setTop (mkF m 0 #[.val (.int p1), .val (.int p2), .unset, .unset] [])) t → Steps p.tables e below (s₁.setTop (entryFrame m #[(.int p1), (.int p2)] maxLocals)) t := fun t k => castTop (ef0 m p1 p2) k
  have pre1 : ∀ t, Steps p.tables e below (s₁.setTop (mkF m 3 #[.val (.int p1), .val (.int p2), .unset, .unset] [(.int (p2 &&& (1 : Int32)))])) t → Steps p.tables e below (s₁.setTop (entryFrame m #[(.int p1), (.int p2)] maxLocals)) t := fun t k => by
    refine pre0 _ ?_
    show Steps p.tables e below (s₁.setTop (mkF m 0 #[.val (.int p1), .val (.int p2), .unset, .unset] [])) _
    refine XS.iloadN X0.here hx rfl (hb hby at_0) rfl ?_
    show Steps p.tables e below (s₁.setTop (mkF m 1 #[.val (.int p1), .val (.int p2), .unset, .unset] [(.int p2)])) _
    refine XS.iconst X0.here hx rfl (hb hby at_1) ?_
    show Steps p.tables e below (s₁.setTop (mkF m 2 #[.val (.int p1), .val (.int p2), .unset, .unset] [(.int (1 : Int32)), (.int p2)])) _
    refine XS.iand X0.here hx rfl (hb hby at_2) rfl ?_
    exact k
  by_cases hc2 : (p2 &&& (1 : Int32)) = (0 : Int32)
  ·
    have pre3 : ∀ t, Steps p.tables e below (s₁.setTop (mkF m 3 #[.val (.int p1), .val (.int p2), .unset, .unset] [(.int (0 : Int32))])) t → Steps p.tables e below (s₁.setTop (entryFrame m #[(.int p1), (.int p2)] maxLocals)) t := fun t k => pre1 t (by rw [hc2]; exact k)
    obtain ⟨_, _, ⟨T4, L4, c4, n4⟩, -, X4, ⟨Lc4, hQ4, l4, y4, z4⟩, st4⟩ := Jvm.LawKit.callS X0 hx (y := (⟨"com/example/sablegrid/sablegrid/io/BinaryProtocol$Operation", "of", "(I)Lcom/example/sablegrid/sablegrid/io/BinaryProtocol$Operation;"⟩ : MethodName)) hown (mvT hZ (hw _ (List.mem_of_getElem? (i := 0) rfl))) (mvT hZ (hw _ (List.mem_of_getElem? (i := 1) rfl))) (mvT hZ (hw _ (List.mem_of_getElem? (i := 2) rfl))) (mvT hZ (hw _ (List.mem_of_getElem? (i := 3) rfl))) (by decide) (backOf (W := 0) (rm2 l Z a0 hw w1 w2 w3 w4 w5 w6 w7 kw1 G [] p1 h0 n0 O0 ) hZ (hw _ (List.mem_of_getElem? (i := 3) rfl)) (hw _ (List.mem_of_getElem? (i := 2) rfl)) (by decide) (by decide)) (g := (mkF m 16 #[.val (.int p1), .val (.int p2), .val (.int p1), .unset] [(.int p1)])) rfl (by rw [hml]; rfl) (argsL := [(.int p1)]) (rest := []) (lenOf pd1 rfl) rfl (by show 2 * 0 + _ ≤ _; exact Nat.le_of_eq rfl) (hb hby at_16) (fun _ _ => ⟨rfl, e0, (by decide : 0 + 1 ≤ _), (by decide : 0 + 6 ≤ _)⟩)
    dsimp only [Pt.U, Pt.locs, Pt.cells, Pt.slots] at X4 l4 y4 z4 st4 hQ4
    subst l4 y4 z4
    have pre5 : ∀ t, Steps p.tables e below (s₁.setTop (mkF m 16 #[.val (.int p1), .val (.int p2), .val (.int p1), .unset] [(.int p1)])) t → Steps p.tables e below (s₁.setTop (entryFrame m #[(.int p1), (.int p2)] maxLocals)) t := fun t k => by
      refine pre3 _ ?_
      show Steps p.tables e below (s₁.setTop (mkF m 3 #[.val (.int p1), .val (.int p2), .unset, .unset] [(.int (0 : Int32))])) _
      refine XS.ifYes X0.here hx rfl (pc0 := 3) (pc' := 13) rfl (hb hby at_3) rfl ((if0 _ _).trans (teq (by decide : (0 : Int32) = (0 : Int32))).1) (by decide) (by decide) ?_
      show Steps p.tables e below (s₁.setTop (mkF m 13 #[.val (.int p1), .val (.int p2), .unset, .unset] [])) _
      refine XS.iloadN X0.here hx rfl (hb hby at_13) rfl ?_
      show Steps p.tables e below (s₁.setTop (mkF m 14 #[.val (.int p1), .val (.int p2), .unset, .unset] [(.int p1)])) _
      refine XS.istoreN X0.here hx rfl (hb hby at_14) rfl (l' := #[.val (.int p1), .val (.int p2), .val (.int p1), .unset]) rfl ?_
      show Steps p.tables e below (s₁.setTop (mkF m 15 #[.val (.int p1), .val (.int p2), .val (.int p1), .unset] [])) _
      refine XS.iloadN X0.here hx rfl (hb hby at_15) rfl ?_
      exact k
    have X4 : Stand p l e room_1 s m #[(.int p1), (.int p2)] below meth c T4 _ 1 6 := X4
    rcases hQ4 with ⟨hc6, rfl, Nq7, K8⟩ | ⟨hc9, hc10, rfl, Nq11, K12⟩ | ⟨hc13, hc14, hc15, rfl, Nq16, K17⟩ | ⟨hc18, hc19, hc20, hc21, rfl, Nq22, K23⟩ | ⟨hc24, hc25, hc26, hc27, hc28, rfl, Nq29, K30⟩ | ⟨hc31, hc32, hc33, hc34, hc35, hc36, rfl, Nq37, K38⟩ | ⟨hc39, hc40, hc41, hc42, hc43, hc44, rfl, Nq45, K46⟩
    ·
      have N4 := Fr.app N0 Nq7
      have M4 : h0.size ≤ T4.heap.size := Nat.le_trans (Nat.le_refl _) K8.1
      have O4 := Old.keep O0 K8 all0
      obtain ⟨_, _, ⟨T47, L47, c47, n47⟩, -, X47, ⟨Lc47, hQ47, l47, y47, z47⟩, st47⟩ := Jvm.LawKit.callS X4 hx (y := (⟨"com/example/sablegrid/sablegrid/io/OperationOfPinLaw", "expected", "(I)Lcom/example/sablegrid/sablegrid/io/BinaryProtocol$Operation;"⟩ : MethodName)) hown (mvT hZ (hw _ (List.mem_of_getElem? (i := 27) rfl))) (mvT hZ (hw _ (List.mem_of_getElem? (i := 28) rfl))) (mvT hZ (hw _ (List.mem_of_getElem? (i := 29) rfl))) (mvT hZ (hw _ (List.mem_of_getElem? (i := 30) rfl))) (by decide) (backOf (W := 1) (rm3 l Z a0 hw w1 w2 w3 w4 w5 w6 w7 kw1 G [] p1 T4.heap n0 O4 ) hZ (hw _ (List.mem_of_getElem? (i := 30) rfl)) (hw _ (List.mem_of_getElem? (i := 29) rfl)) (by decide) (by decide)) (g := (mkF m 22 #[.val (.int p1), .val (.int p2), .val (.int p1), .val (.ref w2)] [(.int p1), (.ref w2)])) rfl (by rw [hml]; rfl) (argsL := [(.int p1)]) (rest := [(.ref w2)]) (lenOf pd1 rfl) rfl (by show 2 * 0 + _ ≤ _; exact Nat.le_of_eq rfl) (hb hby at_22) (fun _ _ => ⟨rfl, rfl, (by decide : 1 + 0 ≤ _), (by decide : 6 + 0 ≤ _)⟩)
      dsimp only [Pt.U, Pt.locs, Pt.cells, Pt.slots] at X47 l47 y47 z47 st47 hQ47
      subst l47 y47 z47
      have pre48 : ∀ t, Steps p.tables e below (T4.setTop (mkF m 22 #[.val (.int p1), .val (.int p2), .val (.int p1), .val (.ref w2)] [(.int p1), (.ref w2)])) t → Steps p.tables e below (s₁.setTop (entryFrame m #[(.int p1), (.int p2)] maxLocals)) t := fun t k => by
        refine pre5 _ ?_
        show Steps p.tables e below (s₁.setTop (mkF m 16 #[.val (.int p1), .val (.int p2), .val (.int p1), .unset] [(.int p1)])) _
        refine st4 _ ?_
        show Steps p.tables e below (T4.setTop (mkF m 19 #[.val (.int p1), .val (.int p2), .val (.int p1), .unset] [(.ref w2)])) _
        refine XS.astoreN X4.here hx rfl (hb hby at_19) rfl rfl (l' := #[.val (.int p1), .val (.int p2), .val (.int p1), .val (.ref w2)]) rfl ?_
        show Steps p.tables e below (T4.setTop (mkF m 20 #[.val (.int p1), .val (.int p2), .val (.int p1), .val (.ref w2)] [])) _
        refine XS.aloadN X4.here hx rfl (hb hby at_20) rfl rfl ?_
        show Steps p.tables e below (T4.setTop (mkF m 21 #[.val (.int p1), .val (.int p2), .val (.int p1), .val (.ref w2)] [(.ref w2)])) _
        refine XS.iloadN X4.here hx rfl (hb hby at_21) rfl ?_
        exact k
      have X47 : Stand p l e room_1 s m #[(.int p1), (.int p2)] below meth c T47 _ 1 6 := X47
      rcases hQ47 with ⟨hc49, rfl, Nq50, e51⟩ | ⟨hc52, hc53, rfl, Nq54, e55⟩ | ⟨hc56, hc57, hc58, rfl, Nq59, e60⟩ | ⟨hc61, hc62, hc63, hc64, rfl, Nq65, e66⟩ | ⟨hc67, hc68, hc69, hc70, hc71, rfl, Nq72, e73⟩ | ⟨hc74, hc75, hc76, hc77, hc78, hc79, rfl, Nq80, e81⟩ | ⟨hc82, hc83, hc84, hc85, hc86, hc87, rfl, Nq88, e89⟩
      ·
        have N47 := Fr.app N4 Nq50
        obtain ⟨fs, hr, hrun, hended, hW, hsame⟩ := X47.leave (v := some (.int (1 : Int32))) (fun h => by rw [hret] at h; cases h)
        refine ⟨_, _, pre48 _ ?_, hrun, hended, _, _, rfl, ?_, ⟨_, rfl⟩, hW, hsame.mono (by decide) (by decide)⟩
        ·
          show Steps p.tables e below (T4.setTop (mkF m 22 #[.val (.int p1), .val (.int p2), .val (.int p1), .val (.ref w2)] [(.int p1), (.ref w2)])) _
          refine st47 _ ?_
          show Steps p.tables e below (T47.setTop (mkF m 25 #[.val (.int p1), .val (.int p2), .val (.int p1), .val (.ref w2)] [(.ref w2), (.ref w2)])) _
          refine Jvm.RoadKit.acmp (g := (mkF m 25 #[.val (.int p1), .val (.int p2), .val (.int p1), .val (.ref w2)] [(.ref w2), (.ref w2)])) X47 hx rfl rfl rfl (pc0 := 25) (pc' := 28) (same := true) rfl (hb hby at_25) rfl (decide_eq_true rfl) (by decide) (by decide) ?_
          show Steps p.tables e below (T47.setTop (mkF m 28 #[.val (.int p1), .val (.int p2), .val (.int p1), .val (.ref w2)] [])) _
          refine XS.iconst X47.here hx rfl (hb hby at_28) ?_
          show Steps p.tables e below (T47.setTop (mkF m 29 #[.val (.int p1), .val (.int p2), .val (.int p1), .val (.ref w2)] [(.int (1 : Int32))])) _
          refine XS.goto X47.here hx rfl (pc0 := 29) (pc' := 33) rfl (hb hby at_29) (by decide) (by decide) ?_
          show Steps p.tables e below (T47.setTop (mkF m 33 #[.val (.int p1), .val (.int p2), .val (.int p1), .val (.ref w2)] [(.int (1 : Int32))])) _
          exact retN X47 hx (t := .boolean) hret (by simp) (hb hby at_33) hr
        ·
          show Q0 n0 _ T47.heap _
          rw [e51]
          exact ⟨rfl, N47⟩
      ·
        exact absurd (hc6).symm hc52
      ·
        exact absurd (hc6).symm hc56
      ·
        exact absurd (hc6).symm hc61
      ·
        exact absurd (hc6).symm hc67
      ·
        exact absurd (hc6).symm hc74
      ·
        exact absurd (hc6).symm hc82
    ·
      have N4 := Fr.app N0 Nq11
      have M4 : h0.size ≤ T4.heap.size := Nat.le_trans (Nat.le_refl _) K12.1
      have O4 := Old.keep O0 K12 all0
      obtain ⟨_, _, ⟨T90, L90, c90, n90⟩, -, X90, ⟨Lc90, hQ90, l90, y90, z90⟩, st90⟩ := Jvm.LawKit.callS X4 hx (y := (⟨"com/example/sablegrid/sablegrid/io/OperationOfPinLaw", "expected", "(I)Lcom/example/sablegrid/sablegrid/io/BinaryProtocol$Operation;"⟩ : MethodName)) hown (mvT hZ (hw _ (List.mem_of_getElem? (i := 27) rfl))) (mvT hZ (hw _ (List.mem_of_getElem? (i := 28) rfl))) (mvT hZ (hw _ (List.mem_of_getElem? (i := 29) rfl))) (mvT hZ (hw _ (List.mem_of_getElem? (i := 30) rfl))) (by decide) (backOf (W := 1) (rm3 l Z a0 hw w1 w2 w3 w4 w5 w6 w7 kw1 G [] p1 T4.heap n0 O4 ) hZ (hw _ (List.mem_of_getElem? (i := 30) rfl)) (hw _ (List.mem_of_getElem? (i := 29) rfl)) (by decide) (by decide)) (g := (mkF m 22 #[.val (.int p1), .val (.int p2), .val (.int p1), .val (.ref w3)] [(.int p1), (.ref w3)])) rfl (by rw [hml]; rfl) (argsL := [(.int p1)]) (rest := [(.ref w3)]) (lenOf pd1 rfl) rfl (by show 2 * 0 + _ ≤ _; exact Nat.le_of_eq rfl) (hb hby at_22) (fun _ _ => ⟨rfl, rfl, (by decide : 1 + 0 ≤ _), (by decide : 6 + 0 ≤ _)⟩)
      dsimp only [Pt.U, Pt.locs, Pt.cells, Pt.slots] at X90 l90 y90 z90 st90 hQ90
      subst l90 y90 z90
      have pre91 : ∀ t, Steps p.tables e below (T4.setTop (mkF m 22 #[.val (.int p1), .val (.int p2), .val (.int p1), .val (.ref w3)] [(.int p1), (.ref w3)])) t → Steps p.tables e below (s₁.setTop (entryFrame m #[(.int p1), (.int p2)] maxLocals)) t := fun t k => by
        refine pre5 _ ?_
        show Steps p.tables e below (s₁.setTop (mkF m 16 #[.val (.int p1), .val (.int p2), .val (.int p1), .unset] [(.int p1)])) _
        refine st4 _ ?_
        show Steps p.tables e below (T4.setTop (mkF m 19 #[.val (.int p1), .val (.int p2), .val (.int p1), .unset] [(.ref w3)])) _
        refine XS.astoreN X4.here hx rfl (hb hby at_19) rfl rfl (l' := #[.val (.int p1), .val (.int p2), .val (.int p1), .val (.ref w3)]) rfl ?_
        show Steps p.tables e below (T4.setTop (mkF m 20 #[.val (.int p1), .val (.int p2), .val (.int p1), .val (.ref w3)] [])) _
        refine XS.aloadN X4.here hx rfl (hb hby at_20) rfl rfl ?_
        show Steps p.tables e below (T4.setTop (mkF m 21 #[.val (.int p1), .val (.int p2), .val (.int p1), .val (.ref w3)] [(.ref w3)])) _
        refine XS.iloadN X4.here hx rfl (hb hby at_21) rfl ?_
        exact k
      have X90 : Stand p l e room_1 s m #[(.int p1), (.int p2)] below meth c T90 _ 1 6 := X90
      rcases hQ90 with ⟨hc92, rfl, Nq93, e94⟩ | ⟨hc95, hc96, rfl, Nq97, e98⟩ | ⟨hc99, hc100, hc101, rfl, Nq102, e103⟩ | ⟨hc104, hc105, hc106, hc107, rfl, Nq108, e109⟩ | ⟨hc110, hc111, hc112, hc113, hc114, rfl, Nq115, e116⟩ | ⟨hc117, hc118, hc119, hc120, hc121, hc122, rfl, Nq123, e124⟩ | ⟨hc125, hc126, hc127, hc128, hc129, hc130, rfl, Nq131, e132⟩
      ·
        exact absurd hc92 (Ne.symm hc9)
      ·
        have N90 := Fr.app N4 Nq97
        obtain ⟨fs, hr, hrun, hended, hW, hsame⟩ := X90.leave (v := some (.int (1 : Int32))) (fun h => by rw [hret] at h; cases h)
        refine ⟨_, _, pre91 _ ?_, hrun, hended, _, _, rfl, ?_, ⟨_, rfl⟩, hW, hsame.mono (by decide) (by decide)⟩
        ·
          show Steps p.tables e below (T4.setTop (mkF m 22 #[.val (.int p1), .val (.int p2), .val (.int p1), .val (.ref w3)] [(.int p1), (.ref w3)])) _
          refine st90 _ ?_
          show Steps p.tables e below (T90.setTop (mkF m 25 #[.val (.int p1), .val (.int p2), .val (.int p1), .val (.ref w3)] [(.ref w3), (.ref w3)])) _
          refine Jvm.RoadKit.acmp (g := (mkF m 25 #[.val (.int p1), .val (.int p2), .val (.int p1), .val (.ref w3)] [(.ref w3), (.ref w3)])) X90 hx rfl rfl rfl (pc0 := 25) (pc' := 28) (same := true) rfl (hb hby at_25) rfl (decide_eq_true rfl) (by decide) (by decide) ?_
          show Steps p.tables e below (T90.setTop (mkF m 28 #[.val (.int p1), .val (.int p2), .val (.int p1), .val (.ref w3)] [])) _
          refine XS.iconst X90.here hx rfl (hb hby at_28) ?_
          show Steps p.tables e below (T90.setTop (mkF m 29 #[.val (.int p1), .val (.int p2), .val (.int p1), .val (.ref w3)] [(.int (1 : Int32))])) _
          refine XS.goto X90.here hx rfl (pc0 := 29) (pc' := 33) rfl (hb hby at_29) (by decide) (by decide) ?_
          show Steps p.tables e below (T90.setTop (mkF m 33 #[.val (.int p1), .val (.int p2), .val (.int p1), .val (.ref w3)] [(.int (1 : Int32))])) _
          exact retN X90 hx (t := .boolean) hret (by simp) (hb hby at_33) hr
        ·
          show Q0 n0 _ T90.heap _
          rw [e98]
          exact ⟨rfl, N90⟩
      ·
        exact absurd (hc10).symm hc100
      ·
        exact absurd (hc10).symm hc105
      ·
        exact absurd (hc10).symm hc111
      ·
        exact absurd (hc10).symm hc118
      ·
        exact absurd (hc10).symm hc126
    ·
      have N4 := Fr.app N0 Nq16
      have M4 : h0.size ≤ T4.heap.size := Nat.le_trans (Nat.le_refl _) K17.1
      have O4 := Old.keep O0 K17 all0
      obtain ⟨_, _, ⟨T133, L133, c133, n133⟩, -, X133, ⟨Lc133, hQ133, l133, y133, z133⟩, st133⟩ := Jvm.LawKit.callS X4 hx (y := (⟨"com/example/sablegrid/sablegrid/io/OperationOfPinLaw", "expected", "(I)Lcom/example/sablegrid/sablegrid/io/BinaryProtocol$Operation;"⟩ : MethodName)) hown (mvT hZ (hw _ (List.mem_of_getElem? (i := 27) rfl))) (mvT hZ (hw _ (List.mem_of_getElem? (i := 28) rfl))) (mvT hZ (hw _ (List.mem_of_getElem? (i := 29) rfl))) (mvT hZ (hw _ (List.mem_of_getElem? (i := 30) rfl))) (by decide) (backOf (W := 1) (rm3 l Z a0 hw w1 w2 w3 w4 w5 w6 w7 kw1 G [] p1 T4.heap n0 O4 ) hZ (hw _ (List.mem_of_getElem? (i := 30) rfl)) (hw _ (List.mem_of_getElem? (i := 29) rfl)) (by decide) (by decide)) (g := (mkF m 22 #[.val (.int p1), .val (.int p2), .val (.int p1), .val (.ref w4)] [(.int p1), (.ref w4)])) rfl (by rw [hml]; rfl) (argsL := [(.int p1)]) (rest := [(.ref w4)]) (lenOf pd1 rfl) rfl (by show 2 * 0 + _ ≤ _; exact Nat.le_of_eq rfl) (hb hby at_22) (fun _ _ => ⟨rfl, rfl, (by decide : 1 + 0 ≤ _), (by decide : 6 + 0 ≤ _)⟩)
      dsimp only [Pt.U, Pt.locs, Pt.cells, Pt.slots] at X133 l133 y133 z133 st133 hQ133
      subst l133 y133 z133
      have pre134 : ∀ t, Steps p.tables e below (T4.setTop (mkF m 22 #[.val (.int p1), .val (.int p2), .val (.int p1), .val (.ref w4)] [(.int p1), (.ref w4)])) t → Steps p.tables e below (s₁.setTop (entryFrame m #[(.int p1), (.int p2)] maxLocals)) t := fun t k => by
        refine pre5 _ ?_
        show Steps p.tables e below (s₁.setTop (mkF m 16 #[.val (.int p1), .val (.int p2), .val (.int p1), .unset] [(.int p1)])) _
        refine st4 _ ?_
        show Steps p.tables e below (T4.setTop (mkF m 19 #[.val (.int p1), .val (.int p2), .val (.int p1), .unset] [(.ref w4)])) _
        refine XS.astoreN X4.here hx rfl (hb hby at_19) rfl rfl (l' := #[.val (.int p1), .val (.int p2), .val (.int p1), .val (.ref w4)]) rfl ?_
        show Steps p.tables e below (T4.setTop (mkF m 20 #[.val (.int p1), .val (.int p2), .val (.int p1), .val (.ref w4)] [])) _
        refine XS.aloadN X4.here hx rfl (hb hby at_20) rfl rfl ?_
        show Steps p.tables e below (T4.setTop (mkF m 21 #[.val (.int p1), .val (.int p2), .val (.int p1), .val (.ref w4)] [(.ref w4)])) _
        refine XS.iloadN X4.here hx rfl (hb hby at_21) rfl ?_
        exact k
      have X133 : Stand p l e room_1 s m #[(.int p1), (.int p2)] below meth c T133 _ 1 6 := X133
      rcases hQ133 with ⟨hc135, rfl, Nq136, e137⟩ | ⟨hc138, hc139, rfl, Nq140, e141⟩ | ⟨hc142, hc143, hc144, rfl, Nq145, e146⟩ | ⟨hc147, hc148, hc149, hc150, rfl, Nq151, e152⟩ | ⟨hc153, hc154, hc155, hc156, hc157, rfl, Nq158, e159⟩ | ⟨hc160, hc161, hc162, hc163, hc164, hc165, rfl, Nq166, e167⟩ | ⟨hc168, hc169, hc170, hc171, hc172, hc173, rfl, Nq174, e175⟩
      ·
        exact absurd hc135 (Ne.symm hc13)
      ·
        exact absurd hc139 (Ne.symm hc14)
      ·
        have N133 := Fr.app N4 Nq145
        obtain ⟨fs, hr, hrun, hended, hW, hsame⟩ := X133.leave (v := some (.int (1 : Int32))) (fun h => by rw [hret] at h; cases h)
        refine ⟨_, _, pre134 _ ?_, hrun, hended, _, _, rfl, ?_, ⟨_, rfl⟩, hW, hsame.mono (by decide) (by decide)⟩
        ·
          show Steps p.tables e below (T4.setTop (mkF m 22 #[.val (.int p1), .val (.int p2), .val (.int p1), .val (.ref w4)] [(.int p1), (.ref w4)])) _
          refine st133 _ ?_
          show Steps p.tables e below (T133.setTop (mkF m 25 #[.val (.int p1), .val (.int p2), .val (.int p1), .val (.ref w4)] [(.ref w4), (.ref w4)])) _
          refine Jvm.RoadKit.acmp (g := (mkF m 25 #[.val (.int p1), .val (.int p2), .val (.int p1), .val (.ref w4)] [(.ref w4), (.ref w4)])) X133 hx rfl rfl rfl (pc0 := 25) (pc' := 28) (same := true) rfl (hb hby at_25) rfl (decide_eq_true rfl) (by decide) (by decide) ?_
          show Steps p.tables e below (T133.setTop (mkF m 28 #[.val (.int p1), .val (.int p2), .val (.int p1), .val (.ref w4)] [])) _
          refine XS.iconst X133.here hx rfl (hb hby at_28) ?_
          show Steps p.tables e below (T133.setTop (mkF m 29 #[.val (.int p1), .val (.int p2), .val (.int p1), .val (.ref w4)] [(.int (1 : Int32))])) _
          refine XS.goto X133.here hx rfl (pc0 := 29) (pc' := 33) rfl (hb hby at_29) (by decide) (by decide) ?_
          show Steps p.tables e below (T133.setTop (mkF m 33 #[.val (.int p1), .val (.int p2), .val (.int p1), .val (.ref w4)] [(.int (1 : Int32))])) _
          exact retN X133 hx (t := .boolean) hret (by simp) (hb hby at_33) hr
        ·
          show Q0 n0 _ T133.heap _
          rw [e146]
          exact ⟨rfl, N133⟩
      ·
        exact absurd (hc15).symm hc149
      ·
        exact absurd (hc15).symm hc155
      ·
        exact absurd (hc15).symm hc162
      ·
        exact absurd (hc15).symm hc170
    ·
      have N4 := Fr.app N0 Nq22
      have M4 : h0.size ≤ T4.heap.size := Nat.le_trans (Nat.le_refl _) K23.1
      have O4 := Old.keep O0 K23 all0
      obtain ⟨_, _, ⟨T176, L176, c176, n176⟩, -, X176, ⟨Lc176, hQ176, l176, y176, z176⟩, st176⟩ := Jvm.LawKit.callS X4 hx (y := (⟨"com/example/sablegrid/sablegrid/io/OperationOfPinLaw", "expected", "(I)Lcom/example/sablegrid/sablegrid/io/BinaryProtocol$Operation;"⟩ : MethodName)) hown (mvT hZ (hw _ (List.mem_of_getElem? (i := 27) rfl))) (mvT hZ (hw _ (List.mem_of_getElem? (i := 28) rfl))) (mvT hZ (hw _ (List.mem_of_getElem? (i := 29) rfl))) (mvT hZ (hw _ (List.mem_of_getElem? (i := 30) rfl))) (by decide) (backOf (W := 1) (rm3 l Z a0 hw w1 w2 w3 w4 w5 w6 w7 kw1 G [] p1 T4.heap n0 O4 ) hZ (hw _ (List.mem_of_getElem? (i := 30) rfl)) (hw _ (List.mem_of_getElem? (i := 29) rfl)) (by decide) (by decide)) (g := (mkF m 22 #[.val (.int p1), .val (.int p2), .val (.int p1), .val (.ref w5)] [(.int p1), (.ref w5)])) rfl (by rw [hml]; rfl) (argsL := [(.int p1)]) (rest := [(.ref w5)]) (lenOf pd1 rfl) rfl (by show 2 * 0 + _ ≤ _; exact Nat.le_of_eq rfl) (hb hby at_22) (fun _ _ => ⟨rfl, rfl, (by decide : 1 + 0 ≤ _), (by decide : 6 + 0 ≤ _)⟩)
      dsimp only [Pt.U, Pt.locs, Pt.cells, Pt.slots] at X176 l176 y176 z176 st176 hQ176
      subst l176 y176 z176
      have pre177 : ∀ t, Steps p.tables e below (T4.setTop (mkF m 22 #[.val (.int p1), .val (.int p2), .val (.int p1), .val (.ref w5)] [(.int p1), (.ref w5)])) t → Steps p.tables e below (s₁.setTop (entryFrame m #[(.int p1), (.int p2)] maxLocals)) t := fun t k => by
        refine pre5 _ ?_
        show Steps p.tables e below (s₁.setTop (mkF m 16 #[.val (.int p1), .val (.int p2), .val (.int p1), .unset] [(.int p1)])) _
        refine st4 _ ?_
        show Steps p.tables e below (T4.setTop (mkF m 19 #[.val (.int p1), .val (.int p2), .val (.int p1), .unset] [(.ref w5)])) _
        refine XS.astoreN X4.here hx rfl (hb hby at_19) rfl rfl (l' := #[.val (.int p1), .val (.int p2), .val (.int p1), .val (.ref w5)]) rfl ?_
        show Steps p.tables e below (T4.setTop (mkF m 20 #[.val (.int p1), .val (.int p2), .val (.int p1), .val (.ref w5)] [])) _
        refine XS.aloadN X4.here hx rfl (hb hby at_20) rfl rfl ?_
        show Steps p.tables e below (T4.setTop (mkF m 21 #[.val (.int p1), .val (.int p2), .val (.int p1), .val (.ref w5)] [(.ref w5)])) _
        refine XS.iloadN X4.here hx rfl (hb hby at_21) rfl ?_
        exact k
      have X176 : Stand p l e room_1 s m #[(.int p1), (.int p2)] below meth c T176 _ 1 6 := X176
      rcases hQ176 with ⟨hc178, rfl, Nq179, e180⟩ | ⟨hc181, hc182, rfl, Nq183, e184⟩ | ⟨hc185, hc186, hc187, rfl, Nq188, e189⟩ | ⟨hc190, hc191, hc192, hc193, rfl, Nq194, e195⟩ | ⟨hc196, hc197, hc198, hc199, hc200, rfl, Nq201, e202⟩ | ⟨hc203, hc204, hc205, hc206, hc207, hc208, rfl, Nq209, e210⟩ | ⟨hc211, hc212, hc213, hc214, hc215, hc216, rfl, Nq217, e218⟩
      ·
        exact absurd hc178 (Ne.symm hc18)
      ·
        exact absurd hc182 (Ne.symm hc19)
      ·
        exact absurd hc187 (Ne.symm hc20)
      ·
        have N176 := Fr.app N4 Nq194
        obtain ⟨fs, hr, hrun, hended, hW, hsame⟩ := X176.leave (v := some (.int (1 : Int32))) (fun h => by rw [hret] at h; cases h)
        refine ⟨_, _, pre177 _ ?_, hrun, hended, _, _, rfl, ?_, ⟨_, rfl⟩, hW, hsame.mono (by decide) (by decide)⟩
        ·
          show Steps p.tables e below (T4.setTop (mkF m 22 #[.val (.int p1), .val (.int p2), .val (.int p1), .val (.ref w5)] [(.int p1), (.ref w5)])) _
          refine st176 _ ?_
          show Steps p.tables e below (T176.setTop (mkF m 25 #[.val (.int p1), .val (.int p2), .val (.int p1), .val (.ref w5)] [(.ref w5), (.ref w5)])) _
          refine Jvm.RoadKit.acmp (g := (mkF m 25 #[.val (.int p1), .val (.int p2), .val (.int p1), .val (.ref w5)] [(.ref w5), (.ref w5)])) X176 hx rfl rfl rfl (pc0 := 25) (pc' := 28) (same := true) rfl (hb hby at_25) rfl (decide_eq_true rfl) (by decide) (by decide) ?_
          show Steps p.tables e below (T176.setTop (mkF m 28 #[.val (.int p1), .val (.int p2), .val (.int p1), .val (.ref w5)] [])) _
          refine XS.iconst X176.here hx rfl (hb hby at_28) ?_
          show Steps p.tables e below (T176.setTop (mkF m 29 #[.val (.int p1), .val (.int p2), .val (.int p1), .val (.ref w5)] [(.int (1 : Int32))])) _
          refine XS.goto X176.here hx rfl (pc0 := 29) (pc' := 33) rfl (hb hby at_29) (by decide) (by decide) ?_
          show Steps p.tables e below (T176.setTop (mkF m 33 #[.val (.int p1), .val (.int p2), .val (.int p1), .val (.ref w5)] [(.int (1 : Int32))])) _
          exact retN X176 hx (t := .boolean) hret (by simp) (hb hby at_33) hr
        ·
          show Q0 n0 _ T176.heap _
          rw [e195]
          exact ⟨rfl, N176⟩
      ·
        exact absurd (hc21).symm hc199
      ·
        exact absurd (hc21).symm hc206
      ·
        exact absurd (hc21).symm hc214
    ·
      have N4 := Fr.app N0 Nq29
      have M4 : h0.size ≤ T4.heap.size := Nat.le_trans (Nat.le_refl _) K30.1
      have O4 := Old.keep O0 K30 all0
      obtain ⟨_, _, ⟨T219, L219, c219, n219⟩, -, X219, ⟨Lc219, hQ219, l219, y219, z219⟩, st219⟩ := Jvm.LawKit.callS X4 hx (y := (⟨"com/example/sablegrid/sablegrid/io/OperationOfPinLaw", "expected", "(I)Lcom/example/sablegrid/sablegrid/io/BinaryProtocol$Operation;"⟩ : MethodName)) hown (mvT hZ (hw _ (List.mem_of_getElem? (i := 27) rfl))) (mvT hZ (hw _ (List.mem_of_getElem? (i := 28) rfl))) (mvT hZ (hw _ (List.mem_of_getElem? (i := 29) rfl))) (mvT hZ (hw _ (List.mem_of_getElem? (i := 30) rfl))) (by decide) (backOf (W := 1) (rm3 l Z a0 hw w1 w2 w3 w4 w5 w6 w7 kw1 G [] p1 T4.heap n0 O4 ) hZ (hw _ (List.mem_of_getElem? (i := 30) rfl)) (hw _ (List.mem_of_getElem? (i := 29) rfl)) (by decide) (by decide)) (g := (mkF m 22 #[.val (.int p1), .val (.int p2), .val (.int p1), .val (.ref w6)] [(.int p1), (.ref w6)])) rfl (by rw [hml]; rfl) (argsL := [(.int p1)]) (rest := [(.ref w6)]) (lenOf pd1 rfl) rfl (by show 2 * 0 + _ ≤ _; exact Nat.le_of_eq rfl) (hb hby at_22) (fun _ _ => ⟨rfl, rfl, (by decide : 1 + 0 ≤ _), (by decide : 6 + 0 ≤ _)⟩)
      dsimp only [Pt.U, Pt.locs, Pt.cells, Pt.slots] at X219 l219 y219 z219 st219 hQ219
      subst l219 y219 z219
      have pre220 : ∀ t, Steps p.tables e below (T4.setTop (mkF m 22 #[.val (.int p1), .val (.int p2), .val (.int p1), .val (.ref w6)] [(.int p1), (.ref w6)])) t → Steps p.tables e below (s₁.setTop (entryFrame m #[(.int p1), (.int p2)] maxLocals)) t := fun t k => by
        refine pre5 _ ?_
        show Steps p.tables e below (s₁.setTop (mkF m 16 #[.val (.int p1), .val (.int p2), .val (.int p1), .unset] [(.int p1)])) _
        refine st4 _ ?_
        show Steps p.tables e below (T4.setTop (mkF m 19 #[.val (.int p1), .val (.int p2), .val (.int p1), .unset] [(.ref w6)])) _
        refine XS.astoreN X4.here hx rfl (hb hby at_19) rfl rfl (l' := #[.val (.int p1), .val (.int p2), .val (.int p1), .val (.ref w6)]) rfl ?_
        show Steps p.tables e below (T4.setTop (mkF m 20 #[.val (.int p1), .val (.int p2), .val (.int p1), .val (.ref w6)] [])) _
        refine XS.aloadN X4.here hx rfl (hb hby at_20) rfl rfl ?_
        show Steps p.tables e below (T4.setTop (mkF m 21 #[.val (.int p1), .val (.int p2), .val (.int p1), .val (.ref w6)] [(.ref w6)])) _
        refine XS.iloadN X4.here hx rfl (hb hby at_21) rfl ?_
        exact k
      have X219 : Stand p l e room_1 s m #[(.int p1), (.int p2)] below meth c T219 _ 1 6 := X219
      rcases hQ219 with ⟨hc221, rfl, Nq222, e223⟩ | ⟨hc224, hc225, rfl, Nq226, e227⟩ | ⟨hc228, hc229, hc230, rfl, Nq231, e232⟩ | ⟨hc233, hc234, hc235, hc236, rfl, Nq237, e238⟩ | ⟨hc239, hc240, hc241, hc242, hc243, rfl, Nq244, e245⟩ | ⟨hc246, hc247, hc248, hc249, hc250, hc251, rfl, Nq252, e253⟩ | ⟨hc254, hc255, hc256, hc257, hc258, hc259, rfl, Nq260, e261⟩
      ·
        exact absurd hc221 (Ne.symm hc24)
      ·
        exact absurd hc225 (Ne.symm hc25)
      ·
        exact absurd hc230 (Ne.symm hc26)
      ·
        exact absurd hc236 (Ne.symm hc27)
      ·
        have N219 := Fr.app N4 Nq244
        obtain ⟨fs, hr, hrun, hended, hW, hsame⟩ := X219.leave (v := some (.int (1 : Int32))) (fun h => by rw [hret] at h; cases h)
        refine ⟨_, _, pre220 _ ?_, hrun, hended, _, _, rfl, ?_, ⟨_, rfl⟩, hW, hsame.mono (by decide) (by decide)⟩
        ·
          show Steps p.tables e below (T4.setTop (mkF m 22 #[.val (.int p1), .val (.int p2), .val (.int p1), .val (.ref w6)] [(.int p1), (.ref w6)])) _
          refine st219 _ ?_
          show Steps p.tables e below (T219.setTop (mkF m 25 #[.val (.int p1), .val (.int p2), .val (.int p1), .val (.ref w6)] [(.ref w6), (.ref w6)])) _
          refine Jvm.RoadKit.acmp (g := (mkF m 25 #[.val (.int p1), .val (.int p2), .val (.int p1), .val (.ref w6)] [(.ref w6), (.ref w6)])) X219 hx rfl rfl rfl (pc0 := 25) (pc' := 28) (same := true) rfl (hb hby at_25) rfl (decide_eq_true rfl) (by decide) (by decide) ?_
          show Steps p.tables e below (T219.setTop (mkF m 28 #[.val (.int p1), .val (.int p2), .val (.int p1), .val (.ref w6)] [])) _
          refine XS.iconst X219.here hx rfl (hb hby at_28) ?_
          show Steps p.tables e below (T219.setTop (mkF m 29 #[.val (.int p1), .val (.int p2), .val (.int p1), .val (.ref w6)] [(.int (1 : Int32))])) _
          refine XS.goto X219.here hx rfl (pc0 := 29) (pc' := 33) rfl (hb hby at_29) (by decide) (by decide) ?_
          show Steps p.tables e below (T219.setTop (mkF m 33 #[.val (.int p1), .val (.int p2), .val (.int p1), .val (.ref w6)] [(.int (1 : Int32))])) _
          exact retN X219 hx (t := .boolean) hret (by simp) (hb hby at_33) hr
        ·
          show Q0 n0 _ T219.heap _
          rw [e245]
          exact ⟨rfl, N219⟩
      ·
        exact absurd (hc28).symm hc250
      ·
        exact absurd (hc28).symm hc258
    ·
      have N4 := Fr.app N0 Nq37
      have M4 : h0.size ≤ T4.heap.size := Nat.le_trans (Nat.le_refl _) K38.1
      have O4 := Old.keep O0 K38 all0
      obtain ⟨_, _, ⟨T262, L262, c262, n262⟩, -, X262, ⟨Lc262, hQ262, l262, y262, z262⟩, st262⟩ := Jvm.LawKit.callS X4 hx (y := (⟨"com/example/sablegrid/sablegrid/io/OperationOfPinLaw", "expected", "(I)Lcom/example/sablegrid/sablegrid/io/BinaryProtocol$Operation;"⟩ : MethodName)) hown (mvT hZ (hw _ (List.mem_of_getElem? (i := 27) rfl))) (mvT hZ (hw _ (List.mem_of_getElem? (i := 28) rfl))) (mvT hZ (hw _ (List.mem_of_getElem? (i := 29) rfl))) (mvT hZ (hw _ (List.mem_of_getElem? (i := 30) rfl))) (by decide) (backOf (W := 1) (rm3 l Z a0 hw w1 w2 w3 w4 w5 w6 w7 kw1 G [] p1 T4.heap n0 O4 ) hZ (hw _ (List.mem_of_getElem? (i := 30) rfl)) (hw _ (List.mem_of_getElem? (i := 29) rfl)) (by decide) (by decide)) (g := (mkF m 22 #[.val (.int p1), .val (.int p2), .val (.int p1), .val (.ref w7)] [(.int p1), (.ref w7)])) rfl (by rw [hml]; rfl) (argsL := [(.int p1)]) (rest := [(.ref w7)]) (lenOf pd1 rfl) rfl (by show 2 * 0 + _ ≤ _; exact Nat.le_of_eq rfl) (hb hby at_22) (fun _ _ => ⟨rfl, rfl, (by decide : 1 + 0 ≤ _), (by decide : 6 + 0 ≤ _)⟩)
      dsimp only [Pt.U, Pt.locs, Pt.cells, Pt.slots] at X262 l262 y262 z262 st262 hQ262
      subst l262 y262 z262
      have pre263 : ∀ t, Steps p.tables e below (T4.setTop (mkF m 22 #[.val (.int p1), .val (.int p2), .val (.int p1), .val (.ref w7)] [(.int p1), (.ref w7)])) t → Steps p.tables e below (s₁.setTop (entryFrame m #[(.int p1), (.int p2)] maxLocals)) t := fun t k => by
        refine pre5 _ ?_
        show Steps p.tables e below (s₁.setTop (mkF m 16 #[.val (.int p1), .val (.int p2), .val (.int p1), .unset] [(.int p1)])) _
        refine st4 _ ?_
        show Steps p.tables e below (T4.setTop (mkF m 19 #[.val (.int p1), .val (.int p2), .val (.int p1), .unset] [(.ref w7)])) _
        refine XS.astoreN X4.here hx rfl (hb hby at_19) rfl rfl (l' := #[.val (.int p1), .val (.int p2), .val (.int p1), .val (.ref w7)]) rfl ?_
        show Steps p.tables e below (T4.setTop (mkF m 20 #[.val (.int p1), .val (.int p2), .val (.int p1), .val (.ref w7)] [])) _
        refine XS.aloadN X4.here hx rfl (hb hby at_20) rfl rfl ?_
        show Steps p.tables e below (T4.setTop (mkF m 21 #[.val (.int p1), .val (.int p2), .val (.int p1), .val (.ref w7)] [(.ref w7)])) _
        refine XS.iloadN X4.here hx rfl (hb hby at_21) rfl ?_
        exact k
      have X262 : Stand p l e room_1 s m #[(.int p1), (.int p2)] below meth c T262 _ 1 6 := X262
      rcases hQ262 with ⟨hc264, rfl, Nq265, e266⟩ | ⟨hc267, hc268, rfl, Nq269, e270⟩ | ⟨hc271, hc272, hc273, rfl, Nq274, e275⟩ | ⟨hc276, hc277, hc278, hc279, rfl, Nq280, e281⟩ | ⟨hc282, hc283, hc284, hc285, hc286, rfl, Nq287, e288⟩ | ⟨hc289, hc290, hc291, hc292, hc293, hc294, rfl, Nq295, e296⟩ | ⟨hc297, hc298, hc299, hc300, hc301, hc302, rfl, Nq303, e304⟩
      ·
        exact absurd hc264 (Ne.symm hc31)
      ·
        exact absurd hc268 (Ne.symm hc32)
      ·
        exact absurd hc273 (Ne.symm hc33)
      ·
        exact absurd hc279 (Ne.symm hc34)
      ·
        exact absurd hc286 (Ne.symm hc35)
      ·
        have N262 := Fr.app N4 Nq295
        obtain ⟨fs, hr, hrun, hended, hW, hsame⟩ := X262.leave (v := some (.int (1 : Int32))) (fun h => by rw [hret] at h; cases h)
        refine ⟨_, _, pre263 _ ?_, hrun, hended, _, _, rfl, ?_, ⟨_, rfl⟩, hW, hsame.mono (by decide) (by decide)⟩
        ·
          show Steps p.tables e below (T4.setTop (mkF m 22 #[.val (.int p1), .val (.int p2), .val (.int p1), .val (.ref w7)] [(.int p1), (.ref w7)])) _
          refine st262 _ ?_
          show Steps p.tables e below (T262.setTop (mkF m 25 #[.val (.int p1), .val (.int p2), .val (.int p1), .val (.ref w7)] [(.ref w7), (.ref w7)])) _
          refine Jvm.RoadKit.acmp (g := (mkF m 25 #[.val (.int p1), .val (.int p2), .val (.int p1), .val (.ref w7)] [(.ref w7), (.ref w7)])) X262 hx rfl rfl rfl (pc0 := 25) (pc' := 28) (same := true) rfl (hb hby at_25) rfl (decide_eq_true rfl) (by decide) (by decide) ?_
          show Steps p.tables e below (T262.setTop (mkF m 28 #[.val (.int p1), .val (.int p2), .val (.int p1), .val (.ref w7)] [])) _
          refine XS.iconst X262.here hx rfl (hb hby at_28) ?_
          show Steps p.tables e below (T262.setTop (mkF m 29 #[.val (.int p1), .val (.int p2), .val (.int p1), .val (.ref w7)] [(.int (1 : Int32))])) _
          refine XS.goto X262.here hx rfl (pc0 := 29) (pc' := 33) rfl (hb hby at_29) (by decide) (by decide) ?_
          show Steps p.tables e below (T262.setTop (mkF m 33 #[.val (.int p1), .val (.int p2), .val (.int p1), .val (.ref w7)] [(.int (1 : Int32))])) _
          exact retN X262 hx (t := .boolean) hret (by simp) (hb hby at_33) hr
        ·
          show Q0 n0 _ T262.heap _
          rw [e296]
          exact ⟨rfl, N262⟩
      ·
        exact absurd (hc36).symm hc302
    ·
      have N4 := Fr.app N0 Nq45
      have M4 : h0.size ≤ T4.heap.size := Nat.le_trans (Nat.le_refl _) K46.1
      have O4 := Old.keep O0 K46 all0
      obtain ⟨_, _, ⟨T305, L305, c305, n305⟩, -, X305, ⟨Lc305, hQ305, l305, y305, z305⟩, st305⟩ := Jvm.LawKit.callS X4 hx (y := (⟨"com/example/sablegrid/sablegrid/io/OperationOfPinLaw", "expected", "(I)Lcom/example/sablegrid/sablegrid/io/BinaryProtocol$Operation;"⟩ : MethodName)) hown (mvT hZ (hw _ (List.mem_of_getElem? (i := 27) rfl))) (mvT hZ (hw _ (List.mem_of_getElem? (i := 28) rfl))) (mvT hZ (hw _ (List.mem_of_getElem? (i := 29) rfl))) (mvT hZ (hw _ (List.mem_of_getElem? (i := 30) rfl))) (by decide) (backOf (W := 1) (rm3 l Z a0 hw w1 w2 w3 w4 w5 w6 w7 kw1 G [] p1 T4.heap n0 O4 ) hZ (hw _ (List.mem_of_getElem? (i := 30) rfl)) (hw _ (List.mem_of_getElem? (i := 29) rfl)) (by decide) (by decide)) (g := (mkF m 22 #[.val (.int p1), .val (.int p2), .val (.int p1), .val .null] [(.int p1), .null])) rfl (by rw [hml]; rfl) (argsL := [(.int p1)]) (rest := [.null]) (lenOf pd1 rfl) rfl (by show 2 * 0 + _ ≤ _; exact Nat.le_of_eq rfl) (hb hby at_22) (fun _ _ => ⟨rfl, rfl, (by decide : 1 + 0 ≤ _), (by decide : 6 + 0 ≤ _)⟩)
      dsimp only [Pt.U, Pt.locs, Pt.cells, Pt.slots] at X305 l305 y305 z305 st305 hQ305
      subst l305 y305 z305
      have pre306 : ∀ t, Steps p.tables e below (T4.setTop (mkF m 22 #[.val (.int p1), .val (.int p2), .val (.int p1), .val .null] [(.int p1), .null])) t → Steps p.tables e below (s₁.setTop (entryFrame m #[(.int p1), (.int p2)] maxLocals)) t := fun t k => by
        refine pre5 _ ?_
        show Steps p.tables e below (s₁.setTop (mkF m 16 #[.val (.int p1), .val (.int p2), .val (.int p1), .unset] [(.int p1)])) _
        refine st4 _ ?_
        show Steps p.tables e below (T4.setTop (mkF m 19 #[.val (.int p1), .val (.int p2), .val (.int p1), .unset] [.null])) _
        refine XS.astoreN X4.here hx rfl (hb hby at_19) rfl rfl (l' := #[.val (.int p1), .val (.int p2), .val (.int p1), .val .null]) rfl ?_
        show Steps p.tables e below (T4.setTop (mkF m 20 #[.val (.int p1), .val (.int p2), .val (.int p1), .val .null] [])) _
        refine XS.aloadN X4.here hx rfl (hb hby at_20) rfl rfl ?_
        show Steps p.tables e below (T4.setTop (mkF m 21 #[.val (.int p1), .val (.int p2), .val (.int p1), .val .null] [.null])) _
        refine XS.iloadN X4.here hx rfl (hb hby at_21) rfl ?_
        exact k
      have X305 : Stand p l e room_1 s m #[(.int p1), (.int p2)] below meth c T305 _ 1 6 := X305
      rcases hQ305 with ⟨hc307, rfl, Nq308, e309⟩ | ⟨hc310, hc311, rfl, Nq312, e313⟩ | ⟨hc314, hc315, hc316, rfl, Nq317, e318⟩ | ⟨hc319, hc320, hc321, hc322, rfl, Nq323, e324⟩ | ⟨hc325, hc326, hc327, hc328, hc329, rfl, Nq330, e331⟩ | ⟨hc332, hc333, hc334, hc335, hc336, hc337, rfl, Nq338, e339⟩ | ⟨hc340, hc341, hc342, hc343, hc344, hc345, rfl, Nq346, e347⟩
      ·
        exact absurd hc307 (Ne.symm hc39)
      ·
        exact absurd hc311 (Ne.symm hc40)
      ·
        exact absurd hc316 (Ne.symm hc41)
      ·
        exact absurd hc322 (Ne.symm hc42)
      ·
        exact absurd hc329 (Ne.symm hc43)
      ·
        exact absurd hc337 (Ne.symm hc44)
      ·
        have N305 := Fr.app N4 Nq346
        obtain ⟨fs, hr, hrun, hended, hW, hsame⟩ := X305.leave (v := some (.int (1 : Int32))) (fun h => by rw [hret] at h; cases h)
        refine ⟨_, _, pre306 _ ?_, hrun, hended, _, _, rfl, ?_, ⟨_, rfl⟩, hW, hsame.mono (by decide) (by decide)⟩
        ·
          show Steps p.tables e below (T4.setTop (mkF m 22 #[.val (.int p1), .val (.int p2), .val (.int p1), .val .null] [(.int p1), .null])) _
          refine st305 _ ?_
          show Steps p.tables e below (T305.setTop (mkF m 25 #[.val (.int p1), .val (.int p2), .val (.int p1), .val .null] [.null, .null])) _
          refine Jvm.RoadKit.acmp (g := (mkF m 25 #[.val (.int p1), .val (.int p2), .val (.int p1), .val .null] [.null, .null])) X305 hx rfl rfl rfl (pc0 := 25) (pc' := 28) (same := true) rfl (hb hby at_25) rfl (decide_eq_true rfl) (by decide) (by decide) ?_
          show Steps p.tables e below (T305.setTop (mkF m 28 #[.val (.int p1), .val (.int p2), .val (.int p1), .val .null] [])) _
          refine XS.iconst X305.here hx rfl (hb hby at_28) ?_
          show Steps p.tables e below (T305.setTop (mkF m 29 #[.val (.int p1), .val (.int p2), .val (.int p1), .val .null] [(.int (1 : Int32))])) _
          refine XS.goto X305.here hx rfl (pc0 := 29) (pc' := 33) rfl (hb hby at_29) (by decide) (by decide) ?_
          show Steps p.tables e below (T305.setTop (mkF m 33 #[.val (.int p1), .val (.int p2), .val (.int p1), .val .null] [(.int (1 : Int32))])) _
          exact retN X305 hx (t := .boolean) hret (by simp) (hb hby at_33) hr
        ·
          show Q0 n0 _ T305.heap _
          rw [e347]
          exact ⟨rfl, N305⟩
  ·
    have hq348 : (p2 &&& (1 : Int32)) = (1 : Int32) := (own_geq (n := 1) (k := (1 : Int32)) (by decide) (by have q0 := own_and (x := p2) (k := (1 : Int32)) (n := 1) (by decide) (by decide); have q1 := own_neq (n := 0) (k := (0 : Int32)) (by decide) hc2; omega))
    have pre349 : ∀ t, Steps p.tables e below (s₁.setTop (mkF m 3 #[.val (.int p1), .val (.int p2), .unset, .unset] [(.int (1 : Int32))])) t → Steps p.tables e below (s₁.setTop (entryFrame m #[(.int p1), (.int p2)] maxLocals)) t := fun t k => pre1 t (by rw [hq348]; exact k)
    obtain ⟨_, _, ⟨T350, L350, c350, n350⟩, -, X350, ⟨Lc350, hQ350, l350, y350, z350⟩, st350⟩ := Jvm.LawKit.callS X0 hx (y := (⟨"com/example/sablegrid/sablegrid/io/BinaryProtocol$Operation", "of", "(I)Lcom/example/sablegrid/sablegrid/io/BinaryProtocol$Operation;"⟩ : MethodName)) hown (mvT hZ (hw _ (List.mem_of_getElem? (i := 0) rfl))) (mvT hZ (hw _ (List.mem_of_getElem? (i := 1) rfl))) (mvT hZ (hw _ (List.mem_of_getElem? (i := 2) rfl))) (mvT hZ (hw _ (List.mem_of_getElem? (i := 3) rfl))) (by decide) (backOf (W := 0) (rm2 l Z a0 hw w1 w2 w3 w4 w5 w6 w7 kw1 G [] ((p1 &&& (63 : Int32))) h0 n0 O0 ) hZ (hw _ (List.mem_of_getElem? (i := 3) rfl)) (hw _ (List.mem_of_getElem? (i := 2) rfl)) (by decide) (by decide)) (g := (mkF m 16 #[.val (.int p1), .val (.int p2), .val (.int (p1 &&& (63 : Int32))), .unset] [(.int (p1 &&& (63 : Int32)))])) rfl (by rw [hml]; rfl) (argsL := [(.int (p1 &&& (63 : Int32)))]) (rest := []) (lenOf pd1 rfl) rfl (by show 2 * 0 + _ ≤ _; exact Nat.le_of_eq rfl) (hb hby at_16) (fun _ _ => ⟨rfl, e0, (by decide : 0 + 1 ≤ _), (by decide : 0 + 6 ≤ _)⟩)
    dsimp only [Pt.U, Pt.locs, Pt.cells, Pt.slots] at X350 l350 y350 z350 st350 hQ350
    subst l350 y350 z350
    have pre351 : ∀ t, Steps p.tables e below (s₁.setTop (mkF m 16 #[.val (.int p1), .val (.int p2), .val (.int (p1 &&& (63 : Int32))), .unset] [(.int (p1 &&& (63 : Int32)))])) t → Steps p.tables e below (s₁.setTop (entryFrame m #[(.int p1), (.int p2)] maxLocals)) t := fun t k => by
      refine pre349 _ ?_
      show Steps p.tables e below (s₁.setTop (mkF m 3 #[.val (.int p1), .val (.int p2), .unset, .unset] [(.int (1 : Int32))])) _
      refine XS.ifNo X0.here hx rfl (hb hby at_3) rfl ((if0 _ _).trans (feq (by decide : ¬ ((1 : Int32) = (0 : Int32)))).1) ?_
      show Steps p.tables e below (s₁.setTop (mkF m 6 #[.val (.int p1), .val (.int p2), .unset, .unset] [])) _
      refine XS.iloadN X0.here hx rfl (hb hby at_6) rfl ?_
      show Steps p.tables e below (s₁.setTop (mkF m 7 #[.val (.int p1), .val (.int p2), .unset, .unset] [(.int p1)])) _
      refine XS.bipush X0.here hx rfl (hb hby at_7) ?_
      show Steps p.tables e below (s₁.setTop (mkF m 9 #[.val (.int p1), .val (.int p2), .unset, .unset] [(.int (63 : Int32)), (.int p1)])) _
      refine XS.iand X0.here hx rfl (hb hby at_9) rfl ?_
      show Steps p.tables e below (s₁.setTop (mkF m 10 #[.val (.int p1), .val (.int p2), .unset, .unset] [(.int (p1 &&& (63 : Int32)))])) _
      refine XS.goto X0.here hx rfl (pc0 := 10) (pc' := 14) rfl (hb hby at_10) (by decide) (by decide) ?_
      show Steps p.tables e below (s₁.setTop (mkF m 14 #[.val (.int p1), .val (.int p2), .unset, .unset] [(.int (p1 &&& (63 : Int32)))])) _
      refine XS.istoreN X0.here hx rfl (hb hby at_14) rfl (l' := #[.val (.int p1), .val (.int p2), .val (.int (p1 &&& (63 : Int32))), .unset]) rfl ?_
      show Steps p.tables e below (s₁.setTop (mkF m 15 #[.val (.int p1), .val (.int p2), .val (.int (p1 &&& (63 : Int32))), .unset] [])) _
      refine XS.iloadN X0.here hx rfl (hb hby at_15) rfl ?_
      exact k
    have X350 : Stand p l e room_1 s m #[(.int p1), (.int p2)] below meth c T350 _ 1 6 := X350
    rcases hQ350 with ⟨hc352, rfl, Nq353, K354⟩ | ⟨hc355, hc356, rfl, Nq357, K358⟩ | ⟨hc359, hc360, hc361, rfl, Nq362, K363⟩ | ⟨hc364, hc365, hc366, hc367, rfl, Nq368, K369⟩ | ⟨hc370, hc371, hc372, hc373, hc374, rfl, Nq375, K376⟩ | ⟨hc377, hc378, hc379, hc380, hc381, hc382, rfl, Nq383, K384⟩ | ⟨hc385, hc386, hc387, hc388, hc389, hc390, rfl, Nq391, K392⟩
    ·
      have N350 := Fr.app N0 Nq353
      have M350 : h0.size ≤ T350.heap.size := Nat.le_trans (Nat.le_refl _) K354.1
      have O350 := Old.keep O0 K354 all0
      obtain ⟨_, _, ⟨T393, L393, c393, n393⟩, -, X393, ⟨Lc393, hQ393, l393, y393, z393⟩, st393⟩ := Jvm.LawKit.callS X350 hx (y := (⟨"com/example/sablegrid/sablegrid/io/OperationOfPinLaw", "expected", "(I)Lcom/example/sablegrid/sablegrid/io/BinaryProtocol$Operation;"⟩ : MethodName)) hown (mvT hZ (hw _ (List.mem_of_getElem? (i := 27) rfl))) (mvT hZ (hw _ (List.mem_of_getElem? (i := 28) rfl))) (mvT hZ (hw _ (List.mem_of_getElem? (i := 29) rfl))) (mvT hZ (hw _ (List.mem_of_getElem? (i := 30) rfl))) (by decide) (backOf (W := 1) (rm3 l Z a0 hw w1 w2 w3 w4 w5 w6 w7 kw1 G [] ((p1 &&& (63 : Int32))) T350.heap n0 O350 ) hZ (hw _ (List.mem_of_getElem? (i := 30) rfl)) (hw _ (List.mem_of_getElem? (i := 29) rfl)) (by decide) (by decide)) (g := (mkF m 22 #[.val (.int p1), .val (.int p2), .val (.int (p1 &&& (63 : Int32))), .val (.ref w2)] [(.int (p1 &&& (63 : Int32))), (.ref w2)])) rfl (by rw [hml]; rfl) (argsL := [(.int (p1 &&& (63 : Int32)))]) (rest := [(.ref w2)]) (lenOf pd1 rfl) rfl (by show 2 * 0 + _ ≤ _; exact Nat.le_of_eq rfl) (hb hby at_22) (fun _ _ => ⟨rfl, rfl, (by decide : 1 + 0 ≤ _), (by decide : 6 + 0 ≤ _)⟩)
      dsimp only [Pt.U, Pt.locs, Pt.cells, Pt.slots] at X393 l393 y393 z393 st393 hQ393
      subst l393 y393 z393
      have pre394 : ∀ t, Steps p.tables e below (T350.setTop (mkF m 22 #[.val (.int p1), .val (.int p2), .val (.int (p1 &&& (63 : Int32))), .val (.ref w2)] [(.int (p1 &&& (63 : Int32))), (.ref w2)])) t → Steps p.tables e below (s₁.setTop (entryFrame m #[(.int p1), (.int p2)] maxLocals)) t := fun t k => by
        refine pre351 _ ?_
        show Steps p.tables e below (s₁.setTop (mkF m 16 #[.val (.int p1), .val (.int p2), .val (.int (p1 &&& (63 : Int32))), .unset] [(.int (p1 &&& (63 : Int32)))])) _
        refine st350 _ ?_
        show Steps p.tables e below (T350.setTop (mkF m 19 #[.val (.int p1), .val (.int p2), .val (.int (p1 &&& (63 : Int32))), .unset] [(.ref w2)])) _
        refine XS.astoreN X350.here hx rfl (hb hby at_19) rfl rfl (l' := #[.val (.int p1), .val (.int p2), .val (.int (p1 &&& (63 : Int32))), .val (.ref w2)]) rfl ?_
        show Steps p.tables e below (T350.setTop (mkF m 20 #[.val (.int p1), .val (.int p2), .val (.int (p1 &&& (63 : Int32))), .val (.ref w2)] [])) _
        refine XS.aloadN X350.here hx rfl (hb hby at_20) rfl rfl ?_
        show Steps p.tables e below (T350.setTop (mkF m 21 #[.val (.int p1), .val (.int p2), .val (.int (p1 &&& (63 : Int32))), .val (.ref w2)] [(.ref w2)])) _
        refine XS.iloadN X350.here hx rfl (hb hby at_21) rfl ?_
        exact k
      have X393 : Stand p l e room_1 s m #[(.int p1), (.int p2)] below meth c T393 _ 1 6 := X393
      rcases hQ393 with ⟨hc395, rfl, Nq396, e397⟩ | ⟨hc398, hc399, rfl, Nq400, e401⟩ | ⟨hc402, hc403, hc404, rfl, Nq405, e406⟩ | ⟨hc407, hc408, hc409, hc410, rfl, Nq411, e412⟩ | ⟨hc413, hc414, hc415, hc416, hc417, rfl, Nq418, e419⟩ | ⟨hc420, hc421, hc422, hc423, hc424, hc425, rfl, Nq426, e427⟩ | ⟨hc428, hc429, hc430, hc431, hc432, hc433, rfl, Nq434, e435⟩
      ·
        have N393 := Fr.app N350 Nq396
        obtain ⟨fs, hr, hrun, hended, hW, hsame⟩ := X393.leave (v := some (.int (1 : Int32))) (fun h => by rw [hret] at h; cases h)
        refine ⟨_, _, pre394 _ ?_, hrun, hended, _, _, rfl, ?_, ⟨_, rfl⟩, hW, hsame.mono (by decide) (by decide)⟩
        ·
          show Steps p.tables e below (T350.setTop (mkF m 22 #[.val (.int p1), .val (.int p2), .val (.int (p1 &&& (63 : Int32))), .val (.ref w2)] [(.int (p1 &&& (63 : Int32))), (.ref w2)])) _
          refine st393 _ ?_
          show Steps p.tables e below (T393.setTop (mkF m 25 #[.val (.int p1), .val (.int p2), .val (.int (p1 &&& (63 : Int32))), .val (.ref w2)] [(.ref w2), (.ref w2)])) _
          refine Jvm.RoadKit.acmp (g := (mkF m 25 #[.val (.int p1), .val (.int p2), .val (.int (p1 &&& (63 : Int32))), .val (.ref w2)] [(.ref w2), (.ref w2)])) X393 hx rfl rfl rfl (pc0 := 25) (pc' := 28) (same := true) rfl (hb hby at_25) rfl (decide_eq_true rfl) (by decide) (by decide) ?_
          show Steps p.tables e below (T393.setTop (mkF m 28 #[.val (.int p1), .val (.int p2), .val (.int (p1 &&& (63 : Int32))), .val (.ref w2)] [])) _
          refine XS.iconst X393.here hx rfl (hb hby at_28) ?_
          show Steps p.tables e below (T393.setTop (mkF m 29 #[.val (.int p1), .val (.int p2), .val (.int (p1 &&& (63 : Int32))), .val (.ref w2)] [(.int (1 : Int32))])) _
          refine XS.goto X393.here hx rfl (pc0 := 29) (pc' := 33) rfl (hb hby at_29) (by decide) (by decide) ?_
          show Steps p.tables e below (T393.setTop (mkF m 33 #[.val (.int p1), .val (.int p2), .val (.int (p1 &&& (63 : Int32))), .val (.ref w2)] [(.int (1 : Int32))])) _
          exact retN X393 hx (t := .boolean) hret (by simp) (hb hby at_33) hr
        ·
          show Q0 n0 _ T393.heap _
          rw [e397]
          exact ⟨rfl, N393⟩
      ·
        exact absurd (hc352).symm hc398
      ·
        exact absurd (hc352).symm hc402
      ·
        exact absurd (hc352).symm hc407
      ·
        exact absurd (hc352).symm hc413
      ·
        exact absurd (hc352).symm hc420
      ·
        exact absurd (hc352).symm hc428
    ·
      have N350 := Fr.app N0 Nq357
      have M350 : h0.size ≤ T350.heap.size := Nat.le_trans (Nat.le_refl _) K358.1
      have O350 := Old.keep O0 K358 all0
      obtain ⟨_, _, ⟨T436, L436, c436, n436⟩, -, X436, ⟨Lc436, hQ436, l436, y436, z436⟩, st436⟩ := Jvm.LawKit.callS X350 hx (y := (⟨"com/example/sablegrid/sablegrid/io/OperationOfPinLaw", "expected", "(I)Lcom/example/sablegrid/sablegrid/io/BinaryProtocol$Operation;"⟩ : MethodName)) hown (mvT hZ (hw _ (List.mem_of_getElem? (i := 27) rfl))) (mvT hZ (hw _ (List.mem_of_getElem? (i := 28) rfl))) (mvT hZ (hw _ (List.mem_of_getElem? (i := 29) rfl))) (mvT hZ (hw _ (List.mem_of_getElem? (i := 30) rfl))) (by decide) (backOf (W := 1) (rm3 l Z a0 hw w1 w2 w3 w4 w5 w6 w7 kw1 G [] ((p1 &&& (63 : Int32))) T350.heap n0 O350 ) hZ (hw _ (List.mem_of_getElem? (i := 30) rfl)) (hw _ (List.mem_of_getElem? (i := 29) rfl)) (by decide) (by decide)) (g := (mkF m 22 #[.val (.int p1), .val (.int p2), .val (.int (p1 &&& (63 : Int32))), .val (.ref w3)] [(.int (p1 &&& (63 : Int32))), (.ref w3)])) rfl (by rw [hml]; rfl) (argsL := [(.int (p1 &&& (63 : Int32)))]) (rest := [(.ref w3)]) (lenOf pd1 rfl) rfl (by show 2 * 0 + _ ≤ _; exact Nat.le_of_eq rfl) (hb hby at_22) (fun _ _ => ⟨rfl, rfl, (by decide : 1 + 0 ≤ _), (by decide : 6 + 0 ≤ _)⟩)
      dsimp only [Pt.U, Pt.locs, Pt.cells, Pt.slots] at X436 l436 y436 z436 st436 hQ436
      subst l436 y436 z436
      have pre437 : ∀ t, Steps p.tables e below (T350.setTop (mkF m 22 #[.val (.int p1), .val (.int p2), .val (.int (p1 &&& (63 : Int32))), .val (.ref w3)] [(.int (p1 &&& (63 : Int32))), (.ref w3)])) t → Steps p.tables e below (s₁.setTop (entryFrame m #[(.int p1), (.int p2)] maxLocals)) t := fun t k => by
        refine pre351 _ ?_
        show Steps p.tables e below (s₁.setTop (mkF m 16 #[.val (.int p1), .val (.int p2), .val (.int (p1 &&& (63 : Int32))), .unset] [(.int (p1 &&& (63 : Int32)))])) _
        refine st350 _ ?_
        show Steps p.tables e below (T350.setTop (mkF m 19 #[.val (.int p1), .val (.int p2), .val (.int (p1 &&& (63 : Int32))), .unset] [(.ref w3)])) _
        refine XS.astoreN X350.here hx rfl (hb hby at_19) rfl rfl (l' := #[.val (.int p1), .val (.int p2), .val (.int (p1 &&& (63 : Int32))), .val (.ref w3)]) rfl ?_
        show Steps p.tables e below (T350.setTop (mkF m 20 #[.val (.int p1), .val (.int p2), .val (.int (p1 &&& (63 : Int32))), .val (.ref w3)] [])) _
        refine XS.aloadN X350.here hx rfl (hb hby at_20) rfl rfl ?_
        show Steps p.tables e below (T350.setTop (mkF m 21 #[.val (.int p1), .val (.int p2), .val (.int (p1 &&& (63 : Int32))), .val (.ref w3)] [(.ref w3)])) _
        refine XS.iloadN X350.here hx rfl (hb hby at_21) rfl ?_
        exact k
      have X436 : Stand p l e room_1 s m #[(.int p1), (.int p2)] below meth c T436 _ 1 6 := X436
      rcases hQ436 with ⟨hc438, rfl, Nq439, e440⟩ | ⟨hc441, hc442, rfl, Nq443, e444⟩ | ⟨hc445, hc446, hc447, rfl, Nq448, e449⟩ | ⟨hc450, hc451, hc452, hc453, rfl, Nq454, e455⟩ | ⟨hc456, hc457, hc458, hc459, hc460, rfl, Nq461, e462⟩ | ⟨hc463, hc464, hc465, hc466, hc467, hc468, rfl, Nq469, e470⟩ | ⟨hc471, hc472, hc473, hc474, hc475, hc476, rfl, Nq477, e478⟩
      ·
        exact absurd hc438 (Ne.symm hc355)
      ·
        have N436 := Fr.app N350 Nq443
        obtain ⟨fs, hr, hrun, hended, hW, hsame⟩ := X436.leave (v := some (.int (1 : Int32))) (fun h => by rw [hret] at h; cases h)
        refine ⟨_, _, pre437 _ ?_, hrun, hended, _, _, rfl, ?_, ⟨_, rfl⟩, hW, hsame.mono (by decide) (by decide)⟩
        ·
          show Steps p.tables e below (T350.setTop (mkF m 22 #[.val (.int p1), .val (.int p2), .val (.int (p1 &&& (63 : Int32))), .val (.ref w3)] [(.int (p1 &&& (63 : Int32))), (.ref w3)])) _
          refine st436 _ ?_
          show Steps p.tables e below (T436.setTop (mkF m 25 #[.val (.int p1), .val (.int p2), .val (.int (p1 &&& (63 : Int32))), .val (.ref w3)] [(.ref w3), (.ref w3)])) _
          refine Jvm.RoadKit.acmp (g := (mkF m 25 #[.val (.int p1), .val (.int p2), .val (.int (p1 &&& (63 : Int32))), .val (.ref w3)] [(.ref w3), (.ref w3)])) X436 hx rfl rfl rfl (pc0 := 25) (pc' := 28) (same := true) rfl (hb hby at_25) rfl (decide_eq_true rfl) (by decide) (by decide) ?_
          show Steps p.tables e below (T436.setTop (mkF m 28 #[.val (.int p1), .val (.int p2), .val (.int (p1 &&& (63 : Int32))), .val (.ref w3)] [])) _
          refine XS.iconst X436.here hx rfl (hb hby at_28) ?_
          show Steps p.tables e below (T436.setTop (mkF m 29 #[.val (.int p1), .val (.int p2), .val (.int (p1 &&& (63 : Int32))), .val (.ref w3)] [(.int (1 : Int32))])) _
          refine XS.goto X436.here hx rfl (pc0 := 29) (pc' := 33) rfl (hb hby at_29) (by decide) (by decide) ?_
          show Steps p.tables e below (T436.setTop (mkF m 33 #[.val (.int p1), .val (.int p2), .val (.int (p1 &&& (63 : Int32))), .val (.ref w3)] [(.int (1 : Int32))])) _
          exact retN X436 hx (t := .boolean) hret (by simp) (hb hby at_33) hr
        ·
          show Q0 n0 _ T436.heap _
          rw [e444]
          exact ⟨rfl, N436⟩
      ·
        exact absurd (hc356).symm hc446
      ·
        exact absurd (hc356).symm hc451
      ·
        exact absurd (hc356).symm hc457
      ·
        exact absurd (hc356).symm hc464
      ·
        exact absurd (hc356).symm hc472
    ·
      have N350 := Fr.app N0 Nq362
      have M350 : h0.size ≤ T350.heap.size := Nat.le_trans (Nat.le_refl _) K363.1
      have O350 := Old.keep O0 K363 all0
      obtain ⟨_, _, ⟨T479, L479, c479, n479⟩, -, X479, ⟨Lc479, hQ479, l479, y479, z479⟩, st479⟩ := Jvm.LawKit.callS X350 hx (y := (⟨"com/example/sablegrid/sablegrid/io/OperationOfPinLaw", "expected", "(I)Lcom/example/sablegrid/sablegrid/io/BinaryProtocol$Operation;"⟩ : MethodName)) hown (mvT hZ (hw _ (List.mem_of_getElem? (i := 27) rfl))) (mvT hZ (hw _ (List.mem_of_getElem? (i := 28) rfl))) (mvT hZ (hw _ (List.mem_of_getElem? (i := 29) rfl))) (mvT hZ (hw _ (List.mem_of_getElem? (i := 30) rfl))) (by decide) (backOf (W := 1) (rm3 l Z a0 hw w1 w2 w3 w4 w5 w6 w7 kw1 G [] ((p1 &&& (63 : Int32))) T350.heap n0 O350 ) hZ (hw _ (List.mem_of_getElem? (i := 30) rfl)) (hw _ (List.mem_of_getElem? (i := 29) rfl)) (by decide) (by decide)) (g := (mkF m 22 #[.val (.int p1), .val (.int p2), .val (.int (p1 &&& (63 : Int32))), .val (.ref w4)] [(.int (p1 &&& (63 : Int32))), (.ref w4)])) rfl (by rw [hml]; rfl) (argsL := [(.int (p1 &&& (63 : Int32)))]) (rest := [(.ref w4)]) (lenOf pd1 rfl) rfl (by show 2 * 0 + _ ≤ _; exact Nat.le_of_eq rfl) (hb hby at_22) (fun _ _ => ⟨rfl, rfl, (by decide : 1 + 0 ≤ _), (by decide : 6 + 0 ≤ _)⟩)
      dsimp only [Pt.U, Pt.locs, Pt.cells, Pt.slots] at X479 l479 y479 z479 st479 hQ479
      subst l479 y479 z479
      have pre480 : ∀ t, Steps p.tables e below (T350.setTop (mkF m 22 #[.val (.int p1), .val (.int p2), .val (.int (p1 &&& (63 : Int32))), .val (.ref w4)] [(.int (p1 &&& (63 : Int32))), (.ref w4)])) t → Steps p.tables e below (s₁.setTop (entryFrame m #[(.int p1), (.int p2)] maxLocals)) t := fun t k => by
        refine pre351 _ ?_
        show Steps p.tables e below (s₁.setTop (mkF m 16 #[.val (.int p1), .val (.int p2), .val (.int (p1 &&& (63 : Int32))), .unset] [(.int (p1 &&& (63 : Int32)))])) _
        refine st350 _ ?_
        show Steps p.tables e below (T350.setTop (mkF m 19 #[.val (.int p1), .val (.int p2), .val (.int (p1 &&& (63 : Int32))), .unset] [(.ref w4)])) _
        refine XS.astoreN X350.here hx rfl (hb hby at_19) rfl rfl (l' := #[.val (.int p1), .val (.int p2), .val (.int (p1 &&& (63 : Int32))), .val (.ref w4)]) rfl ?_
        show Steps p.tables e below (T350.setTop (mkF m 20 #[.val (.int p1), .val (.int p2), .val (.int (p1 &&& (63 : Int32))), .val (.ref w4)] [])) _
        refine XS.aloadN X350.here hx rfl (hb hby at_20) rfl rfl ?_
        show Steps p.tables e below (T350.setTop (mkF m 21 #[.val (.int p1), .val (.int p2), .val (.int (p1 &&& (63 : Int32))), .val (.ref w4)] [(.ref w4)])) _
        refine XS.iloadN X350.here hx rfl (hb hby at_21) rfl ?_
        exact k
      have X479 : Stand p l e room_1 s m #[(.int p1), (.int p2)] below meth c T479 _ 1 6 := X479
      rcases hQ479 with ⟨hc481, rfl, Nq482, e483⟩ | ⟨hc484, hc485, rfl, Nq486, e487⟩ | ⟨hc488, hc489, hc490, rfl, Nq491, e492⟩ | ⟨hc493, hc494, hc495, hc496, rfl, Nq497, e498⟩ | ⟨hc499, hc500, hc501, hc502, hc503, rfl, Nq504, e505⟩ | ⟨hc506, hc507, hc508, hc509, hc510, hc511, rfl, Nq512, e513⟩ | ⟨hc514, hc515, hc516, hc517, hc518, hc519, rfl, Nq520, e521⟩
      ·
        exact absurd hc481 (Ne.symm hc359)
      ·
        exact absurd hc485 (Ne.symm hc360)
      ·
        have N479 := Fr.app N350 Nq491
        obtain ⟨fs, hr, hrun, hended, hW, hsame⟩ := X479.leave (v := some (.int (1 : Int32))) (fun h => by rw [hret] at h; cases h)
        refine ⟨_, _, pre480 _ ?_, hrun, hended, _, _, rfl, ?_, ⟨_, rfl⟩, hW, hsame.mono (by decide) (by decide)⟩
        ·
          show Steps p.tables e below (T350.setTop (mkF m 22 #[.val (.int p1), .val (.int p2), .val (.int (p1 &&& (63 : Int32))), .val (.ref w4)] [(.int (p1 &&& (63 : Int32))), (.ref w4)])) _
          refine st479 _ ?_
          show Steps p.tables e below (T479.setTop (mkF m 25 #[.val (.int p1), .val (.int p2), .val (.int (p1 &&& (63 : Int32))), .val (.ref w4)] [(.ref w4), (.ref w4)])) _
          refine Jvm.RoadKit.acmp (g := (mkF m 25 #[.val (.int p1), .val (.int p2), .val (.int (p1 &&& (63 : Int32))), .val (.ref w4)] [(.ref w4), (.ref w4)])) X479 hx rfl rfl rfl (pc0 := 25) (pc' := 28) (same := true) rfl (hb hby at_25) rfl (decide_eq_true rfl) (by decide) (by decide) ?_
          show Steps p.tables e below (T479.setTop (mkF m 28 #[.val (.int p1), .val (.int p2), .val (.int (p1 &&& (63 : Int32))), .val (.ref w4)] [])) _
          refine XS.iconst X479.here hx rfl (hb hby at_28) ?_
          show Steps p.tables e below (T479.setTop (mkF m 29 #[.val (.int p1), .val (.int p2), .val (.int (p1 &&& (63 : Int32))), .val (.ref w4)] [(.int (1 : Int32))])) _
          refine XS.goto X479.here hx rfl (pc0 := 29) (pc' := 33) rfl (hb hby at_29) (by decide) (by decide) ?_
          show Steps p.tables e below (T479.setTop (mkF m 33 #[.val (.int p1), .val (.int p2), .val (.int (p1 &&& (63 : Int32))), .val (.ref w4)] [(.int (1 : Int32))])) _
          exact retN X479 hx (t := .boolean) hret (by simp) (hb hby at_33) hr
        ·
          show Q0 n0 _ T479.heap _
          rw [e492]
          exact ⟨rfl, N479⟩
      ·
        exact absurd (hc361).symm hc495
      ·
        exact absurd (hc361).symm hc501
      ·
        exact absurd (hc361).symm hc508
      ·
        exact absurd (hc361).symm hc516
    ·
      have N350 := Fr.app N0 Nq368
      have M350 : h0.size ≤ T350.heap.size := Nat.le_trans (Nat.le_refl _) K369.1
      have O350 := Old.keep O0 K369 all0
      obtain ⟨_, _, ⟨T522, L522, c522, n522⟩, -, X522, ⟨Lc522, hQ522, l522, y522, z522⟩, st522⟩ := Jvm.LawKit.callS X350 hx (y := (⟨"com/example/sablegrid/sablegrid/io/OperationOfPinLaw", "expected", "(I)Lcom/example/sablegrid/sablegrid/io/BinaryProtocol$Operation;"⟩ : MethodName)) hown (mvT hZ (hw _ (List.mem_of_getElem? (i := 27) rfl))) (mvT hZ (hw _ (List.mem_of_getElem? (i := 28) rfl))) (mvT hZ (hw _ (List.mem_of_getElem? (i := 29) rfl))) (mvT hZ (hw _ (List.mem_of_getElem? (i := 30) rfl))) (by decide) (backOf (W := 1) (rm3 l Z a0 hw w1 w2 w3 w4 w5 w6 w7 kw1 G [] ((p1 &&& (63 : Int32))) T350.heap n0 O350 ) hZ (hw _ (List.mem_of_getElem? (i := 30) rfl)) (hw _ (List.mem_of_getElem? (i := 29) rfl)) (by decide) (by decide)) (g := (mkF m 22 #[.val (.int p1), .val (.int p2), .val (.int (p1 &&& (63 : Int32))), .val (.ref w5)] [(.int (p1 &&& (63 : Int32))), (.ref w5)])) rfl (by rw [hml]; rfl) (argsL := [(.int (p1 &&& (63 : Int32)))]) (rest := [(.ref w5)]) (lenOf pd1 rfl) rfl (by show 2 * 0 + _ ≤ _; exact Nat.le_of_eq rfl) (hb hby at_22) (fun _ _ => ⟨rfl, rfl, (by decide : 1 + 0 ≤ _), (by decide : 6 + 0 ≤ _)⟩)
      dsimp only [Pt.U, Pt.locs, Pt.cells, Pt.slots] at X522 l522 y522 z522 st522 hQ522
      subst l522 y522 z522
      have pre523 : ∀ t, Steps p.tables e below (T350.setTop (mkF m 22 #[.val (.int p1), .val (.int p2), .val (.int (p1 &&& (63 : Int32))), .val (.ref w5)] [(.int (p1 &&& (63 : Int32))), (.ref w5)])) t → Steps p.tables e below (s₁.setTop (entryFrame m #[(.int p1), (.int p2)] maxLocals)) t := fun t k => by
        refine pre351 _ ?_
        show Steps p.tables e below (s₁.setTop (mkF m 16 #[.val (.int p1), .val (.int p2), .val (.int (p1 &&& (63 : Int32))), .unset] [(.int (p1 &&& (63 : Int32)))])) _
        refine st350 _ ?_
        show Steps p.tables e below (T350.setTop (mkF m 19 #[.val (.int p1), .val (.int p2), .val (.int (p1 &&& (63 : Int32))), .unset] [(.ref w5)])) _
        refine XS.astoreN X350.here hx rfl (hb hby at_19) rfl rfl (l' := #[.val (.int p1), .val (.int p2), .val (.int (p1 &&& (63 : Int32))), .val (.ref w5)]) rfl ?_
        show Steps p.tables e below (T350.setTop (mkF m 20 #[.val (.int p1), .val (.int p2), .val (.int (p1 &&& (63 : Int32))), .val (.ref w5)] [])) _
        refine XS.aloadN X350.here hx rfl (hb hby at_20) rfl rfl ?_
        show Steps p.tables e below (T350.setTop (mkF m 21 #[.val (.int p1), .val (.int p2), .val (.int (p1 &&& (63 : Int32))), .val (.ref w5)] [(.ref w5)])) _
        refine XS.iloadN X350.here hx rfl (hb hby at_21) rfl ?_
        exact k
      have X522 : Stand p l e room_1 s m #[(.int p1), (.int p2)] below meth c T522 _ 1 6 := X522
      rcases hQ522 with ⟨hc524, rfl, Nq525, e526⟩ | ⟨hc527, hc528, rfl, Nq529, e530⟩ | ⟨hc531, hc532, hc533, rfl, Nq534, e535⟩ | ⟨hc536, hc537, hc538, hc539, rfl, Nq540, e541⟩ | ⟨hc542, hc543, hc544, hc545, hc546, rfl, Nq547, e548⟩ | ⟨hc549, hc550, hc551, hc552, hc553, hc554, rfl, Nq555, e556⟩ | ⟨hc557, hc558, hc559, hc560, hc561, hc562, rfl, Nq563, e564⟩
      ·
        exact absurd hc524 (Ne.symm hc364)
      ·
        exact absurd hc528 (Ne.symm hc365)
      ·
        exact absurd hc533 (Ne.symm hc366)
      ·
        have N522 := Fr.app N350 Nq540
        obtain ⟨fs, hr, hrun, hended, hW, hsame⟩ := X522.leave (v := some (.int (1 : Int32))) (fun h => by rw [hret] at h; cases h)
        refine ⟨_, _, pre523 _ ?_, hrun, hended, _, _, rfl, ?_, ⟨_, rfl⟩, hW, hsame.mono (by decide) (by decide)⟩
        ·
          show Steps p.tables e below (T350.setTop (mkF m 22 #[.val (.int p1), .val (.int p2), .val (.int (p1 &&& (63 : Int32))), .val (.ref w5)] [(.int (p1 &&& (63 : Int32))), (.ref w5)])) _
          refine st522 _ ?_
          show Steps p.tables e below (T522.setTop (mkF m 25 #[.val (.int p1), .val (.int p2), .val (.int (p1 &&& (63 : Int32))), .val (.ref w5)] [(.ref w5), (.ref w5)])) _
          refine Jvm.RoadKit.acmp (g := (mkF m 25 #[.val (.int p1), .val (.int p2), .val (.int (p1 &&& (63 : Int32))), .val (.ref w5)] [(.ref w5), (.ref w5)])) X522 hx rfl rfl rfl (pc0 := 25) (pc' := 28) (same := true) rfl (hb hby at_25) rfl (decide_eq_true rfl) (by decide) (by decide) ?_
          show Steps p.tables e below (T522.setTop (mkF m 28 #[.val (.int p1), .val (.int p2), .val (.int (p1 &&& (63 : Int32))), .val (.ref w5)] [])) _
          refine XS.iconst X522.here hx rfl (hb hby at_28) ?_
          show Steps p.tables e below (T522.setTop (mkF m 29 #[.val (.int p1), .val (.int p2), .val (.int (p1 &&& (63 : Int32))), .val (.ref w5)] [(.int (1 : Int32))])) _
          refine XS.goto X522.here hx rfl (pc0 := 29) (pc' := 33) rfl (hb hby at_29) (by decide) (by decide) ?_
          show Steps p.tables e below (T522.setTop (mkF m 33 #[.val (.int p1), .val (.int p2), .val (.int (p1 &&& (63 : Int32))), .val (.ref w5)] [(.int (1 : Int32))])) _
          exact retN X522 hx (t := .boolean) hret (by simp) (hb hby at_33) hr
        ·
          show Q0 n0 _ T522.heap _
          rw [e541]
          exact ⟨rfl, N522⟩
      ·
        exact absurd (hc367).symm hc545
      ·
        exact absurd (hc367).symm hc552
      ·
        exact absurd (hc367).symm hc560
    ·
      have N350 := Fr.app N0 Nq375
      have M350 : h0.size ≤ T350.heap.size := Nat.le_trans (Nat.le_refl _) K376.1
      have O350 := Old.keep O0 K376 all0
      obtain ⟨_, _, ⟨T565, L565, c565, n565⟩, -, X565, ⟨Lc565, hQ565, l565, y565, z565⟩, st565⟩ := Jvm.LawKit.callS X350 hx (y := (⟨"com/example/sablegrid/sablegrid/io/OperationOfPinLaw", "expected", "(I)Lcom/example/sablegrid/sablegrid/io/BinaryProtocol$Operation;"⟩ : MethodName)) hown (mvT hZ (hw _ (List.mem_of_getElem? (i := 27) rfl))) (mvT hZ (hw _ (List.mem_of_getElem? (i := 28) rfl))) (mvT hZ (hw _ (List.mem_of_getElem? (i := 29) rfl))) (mvT hZ (hw _ (List.mem_of_getElem? (i := 30) rfl))) (by decide) (backOf (W := 1) (rm3 l Z a0 hw w1 w2 w3 w4 w5 w6 w7 kw1 G [] ((p1 &&& (63 : Int32))) T350.heap n0 O350 ) hZ (hw _ (List.mem_of_getElem? (i := 30) rfl)) (hw _ (List.mem_of_getElem? (i := 29) rfl)) (by decide) (by decide)) (g := (mkF m 22 #[.val (.int p1), .val (.int p2), .val (.int (p1 &&& (63 : Int32))), .val (.ref w6)] [(.int (p1 &&& (63 : Int32))), (.ref w6)])) rfl (by rw [hml]; rfl) (argsL := [(.int (p1 &&& (63 : Int32)))]) (rest := [(.ref w6)]) (lenOf pd1 rfl) rfl (by show 2 * 0 + _ ≤ _; exact Nat.le_of_eq rfl) (hb hby at_22) (fun _ _ => ⟨rfl, rfl, (by decide : 1 + 0 ≤ _), (by decide : 6 + 0 ≤ _)⟩)
      dsimp only [Pt.U, Pt.locs, Pt.cells, Pt.slots] at X565 l565 y565 z565 st565 hQ565
      subst l565 y565 z565
      have pre566 : ∀ t, Steps p.tables e below (T350.setTop (mkF m 22 #[.val (.int p1), .val (.int p2), .val (.int (p1 &&& (63 : Int32))), .val (.ref w6)] [(.int (p1 &&& (63 : Int32))), (.ref w6)])) t → Steps p.tables e below (s₁.setTop (entryFrame m #[(.int p1), (.int p2)] maxLocals)) t := fun t k => by
        refine pre351 _ ?_
        show Steps p.tables e below (s₁.setTop (mkF m 16 #[.val (.int p1), .val (.int p2), .val (.int (p1 &&& (63 : Int32))), .unset] [(.int (p1 &&& (63 : Int32)))])) _
        refine st350 _ ?_
        show Steps p.tables e below (T350.setTop (mkF m 19 #[.val (.int p1), .val (.int p2), .val (.int (p1 &&& (63 : Int32))), .unset] [(.ref w6)])) _
        refine XS.astoreN X350.here hx rfl (hb hby at_19) rfl rfl (l' := #[.val (.int p1), .val (.int p2), .val (.int (p1 &&& (63 : Int32))), .val (.ref w6)]) rfl ?_
        show Steps p.tables e below (T350.setTop (mkF m 20 #[.val (.int p1), .val (.int p2), .val (.int (p1 &&& (63 : Int32))), .val (.ref w6)] [])) _
        refine XS.aloadN X350.here hx rfl (hb hby at_20) rfl rfl ?_
        show Steps p.tables e below (T350.setTop (mkF m 21 #[.val (.int p1), .val (.int p2), .val (.int (p1 &&& (63 : Int32))), .val (.ref w6)] [(.ref w6)])) _
        refine XS.iloadN X350.here hx rfl (hb hby at_21) rfl ?_
        exact k
      have X565 : Stand p l e room_1 s m #[(.int p1), (.int p2)] below meth c T565 _ 1 6 := X565
      rcases hQ565 with ⟨hc567, rfl, Nq568, e569⟩ | ⟨hc570, hc571, rfl, Nq572, e573⟩ | ⟨hc574, hc575, hc576, rfl, Nq577, e578⟩ | ⟨hc579, hc580, hc581, hc582, rfl, Nq583, e584⟩ | ⟨hc585, hc586, hc587, hc588, hc589, rfl, Nq590, e591⟩ | ⟨hc592, hc593, hc594, hc595, hc596, hc597, rfl, Nq598, e599⟩ | ⟨hc600, hc601, hc602, hc603, hc604, hc605, rfl, Nq606, e607⟩
      ·
        exact absurd hc567 (Ne.symm hc370)
      ·
        exact absurd hc571 (Ne.symm hc371)
      ·
        exact absurd hc576 (Ne.symm hc372)
      ·
        exact absurd hc582 (Ne.symm hc373)
      ·
        have N565 := Fr.app N350 Nq590
        obtain ⟨fs, hr, hrun, hended, hW, hsame⟩ := X565.leave (v := some (.int (1 : Int32))) (fun h => by rw [hret] at h; cases h)
        refine ⟨_, _, pre566 _ ?_, hrun, hended, _, _, rfl, ?_, ⟨_, rfl⟩, hW, hsame.mono (by decide) (by decide)⟩
        ·
          show Steps p.tables e below (T350.setTop (mkF m 22 #[.val (.int p1), .val (.int p2), .val (.int (p1 &&& (63 : Int32))), .val (.ref w6)] [(.int (p1 &&& (63 : Int32))), (.ref w6)])) _
          refine st565 _ ?_
          show Steps p.tables e below (T565.setTop (mkF m 25 #[.val (.int p1), .val (.int p2), .val (.int (p1 &&& (63 : Int32))), .val (.ref w6)] [(.ref w6), (.ref w6)])) _
          refine Jvm.RoadKit.acmp (g := (mkF m 25 #[.val (.int p1), .val (.int p2), .val (.int (p1 &&& (63 : Int32))), .val (.ref w6)] [(.ref w6), (.ref w6)])) X565 hx rfl rfl rfl (pc0 := 25) (pc' := 28) (same := true) rfl (hb hby at_25) rfl (decide_eq_true rfl) (by decide) (by decide) ?_
          show Steps p.tables e below (T565.setTop (mkF m 28 #[.val (.int p1), .val (.int p2), .val (.int (p1 &&& (63 : Int32))), .val (.ref w6)] [])) _
          refine XS.iconst X565.here hx rfl (hb hby at_28) ?_
          show Steps p.tables e below (T565.setTop (mkF m 29 #[.val (.int p1), .val (.int p2), .val (.int (p1 &&& (63 : Int32))), .val (.ref w6)] [(.int (1 : Int32))])) _
          refine XS.goto X565.here hx rfl (pc0 := 29) (pc' := 33) rfl (hb hby at_29) (by decide) (by decide) ?_
          show Steps p.tables e below (T565.setTop (mkF m 33 #[.val (.int p1), .val (.int p2), .val (.int (p1 &&& (63 : Int32))), .val (.ref w6)] [(.int (1 : Int32))])) _
          exact retN X565 hx (t := .boolean) hret (by simp) (hb hby at_33) hr
        ·
          show Q0 n0 _ T565.heap _
          rw [e591]
          exact ⟨rfl, N565⟩
      ·
        exact absurd (hc374).symm hc596
      ·
        exact absurd (hc374).symm hc604
    ·
      have N350 := Fr.app N0 Nq383
      have M350 : h0.size ≤ T350.heap.size := Nat.le_trans (Nat.le_refl _) K384.1
      have O350 := Old.keep O0 K384 all0
      obtain ⟨_, _, ⟨T608, L608, c608, n608⟩, -, X608, ⟨Lc608, hQ608, l608, y608, z608⟩, st608⟩ := Jvm.LawKit.callS X350 hx (y := (⟨"com/example/sablegrid/sablegrid/io/OperationOfPinLaw", "expected", "(I)Lcom/example/sablegrid/sablegrid/io/BinaryProtocol$Operation;"⟩ : MethodName)) hown (mvT hZ (hw _ (List.mem_of_getElem? (i := 27) rfl))) (mvT hZ (hw _ (List.mem_of_getElem? (i := 28) rfl))) (mvT hZ (hw _ (List.mem_of_getElem? (i := 29) rfl))) (mvT hZ (hw _ (List.mem_of_getElem? (i := 30) rfl))) (by decide) (backOf (W := 1) (rm3 l Z a0 hw w1 w2 w3 w4 w5 w6 w7 kw1 G [] ((p1 &&& (63 : Int32))) T350.heap n0 O350 ) hZ (hw _ (List.mem_of_getElem? (i := 30) rfl)) (hw _ (List.mem_of_getElem? (i := 29) rfl)) (by decide) (by decide)) (g := (mkF m 22 #[.val (.int p1), .val (.int p2), .val (.int (p1 &&& (63 : Int32))), .val (.ref w7)] [(.int (p1 &&& (63 : Int32))), (.ref w7)])) rfl (by rw [hml]; rfl) (argsL := [(.int (p1 &&& (63 : Int32)))]) (rest := [(.ref w7)]) (lenOf pd1 rfl) rfl (by show 2 * 0 + _ ≤ _; exact Nat.le_of_eq rfl) (hb hby at_22) (fun _ _ => ⟨rfl, rfl, (by decide : 1 + 0 ≤ _), (by decide : 6 + 0 ≤ _)⟩)
      dsimp only [Pt.U, Pt.locs, Pt.cells, Pt.slots] at X608 l608 y608 z608 st608 hQ608
      subst l608 y608 z608
      have pre609 : ∀ t, Steps p.tables e below (T350.setTop (mkF m 22 #[.val (.int p1), .val (.int p2), .val (.int (p1 &&& (63 : Int32))), .val (.ref w7)] [(.int (p1 &&& (63 : Int32))), (.ref w7)])) t → Steps p.tables e below (s₁.setTop (entryFrame m #[(.int p1), (.int p2)] maxLocals)) t := fun t k => by
        refine pre351 _ ?_
        show Steps p.tables e below (s₁.setTop (mkF m 16 #[.val (.int p1), .val (.int p2), .val (.int (p1 &&& (63 : Int32))), .unset] [(.int (p1 &&& (63 : Int32)))])) _
        refine st350 _ ?_
        show Steps p.tables e below (T350.setTop (mkF m 19 #[.val (.int p1), .val (.int p2), .val (.int (p1 &&& (63 : Int32))), .unset] [(.ref w7)])) _
        refine XS.astoreN X350.here hx rfl (hb hby at_19) rfl rfl (l' := #[.val (.int p1), .val (.int p2), .val (.int (p1 &&& (63 : Int32))), .val (.ref w7)]) rfl ?_
        show Steps p.tables e below (T350.setTop (mkF m 20 #[.val (.int p1), .val (.int p2), .val (.int (p1 &&& (63 : Int32))), .val (.ref w7)] [])) _
        refine XS.aloadN X350.here hx rfl (hb hby at_20) rfl rfl ?_
        show Steps p.tables e below (T350.setTop (mkF m 21 #[.val (.int p1), .val (.int p2), .val (.int (p1 &&& (63 : Int32))), .val (.ref w7)] [(.ref w7)])) _
        refine XS.iloadN X350.here hx rfl (hb hby at_21) rfl ?_
        exact k
      have X608 : Stand p l e room_1 s m #[(.int p1), (.int p2)] below meth c T608 _ 1 6 := X608
      rcases hQ608 with ⟨hc610, rfl, Nq611, e612⟩ | ⟨hc613, hc614, rfl, Nq615, e616⟩ | ⟨hc617, hc618, hc619, rfl, Nq620, e621⟩ | ⟨hc622, hc623, hc624, hc625, rfl, Nq626, e627⟩ | ⟨hc628, hc629, hc630, hc631, hc632, rfl, Nq633, e634⟩ | ⟨hc635, hc636, hc637, hc638, hc639, hc640, rfl, Nq641, e642⟩ | ⟨hc643, hc644, hc645, hc646, hc647, hc648, rfl, Nq649, e650⟩
      ·
        exact absurd hc610 (Ne.symm hc377)
      ·
        exact absurd hc614 (Ne.symm hc378)
      ·
        exact absurd hc619 (Ne.symm hc379)
      ·
        exact absurd hc625 (Ne.symm hc380)
      ·
        exact absurd hc632 (Ne.symm hc381)
      ·
        have N608 := Fr.app N350 Nq641
        obtain ⟨fs, hr, hrun, hended, hW, hsame⟩ := X608.leave (v := some (.int (1 : Int32))) (fun h => by rw [hret] at h; cases h)
        refine ⟨_, _, pre609 _ ?_, hrun, hended, _, _, rfl, ?_, ⟨_, rfl⟩, hW, hsame.mono (by decide) (by decide)⟩
        ·
          show Steps p.tables e below (T350.setTop (mkF m 22 #[.val (.int p1), .val (.int p2), .val (.int (p1 &&& (63 : Int32))), .val (.ref w7)] [(.int (p1 &&& (63 : Int32))), (.ref w7)])) _
          refine st608 _ ?_
          show Steps p.tables e below (T608.setTop (mkF m 25 #[.val (.int p1), .val (.int p2), .val (.int (p1 &&& (63 : Int32))), .val (.ref w7)] [(.ref w7), (.ref w7)])) _
          refine Jvm.RoadKit.acmp (g := (mkF m 25 #[.val (.int p1), .val (.int p2), .val (.int (p1 &&& (63 : Int32))), .val (.ref w7)] [(.ref w7), (.ref w7)])) X608 hx rfl rfl rfl (pc0 := 25) (pc' := 28) (same := true) rfl (hb hby at_25) rfl (decide_eq_true rfl) (by decide) (by decide) ?_
          show Steps p.tables e below (T608.setTop (mkF m 28 #[.val (.int p1), .val (.int p2), .val (.int (p1 &&& (63 : Int32))), .val (.ref w7)] [])) _
          refine XS.iconst X608.here hx rfl (hb hby at_28) ?_
          show Steps p.tables e below (T608.setTop (mkF m 29 #[.val (.int p1), .val (.int p2), .val (.int (p1 &&& (63 : Int32))), .val (.ref w7)] [(.int (1 : Int32))])) _
          refine XS.goto X608.here hx rfl (pc0 := 29) (pc' := 33) rfl (hb hby at_29) (by decide) (by decide) ?_
          show Steps p.tables e below (T608.setTop (mkF m 33 #[.val (.int p1), .val (.int p2), .val (.int (p1 &&& (63 : Int32))), .val (.ref w7)] [(.int (1 : Int32))])) _
          exact retN X608 hx (t := .boolean) hret (by simp) (hb hby at_33) hr
        ·
          show Q0 n0 _ T608.heap _
          rw [e642]
          exact ⟨rfl, N608⟩
      ·
        exact absurd (hc382).symm hc648
    ·
      have N350 := Fr.app N0 Nq391
      have M350 : h0.size ≤ T350.heap.size := Nat.le_trans (Nat.le_refl _) K392.1
      have O350 := Old.keep O0 K392 all0
      obtain ⟨_, _, ⟨T651, L651, c651, n651⟩, -, X651, ⟨Lc651, hQ651, l651, y651, z651⟩, st651⟩ := Jvm.LawKit.callS X350 hx (y := (⟨"com/example/sablegrid/sablegrid/io/OperationOfPinLaw", "expected", "(I)Lcom/example/sablegrid/sablegrid/io/BinaryProtocol$Operation;"⟩ : MethodName)) hown (mvT hZ (hw _ (List.mem_of_getElem? (i := 27) rfl))) (mvT hZ (hw _ (List.mem_of_getElem? (i := 28) rfl))) (mvT hZ (hw _ (List.mem_of_getElem? (i := 29) rfl))) (mvT hZ (hw _ (List.mem_of_getElem? (i := 30) rfl))) (by decide) (backOf (W := 1) (rm3 l Z a0 hw w1 w2 w3 w4 w5 w6 w7 kw1 G [] ((p1 &&& (63 : Int32))) T350.heap n0 O350 ) hZ (hw _ (List.mem_of_getElem? (i := 30) rfl)) (hw _ (List.mem_of_getElem? (i := 29) rfl)) (by decide) (by decide)) (g := (mkF m 22 #[.val (.int p1), .val (.int p2), .val (.int (p1 &&& (63 : Int32))), .val .null] [(.int (p1 &&& (63 : Int32))), .null])) rfl (by rw [hml]; rfl) (argsL := [(.int (p1 &&& (63 : Int32)))]) (rest := [.null]) (lenOf pd1 rfl) rfl (by show 2 * 0 + _ ≤ _; exact Nat.le_of_eq rfl) (hb hby at_22) (fun _ _ => ⟨rfl, rfl, (by decide : 1 + 0 ≤ _), (by decide : 6 + 0 ≤ _)⟩)
      dsimp only [Pt.U, Pt.locs, Pt.cells, Pt.slots] at X651 l651 y651 z651 st651 hQ651
      subst l651 y651 z651
      have pre652 : ∀ t, Steps p.tables e below (T350.setTop (mkF m 22 #[.val (.int p1), .val (.int p2), .val (.int (p1 &&& (63 : Int32))), .val .null] [(.int (p1 &&& (63 : Int32))), .null])) t → Steps p.tables e below (s₁.setTop (entryFrame m #[(.int p1), (.int p2)] maxLocals)) t := fun t k => by
        refine pre351 _ ?_
        show Steps p.tables e below (s₁.setTop (mkF m 16 #[.val (.int p1), .val (.int p2), .val (.int (p1 &&& (63 : Int32))), .unset] [(.int (p1 &&& (63 : Int32)))])) _
        refine st350 _ ?_
        show Steps p.tables e below (T350.setTop (mkF m 19 #[.val (.int p1), .val (.int p2), .val (.int (p1 &&& (63 : Int32))), .unset] [.null])) _
        refine XS.astoreN X350.here hx rfl (hb hby at_19) rfl rfl (l' := #[.val (.int p1), .val (.int p2), .val (.int (p1 &&& (63 : Int32))), .val .null]) rfl ?_
        show Steps p.tables e below (T350.setTop (mkF m 20 #[.val (.int p1), .val (.int p2), .val (.int (p1 &&& (63 : Int32))), .val .null] [])) _
        refine XS.aloadN X350.here hx rfl (hb hby at_20) rfl rfl ?_
        show Steps p.tables e below (T350.setTop (mkF m 21 #[.val (.int p1), .val (.int p2), .val (.int (p1 &&& (63 : Int32))), .val .null] [.null])) _
        refine XS.iloadN X350.here hx rfl (hb hby at_21) rfl ?_
        exact k
      have X651 : Stand p l e room_1 s m #[(.int p1), (.int p2)] below meth c T651 _ 1 6 := X651
      rcases hQ651 with ⟨hc653, rfl, Nq654, e655⟩ | ⟨hc656, hc657, rfl, Nq658, e659⟩ | ⟨hc660, hc661, hc662, rfl, Nq663, e664⟩ | ⟨hc665, hc666, hc667, hc668, rfl, Nq669, e670⟩ | ⟨hc671, hc672, hc673, hc674, hc675, rfl, Nq676, e677⟩ | ⟨hc678, hc679, hc680, hc681, hc682, hc683, rfl, Nq684, e685⟩ | ⟨hc686, hc687, hc688, hc689, hc690, hc691, rfl, Nq692, e693⟩
      ·
        exact absurd hc653 (Ne.symm hc385)
      ·
        exact absurd hc657 (Ne.symm hc386)
      ·
        exact absurd hc662 (Ne.symm hc387)
      ·
        exact absurd hc668 (Ne.symm hc388)
      ·
        exact absurd hc675 (Ne.symm hc389)
      ·
        exact absurd hc683 (Ne.symm hc390)
      ·
        have N651 := Fr.app N350 Nq692
        obtain ⟨fs, hr, hrun, hended, hW, hsame⟩ := X651.leave (v := some (.int (1 : Int32))) (fun h => by rw [hret] at h; cases h)
        refine ⟨_, _, pre652 _ ?_, hrun, hended, _, _, rfl, ?_, ⟨_, rfl⟩, hW, hsame.mono (by decide) (by decide)⟩
        ·
          show Steps p.tables e below (T350.setTop (mkF m 22 #[.val (.int p1), .val (.int p2), .val (.int (p1 &&& (63 : Int32))), .val .null] [(.int (p1 &&& (63 : Int32))), .null])) _
          refine st651 _ ?_
          show Steps p.tables e below (T651.setTop (mkF m 25 #[.val (.int p1), .val (.int p2), .val (.int (p1 &&& (63 : Int32))), .val .null] [.null, .null])) _
          refine Jvm.RoadKit.acmp (g := (mkF m 25 #[.val (.int p1), .val (.int p2), .val (.int (p1 &&& (63 : Int32))), .val .null] [.null, .null])) X651 hx rfl rfl rfl (pc0 := 25) (pc' := 28) (same := true) rfl (hb hby at_25) rfl (decide_eq_true rfl) (by decide) (by decide) ?_
          show Steps p.tables e below (T651.setTop (mkF m 28 #[.val (.int p1), .val (.int p2), .val (.int (p1 &&& (63 : Int32))), .val .null] [])) _
          refine XS.iconst X651.here hx rfl (hb hby at_28) ?_
          show Steps p.tables e below (T651.setTop (mkF m 29 #[.val (.int p1), .val (.int p2), .val (.int (p1 &&& (63 : Int32))), .val .null] [(.int (1 : Int32))])) _
          refine XS.goto X651.here hx rfl (pc0 := 29) (pc' := 33) rfl (hb hby at_29) (by decide) (by decide) ?_
          show Steps p.tables e below (T651.setTop (mkF m 33 #[.val (.int p1), .val (.int p2), .val (.int (p1 &&& (63 : Int32))), .val .null] [(.int (1 : Int32))])) _
          exact retN X651 hx (t := .boolean) hret (by simp) (hb hby at_33) hr
        ·
          show Q0 n0 _ T651.heap _
          rw [e693]
          exact ⟨rfl, N651⟩
set_option maxRecDepth 65536 in
set_option maxHeartbeats 40000000 in
theorem comes_1 {Post : Tables → Env → Array Value → State → Outcome → State → Prop} (hpost : ∀ tb e args s v u, (limb_1_1.after args s (.returned v) u = true ∧ limb_1_2.after args s (.returned v) u = true ∧ True) → FrameEnd s (.returned v) u (Jvm.fieldLocs frame_1_writes args s ++ Jvm.arrayLocs frame_1_arrays args s ++ Jvm.staticLocs frame_1_statics s) 16 128 → Post tb e args s (.returned v) u) :
    ArmFor flags0 classFile x code maxLocals ret World_1 tables_1 room_1 Calls_1 rest_1 Pre_1 Post := by
  intro l hfl _ _ p e ha hc hk s m args below hf hA hF happ hP
  obtain ⟨hcalls, hrest, hpre⟩ := hP
  obtain ⟨-, -, -, hnamed, -, -, -, hat⟩ := (Spec.applies_iff hf).mp happ
  obtain ⟨hg, hn⟩ := and_e (Cond.before_iff.mp (show (Jvm.Cond.and given_1 narrow_1).before args s = true from hpre))
  obtain ⟨hcount, hk0⟩ := and_e hg
  obtain ⟨hi0, hk1⟩ := and_e hk0
  have hi1 := hk1
  obtain ⟨w_a0, w_a1, rfl⟩ : ∃ w_a0 w_a1 : Value, args = #[w_a0, w_a1] := by
    have hs : args.size = 2 := by simpa [Cond.value, given_1] using hcount
    obtain ⟨L⟩ := args
    match L, hs with
    | [w_a0, w_a1], _ => exact ⟨w_a0, w_a1, rfl⟩
  have hw := fun d (hd : d ∈ tables_1) => atoms_spec (ws := Jvm.Cond.code x code maxLocals ret :: tables_1) hat d (List.mem_cons_of_mem _ hd)
  have hfit : Fit s := fun {y c} hc i hi => by
    obtain ⟨ha, rfl⟩ := Array.getElem?_eq_some_iff.mp hc
    have q := List.all_eq_true.mp ((Array.all_eq_true_iff_forall_mem.mp hF) _ (Array.getElem_mem ha)) i (List.mem_range.mpr hi)
    simpa [Array.getElem?_eq_getElem hi] using q
  obtain ⟨i0, ei0⟩ := is_v hi0
  obtain rfl : w_a0 = (.int i0) := Option.some.inj ei0
  obtain ⟨i1, ei1⟩ := is_v hi1
  obtain rfl : w_a1 = (.int i1) := Option.some.inj ei1
  obtain ⟨gl0, gr0⟩ := and_e hn
  obtain ⟨gl1, gr1⟩ := and_e gr0
  obtain ⟨gl2, gr2⟩ := and_e gr1
  obtain ⟨gl3, gr3⟩ := and_e gr2
  obtain ⟨gl4, gr4⟩ := and_e gr3
  obtain ⟨gl5, gr5⟩ := and_e gr4
  obtain ⟨gl6, gr6⟩ := and_e gr5
  obtain ⟨gl7, gr7⟩ := and_e gr6
  obtain ⟨gl8, gr8⟩ := and_e gr7
  obtain ⟨gl9, gr9⟩ := and_e gr8
  obtain ⟨gl10, gr10⟩ := and_e gr9
  obtain ⟨gl11, gr11⟩ := and_e gr10
  obtain ⟨gl12, gr12⟩ := and_e gr11
  obtain ⟨gl13, gr13⟩ := and_e gr12
  obtain ⟨gl14, gr14⟩ := and_e gr13
  obtain ⟨gl15, gr15⟩ := and_e gr14
  obtain ⟨gl16, gr16⟩ := and_e gr15
  obtain ⟨gl17, gr17⟩ := and_e gr16
  obtain ⟨gl18, gr18⟩ := and_e gr17
  obtain ⟨gl19, gr19⟩ := and_e gr18
  obtain ⟨w1, ev_w1⟩ := exa_v gl1
  have S_w1 : Sta s s.heap "com/example/sablegrid/sablegrid/io/BinaryProtocol$Operation" "$VALUES" "[Lcom/example/sablegrid/sablegrid/io/BinaryProtocol$Operation;" (.ref w1) := Sta.start ev_w1 (Or.inl (hw _ (List.mem_of_getElem? (i := 22) rfl)))
  have E_w1 : Exa s s.heap w1 "[Lcom/example/sablegrid/sablegrid/io/BinaryProtocol$Operation;" := Exa.start ev_w1 gl1
  obtain ⟨w2, ev_w2⟩ := exa_v gl3
  have S_w2 : Sta s s.heap "com/example/sablegrid/sablegrid/io/BinaryProtocol$Operation" "PUT" "Lcom/example/sablegrid/sablegrid/io/BinaryProtocol$Operation;" (.ref w2) := Sta.start ev_w2 (Or.inr ⟨(hw _ (List.mem_of_getElem? (i := 2) rfl)), (hw _ (List.mem_of_getElem? (i := 16) rfl))⟩)
  have E_w2 : Exa s s.heap w2 "com/example/sablegrid/sablegrid/io/BinaryProtocol$Operation" := Exa.start ev_w2 gl3
  obtain ⟨w3, ev_w3⟩ := exa_v gl5
  have S_w3 : Sta s s.heap "com/example/sablegrid/sablegrid/io/BinaryProtocol$Operation" "GET" "Lcom/example/sablegrid/sablegrid/io/BinaryProtocol$Operation;" (.ref w3) := Sta.start ev_w3 (Or.inr ⟨(hw _ (List.mem_of_getElem? (i := 2) rfl)), (hw _ (List.mem_of_getElem? (i := 17) rfl))⟩)
  have E_w3 : Exa s s.heap w3 "com/example/sablegrid/sablegrid/io/BinaryProtocol$Operation" := Exa.start ev_w3 gl5
  obtain ⟨w4, ev_w4⟩ := exa_v gl7
  have S_w4 : Sta s s.heap "com/example/sablegrid/sablegrid/io/BinaryProtocol$Operation" "PUT_IF_ABSENT" "Lcom/example/sablegrid/sablegrid/io/BinaryProtocol$Operation;" (.ref w4) := Sta.start ev_w4 (Or.inr ⟨(hw _ (List.mem_of_getElem? (i := 2) rfl)), (hw _ (List.mem_of_getElem? (i := 18) rfl))⟩)
  have E_w4 : Exa s s.heap w4 "com/example/sablegrid/sablegrid/io/BinaryProtocol$Operation" := Exa.start ev_w4 gl7
  obtain ⟨w5, ev_w5⟩ := exa_v gl9
  have S_w5 : Sta s s.heap "com/example/sablegrid/sablegrid/io/BinaryProtocol$Operation" "REMOVE" "Lcom/example/sablegrid/sablegrid/io/BinaryProtocol$Operation;" (.ref w5) := Sta.start ev_w5 (Or.inr ⟨(hw _ (List.mem_of_getElem? (i := 2) rfl)), (hw _ (List.mem_of_getElem? (i := 19) rfl))⟩)
  have E_w5 : Exa s s.heap w5 "com/example/sablegrid/sablegrid/io/BinaryProtocol$Operation" := Exa.start ev_w5 gl9
  obtain ⟨w6, ev_w6⟩ := exa_v gl11
  have S_w6 : Sta s s.heap "com/example/sablegrid/sablegrid/io/BinaryProtocol$Operation" "CONTAINS_KEY" "Lcom/example/sablegrid/sablegrid/io/BinaryProtocol$Operation;" (.ref w6) := Sta.start ev_w6 (Or.inr ⟨(hw _ (List.mem_of_getElem? (i := 2) rfl)), (hw _ (List.mem_of_getElem? (i := 20) rfl))⟩)
  have E_w6 : Exa s s.heap w6 "com/example/sablegrid/sablegrid/io/BinaryProtocol$Operation" := Exa.start ev_w6 gl11
  obtain ⟨w7, ev_w7⟩ := exa_v gl13
  have S_w7 : Sta s s.heap "com/example/sablegrid/sablegrid/io/BinaryProtocol$Operation" "PING" "Lcom/example/sablegrid/sablegrid/io/BinaryProtocol$Operation;" (.ref w7) := Sta.start ev_w7 (Or.inr ⟨(hw _ (List.mem_of_getElem? (i := 2) rfl)), (hw _ (List.mem_of_getElem? (i := 21) rfl))⟩)
  have E_w7 : Exa s s.heap w7 "com/example/sablegrid/sablegrid/io/BinaryProtocol$Operation" := Exa.start ev_w7 gl13
  have F_w2_code : Fld s s.heap w2 "com/example/sablegrid/sablegrid/io/BinaryProtocol$Operation" "code" "I" (.int (1 : Int32)) := Fld.start ((fld_at ev_w2).symm.trans (eqv_i rfl gl15))
  have F_w3_code : Fld s s.heap w3 "com/example/sablegrid/sablegrid/io/BinaryProtocol$Operation" "code" "I" (.int (3 : Int32)) := Fld.start ((fld_at ev_w3).symm.trans (eqv_i rfl gl16))
  have F_w4_code : Fld s s.heap w4 "com/example/sablegrid/sablegrid/io/BinaryProtocol$Operation" "code" "I" (.int (5 : Int32)) := Fld.start ((fld_at ev_w4).symm.trans (eqv_i rfl gl17))
  have F_w5_code : Fld s s.heap w5 "com/example/sablegrid/sablegrid/io/BinaryProtocol$Operation" "code" "I" (.int (11 : Int32)) := Fld.start ((fld_at ev_w5).symm.trans (eqv_i rfl gl18))
  have F_w6_code : Fld s s.heap w6 "com/example/sablegrid/sablegrid/io/BinaryProtocol$Operation" "code" "I" (.int (15 : Int32)) := Fld.start ((fld_at ev_w6).symm.trans (eqv_i rfl gl19))
  have F_w7_code : Fld s s.heap w7 "com/example/sablegrid/sablegrid/io/BinaryProtocol$Operation" "code" "I" (.int (23 : Int32)) := Fld.start ((fld_at ev_w7).symm.trans (eqv_i rfl gr19))
  obtain ⟨cl_w1, Ar_w1⟩ := Arr.start ev_w1 gl0
  obtain ⟨lz_w1, ln_w1⟩ := own_len Ar_w1 ev_w1 (eqv_i rfl gl2)
  obtain ⟨kw1, hk_w1⟩ : ∃ k, k = cl_w1.cls := ⟨_, rfl⟩
  have A_w1 : Arv s s.heap w1 kw1 (.object "com/example/sablegrid/sablegrid/io/BinaryProtocol$Operation") (6 : Int32) [(.ref w2), (.ref w3), (.ref w4), (.ref w5), (.ref w6), (.ref w7)] .null := hk_w1 ▸ Arv.start hfit Ar_w1 lz_w1 ln_w1 (by decide) rfl ⟨(elem_in (own_eqR ev_w2 gl4) ev_w1 rfl Ar_w1.1).2, ⟨(elem_in (own_eqR ev_w3 gl6) ev_w1 rfl Ar_w1.1).2, ⟨(elem_in (own_eqR ev_w4 gl8) ev_w1 rfl Ar_w1.1).2, ⟨(elem_in (own_eqR ev_w5 gl10) ev_w1 rfl Ar_w1.1).2, ⟨(elem_in (own_eqR ev_w6 gl12) ev_w1 rfl Ar_w1.1).2, ⟨(elem_in (own_eqR ev_w7 gl14) ev_w1 rfl Ar_w1.1).2, trivial⟩⟩⟩⟩⟩⟩
  have G : GW s w1 w2 w3 w4 w5 w6 w7 kw1 := ⟨S_w1, E_w1, S_w2, E_w2, S_w3, E_w3, S_w4, E_w4, S_w5, E_w5, S_w6, E_w6, S_w7, E_w7, F_w2_code, F_w3_code, F_w4_code, F_w5_code, F_w6_code, F_w7_code, A_w1⟩
  obtain ⟨n, o, h1, h2, h3, _, L, rfl, ⟨rfl, N⟩, hq⟩ := rm0 l s _ hw w1 w2 w3 w4 w5 w6 w7 kw1 G tables_1 i0 i1 s.heap s.heap.size (Old.start s) p e ha hc hk s m _ below hf ((Spec.applies_iff_loose hf).mp happ).1 ⟨rfl, State.Warmed39.refl s, rfl⟩ trivial
  refine ⟨n, _, h1, h2, h3, hpost _ _ _ _ _ _ ⟨Cond.after_iff.mpr rfl, Cond.after_iff.mpr (eq_i res_at (Term.int_eval (1)) rfl), trivial⟩ ⟨hq.1, hq.2.1, (hq.2.2.sift fun y hy => Or.inr (N y hy)).mono (by decide) (by decide)⟩⟩
theorem main_1_1 : Claimed_1_1 := comes_1 fun _ _ _ _ _ _ h hF => ⟨h.1, hF⟩
theorem main_1_2 : Claimed_1_2 := comes_1 fun _ _ _ _ _ _ h hF => ⟨h.2.1, hF⟩
end Jvm.Pilot.@@N@@
namespace Jvm.Pilot.@@N@@
open Jvm Jvm.ClassFile Sem Op Lib Jvm.Free Jvm.Stand Jvm.Pilot.@@N@@.Jvm.D
/-! MADE BY PROGRAM (witnessworld.py) out of the Statement's table words and the real class files: 13 classes; the members and pool entries that the words name. The judged class is class 1, her method 1. -/
namespace start1
open Jvm.ClassFile
def u (s : String) : CpInfo := .utf8 (stringToUtf16 s)
/-- a pool by its gaps: so many unusable entries, then the entry; so many at the end -/
def gap : Nat → List CpInfo → List CpInfo
  | 0, r => r
  | n + 1, r => .unusable :: gap n r
def poolList (es : List (Nat × CpInfo)) (last : Nat) : List CpInfo := es.foldr (fun e r => gap e.1 (e.2 :: r)) (gap last [])
def pool (es : List (Nat × CpInfo)) (last : Nat) : Array CpInfo := ⟨poolList es last⟩
def fileOf (pool : Array CpInfo) (this : Nat) (attrs : Array Attribute := #[]) (ms : Array MethodInfo := #[]) (fl : Nat := 33) (sup : Nat := 0) (ifs : Array Nat := #[]) (fds : Array FieldInfo := #[]) : ClassFile where
  minorVersion := 0
  majorVersion := 65
  constantPool := pool
  accessFlags := fl
  thisClass := this
  superClass := sup
  interfaces := ifs
  fields := fds
  methods := ms
  attributes := attrs
def plain (name : String) (sup : Option ClassId) : Class where
  name := name
  kind := .ordinary
  loader := none
  accessFlags := 33
  super := sup
  interfaces := #[]
  cf := none
  fields := #[]
  methods := #[]
  instanceTypes := #[]
  staticTypes := #[]
  resolved := #[]
  callSites := []
  init := .initialized
  statics := none
  mirror := none

def pool0 : Array CpInfo := pool [(5, u "<init>"), (0, u "()V"), (1, .class_ 10), (1, u "java/lang/Object"), (85, u "clone"), (0, u "()Ljava/lang/Object;")] 26

def k0m0 : Method := { name := "<init>", desc := "()V", sig := { parameters := [], returnType := none }, accessFlags := 1, code := none }
def k0m1 : Method := { name := "clone", desc := "()Ljava/lang/Object;", sig := { parameters := [], returnType := some (.object "java/lang/Object") }, accessFlags := 260, code := none }
/-- java/lang/Object -/
def k0 : Class := { plain "java/lang/Object" none with
  accessFlags := 33
  interfaces := #[]
  cf := some (fileOf pool0 8 #[] #[{ accessFlags := 1, nameIndex := 5, descriptorIndex := 6, attributes := #[] }, { accessFlags := 260, nameIndex := 96, descriptorIndex := 97, attributes := #[] }] 33 0 #[] #[])
  fields := #[]
  methods := #[k0m0, k0m1]
  instanceTypes := #[]
  staticTypes := #[]
  resolved := Array.replicate 124 none
  statics := none }

def pool1 : Array CpInfo := pool [(2, .class_ 4), (1, u "java/lang/Object"), (0, u "<init>"), (0, u "()V"), (0, .methodref 8 9), (0, .class_ 10), (0, .nameAndType 11 12), (0, u "com/example/sablegrid/sablegrid/io/BinaryProtocol$Operation"), (0, u "of"), (0, u "(I)Lcom/example/sablegrid/sablegrid/io/BinaryProtocol$Operation;"), (0, .methodref 14 15), (0, .class_ 16), (0, .nameAndType 17 12), (0, u "com/example/sablegrid/sablegrid/io/OperationOfPinLaw"), (0, u "expected"), (0, .fieldref 8 19), (0, .nameAndType 20 21), (0, u "PUT"), (0, u "Lcom/example/sablegrid/sablegrid/io/BinaryProtocol$Operation;"), (0, .fieldref 8 23), (0, .nameAndType 24 21), (0, u "GET"), (0, .fieldref 8 26), (0, .nameAndType 27 21), (0, u "PUT_IF_ABSENT"), (0, .fieldref 8 29), (0, .nameAndType 30 21), (0, u "REMOVE"), (0, .fieldref 8 32), (0, .nameAndType 33 21), (0, u "CONTAINS_KEY"), (0, .fieldref 8 35), (0, .nameAndType 36 21), (0, u "PING"), (2, u "law"), (0, u "(II)Z")] 7

def k1m0 : Method := { name := "<init>", desc := "()V", sig := { parameters := [], returnType := none }, accessFlags := 2, code := none }
def k1c1 : Code := { maxStack := 2, maxLocals := 4, code := code, exceptionTable := #[], attributes := #[] }
def k1m1 : Method := { name := "law", desc := "(II)Z", sig := { parameters := [.int, .int], returnType := some .boolean }, accessFlags := 9, code := some k1c1 }
def k1c2 : Code := { maxStack := 2, maxLocals := 1, code := method_3_code, exceptionTable := #[], attributes := #[] }
def k1m2 : Method := { name := "expected", desc := "(I)Lcom/example/sablegrid/sablegrid/io/BinaryProtocol$Operation;", sig := { parameters := [.int], returnType := some (.object "com/example/sablegrid/sablegrid/io/BinaryProtocol$Operation") }, accessFlags := 10, code := some k1c2 }
/-- com/example/sablegrid/sablegrid/io/OperationOfPinLaw -/
def k1 : Class := { plain "com/example/sablegrid/sablegrid/io/OperationOfPinLaw" (some 0) with
  accessFlags := 49
  interfaces := #[]
  cf := some (fileOf pool1 14 #[] #[{ accessFlags := 2, nameIndex := 5, descriptorIndex := 6, attributes := #[] }, { accessFlags := 9, nameIndex := 39, descriptorIndex := 40, attributes := #[] }, { accessFlags := 10, nameIndex := 17, descriptorIndex := 12, attributes := #[] }] 49 2 #[] #[])
  fields := #[]
  methods := #[k1m0, k1m1, k1m2]
  instanceTypes := #[]
  staticTypes := #[]
  resolved := Array.replicate 48 none
  statics := none }

def pool2 : Array CpInfo := pool [(1, .class_ 2), (0, u "java/lang/constant/Constable"), (0, .class_ 4), (0, u "java/lang/Object")] 6

/-- java/lang/constant/Constable -/
def k2 : Class := { plain "java/lang/constant/Constable" (some 0) with
  accessFlags := 1537
  interfaces := #[]
  cf := some (fileOf pool2 1 #[] #[] 1537 3 #[] #[])
  fields := #[]
  methods := #[]
  instanceTypes := #[]
  staticTypes := #[]
  resolved := Array.replicate 11 none
  statics := none }

def pool3 : Array CpInfo := pool [(1, .class_ 2), (0, u "java/lang/Comparable"), (0, .class_ 4), (0, u "java/lang/Object")] 7

/-- java/lang/Comparable -/
def k3 : Class := { plain "java/lang/Comparable" (some 0) with
  accessFlags := 1537
  interfaces := #[]
  cf := some (fileOf pool3 1 #[] #[] 1537 3 #[] #[])
  fields := #[]
  methods := #[]
  instanceTypes := #[]
  staticTypes := #[]
  resolved := Array.replicate 12 none
  statics := none }

def pool4 : Array CpInfo := pool [(1, .class_ 2), (0, u "java/io/Serializable"), (0, .class_ 4), (0, u "java/lang/Object")] 2

/-- java/io/Serializable -/
def k4 : Class := { plain "java/io/Serializable" (some 0) with
  accessFlags := 1537
  interfaces := #[]
  cf := some (fileOf pool4 1 #[] #[] 1537 3 #[] #[])
  fields := #[]
  methods := #[]
  instanceTypes := #[]
  staticTypes := #[]
  resolved := Array.replicate 7 none
  statics := none }

def pool5 : Array CpInfo := pool [(2, .class_ 4), (1, u "java/lang/Enum"), (0, u "name"), (0, u "Ljava/lang/String;"), (2, u "ordinal"), (0, u "I"), (1, .class_ 14), (1, u "java/lang/Object"), (4, u "hash"), (86, .class_ 108), (1, u "java/lang/Enum$EnumDesc"), (2, .class_ 112), (0, u "java/lang/constant/Constable"), (0, .class_ 114), (0, u "java/lang/Comparable"), (0, .class_ 116), (0, u "java/io/Serializable")] 87

/-- java/lang/Enum -/
def k5 : Class := { plain "java/lang/Enum" (some 0) with
  accessFlags := 1057
  interfaces := #[2, 3, 4]
  cf := some (fileOf pool5 2 #[.nestMembers #[106]] #[] 1057 12 #[111, 113, 115] #[{ accessFlags := 18, nameIndex := 5, descriptorIndex := 6, attributes := #[] }, { accessFlags := 18, nameIndex := 9, descriptorIndex := 10, attributes := #[] }, { accessFlags := 2, nameIndex := 19, descriptorIndex := 10, attributes := #[] }])
  fields := #[{ name := "name", type := (.object "java/lang/String"), accessFlags := 18, slot := 0, constantValue := 0 }, { name := "ordinal", type := .int, accessFlags := 18, slot := 1, constantValue := 0 }, { name := "hash", type := .int, accessFlags := 2, slot := 2, constantValue := 0 }]
  methods := #[]
  instanceTypes := #[(.object "java/lang/String"), .int, .int]
  staticTypes := #[]
  resolved := Array.replicate 204 none
  statics := none }

def pool6 : Array CpInfo := pool [(1, .class_ 2), (0, u "com/example/sablegrid/sablegrid/io/BinaryProtocol$Operation"), (2, u "PUT"), (0, u "Lcom/example/sablegrid/sablegrid/io/BinaryProtocol$Operation;"), (2, u "GET"), (2, u "PUT_IF_ABSENT"), (2, u "REMOVE"), (2, u "CONTAINS_KEY"), (2, u "PING"), (0, .fieldref 1 23), (0, .nameAndType 24 25), (0, u "$VALUES"), (0, u "[Lcom/example/sablegrid/sablegrid/io/BinaryProtocol$Operation;"), (0, .methodref 27 28), (0, .class_ 25), (0, .nameAndType 29 30), (0, u "clone"), (0, u "()Ljava/lang/Object;"), (1, .class_ 34), (1, u "java/lang/Enum"), (6, .fieldref 1 42), (0, .nameAndType 43 44), (0, u "code"), (0, u "I"), (2, u "takesKey"), (0, u "Z"), (2, u "takesValue"), (0, .methodref 1 53), (0, .nameAndType 54 55), (0, u "values"), (0, u "()[Lcom/example/sablegrid/sablegrid/io/BinaryProtocol$Operation;"), (18, u "of"), (0, u "(I)Lcom/example/sablegrid/sablegrid/io/BinaryProtocol$Operation;"), (10, .class_ 87), (0, u "com/example/sablegrid/sablegrid/io/BinaryProtocol")] 2

def k6c0 : Code := { maxStack := 1, maxLocals := 0, code := prog_2_method_1_code, exceptionTable := #[], attributes := #[] }
def k6m0 : Method := { name := "values", desc := "()[Lcom/example/sablegrid/sablegrid/io/BinaryProtocol$Operation;", sig := { parameters := [], returnType := some (.array (.object "com/example/sablegrid/sablegrid/io/BinaryProtocol$Operation")) }, accessFlags := 9, code := some k6c0 }
def k6c1 : Code := { maxStack := 2, maxLocals := 5, code := prog_2_method_4_code, exceptionTable := #[], attributes := #[] }
def k6m1 : Method := { name := "of", desc := "(I)Lcom/example/sablegrid/sablegrid/io/BinaryProtocol$Operation;", sig := { parameters := [.int], returnType := some (.object "com/example/sablegrid/sablegrid/io/BinaryProtocol$Operation") }, accessFlags := 8, code := some k6c1 }
/-- com/example/sablegrid/sablegrid/io/BinaryProtocol$Operation -/
def k6 : Class := { plain "com/example/sablegrid/sablegrid/io/BinaryProtocol$Operation" (some 5) with
  accessFlags := 16432
  interfaces := #[]
  cf := some (fileOf pool6 1 #[.nestHost 86] #[{ accessFlags := 9, nameIndex := 54, descriptorIndex := 55, attributes := #[] }, { accessFlags := 8, nameIndex := 74, descriptorIndex := 75, attributes := #[] }] 16432 32 #[] #[{ accessFlags := 16409, nameIndex := 5, descriptorIndex := 6, attributes := #[] }, { accessFlags := 16409, nameIndex := 9, descriptorIndex := 6, attributes := #[] }, { accessFlags := 16409, nameIndex := 12, descriptorIndex := 6, attributes := #[] }, { accessFlags := 16409, nameIndex := 15, descriptorIndex := 6, attributes := #[] }, { accessFlags := 16409, nameIndex := 18, descriptorIndex := 6, attributes := #[] }, { accessFlags := 16409, nameIndex := 21, descriptorIndex := 6, attributes := #[] }, { accessFlags := 18, nameIndex := 43, descriptorIndex := 44, attributes := #[] }, { accessFlags := 18, nameIndex := 47, descriptorIndex := 48, attributes := #[] }, { accessFlags := 18, nameIndex := 51, descriptorIndex := 48, attributes := #[] }, { accessFlags := 4122, nameIndex := 24, descriptorIndex := 25, attributes := #[] }])
  fields := #[{ name := "PUT", type := (.object "com/example/sablegrid/sablegrid/io/BinaryProtocol$Operation"), accessFlags := 16409, slot := 0, constantValue := 0 }, { name := "GET", type := (.object "com/example/sablegrid/sablegrid/io/BinaryProtocol$Operation"), accessFlags := 16409, slot := 1, constantValue := 0 }, { name := "PUT_IF_ABSENT", type := (.object "com/example/sablegrid/sablegrid/io/BinaryProtocol$Operation"), accessFlags := 16409, slot := 2, constantValue := 0 }, { name := "REMOVE", type := (.object "com/example/sablegrid/sablegrid/io/BinaryProtocol$Operation"), accessFlags := 16409, slot := 3, constantValue := 0 }, { name := "CONTAINS_KEY", type := (.object "com/example/sablegrid/sablegrid/io/BinaryProtocol$Operation"), accessFlags := 16409, slot := 4, constantValue := 0 }, { name := "PING", type := (.object "com/example/sablegrid/sablegrid/io/BinaryProtocol$Operation"), accessFlags := 16409, slot := 5, constantValue := 0 }, { name := "code", type := .int, accessFlags := 18, slot := 3, constantValue := 0 }, { name := "takesKey", type := .boolean, accessFlags := 18, slot := 4, constantValue := 0 }, { name := "takesValue", type := .boolean, accessFlags := 18, slot := 5, constantValue := 0 }, { name := "$VALUES", type := (.array (.object "com/example/sablegrid/sablegrid/io/BinaryProtocol$Operation")), accessFlags := 4122, slot := 6, constantValue := 0 }]
  methods := #[k6m0, k6m1]
  instanceTypes := #[(.object "java/lang/String"), .int, .int, .int, .boolean, .boolean]
  staticTypes := #[(.object "com/example/sablegrid/sablegrid/io/BinaryProtocol$Operation"), (.object "com/example/sablegrid/sablegrid/io/BinaryProtocol$Operation"), (.object "com/example/sablegrid/sablegrid/io/BinaryProtocol$Operation"), (.object "com/example/sablegrid/sablegrid/io/BinaryProtocol$Operation"), (.object "com/example/sablegrid/sablegrid/io/BinaryProtocol$Operation"), (.object "com/example/sablegrid/sablegrid/io/BinaryProtocol$Operation"), (.array (.object "com/example/sablegrid/sablegrid/io/BinaryProtocol$Operation"))]
  resolved := Array.replicate 90 none
  statics := some 0 }

def pool7 : Array CpInfo := pool [(1, .class_ 2), (0, u "java/lang/Cloneable"), (0, .class_ 4), (0, u "java/lang/Object")] 2

/-- java/lang/Cloneable -/
def k7 : Class := { plain "java/lang/Cloneable" (some 0) with
  accessFlags := 1537
  interfaces := #[]
  cf := some (fileOf pool7 1 #[] #[] 1537 3 #[] #[])
  fields := #[]
  methods := #[]
  instanceTypes := #[]
  staticTypes := #[]
  resolved := Array.replicate 7 none
  statics := none }

/-- the primitive byte -/
def k8 : Class := { plain "byte" none with kind := .primitive 'B', accessFlags := 0x411 }
/-- [B -/
def k9 : Class := { plain "[B" (some 0) with kind := .array 8 .byte, interfaces := #[7, 4], accessFlags := 1041 }

/-- the primitive int -/
def k10 : Class := { plain "int" none with kind := .primitive 'I', accessFlags := 0x411 }
/-- [I -/
def k11 : Class := { plain "[I" (some 0) with kind := .array 10 .int, interfaces := #[7, 4], accessFlags := 1041 }

/-- [Lcom/example/sablegrid/sablegrid/io/BinaryProtocol$Operation; -/
def k12 : Class := { plain "[Lcom/example/sablegrid/sablegrid/io/BinaryProtocol$Operation;" (some 0) with kind := .array 6 (.object "com/example/sablegrid/sablegrid/io/BinaryProtocol$Operation"), interfaces := #[7, 4], accessFlags := 1041 }

def heap : Heap := #[{ cls := 6, slots := #[.ref 2, .ref 3, .ref 4, .ref 5, .ref 6, .ref 7, .ref 1], vm := .statics 6 },
  { cls := 12, slots := #[.ref 2, .ref 3, .ref 4, .ref 5, .ref 6, .ref 7], vm := .none },
  { cls := 6, slots := #[.null, .int 0, .int 0, .int 1, .int 0, .int 0], vm := .none },
  { cls := 6, slots := #[.null, .int 0, .int 0, .int 3, .int 0, .int 0], vm := .none },
  { cls := 6, slots := #[.null, .int 0, .int 0, .int 5, .int 0, .int 0], vm := .none },
  { cls := 6, slots := #[.null, .int 0, .int 0, .int 11, .int 0, .int 0], vm := .none },
  { cls := 6, slots := #[.null, .int 0, .int 0, .int 15, .int 0, .int 0], vm := .none },
  { cls := 6, slots := #[.null, .int 0, .int 0, .int 23, .int 0, .int 0], vm := .none }]
def classes : Array Class := #[k0, k1, k2, k3, k4, k5, k6, k7, k8, k9, k10, k11, k12]
def interned : List (Array UInt16 × Addr) := []
def slotsUsed : Nat := 49
def theMethod : MethodId := ⟨1, 1⟩
def args0 : Array Value := #[.int 5, .int 5]
def aboutOver (below : List Frame) : State where
  vm := { classes := classes, interned := interned.toArray }
  heap := heap
  slotsUsed := slotsUsed
  threads := #[{ frames := .invoking theMethod args0 :: below }]
def below0 : List Frame := [.native { method := ⟨0, 0⟩, args := #[] }]
def about1 : State := aboutOver below0
def p0 : Program := .bare "" "" ""
def e0 : Env := launch0.env 0 0 0
theorem w_frames : about1.frames = Frame.invoking theMethod args0 :: below0 := rfl
set_option maxRecDepth 65536 in
theorem w_args : argsFit about1.vm theMethod args0 = true := by decide +kernel
set_option maxRecDepth 65536 in
theorem w_heap : heapFits about1 = true := by decide +kernel
set_option maxRecDepth 65536 in
theorem w_runnable : about1.curStatus? = some .runnable := by decide +kernel
set_option maxRecDepth 65536 in
theorem w_alone : about1.alone = true := by decide +kernel
set_option maxRecDepth 65536 in
theorem w_named : about1.methodNamed? x = some theMethod := by decide +kernel
set_option maxRecDepth 65536 in
theorem w_hears : about1.hears theMethod below0 = true := by decide +kernel
set_option maxRecDepth 65536 in
theorem w_ripe : about1.ripe theMethod args0 below0 = true := by decide +kernel
theorem w_running : about1.status = .running := rfl
set_option maxRecDepth 65536 in
theorem w_room : about1.hasRoom e0.platform room_1 = true :=
  launch0.hasRoom_least _ room_1 (by decide +kernel) (by decide +kernel) (by decide +kernel) (by decide +kernel) (by decide +kernel) (by decide +kernel)
theorem allAtoms_all (ts : List Jvm.Cond) (a : Array Jvm.Value) (st : Jvm.State) : (allAtoms ts).before a st = ts.all (fun c => c.before a st) := by
  induction ts with
  | nil => rfl
  | cons c t ih =>
    show (Jvm.Cond.and c (allAtoms t)).before a st = _
    rw [Jvm.Cond.before_and, ih, List.all_cons]
def words1 : List Jvm.Cond := Jvm.Cond.code x code maxLocals ret :: tables_1
/-- a 'code' word, met by the world's own term for the bytes: nothing is compared byte by byte -/
theorem code_word {y : MethodName} {bytes : ByteArray} {mx : Nat} {rt : Option FieldType} {a : Array Value} {s : State} {m : MethodId} {meth : Method} {c : Code} (h1 : s.methodNamed? y = some m) (h2 : s.vm.method? m = some meth) (h3 : meth.code = some c) (h4 : c.code = bytes)
    (h5 : (c.maxLocals == mx && c.exceptionTable.isEmpty && decide (c.maxStack ≤ mostOperands) && decide (meth.sig.returnType = rt) && !meth.locks && decide (parseMethodDescriptor y.desc = some meth.sig)) = true) : (Jvm.Cond.code y bytes mx rt).before a s = true := by
  simp only [Bool.and_eq_true, beq_iff_eq, Bool.not_eq_true', decide_eq_true_eq] at h5
  obtain ⟨⟨⟨⟨⟨g1, g2⟩, g3⟩, g4⟩, g5⟩, g6⟩ := h5
  simp [Cond.before, Cond.holds, Cond.value, h1, h2, h3, h4, g1, g2, g3, g4, g5, g6]
def isCode : Jvm.Cond → Bool
  | .code _ _ _ _ => true
  | _ => false
theorem all_split {L : List Jvm.Cond} {P : Jvm.Cond → Bool} (h1 : L.all (fun c => isCode c || P c) = true) (h2 : ∀ c ∈ L.filter isCode, P c = true) : L.all P = true := by
  refine List.all_eq_true.mpr fun c hc => ?_
  have h := List.all_eq_true.mp h1 c hc
  rcases Bool.eq_false_or_eq_true (isCode c) with hi | hi
  · exact h2 c (List.mem_filter.mpr ⟨hc, hi⟩)
  · simpa [hi] using h
set_option maxRecDepth 65536 in
theorem w_c0 : (Jvm.Cond.code x code maxLocals ret).before args0 about1 = true := code_word (m := ⟨1, 1⟩) (meth := k1m1) (c := k1c1) (by decide +kernel) rfl rfl rfl (by decide +kernel)
set_option maxRecDepth 65536 in
theorem w_c1 : (Jvm.Cond.code ({ cls := "com/example/sablegrid/sablegrid/io/BinaryProtocol$Operation", name := "of", desc := "(I)Lcom/example/sablegrid/sablegrid/io/BinaryProtocol$Operation;" } : Jvm.MethodName) prog_2_method_4_code (5 : Nat) (Option.some (Jvm.ClassFile.FieldType.object "com/example/sablegrid/sablegrid/io/BinaryProtocol$Operation"))).before args0 about1 = true := code_word (m := ⟨6, 1⟩) (meth := k6m1) (c := k6c1) (by decide +kernel) rfl rfl rfl (by decide +kernel)
set_option maxRecDepth 65536 in
theorem w_c2 : (Jvm.Cond.code ({ cls := "com/example/sablegrid/sablegrid/io/BinaryProtocol$Operation", name := "values", desc := "()[Lcom/example/sablegrid/sablegrid/io/BinaryProtocol$Operation;" } : Jvm.MethodName) prog_2_method_1_code (0 : Nat) (Option.some (Jvm.ClassFile.FieldType.array (Jvm.ClassFile.FieldType.object "com/example/sablegrid/sablegrid/io/BinaryProtocol$Operation")))).before args0 about1 = true := code_word (m := ⟨6, 0⟩) (meth := k6m0) (c := k6c0) (by decide +kernel) rfl rfl rfl (by decide +kernel)
set_option maxRecDepth 65536 in
theorem w_c3 : (Jvm.Cond.code ({ cls := "com/example/sablegrid/sablegrid/io/OperationOfPinLaw", name := "expected", desc := "(I)Lcom/example/sablegrid/sablegrid/io/BinaryProtocol$Operation;" } : Jvm.MethodName) method_3_code (1 : Nat) (Option.some (Jvm.ClassFile.FieldType.object "com/example/sablegrid/sablegrid/io/BinaryProtocol$Operation"))).before args0 about1 = true := code_word (m := ⟨1, 2⟩) (meth := k1m2) (c := k1c2) (by decide +kernel) rfl rfl rfl (by decide +kernel)
def codes1 : List Jvm.Cond := [Jvm.Cond.code x code maxLocals ret, Jvm.Cond.code ({ cls := "com/example/sablegrid/sablegrid/io/BinaryProtocol$Operation", name := "of", desc := "(I)Lcom/example/sablegrid/sablegrid/io/BinaryProtocol$Operation;" } : Jvm.MethodName) prog_2_method_4_code (5 : Nat) (Option.some (Jvm.ClassFile.FieldType.object "com/example/sablegrid/sablegrid/io/BinaryProtocol$Operation")), Jvm.Cond.code ({ cls := "com/example/sablegrid/sablegrid/io/BinaryProtocol$Operation", name := "values", desc := "()[Lcom/example/sablegrid/sablegrid/io/BinaryProtocol$Operation;" } : Jvm.MethodName) prog_2_method_1_code (0 : Nat) (Option.some (Jvm.ClassFile.FieldType.array (Jvm.ClassFile.FieldType.object "com/example/sablegrid/sablegrid/io/BinaryProtocol$Operation"))), Jvm.Cond.code ({ cls := "com/example/sablegrid/sablegrid/io/OperationOfPinLaw", name := "expected", desc := "(I)Lcom/example/sablegrid/sablegrid/io/BinaryProtocol$Operation;" } : Jvm.MethodName) method_3_code (1 : Nat) (Option.some (Jvm.ClassFile.FieldType.object "com/example/sablegrid/sablegrid/io/BinaryProtocol$Operation"))]
set_option maxRecDepth 65536 in
theorem codes_eq : words1.filter isCode = codes1 := rfl
theorem w_codes : ∀ c ∈ words1.filter isCode, c.before args0 about1 = true := by
  rw [codes_eq]
  intro c hc
  simp only [codes1, List.mem_cons, List.not_mem_nil, or_false] at hc
  rcases hc with rfl | rfl | rfl | rfl
  · exact w_c0
  · exact w_c1
  · exact w_c2
  · exact w_c3
set_option maxRecDepth 65536 in
theorem w_t1 : (words1.take 24).all (fun c => isCode c || c.before args0 about1) = true := by decide +kernel
set_option maxRecDepth 65536 in
theorem w_t2 : (words1.drop 24).all (fun c => isCode c || c.before args0 about1) = true := by decide +kernel
theorem w_tables : (allAtoms (Jvm.Cond.code x code maxLocals ret :: tables_1)).before args0 about1 = true := by
  rw [allAtoms_all]
  show words1.all (fun c => c.before args0 about1) = true
  refine all_split ?_ w_codes
  rw [← List.take_append_drop 24 words1, List.all_append, w_t1, w_t2]
  rfl
set_option maxRecDepth 65536 in
theorem w_case : (Jvm.Cond.and given_1 narrow_1).before args0 about1 = true := by decide +kernel
theorem w_applies : (headSpec (Jvm.Cond.code x code maxLocals ret :: tables_1) room_1).applies x e0.platform about1 = true :=
  (Spec.applies_iff w_frames).mpr ⟨w_running, w_runnable, w_alone, w_named, w_hears, w_ripe, w_room, w_tables⟩
theorem atStart : AtStart classFile x code maxLocals ret World_1 tables_1 room_1 Calls_1 rest_1 Pre_1 launch0 p0 e0 about1 theMethod args0 below0 :=
  ⟨lists_1, trivial, launch0.admits_env _ _ _, launch0.least_env, fairChoices_fair.cas, fairChoices_fair.clock, w_frames, w_args, w_heap, w_applies, trivial, trivial, w_case⟩
end start1
theorem witness_1 : WitnessClaimed_1 := ⟨start1.p0, start1.e0, start1.about1, start1.theMethod, start1.args0, start1.below0, start1.atStart⟩
end Jvm.Pilot.@@N@@
