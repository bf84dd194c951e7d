import JvmDerived
import JvmDerived.Pilot.@@N@@Statement
import JvmDerived.Pilot.@@N@@Code
set_option linter.unusedVariables false
set_option linter.unusedSimpArgs false
namespace Jvm.RoadKit
open Sem ClassFile Op Lib Jvm.Stand Jvm.Free Jvm.LawKit
section New
variable {p : Program} {l : Launch} {e : Env} {R : Room} {s : State} {m : MethodId} {args : Array Value} {below : List Frame} {meth : Method} {c : Code} {T : State} {locs : List Loc} {cells slots : Nat}
theorem retI (X : Stand p l e R s m args below meth c T locs cells slots) (hx : p.tables.exec = Jvm.exec) {pc : Nat} {Ls : Array Slot} {z : Int32} {rest : List Value} (hret : meth.sig.returnType = some .int) (hd : decode c.code pc = .ok (.ireturn, 1)) {fs : List Frame}
    (hl : ∀ (f : JFrame) (acts : List Action), f.method = m → f.locked = none → f.entered = [] → (doReturn e (T.setTop f) acts (some (.int z))).1 = T.setFrames fs) : Steps p.tables e below (T.setTop (mkF m pc Ls (.int z :: rest))) (T.setFrames fs) := by
  have hm' : T.vm.method? m = some meth := X.method'
  have hn : narrow .int (.int z) = .int z := rfl
  show Steps p.tables e below (T.setTop { method := m, pc := pc, locals := Ls, stack := _ :: rest, locked := none }) _
  jvm_step X.here [X.here.top, hx, hd, hm', hret, hn]
  first | (intro acts; rw [hl _ acts rfl rfl rfl]) | rw [hl _ _ rfl rfl rfl]
  exact Steps.refl _
end New
end Jvm.RoadKit
namespace Jvm.Pilot.@@N@@
open Jvm Jvm.ClassFile Sem Op Lib Jvm.Free Jvm.Stand Jvm.LawKit Jvm.RoadKit Bundle Jvm.Pilot.@@N@@.Jvm.D
theorem own_oz {Z : State} {n0 : Nat} {h : Heap} (O : Old Z n0 h) : n0 ≤ h.size := by
  rw [← O.1]; exact O.2.1
theorem own_lsw {tb : Tables} [Ours tb] {e : Env} {below : List Frame} {T target : State} {m : MethodId} {c : Code} {g : JFrame} (h : At T m c below) (hx : tb.exec = Jvm.exec) (hg : g.method = m) {dflt : Int} {prs : Array (Int × Int)} {len : Nat} {o : Int} {pc0 pc' : Nat} (hpc : g.pc = pc0) (hd : decode c.code g.pc = .ok (.lookupswitch dflt prs, len)) {i : Int32} {rest : List Value} (hs : g.stack = .int i :: rest)
    (hsort : (prs.toList.zip (prs.toList.drop 1)).all (fun (a, next) => a.1 < next.1) = true) (hoff : lookupswitch.offset prs.toList dflt i.toInt = o) (ho : 0 ≤ (pc0 : Int) + o) (hp : ((pc0 : Int) + o).toNat = pc')
    (hr : Steps tb e below (T.setTop { g with pc := pc', stack := rest }) target) : Steps tb e below (T.setTop g) target := by
  subst hg hpc hp
  jvm_step h [h.top, hx, hd, hs, hoff, ho, lookupswitch.wp_chain]
  exact ⟨by simpa using hsort, hr⟩
section Nums
variable {x k : Int32} {n : Int}
theorem own_lt1 (hk : k.toInt = n) (h : x < k) : x.toInt < n := by rw [← hk]; exact Int32.lt_iff_toInt_lt.mp h
theorem own_lt2 (hk : k.toInt = n) (h : k < x) : n < x.toInt := by rw [← hk]; exact Int32.lt_iff_toInt_lt.mp h
theorem own_nlt1 (hk : k.toInt = n) (h : ¬ x < k) : n ≤ x.toInt := by rw [Int32.lt_iff_toInt_lt, hk] at h; omega
theorem own_nlt2 (hk : k.toInt = n) (h : ¬ k < x) : x.toInt ≤ n := by rw [Int32.lt_iff_toInt_lt, hk] at h; omega
theorem own_eq (hk : k.toInt = n) (h : x = k) : x.toInt = n := by rw [← hk, h]
theorem own_neq (hk : k.toInt = n) (h : ¬ x = k) : x.toInt ≠ n := fun q => h (Int32.toInt_inj.mp (by rw [hk, q]))
theorem own_glt1 (hk : k.toInt = n) (h : x.toInt < n) : x < k := Int32.lt_iff_toInt_lt.mpr (by rw [hk]; exact h)
theorem own_glt2 (hk : k.toInt = n) (h : n < x.toInt) : k < x := Int32.lt_iff_toInt_lt.mpr (by rw [hk]; exact h)
theorem own_gnlt1 (hk : k.toInt = n) (h : n ≤ x.toInt) : ¬ x < k := fun q => by have := own_lt1 hk q; omega
theorem own_gnlt2 (hk : k.toInt = n) (h : x.toInt ≤ n) : ¬ k < x := fun q => by have := own_lt2 hk q; omega
theorem own_geq (hk : k.toInt = n) (h : x.toInt = n) : x = k := Int32.toInt_inj.mp (by rw [hk, h])
theorem own_gneq (hk : k.toInt = n) (h : x.toInt ≠ n) : ¬ x = k := fun q => h (own_eq hk q)
theorem own_and (hk : k.toInt = n) (h0 : 0 ≤ n) : 0 ≤ (x &&& k).toInt ∧ (x &&& k).toInt ≤ n := by have := c_and x k (by rw [hk]; exact h0); rw [hk] at this; exact this
theorem own_and2 (hk : k.toInt = n) (h0 : 0 ≤ n) : 0 ≤ (k &&& x).toInt ∧ (k &&& x).toInt ≤ n := by have := c_and' k x (by rw [hk]; exact h0); rw [hk] at this; exact this
theorem own_rem (hk : k.toInt = n) (h0 : 0 < n) (hx : 0 ≤ x.toInt) : 0 ≤ (x % k).toInt ∧ (x % k).toInt < n ∧ (x % k).toInt ≤ x.toInt := by
  have := (c_iremV x k).1 hx (by rw [hk]; exact h0); rw [hk] at this; exact ⟨this.1, this.2.1, this.2.2.1⟩
theorem own_add {lo hi : Int} (hk : k.toInt = n) (hx : lo ≤ x.toInt ∧ x.toInt ≤ hi) (h1 : -2147483648 ≤ lo + n) (h2 : hi + n < 2147483648) : lo + n ≤ (x + k).toInt ∧ (x + k).toInt ≤ hi + n := by
  have := c_iadd x k; have := rng32 (x + k); rw [hk] at *; omega
theorem own_add2 {lo hi : Int} (hk : k.toInt = n) (hx : lo ≤ x.toInt ∧ x.toInt ≤ hi) (h1 : -2147483648 ≤ lo + n) (h2 : hi + n < 2147483648) : lo + n ≤ (k + x).toInt ∧ (k + x).toInt ≤ hi + n := by
  have := c_iadd k x; have := rng32 (k + x); rw [hk] at *; omega
end Nums
theorem own_len {Z : State} {args : Array Value} {t : Term} {a : Addr} {c : Cell} {ty : FieldType} {n : Int32} (A : Arr Z Z.heap a c ty) (ev : t.eval args Z none [] Z = some (.ref a)) (h : (Term.length t).eval args Z none [] Z = some (.int n)) : c.slots.size < 2 ^ 31 ∧ c.slots.size.toInt32 = n := by
  have q := A.fin (Vm.Alike.refl _)
  by_cases z : c.slots.size < 2 ^ 31
  · rw [len_f ev q z] at h; exact ⟨z, Value.int.inj (Option.some.inj h)⟩
  · simp [Term.eval, ev, q, z] at h
theorem own_selp {s : State} {args : Array Value} {y z : MethodName} {C : String} (w : (Cond.selects C z z).before args s = true) (hc : z.cls = y.cls) (hp : s.PrivateAt y) (hi : (Cond.instanceMethod y).before args s = true) (hy : y.cls ≠ "java/lang/invoke/MethodHandle" ∧ y.cls ≠ "java/lang/invoke/VarHandle") : (Cond.selects y.cls y y).before args s = true := by
  obtain ⟨c2, r2, m2, -, -, q3, -, kP, hkP, hkPi⟩ := Cond.selects_spec w
  exact selects_self_of_private (by rw [← hc]; exact findClass_of_methodNamed q3) hkP hkPi hp hi hy
theorem own_max64 (x : Int64) : ¬ (9223372036854775807 : Int64) < x := fun h => by have := rng64 x; rw [Int64.lt_iff_toInt_lt, show (9223372036854775807 : Int64).toInt = 9223372036854775807 by decide] at h; omega
theorem own_min64 (x : Int64) : ¬ x < (-9223372036854775808 : Int64) := fun h => by have := rng64 x; rw [Int64.lt_iff_toInt_lt, show (-9223372036854775808 : Int64).toInt = -9223372036854775808 by decide] at h; omega
theorem own_root {Z : State} {a0 : Array Value} {O K : String} {n : Nat} (w : (Cond.noSuperclass O).before a0 Z = true) (wk : (Cond.instantiable K n).before a0 Z = true) (hn : O ≠ K) : NS Z O K := by
  obtain ⟨c, k, h1, h2, h3, -, -⟩ := Cond.noSuperclass_spec w
  obtain ⟨t, kt, g1, -⟩ := Cond.instantiable_spec wk
  have ne := ids_ne h1 g1 hn
  refine ⟨c, t, h1, g1, fun fuel => ?_⟩
  cases fuel with
  | zero => rfl
  | succ f => simp [Vm.isSubclassAux, ne, h2, h3]
theorem own_no {Z : State} {a0 : Array Value} {C S K : String} {n : Nat} (w : (Cond.superclass C S).before a0 Z = true) (wk : (Cond.instantiable K n).before a0 Z = true) (q : NS Z C K) (hn : C ≠ K) : ∃ c t, Z.vm.findClass C = some c ∧ Z.vm.findClass K = some t ∧ Z.vm.assignable c t = false := by
  obtain ⟨c, t, h0, g0, n3⟩ := q
  obtain ⟨p, k, kp, h1, h2, h3, h4, h5, -, h7⟩ := Cond.superclass_spec h0 w
  obtain ⟨t', k', g1, g2, g3, g4, -⟩ := Cond.instantiable_spec wk
  cases g0.symm.trans g1
  have ne := ids_ne h0 g0 hn
  have g5 : k'.isInterface = false := by simp only [Bool.or_eq_false_iff] at g4; exact g4.1
  refine ⟨c, t, h0, g0, ?_⟩
  show Z.vm.assignableAux (255 + 1) c t = false
  simp [Vm.assignableAux, ne, h2, g2, h5, g3, g5, Vm.isSubclass, n3]
theorem own_eqR {Z : State} {args : Array Value} {a b : Term} {idx : List Nat} {w : Addr} (hb : b.eval args Z none idx Z = some (.ref w)) (h : (Cond.eq a b).value args Z none Z idx = some true) : a.eval args Z none idx Z = some (.ref w) := by
  simp only [Cond.value, hb] at h
  cases ht : a.eval args Z none idx Z with
  | none => simp [ht] at h
  | some x => cases x <;> simp [ht] at h ⊢; exact h
def GW (Z : State) (w1 : Addr) (w2 : Addr) (w3 : Addr) (w4 : Addr) (w5 : Addr) (w6 : Addr) (w7 : Addr) (w8 : Addr) : Prop :=
  (Sta Z Z.heap "com/example/vipo/vipo/flow/PatternType" "START" "Lcom/example/vipo/vipo/flow/PatternType;" (.ref w1))
  ∧ (Exa Z Z.heap w1 "com/example/vipo/vipo/flow/PatternType")
  ∧ (Sta Z Z.heap "com/example/vipo/vipo/flow/PatternType" "END" "Lcom/example/vipo/vipo/flow/PatternType;" (.ref w2))
  ∧ (Exa Z Z.heap w2 "com/example/vipo/vipo/flow/PatternType")
  ∧ (Sta Z Z.heap "com/example/vipo/vipo/flow/PatternType" "CONDITION" "Lcom/example/vipo/vipo/flow/PatternType;" (.ref w3))
  ∧ (Exa Z Z.heap w3 "com/example/vipo/vipo/flow/PatternType")
  ∧ (Sta Z Z.heap "com/example/vipo/vipo/flow/PatternType" "EXTERNAL_CALL" "Lcom/example/vipo/vipo/flow/PatternType;" (.ref w4))
  ∧ (Exa Z Z.heap w4 "com/example/vipo/vipo/flow/PatternType")
  ∧ (Sta Z Z.heap "com/example/vipo/vipo/flow/PatternType" "MESSAGE_PROCESSOR" "Lcom/example/vipo/vipo/flow/PatternType;" (.ref w5))
  ∧ (Exa Z Z.heap w5 "com/example/vipo/vipo/flow/PatternType")
  ∧ (Sta Z Z.heap "com/example/vipo/vipo/flow/PatternType" "FORK" "Lcom/example/vipo/vipo/flow/PatternType;" (.ref w6))
  ∧ (Exa Z Z.heap w6 "com/example/vipo/vipo/flow/PatternType")
  ∧ (Sta Z Z.heap "com/example/vipo/vipo/flow/PatternType" "JOIN" "Lcom/example/vipo/vipo/flow/PatternType;" (.ref w7))
  ∧ (Exa Z Z.heap w7 "com/example/vipo/vipo/flow/PatternType")
  ∧ (Sta Z Z.heap "com/example/vipo/vipo/flow/PatternType" "MERGE" "Lcom/example/vipo/vipo/flow/PatternType;" (.ref w8))
  ∧ (Exa Z Z.heap w8 "com/example/vipo/vipo/flow/PatternType")
  ∧ (Fld Z Z.heap w1 "com/example/vipo/vipo/flow/PatternType" "minIn" "I" (.int (0 : Int32)))
  ∧ (Fld Z Z.heap w1 "com/example/vipo/vipo/flow/PatternType" "maxIn" "I" (.int (0 : Int32)))
  ∧ (Fld Z Z.heap w2 "com/example/vipo/vipo/flow/PatternType" "minIn" "I" (.int (0 : Int32)))
  ∧ (Fld Z Z.heap w2 "com/example/vipo/vipo/flow/PatternType" "maxIn" "I" (.int (2147483647 : Int32)))
  ∧ (Fld Z Z.heap w2 "com/example/vipo/vipo/flow/PatternType" "minOut" "I" (.int (0 : Int32)))
  ∧ (Fld Z Z.heap w2 "com/example/vipo/vipo/flow/PatternType" "maxOut" "I" (.int (0 : Int32)))
  ∧ (Fld Z Z.heap w3 "com/example/vipo/vipo/flow/PatternType" "minIn" "I" (.int (1 : Int32)))
  ∧ (Fld Z Z.heap w3 "com/example/vipo/vipo/flow/PatternType" "maxIn" "I" (.int (1 : Int32)))
  ∧ (Fld Z Z.heap w4 "com/example/vipo/vipo/flow/PatternType" "minIn" "I" (.int (2 : Int32)))
  ∧ (Fld Z Z.heap w5 "com/example/vipo/vipo/flow/PatternType" "minIn" "I" (.int (1 : Int32)))
  ∧ (Fld Z Z.heap w6 "com/example/vipo/vipo/flow/PatternType" "minIn" "I" (.int (1 : Int32)))
  ∧ (Fld Z Z.heap w6 "com/example/vipo/vipo/flow/PatternType" "maxIn" "I" (.int (1 : Int32)))
  ∧ (Fld Z Z.heap w5 "com/example/vipo/vipo/flow/PatternType" "maxIn" "I" (.int (1 : Int32)))
  ∧ (Fld Z Z.heap w7 "com/example/vipo/vipo/flow/PatternType" "minIn" "I" (.int (2 : Int32)))
  ∧ (Fld Z Z.heap w7 "com/example/vipo/vipo/flow/PatternType" "maxIn" "I" (.int (2147483647 : Int32)))
  ∧ (Fld Z Z.heap w7 "com/example/vipo/vipo/flow/PatternType" "minOut" "I" (.int (1 : Int32)))
  ∧ (Fld Z Z.heap w7 "com/example/vipo/vipo/flow/PatternType" "maxOut" "I" (.int (1 : Int32)))
  ∧ (Fld Z Z.heap w8 "com/example/vipo/vipo/flow/PatternType" "minIn" "I" (.int (1 : Int32)))
  ∧ (Fld Z Z.heap w8 "com/example/vipo/vipo/flow/PatternType" "maxIn" "I" (.int (1 : Int32)))
  ∧ (Fld Z Z.heap w1 "com/example/vipo/vipo/flow/PatternType" "minOut" "I" (.int (0 : Int32)))
  ∧ (Fld Z Z.heap w1 "com/example/vipo/vipo/flow/PatternType" "maxOut" "I" (.int (2147483647 : Int32)))
  ∧ (Fld Z Z.heap w4 "com/example/vipo/vipo/flow/PatternType" "maxIn" "I" (.int (2 : Int32)))
  ∧ (Fld Z Z.heap w5 "com/example/vipo/vipo/flow/PatternType" "minOut" "I" (.int (1 : Int32)))
  ∧ (Fld Z Z.heap w5 "com/example/vipo/vipo/flow/PatternType" "maxOut" "I" (.int (1 : Int32)))
  ∧ (Fld Z Z.heap w6 "com/example/vipo/vipo/flow/PatternType" "minOut" "I" (.int (2 : Int32)))
  ∧ (Fld Z Z.heap w4 "com/example/vipo/vipo/flow/PatternType" "minOut" "I" (.int (2 : Int32)))
  ∧ (Fld Z Z.heap w6 "com/example/vipo/vipo/flow/PatternType" "maxOut" "I" (.int (2147483647 : Int32)))
  ∧ (Fld Z Z.heap w4 "com/example/vipo/vipo/flow/PatternType" "maxOut" "I" (.int (2 : Int32)))
  ∧ (Fld Z Z.heap w8 "com/example/vipo/vipo/flow/PatternType" "minOut" "I" (.int (1 : Int32)))
  ∧ (Fld Z Z.heap w8 "com/example/vipo/vipo/flow/PatternType" "maxOut" "I" (.int (1 : Int32)))
  ∧ (Fld Z Z.heap w3 "com/example/vipo/vipo/flow/PatternType" "minOut" "I" (.int (2 : Int32)))
  ∧ (Fld Z Z.heap w3 "com/example/vipo/vipo/flow/PatternType" "maxOut" "I" (.int (2147483647 : Int32)))
def Q0 (n0 : Nat) (v : Option Value) (h : Heap) (L : List Loc) : Prop := v = some (.int (1 : Int32)) ∧ Fr n0 L
theorem d0_0 : decode prog_18_method_6_code 0 = .ok (.aload_n 0, 1) := by decide +kernel
theorem d0_1 : decode prog_18_method_6_code 1 = .ok (.getfield 51, 3) := by decide +kernel
theorem d0_4 : decode prog_18_method_6_code 4 = .ok (.iload_n 1, 1) := by decide +kernel
theorem d0_5 : decode prog_18_method_6_code 5 = .ok (.if_icmp .gt 31, 3) := by decide +kernel
theorem d0_8 : decode prog_18_method_6_code 8 = .ok (.iload_n 1, 1) := by decide +kernel
theorem d0_9 : decode prog_18_method_6_code 9 = .ok (.aload_n 0, 1) := by decide +kernel
theorem d0_10 : decode prog_18_method_6_code 10 = .ok (.getfield 55, 3) := by decide +kernel
theorem d0_13 : decode prog_18_method_6_code 13 = .ok (.if_icmp .gt 23, 3) := by decide +kernel
theorem d0_16 : decode prog_18_method_6_code 16 = .ok (.aload_n 0, 1) := by decide +kernel
theorem d0_17 : decode prog_18_method_6_code 17 = .ok (.getfield 58, 3) := by decide +kernel
theorem d0_20 : decode prog_18_method_6_code 20 = .ok (.iload_n 2, 1) := by decide +kernel
theorem d0_21 : decode prog_18_method_6_code 21 = .ok (.if_icmp .gt 15, 3) := by decide +kernel
theorem d0_36 : decode prog_18_method_6_code 36 = .ok (.iconst 0, 1) := by decide +kernel
theorem d0_37 : decode prog_18_method_6_code 37 = .ok (.ireturn, 1) := by decide +kernel
theorem d0_24 : decode prog_18_method_6_code 24 = .ok (.iload_n 2, 1) := by decide +kernel
theorem d0_25 : decode prog_18_method_6_code 25 = .ok (.aload_n 0, 1) := by decide +kernel
theorem d0_26 : decode prog_18_method_6_code 26 = .ok (.getfield 61, 3) := by decide +kernel
theorem d0_29 : decode prog_18_method_6_code 29 = .ok (.if_icmp .gt 7, 3) := by decide +kernel
theorem d0_32 : decode prog_18_method_6_code 32 = .ok (.iconst 1, 1) := by decide +kernel
theorem d0_33 : decode prog_18_method_6_code 33 = .ok (.goto 4, 3) := by decide +kernel
theorem pn0 : plainName "com/example/vipo/vipo/flow/PatternType" = true := by first | (simp [plainName, overriddenIn]; done) | decide +kernel
theorem ef1 (m : MethodId) (x0 : Addr) (x1 : Int32) (x2 : Int32) : entryFrame m #[(.ref x0), (.int x1), (.int x2)] 3 = mkF m 0 #[.val (.ref x0), .val (.int x1), .val (.int x2)] [] := by first | (simp [entryFrame, mkF, argsToLocals, Value.category]; done) | rfl
def Q1 (Z : State) (w1 : Addr) (w2 : Addr) (w3 : Addr) (w4 : Addr) (w5 : Addr) (w6 : Addr) (w7 : Addr) (w8 : Addr) (p1 : Int32) (h0 : Heap) (n0 : Nat) (v : Option Value) (h : Heap) (L : List Loc) : Prop :=
  ((p1 < (0 : Int32)) ∧ v = some (.int (0 : Int32)) ∧ Fr n0 L ∧ h = h0)
  ∨ ((¬ (p1 < (0 : Int32))) ∧ v = some (.int (1 : Int32)) ∧ Fr n0 L ∧ h = h0)
set_option maxRecDepth 65536 in
set_option maxHeartbeats 40000000 in
theorem rm1 (l : Launch) (Z : State) (a0 : Array Value) (hw : ∀ d ∈ tables_1, d.before a0 Z = true) (w1 : Addr) (w2 : Addr) (w3 : Addr) (w4 : Addr) (w5 : Addr) (w6 : Addr) (w7 : Addr) (w8 : Addr) (G : GW Z w1 w2 w3 w4 w5 w6 w7 w8) (ws : List Jvm.Cond) (p1 : Int32) (h0 : Heap) (n0 : Nat) (O0 : Old Z n0 h0) :
    MetFree l (⟨"com/example/vipo/vipo/flow/PatternType", "admitsDegree", "(II)Z"⟩ : MethodName) (head1 (Jvm.Cond.code (⟨"com/example/vipo/vipo/flow/PatternType", "admitsDegree", "(II)Z"⟩ : MethodName) prog_18_method_6_code 3 (some .boolean) :: ws) ({ frames := 0, cells := 0, slots := 0, locals := 0 } : Room)) (fun a U => a = #[(.ref w1), (.int (0 : Int32)), (.int p1)] ∧ Z.Warmed39 U.vm ∧ U.heap = h0) (fun _ _ _ _ _ => True) (fun _ U o U' => ∃ v L, o = .returned v ∧ Q1 Z w1 w2 w3 w4 w5 w6 w7 w8 p1 h0 n0 v U'.heap L ∧ FrameEnd U o U' L ({ frames := 0, cells := 0, slots := 0, locals := 0 } : Room).cells ({ frames := 0, cells := 0, slots := 0, locals := 0 } : Room).slots) := by
  obtain ⟨S_w1, E_w1, S_w2, E_w2, S_w3, E_w3, S_w4, E_w4, S_w5, E_w5, S_w6, E_w6, S_w7, E_w7, S_w8, E_w8, F_w1_minIn, F_w1_maxIn, F_w2_minIn, F_w2_maxIn, F_w2_minOut, F_w2_maxOut, F_w3_minIn, F_w3_maxIn, F_w4_minIn, F_w5_minIn, F_w6_minIn, F_w6_maxIn, F_w5_maxIn, F_w7_minIn, F_w7_maxIn, F_w7_minOut, F_w7_maxOut, F_w8_minIn, F_w8_maxIn, F_w1_minOut, F_w1_maxOut, F_w4_maxIn, F_w5_minOut, F_w5_maxOut, F_w6_minOut, F_w4_minOut, F_w6_maxOut, F_w4_maxOut, F_w8_minOut, F_w8_maxOut, F_w3_minOut, F_w3_maxOut⟩ := id G
  refine MetFree.of_bodySF (plainFor_of_name pn0) hisR ?_
  intro p e s m args below meth c s₁ Bd hml0 hP hK
  obtain ⟨rfl, hZ, hh⟩ := hP
  have hx := Bd.exec
  have hby := Bd.bytes
  have hml : c.maxLocals = 3 := hml0
  have hown : s.vm.findClass "com/example/vipo/vipo/flow/PatternType" = some m.cls := findClass_of_methodNamed Bd.named
  have hnm := (name_of_methodNamed Bd.named Bd.method).1
  have hret := Bd.returns
  have hlk : meth.locks = false := BodyLoose.notSynchronized Bd
  have X0 : Stand p l e ({ frames := 0, cells := 0, slots := 0, locals := 0 } : Room) s m #[(.ref w1), (.int (0 : Int32)), (.int p1)] below meth c s₁ [] 0 0 := Stand.of_body Bd
  have e0 : s₁.heap = h0 := by rw [← hh, Bd.state]; rfl
  have N0 := Fr.nil n0
  have pre0 : ∀ t, Steps p.tables e below (s₁.setTop (mkF m 0 #[.val (.ref w1), .val (.int (0 : Int32)), .val (.int p1)] [])) t → Steps p.tables e below (s₁.setTop (entryFrame m #[(.ref w1), (.int (0 : Int32)), (.int p1)] 3)) t := fun t k => castTop (ef1 m w1 (0 : Int32) p1) k
  obtain ⟨T1, X1, e1, st1⟩ := getF X0 hx hZ hown (host := "") (Or.inl (hw _ (List.mem_of_getElem? (i := 9) rfl))) Via.refl e0 (F_w1_minIn.ext O0.2) (g := (mkF m 1 #[.val (.ref w1), .val (.int (0 : Int32)), .val (.int p1)] [(.ref w1)])) rfl rfl (hb hby d0_1)
  obtain ⟨T2, X2, e2, st2⟩ := getF X1 hx hZ hown (host := "") (Or.inl (hw _ (List.mem_of_getElem? (i := 11) rfl))) Via.refl e1 (F_w1_maxIn.ext O0.2) (g := (mkF m 10 #[.val (.ref w1), .val (.int (0 : Int32)), .val (.int p1)] [(.ref w1), (.int (0 : Int32))])) rfl rfl (hb hby d0_10)
  obtain ⟨T3, X3, e3, st3⟩ := getF X2 hx hZ hown (host := "") (Or.inl (hw _ (List.mem_of_getElem? (i := 15) rfl))) Via.refl e2 (F_w1_minOut.ext O0.2) (g := (mkF m 17 #[.val (.ref w1), .val (.int (0 : Int32)), .val (.int p1)] [(.ref w1)])) rfl rfl (hb hby d0_17)
  have pre4 : ∀ t, Steps p.tables e below (T3.setTop (mkF m 21 #[.val (.ref w1), .val (.int (0 : Int32)), .val (.int p1)] [(.int p1), (.int (0 : Int32))])) t → Steps p.tables e below (s₁.setTop (entryFrame m #[(.ref w1), (.int (0 : Int32)), (.int p1)] 3)) t := fun t k => by
    refine pre0 _ ?_
    show Steps p.tables e below (s₁.setTop (mkF m 0 #[.val (.ref w1), .val (.int (0 : Int32)), .val (.int p1)] [])) _
    refine XS.aloadN X0.here hx rfl (hb hby d0_0) rfl rfl ?_
    show Steps p.tables e below (s₁.setTop (mkF m 1 #[.val (.ref w1), .val (.int (0 : Int32)), .val (.int p1)] [(.ref w1)])) _
    refine st1 _ ?_
    show Steps p.tables e below (T1.setTop (mkF m 4 #[.val (.ref w1), .val (.int (0 : Int32)), .val (.int p1)] [(.int (0 : Int32))])) _
    refine XS.iloadN X1.here hx rfl (hb hby d0_4) rfl ?_
    show Steps p.tables e below (T1.setTop (mkF m 5 #[.val (.ref w1), .val (.int (0 : Int32)), .val (.int p1)] [(.int (0 : Int32)), (.int (0 : Int32))])) _
    refine XS.icmpNo X1.here hx rfl (hb hby d0_5) rfl (flt (by decide : ¬ ((0 : Int32) < (0 : Int32)))).2.2.1 ?_
    show Steps p.tables e below (T1.setTop (mkF m 8 #[.val (.ref w1), .val (.int (0 : Int32)), .val (.int p1)] [])) _
    refine XS.iloadN X1.here hx rfl (hb hby d0_8) rfl ?_
    show Steps p.tables e below (T1.setTop (mkF m 9 #[.val (.ref w1), .val (.int (0 : Int32)), .val (.int p1)] [(.int (0 : Int32))])) _
    refine XS.aloadN X1.here hx rfl (hb hby d0_9) rfl rfl ?_
    show Steps p.tables e below (T1.setTop (mkF m 10 #[.val (.ref w1), .val (.int (0 : Int32)), .val (.int p1)] [(.ref w1), (.int (0 : Int32))])) _
    refine st2 _ ?_
    show Steps p.tables e below (T2.setTop (mkF m 13 #[.val (.ref w1), .val (.int (0 : Int32)), .val (.int p1)] [(.int (0 : Int32)), (.int (0 : Int32))])) _
    refine XS.icmpNo X2.here hx rfl (hb hby d0_13) rfl (flt (by decide : ¬ ((0 : Int32) < (0 : Int32)))).2.2.1 ?_
    show Steps p.tables e below (T2.setTop (mkF m 16 #[.val (.ref w1), .val (.int (0 : Int32)), .val (.int p1)] [])) _
    refine XS.aloadN X2.here hx rfl (hb hby d0_16) rfl rfl ?_
    show Steps p.tables e below (T2.setTop (mkF m 17 #[.val (.ref w1), .val (.int (0 : Int32)), .val (.int p1)] [(.ref w1)])) _
    refine st3 _ ?_
    show Steps p.tables e below (T3.setTop (mkF m 20 #[.val (.ref w1), .val (.int (0 : Int32)), .val (.int p1)] [(.int (0 : Int32))])) _
    refine XS.iloadN X3.here hx rfl (hb hby d0_20) rfl ?_
    exact k
  by_cases hc5 : p1 < (0 : Int32)
  ·
    obtain ⟨fs, hr, hrun, hended, hW, hsame⟩ := X3.leave (v := some (.int (0 : Int32))) (fun h => by rw [hret] at h; cases h)
    refine ⟨_, _, pre4 _ ?_, hrun, hended, _, _, rfl, ?_, ⟨_, rfl⟩, hW, hsame.mono (by decide) (by decide)⟩
    ·
      show Steps p.tables e below (T3.setTop (mkF m 21 #[.val (.ref w1), .val (.int (0 : Int32)), .val (.int p1)] [(.int p1), (.int (0 : Int32))])) _
      refine XS.icmpYes X3.here hx rfl (pc0 := 21) (pc' := 36) rfl (hb hby d0_21) rfl (tlt hc5).2.2.1 (by decide) (by decide) ?_
      show Steps p.tables e below (T3.setTop (mkF m 36 #[.val (.ref w1), .val (.int (0 : Int32)), .val (.int p1)] [])) _
      refine XS.iconst X3.here hx rfl (hb hby d0_36) ?_
      show Steps p.tables e below (T3.setTop (mkF m 37 #[.val (.ref w1), .val (.int (0 : Int32)), .val (.int p1)] [(.int (0 : Int32))])) _
      exact retN X3 hx (t := .boolean) hret (by simp) (hb hby d0_37) hr
    ·
      show Q1 Z w1 w2 w3 w4 w5 w6 w7 w8 p1 h0 n0 _ T3.heap _
      rw [e3]
      exact (Or.inl ⟨hc5, rfl, N0, rfl⟩)
  ·
    obtain ⟨T6, X6, e6, st6⟩ := getF X3 hx hZ hown (host := "") (Or.inl (hw _ (List.mem_of_getElem? (i := 17) rfl))) Via.refl e3 (F_w1_maxOut.ext O0.2) (g := (mkF m 26 #[.val (.ref w1), .val (.int (0 : Int32)), .val (.int p1)] [(.ref w1), (.int p1)])) rfl rfl (hb hby d0_26)
    obtain ⟨fs, hr, hrun, hended, hW, hsame⟩ := X6.leave (v := some (.int (1 : Int32))) (fun h => by rw [hret] at h; cases h)
    refine ⟨_, _, pre4 _ ?_, hrun, hended, _, _, rfl, ?_, ⟨_, rfl⟩, hW, hsame.mono (by decide) (by decide)⟩
    ·
      show Steps p.tables e below (T3.setTop (mkF m 21 #[.val (.ref w1), .val (.int (0 : Int32)), .val (.int p1)] [(.int p1), (.int (0 : Int32))])) _
      refine XS.icmpNo X3.here hx rfl (hb hby d0_21) rfl (flt hc5).2.2.1 ?_
      show Steps p.tables e below (T3.setTop (mkF m 24 #[.val (.ref w1), .val (.int (0 : Int32)), .val (.int p1)] [])) _
      refine XS.iloadN X3.here hx rfl (hb hby d0_24) rfl ?_
      show Steps p.tables e below (T3.setTop (mkF m 25 #[.val (.ref w1), .val (.int (0 : Int32)), .val (.int p1)] [(.int p1)])) _
      refine XS.aloadN X3.here hx rfl (hb hby d0_25) rfl rfl ?_
      show Steps p.tables e below (T3.setTop (mkF m 26 #[.val (.ref w1), .val (.int (0 : Int32)), .val (.int p1)] [(.ref w1), (.int p1)])) _
      refine st6 _ ?_
      show Steps p.tables e below (T6.setTop (mkF m 29 #[.val (.ref w1), .val (.int (0 : Int32)), .val (.int p1)] [(.int (2147483647 : Int32)), (.int p1)])) _
      refine XS.icmpNo X6.here hx rfl (hb hby d0_29) rfl (flt (own_gnlt2 (n := 2147483647) (k := (2147483647 : Int32)) (by decide) (by have q0 := rng32 p1; have q1 := own_nlt1 (n := 0) (k := (0 : Int32)) (by decide) hc5; omega))).2.2.1 ?_
      show Steps p.tables e below (T6.setTop (mkF m 32 #[.val (.ref w1), .val (.int (0 : Int32)), .val (.int p1)] [])) _
      refine XS.iconst X6.here hx rfl (hb hby d0_32) ?_
      show Steps p.tables e below (T6.setTop (mkF m 33 #[.val (.ref w1), .val (.int (0 : Int32)), .val (.int p1)] [(.int (1 : Int32))])) _
      refine XS.goto X6.here hx rfl (pc0 := 33) (pc' := 37) rfl (hb hby d0_33) (by decide) (by decide) ?_
      show Steps p.tables e below (T6.setTop (mkF m 37 #[.val (.ref w1), .val (.int (0 : Int32)), .val (.int p1)] [(.int (1 : Int32))])) _
      exact retN X6 hx (t := .boolean) hret (by simp) (hb hby d0_37) hr
    ·
      show Q1 Z w1 w2 w3 w4 w5 w6 w7 w8 p1 h0 n0 _ T6.heap _
      rw [e6]
      exact (Or.inr ⟨hc5, rfl, N0, rfl⟩)
theorem pd0 : parseMethodDescriptor "(II)Z" = some ⟨[.int, .int], some .boolean⟩ := by decide +kernel
theorem ef2 (m : MethodId) (x0 : Addr) (x1 : Int32) (x2 : Int32) : entryFrame m #[(.ref x0), (.int x1), (.int x2)] 3 = mkF m 0 #[.val (.ref x0), .val (.int x1), .val (.int x2)] [] := by first | (simp [entryFrame, mkF, argsToLocals, Value.category]; done) | rfl
def Q2 (Z : State) (w1 : Addr) (w2 : Addr) (w3 : Addr) (w4 : Addr) (w5 : Addr) (w6 : Addr) (w7 : Addr) (w8 : Addr) (p1 : Int32) (p2 : Int32) (h0 : Heap) (n0 : Nat) (v : Option Value) (h : Heap) (L : List Loc) : Prop :=
  ((p1 < (0 : Int32)) ∧ v = some (.int (0 : Int32)) ∧ Fr n0 L ∧ h = h0)
  ∨ ((¬ (p1 < (0 : Int32))) ∧ ((0 : Int32) < p1) ∧ v = some (.int (0 : Int32)) ∧ Fr n0 L ∧ h = h0)
  ∨ ((¬ (p1 < (0 : Int32))) ∧ (¬ ((0 : Int32) < p1)) ∧ (p2 < (0 : Int32)) ∧ v = some (.int (0 : Int32)) ∧ Fr n0 L ∧ h = h0)
  ∨ ((¬ (p1 < (0 : Int32))) ∧ (¬ ((0 : Int32) < p1)) ∧ (¬ (p2 < (0 : Int32))) ∧ v = some (.int (1 : Int32)) ∧ Fr n0 L ∧ h = h0)
set_option maxRecDepth 65536 in
set_option maxHeartbeats 40000000 in
theorem rm2 (l : Launch) (Z : State) (a0 : Array Value) (hw : ∀ d ∈ tables_1, d.before a0 Z = true) (w1 : Addr) (w2 : Addr) (w3 : Addr) (w4 : Addr) (w5 : Addr) (w6 : Addr) (w7 : Addr) (w8 : Addr) (G : GW Z w1 w2 w3 w4 w5 w6 w7 w8) (ws : List Jvm.Cond) (p1 : Int32) (p2 : Int32) (h0 : Heap) (n0 : Nat) (O0 : Old Z n0 h0) :
    MetFree l (⟨"com/example/vipo/vipo/flow/PatternType", "admitsDegree", "(II)Z"⟩ : MethodName) (head1 (Jvm.Cond.code (⟨"com/example/vipo/vipo/flow/PatternType", "admitsDegree", "(II)Z"⟩ : MethodName) prog_18_method_6_code 3 (some .boolean) :: ws) ({ frames := 0, cells := 0, slots := 0, locals := 0 } : Room)) (fun a U => a = #[(.ref w1), (.int p1), (.int p2)] ∧ Z.Warmed39 U.vm ∧ U.heap = h0) (fun _ _ _ _ _ => True) (fun _ U o U' => ∃ v L, o = .returned v ∧ Q2 Z w1 w2 w3 w4 w5 w6 w7 w8 p1 p2 h0 n0 v U'.heap L ∧ FrameEnd U o U' L ({ frames := 0, cells := 0, slots := 0, locals := 0 } : Room).cells ({ frames := 0, cells := 0, slots := 0, locals := 0 } : Room).slots) := by
  obtain ⟨S_w1, E_w1, S_w2, E_w2, S_w3, E_w3, S_w4, E_w4, S_w5, E_w5, S_w6, E_w6, S_w7, E_w7, S_w8, E_w8, F_w1_minIn, F_w1_maxIn, F_w2_minIn, F_w2_maxIn, F_w2_minOut, F_w2_maxOut, F_w3_minIn, F_w3_maxIn, F_w4_minIn, F_w5_minIn, F_w6_minIn, F_w6_maxIn, F_w5_maxIn, F_w7_minIn, F_w7_maxIn, F_w7_minOut, F_w7_maxOut, F_w8_minIn, F_w8_maxIn, F_w1_minOut, F_w1_maxOut, F_w4_maxIn, F_w5_minOut, F_w5_maxOut, F_w6_minOut, F_w4_minOut, F_w6_maxOut, F_w4_maxOut, F_w8_minOut, F_w8_maxOut, F_w3_minOut, F_w3_maxOut⟩ := id G
  refine MetFree.of_bodySF (plainFor_of_name pn0) hisR ?_
  intro p e s m args below meth c s₁ Bd hml0 hP hK
  obtain ⟨rfl, hZ, hh⟩ := hP
  have hx := Bd.exec
  have hby := Bd.bytes
  have hml : c.maxLocals = 3 := hml0
  have hown : s.vm.findClass "com/example/vipo/vipo/flow/PatternType" = some m.cls := findClass_of_methodNamed Bd.named
  have hnm := (name_of_methodNamed Bd.named Bd.method).1
  have hret := Bd.returns
  have hlk : meth.locks = false := BodyLoose.notSynchronized Bd
  have X0 : Stand p l e ({ frames := 0, cells := 0, slots := 0, locals := 0 } : Room) s m #[(.ref w1), (.int p1), (.int p2)] below meth c s₁ [] 0 0 := Stand.of_body Bd
  have e0 : s₁.heap = h0 := by rw [← hh, Bd.state]; rfl
  have N0 := Fr.nil n0
  have pre0 : ∀ t, Steps p.tables e below (s₁.setTop (mkF m 0 #[.val (.ref w1), .val (.int p1), .val (.int p2)] [])) t → Steps p.tables e below (s₁.setTop (entryFrame m #[(.ref w1), (.int p1), (.int p2)] 3)) t := fun t k => castTop (ef2 m w1 p1 p2) k
  obtain ⟨T1, X1, e1, st1⟩ := getF X0 hx hZ hown (host := "") (Or.inl (hw _ (List.mem_of_getElem? (i := 9) rfl))) Via.refl e0 (F_w1_minIn.ext O0.2) (g := (mkF m 1 #[.val (.ref w1), .val (.int p1), .val (.int p2)] [(.ref w1)])) rfl rfl (hb hby d0_1)
  have pre2 : ∀ t, Steps p.tables e below (T1.setTop (mkF m 5 #[.val (.ref w1), .val (.int p1), .val (.int p2)] [(.int p1), (.int (0 : Int32))])) t → Steps p.tables e below (s₁.setTop (entryFrame m #[(.ref w1), (.int p1), (.int p2)] 3)) t := fun t k => by
    refine pre0 _ ?_
    show Steps p.tables e below (s₁.setTop (mkF m 0 #[.val (.ref w1), .val (.int p1), .val (.int p2)] [])) _
    refine XS.aloadN X0.here hx rfl (hb hby d0_0) rfl rfl ?_
    show Steps p.tables e below (s₁.setTop (mkF m 1 #[.val (.ref w1), .val (.int p1), .val (.int p2)] [(.ref w1)])) _
    refine st1 _ ?_
    show Steps p.tables e below (T1.setTop (mkF m 4 #[.val (.ref w1), .val (.int p1), .val (.int p2)] [(.int (0 : Int32))])) _
    refine XS.iloadN X1.here hx rfl (hb hby d0_4) rfl ?_
    exact k
  by_cases hc3 : p1 < (0 : Int32)
  ·
    obtain ⟨fs, hr, hrun, hended, hW, hsame⟩ := X1.leave (v := some (.int (0 : Int32))) (fun h => by rw [hret] at h; cases h)
    refine ⟨_, _, pre2 _ ?_, hrun, hended, _, _, rfl, ?_, ⟨_, rfl⟩, hW, hsame.mono (by decide) (by decide)⟩
    ·
      show Steps p.tables e below (T1.setTop (mkF m 5 #[.val (.ref w1), .val (.int p1), .val (.int p2)] [(.int p1), (.int (0 : Int32))])) _
      refine XS.icmpYes X1.here hx rfl (pc0 := 5) (pc' := 36) rfl (hb hby d0_5) rfl (tlt hc3).2.2.1 (by decide) (by decide) ?_
      show Steps p.tables e below (T1.setTop (mkF m 36 #[.val (.ref w1), .val (.int p1), .val (.int p2)] [])) _
      refine XS.iconst X1.here hx rfl (hb hby d0_36) ?_
      show Steps p.tables e below (T1.setTop (mkF m 37 #[.val (.ref w1), .val (.int p1), .val (.int p2)] [(.int (0 : Int32))])) _
      exact retN X1 hx (t := .boolean) hret (by simp) (hb hby d0_37) hr
    ·
      show Q2 Z w1 w2 w3 w4 w5 w6 w7 w8 p1 p2 h0 n0 _ T1.heap _
      rw [e1]
      exact (Or.inl ⟨hc3, rfl, N0, rfl⟩)
  ·
    obtain ⟨T4, X4, e4, st4⟩ := getF X1 hx hZ hown (host := "") (Or.inl (hw _ (List.mem_of_getElem? (i := 11) rfl))) Via.refl e1 (F_w1_maxIn.ext O0.2) (g := (mkF m 10 #[.val (.ref w1), .val (.int p1), .val (.int p2)] [(.ref w1), (.int p1)])) rfl rfl (hb hby d0_10)
    have pre5 : ∀ t, Steps p.tables e below (T4.setTop (mkF m 13 #[.val (.ref w1), .val (.int p1), .val (.int p2)] [(.int (0 : Int32)), (.int p1)])) t → Steps p.tables e below (s₁.setTop (entryFrame m #[(.ref w1), (.int p1), (.int p2)] 3)) t := fun t k => by
      refine pre2 _ ?_
      show Steps p.tables e below (T1.setTop (mkF m 5 #[.val (.ref w1), .val (.int p1), .val (.int p2)] [(.int p1), (.int (0 : Int32))])) _
      refine XS.icmpNo X1.here hx rfl (hb hby d0_5) rfl (flt hc3).2.2.1 ?_
      show Steps p.tables e below (T1.setTop (mkF m 8 #[.val (.ref w1), .val (.int p1), .val (.int p2)] [])) _
      refine XS.iloadN X1.here hx rfl (hb hby d0_8) rfl ?_
      show Steps p.tables e below (T1.setTop (mkF m 9 #[.val (.ref w1), .val (.int p1), .val (.int p2)] [(.int p1)])) _
      refine XS.aloadN X1.here hx rfl (hb hby d0_9) rfl rfl ?_
      show Steps p.tables e below (T1.setTop (mkF m 10 #[.val (.ref w1), .val (.int p1), .val (.int p2)] [(.ref w1), (.int p1)])) _
      refine st4 _ ?_
      exact k
    by_cases hc6 : (0 : Int32) < p1
    ·
      obtain ⟨fs, hr, hrun, hended, hW, hsame⟩ := X4.leave (v := some (.int (0 : Int32))) (fun h => by rw [hret] at h; cases h)
      refine ⟨_, _, pre5 _ ?_, hrun, hended, _, _, rfl, ?_, ⟨_, rfl⟩, hW, hsame.mono (by decide) (by decide)⟩
      ·
        show Steps p.tables e below (T4.setTop (mkF m 13 #[.val (.ref w1), .val (.int p1), .val (.int p2)] [(.int (0 : Int32)), (.int p1)])) _
        refine XS.icmpYes X4.here hx rfl (pc0 := 13) (pc' := 36) rfl (hb hby d0_13) rfl (tlt hc6).2.2.1 (by decide) (by decide) ?_
        show Steps p.tables e below (T4.setTop (mkF m 36 #[.val (.ref w1), .val (.int p1), .val (.int p2)] [])) _
        refine XS.iconst X4.here hx rfl (hb hby d0_36) ?_
        show Steps p.tables e below (T4.setTop (mkF m 37 #[.val (.ref w1), .val (.int p1), .val (.int p2)] [(.int (0 : Int32))])) _
        exact retN X4 hx (t := .boolean) hret (by simp) (hb hby d0_37) hr
      ·
        show Q2 Z w1 w2 w3 w4 w5 w6 w7 w8 p1 p2 h0 n0 _ T4.heap _
        rw [e4]
        exact (Or.inr (Or.inl ⟨hc3, hc6, rfl, N0, rfl⟩))
    ·
      have hq7 : p1 = (0 : Int32) := (own_geq (n := 0) (k := (0 : Int32)) (by decide) (by have q0 := rng32 p1; have q1 := own_nlt1 (n := 0) (k := (0 : Int32)) (by decide) hc3; have q2 := own_nlt2 (n := 0) (k := (0 : Int32)) (by decide) hc6; omega))
      have pre8 : ∀ t, Steps p.tables e below (T4.setTop (mkF m 13 #[.val (.ref w1), .val (.int (0 : Int32)), .val (.int p2)] [(.int (0 : Int32)), (.int (0 : Int32))])) t → Steps p.tables e below (s₁.setTop (entryFrame m #[(.ref w1), (.int p1), (.int p2)] 3)) t := fun t k => pre5 t (by rw [hq7]; exact k)
      obtain ⟨T9, X9, e9, st9⟩ := getF X4 hx hZ hown (host := "") (Or.inl (hw _ (List.mem_of_getElem? (i := 15) rfl))) Via.refl e4 (F_w1_minOut.ext O0.2) (g := (mkF m 17 #[.val (.ref w1), .val (.int (0 : Int32)), .val (.int p2)] [(.ref w1)])) rfl rfl (hb hby d0_17)
      have pre10 : ∀ t, Steps p.tables e below (T9.setTop (mkF m 21 #[.val (.ref w1), .val (.int (0 : Int32)), .val (.int p2)] [(.int p2), (.int (0 : Int32))])) t → Steps p.tables e below (s₁.setTop (entryFrame m #[(.ref w1), (.int p1), (.int p2)] 3)) t := fun t k => by
        refine pre8 _ ?_
        show Steps p.tables e below (T4.setTop (mkF m 13 #[.val (.ref w1), .val (.int (0 : Int32)), .val (.int p2)] [(.int (0 : Int32)), (.int (0 : Int32))])) _
        refine XS.icmpNo X4.here hx rfl (hb hby d0_13) rfl (flt (by decide : ¬ ((0 : Int32) < (0 : Int32)))).2.2.1 ?_
        show Steps p.tables e below (T4.setTop (mkF m 16 #[.val (.ref w1), .val (.int (0 : Int32)), .val (.int p2)] [])) _
        refine XS.aloadN X4.here hx rfl (hb hby d0_16) rfl rfl ?_
        show Steps p.tables e below (T4.setTop (mkF m 17 #[.val (.ref w1), .val (.int (0 : Int32)), .val (.int p2)] [(.ref w1)])) _
        refine st9 _ ?_
        show Steps p.tables e below (T9.setTop (mkF m 20 #[.val (.ref w1), .val (.int (0 : Int32)), .val (.int p2)] [(.int (0 : Int32))])) _
        refine XS.iloadN X9.here hx rfl (hb hby d0_20) rfl ?_
        exact k
      by_cases hc11 : p2 < (0 : Int32)
      ·
        obtain ⟨fs, hr, hrun, hended, hW, hsame⟩ := X9.leave (v := some (.int (0 : Int32))) (fun h => by rw [hret] at h; cases h)
        refine ⟨_, _, pre10 _ ?_, hrun, hended, _, _, rfl, ?_, ⟨_, rfl⟩, hW, hsame.mono (by decide) (by decide)⟩
        ·
          show Steps p.tables e below (T9.setTop (mkF m 21 #[.val (.ref w1), .val (.int (0 : Int32)), .val (.int p2)] [(.int p2), (.int (0 : Int32))])) _
          refine XS.icmpYes X9.here hx rfl (pc0 := 21) (pc' := 36) rfl (hb hby d0_21) rfl (tlt hc11).2.2.1 (by decide) (by decide) ?_
          show Steps p.tables e below (T9.setTop (mkF m 36 #[.val (.ref w1), .val (.int (0 : Int32)), .val (.int p2)] [])) _
          refine XS.iconst X9.here hx rfl (hb hby d0_36) ?_
          show Steps p.tables e below (T9.setTop (mkF m 37 #[.val (.ref w1), .val (.int (0 : Int32)), .val (.int p2)] [(.int (0 : Int32))])) _
          exact retN X9 hx (t := .boolean) hret (by simp) (hb hby d0_37) hr
        ·
          show Q2 Z w1 w2 w3 w4 w5 w6 w7 w8 p1 p2 h0 n0 _ T9.heap _
          rw [e9]
          exact (Or.inr (Or.inr (Or.inl ⟨hc3, hc6, hc11, rfl, N0, rfl⟩)))
      ·
        obtain ⟨T12, X12, e12, st12⟩ := getF X9 hx hZ hown (host := "") (Or.inl (hw _ (List.mem_of_getElem? (i := 17) rfl))) Via.refl e9 (F_w1_maxOut.ext O0.2) (g := (mkF m 26 #[.val (.ref w1), .val (.int (0 : Int32)), .val (.int p2)] [(.ref w1), (.int p2)])) rfl rfl (hb hby d0_26)
        obtain ⟨fs, hr, hrun, hended, hW, hsame⟩ := X12.leave (v := some (.int (1 : Int32))) (fun h => by rw [hret] at h; cases h)
        refine ⟨_, _, pre10 _ ?_, hrun, hended, _, _, rfl, ?_, ⟨_, rfl⟩, hW, hsame.mono (by decide) (by decide)⟩
        ·
          show Steps p.tables e below (T9.setTop (mkF m 21 #[.val (.ref w1), .val (.int (0 : Int32)), .val (.int p2)] [(.int p2), (.int (0 : Int32))])) _
          refine XS.icmpNo X9.here hx rfl (hb hby d0_21) rfl (flt hc11).2.2.1 ?_
          show Steps p.tables e below (T9.setTop (mkF m 24 #[.val (.ref w1), .val (.int (0 : Int32)), .val (.int p2)] [])) _
          refine XS.iloadN X9.here hx rfl (hb hby d0_24) rfl ?_
          show Steps p.tables e below (T9.setTop (mkF m 25 #[.val (.ref w1), .val (.int (0 : Int32)), .val (.int p2)] [(.int p2)])) _
          refine XS.aloadN X9.here hx rfl (hb hby d0_25) rfl rfl ?_
          show Steps p.tables e below (T9.setTop (mkF m 26 #[.val (.ref w1), .val (.int (0 : Int32)), .val (.int p2)] [(.ref w1), (.int p2)])) _
          refine st12 _ ?_
          show Steps p.tables e below (T12.setTop (mkF m 29 #[.val (.ref w1), .val (.int (0 : Int32)), .val (.int p2)] [(.int (2147483647 : Int32)), (.int p2)])) _
          refine XS.icmpNo X12.here hx rfl (hb hby d0_29) rfl (flt (own_gnlt2 (n := 2147483647) (k := (2147483647 : Int32)) (by decide) (by have q0 := rng32 p2; have q1 := own_nlt1 (n := 0) (k := (0 : Int32)) (by decide) hc11; omega))).2.2.1 ?_
          show Steps p.tables e below (T12.setTop (mkF m 32 #[.val (.ref w1), .val (.int (0 : Int32)), .val (.int p2)] [])) _
          refine XS.iconst X12.here hx rfl (hb hby d0_32) ?_
          show Steps p.tables e below (T12.setTop (mkF m 33 #[.val (.ref w1), .val (.int (0 : Int32)), .val (.int p2)] [(.int (1 : Int32))])) _
          refine XS.goto X12.here hx rfl (pc0 := 33) (pc' := 37) rfl (hb hby d0_33) (by decide) (by decide) ?_
          show Steps p.tables e below (T12.setTop (mkF m 37 #[.val (.ref w1), .val (.int (0 : Int32)), .val (.int p2)] [(.int (1 : Int32))])) _
          exact retN X12 hx (t := .boolean) hret (by simp) (hb hby d0_37) hr
        ·
          show Q2 Z w1 w2 w3 w4 w5 w6 w7 w8 p1 p2 h0 n0 _ T12.heap _
          rw [e12]
          exact (Or.inr (Or.inr (Or.inr ⟨hc3, hc6, hc11, rfl, N0, rfl⟩)))
theorem ef3 (m : MethodId) (x0 : Addr) (x1 : Int32) (x2 : Int32) : entryFrame m #[(.ref x0), (.int x1), (.int x2)] 3 = mkF m 0 #[.val (.ref x0), .val (.int x1), .val (.int x2)] [] := by first | (simp [entryFrame, mkF, argsToLocals, Value.category]; done) | rfl
def Q3 (Z : State) (w1 : Addr) (w2 : Addr) (w3 : Addr) (w4 : Addr) (w5 : Addr) (w6 : Addr) (w7 : Addr) (w8 : Addr) (p1 : Int32) (p2 : Int32) (h0 : Heap) (n0 : Nat) (v : Option Value) (h : Heap) (L : List Loc) : Prop :=
  ((p1 < (0 : Int32)) ∧ v = some (.int (0 : Int32)) ∧ Fr n0 L ∧ h = h0)
  ∨ ((¬ (p1 < (0 : Int32))) ∧ (p2 < (0 : Int32)) ∧ v = some (.int (0 : Int32)) ∧ Fr n0 L ∧ h = h0)
  ∨ ((¬ (p1 < (0 : Int32))) ∧ (¬ (p2 < (0 : Int32))) ∧ ((0 : Int32) < p2) ∧ v = some (.int (0 : Int32)) ∧ Fr n0 L ∧ h = h0)
  ∨ ((¬ (p1 < (0 : Int32))) ∧ (¬ (p2 < (0 : Int32))) ∧ (¬ ((0 : Int32) < p2)) ∧ v = some (.int (1 : Int32)) ∧ Fr n0 L ∧ h = h0)
set_option maxRecDepth 65536 in
set_option maxHeartbeats 40000000 in
theorem rm3 (l : Launch) (Z : State) (a0 : Array Value) (hw : ∀ d ∈ tables_1, d.before a0 Z = true) (w1 : Addr) (w2 : Addr) (w3 : Addr) (w4 : Addr) (w5 : Addr) (w6 : Addr) (w7 : Addr) (w8 : Addr) (G : GW Z w1 w2 w3 w4 w5 w6 w7 w8) (ws : List Jvm.Cond) (p1 : Int32) (p2 : Int32) (h0 : Heap) (n0 : Nat) (O0 : Old Z n0 h0) :
    MetFree l (⟨"com/example/vipo/vipo/flow/PatternType", "admitsDegree", "(II)Z"⟩ : MethodName) (head1 (Jvm.Cond.code (⟨"com/example/vipo/vipo/flow/PatternType", "admitsDegree", "(II)Z"⟩ : MethodName) prog_18_method_6_code 3 (some .boolean) :: ws) ({ frames := 0, cells := 0, slots := 0, locals := 0 } : Room)) (fun a U => a = #[(.ref w2), (.int p1), (.int p2)] ∧ Z.Warmed39 U.vm ∧ U.heap = h0) (fun _ _ _ _ _ => True) (fun _ U o U' => ∃ v L, o = .returned v ∧ Q3 Z w1 w2 w3 w4 w5 w6 w7 w8 p1 p2 h0 n0 v U'.heap L ∧ FrameEnd U o U' L ({ frames := 0, cells := 0, slots := 0, locals := 0 } : Room).cells ({ frames := 0, cells := 0, slots := 0, locals := 0 } : Room).slots) := by
  obtain ⟨S_w1, E_w1, S_w2, E_w2, S_w3, E_w3, S_w4, E_w4, S_w5, E_w5, S_w6, E_w6, S_w7, E_w7, S_w8, E_w8, F_w1_minIn, F_w1_maxIn, F_w2_minIn, F_w2_maxIn, F_w2_minOut, F_w2_maxOut, F_w3_minIn, F_w3_maxIn, F_w4_minIn, F_w5_minIn, F_w6_minIn, F_w6_maxIn, F_w5_maxIn, F_w7_minIn, F_w7_maxIn, F_w7_minOut, F_w7_maxOut, F_w8_minIn, F_w8_maxIn, F_w1_minOut, F_w1_maxOut, F_w4_maxIn, F_w5_minOut, F_w5_maxOut, F_w6_minOut, F_w4_minOut, F_w6_maxOut, F_w4_maxOut, F_w8_minOut, F_w8_maxOut, F_w3_minOut, F_w3_maxOut⟩ := id G
  refine MetFree.of_bodySF (plainFor_of_name pn0) hisR ?_
  intro p e s m args below meth c s₁ Bd hml0 hP hK
  obtain ⟨rfl, hZ, hh⟩ := hP
  have hx := Bd.exec
  have hby := Bd.bytes
  have hml : c.maxLocals = 3 := hml0
  have hown : s.vm.findClass "com/example/vipo/vipo/flow/PatternType" = some m.cls := findClass_of_methodNamed Bd.named
  have hnm := (name_of_methodNamed Bd.named Bd.method).1
  have hret := Bd.returns
  have hlk : meth.locks = false := BodyLoose.notSynchronized Bd
  have X0 : Stand p l e ({ frames := 0, cells := 0, slots := 0, locals := 0 } : Room) s m #[(.ref w2), (.int p1), (.int p2)] below meth c s₁ [] 0 0 := Stand.of_body Bd
  have e0 : s₁.heap = h0 := by rw [← hh, Bd.state]; rfl
  have N0 := Fr.nil n0
  have pre0 : ∀ t, Steps p.tables e below (s₁.setTop (mkF m 0 #[.val (.ref w2), .val (.int p1), .val (.int p2)] [])) t → Steps p.tables e below (s₁.setTop (entryFrame m #[(.ref w2), (.int p1), (.int p2)] 3)) t := fun t k => castTop (ef3 m w2 p1 p2) k
  obtain ⟨T1, X1, e1, st1⟩ := getF X0 hx hZ hown (host := "") (Or.inl (hw _ (List.mem_of_getElem? (i := 9) rfl))) Via.refl e0 (F_w2_minIn.ext O0.2) (g := (mkF m 1 #[.val (.ref w2), .val (.int p1), .val (.int p2)] [(.ref w2)])) rfl rfl (hb hby d0_1)
  have pre2 : ∀ t, Steps p.tables e below (T1.setTop (mkF m 5 #[.val (.ref w2), .val (.int p1), .val (.int p2)] [(.int p1), (.int (0 : Int32))])) t → Steps p.tables e below (s₁.setTop (entryFrame m #[(.ref w2), (.int p1), (.int p2)] 3)) t := fun t k => by
    refine pre0 _ ?_
    show Steps p.tables e below (s₁.setTop (mkF m 0 #[.val (.ref w2), .val (.int p1), .val (.int p2)] [])) _
    refine XS.aloadN X0.here hx rfl (hb hby d0_0) rfl rfl ?_
    show Steps p.tables e below (s₁.setTop (mkF m 1 #[.val (.ref w2), .val (.int p1), .val (.int p2)] [(.ref w2)])) _
    refine st1 _ ?_
    show Steps p.tables e below (T1.setTop (mkF m 4 #[.val (.ref w2), .val (.int p1), .val (.int p2)] [(.int (0 : Int32))])) _
    refine XS.iloadN X1.here hx rfl (hb hby d0_4) rfl ?_
    exact k
  by_cases hc3 : p1 < (0 : Int32)
  ·
    obtain ⟨fs, hr, hrun, hended, hW, hsame⟩ := X1.leave (v := some (.int (0 : Int32))) (fun h => by rw [hret] at h; cases h)
    refine ⟨_, _, pre2 _ ?_, hrun, hended, _, _, rfl, ?_, ⟨_, rfl⟩, hW, hsame.mono (by decide) (by decide)⟩
    ·
      show Steps p.tables e below (T1.setTop (mkF m 5 #[.val (.ref w2), .val (.int p1), .val (.int p2)] [(.int p1), (.int (0 : Int32))])) _
      refine XS.icmpYes X1.here hx rfl (pc0 := 5) (pc' := 36) rfl (hb hby d0_5) rfl (tlt hc3).2.2.1 (by decide) (by decide) ?_
      show Steps p.tables e below (T1.setTop (mkF m 36 #[.val (.ref w2), .val (.int p1), .val (.int p2)] [])) _
      refine XS.iconst X1.here hx rfl (hb hby d0_36) ?_
      show Steps p.tables e below (T1.setTop (mkF m 37 #[.val (.ref w2), .val (.int p1), .val (.int p2)] [(.int (0 : Int32))])) _
      exact retN X1 hx (t := .boolean) hret (by simp) (hb hby d0_37) hr
    ·
      show Q3 Z w1 w2 w3 w4 w5 w6 w7 w8 p1 p2 h0 n0 _ T1.heap _
      rw [e1]
      exact (Or.inl ⟨hc3, rfl, N0, rfl⟩)
  ·
    obtain ⟨T4, X4, e4, st4⟩ := getF X1 hx hZ hown (host := "") (Or.inl (hw _ (List.mem_of_getElem? (i := 11) rfl))) Via.refl e1 (F_w2_maxIn.ext O0.2) (g := (mkF m 10 #[.val (.ref w2), .val (.int p1), .val (.int p2)] [(.ref w2), (.int p1)])) rfl rfl (hb hby d0_10)
    obtain ⟨T5, X5, e5, st5⟩ := getF X4 hx hZ hown (host := "") (Or.inl (hw _ (List.mem_of_getElem? (i := 15) rfl))) Via.refl e4 (F_w2_minOut.ext O0.2) (g := (mkF m 17 #[.val (.ref w2), .val (.int p1), .val (.int p2)] [(.ref w2)])) rfl rfl (hb hby d0_17)
    have pre6 : ∀ t, Steps p.tables e below (T5.setTop (mkF m 21 #[.val (.ref w2), .val (.int p1), .val (.int p2)] [(.int p2), (.int (0 : Int32))])) t → Steps p.tables e below (s₁.setTop (entryFrame m #[(.ref w2), (.int p1), (.int p2)] 3)) t := fun t k => by
      refine pre2 _ ?_
      show Steps p.tables e below (T1.setTop (mkF m 5 #[.val (.ref w2), .val (.int p1), .val (.int p2)] [(.int p1), (.int (0 : Int32))])) _
      refine XS.icmpNo X1.here hx rfl (hb hby d0_5) rfl (flt hc3).2.2.1 ?_
      show Steps p.tables e below (T1.setTop (mkF m 8 #[.val (.ref w2), .val (.int p1), .val (.int p2)] [])) _
      refine XS.iloadN X1.here hx rfl (hb hby d0_8) rfl ?_
      show Steps p.tables e below (T1.setTop (mkF m 9 #[.val (.ref w2), .val (.int p1), .val (.int p2)] [(.int p1)])) _
      refine XS.aloadN X1.here hx rfl (hb hby d0_9) rfl rfl ?_
      show Steps p.tables e below (T1.setTop (mkF m 10 #[.val (.ref w2), .val (.int p1), .val (.int p2)] [(.ref w2), (.int p1)])) _
      refine st4 _ ?_
      show Steps p.tables e below (T4.setTop (mkF m 13 #[.val (.ref w2), .val (.int p1), .val (.int p2)] [(.int (2147483647 : Int32)), (.int p1)])) _
      refine XS.icmpNo X4.here hx rfl (hb hby d0_13) rfl (flt (own_gnlt2 (n := 2147483647) (k := (2147483647 : Int32)) (by decide) (by have q0 := rng32 p1; have q1 := own_nlt1 (n := 0) (k := (0 : Int32)) (by decide) hc3; omega))).2.2.1 ?_
      show Steps p.tables e below (T4.setTop (mkF m 16 #[.val (.ref w2), .val (.int p1), .val (.int p2)] [])) _
      refine XS.aloadN X4.here hx rfl (hb hby d0_16) rfl rfl ?_
      show Steps p.tables e below (T4.setTop (mkF m 17 #[.val (.ref w2), .val (.int p1), .val (.int p2)] [(.ref w2)])) _
      refine st5 _ ?_
      show Steps p.tables e below (T5.setTop (mkF m 20 #[.val (.ref w2), .val (.int p1), .val (.int p2)] [(.int (0 : Int32))])) _
      refine XS.iloadN X5.here hx rfl (hb hby d0_20) rfl ?_
      exact k
    by_cases hc7 : p2 < (0 : Int32)
    ·
      obtain ⟨fs, hr, hrun, hended, hW, hsame⟩ := X5.leave (v := some (.int (0 : Int32))) (fun h => by rw [hret] at h; cases h)
      refine ⟨_, _, pre6 _ ?_, hrun, hended, _, _, rfl, ?_, ⟨_, rfl⟩, hW, hsame.mono (by decide) (by decide)⟩
      ·
        show Steps p.tables e below (T5.setTop (mkF m 21 #[.val (.ref w2), .val (.int p1), .val (.int p2)] [(.int p2), (.int (0 : Int32))])) _
        refine XS.icmpYes X5.here hx rfl (pc0 := 21) (pc' := 36) rfl (hb hby d0_21) rfl (tlt hc7).2.2.1 (by decide) (by decide) ?_
        show Steps p.tables e below (T5.setTop (mkF m 36 #[.val (.ref w2), .val (.int p1), .val (.int p2)] [])) _
        refine XS.iconst X5.here hx rfl (hb hby d0_36) ?_
        show Steps p.tables e below (T5.setTop (mkF m 37 #[.val (.ref w2), .val (.int p1), .val (.int p2)] [(.int (0 : Int32))])) _
        exact retN X5 hx (t := .boolean) hret (by simp) (hb hby d0_37) hr
      ·
        show Q3 Z w1 w2 w3 w4 w5 w6 w7 w8 p1 p2 h0 n0 _ T5.heap _
        rw [e5]
        exact (Or.inr (Or.inl ⟨hc3, hc7, rfl, N0, rfl⟩))
    ·
      obtain ⟨T8, X8, e8, st8⟩ := getF X5 hx hZ hown (host := "") (Or.inl (hw _ (List.mem_of_getElem? (i := 17) rfl))) Via.refl e5 (F_w2_maxOut.ext O0.2) (g := (mkF m 26 #[.val (.ref w2), .val (.int p1), .val (.int p2)] [(.ref w2), (.int p2)])) rfl rfl (hb hby d0_26)
      have pre9 : ∀ t, Steps p.tables e below (T8.setTop (mkF m 29 #[.val (.ref w2), .val (.int p1), .val (.int p2)] [(.int (0 : Int32)), (.int p2)])) t → Steps p.tables e below (s₁.setTop (entryFrame m #[(.ref w2), (.int p1), (.int p2)] 3)) t := fun t k => by
        refine pre6 _ ?_
        show Steps p.tables e below (T5.setTop (mkF m 21 #[.val (.ref w2), .val (.int p1), .val (.int p2)] [(.int p2), (.int (0 : Int32))])) _
        refine XS.icmpNo X5.here hx rfl (hb hby d0_21) rfl (flt hc7).2.2.1 ?_
        show Steps p.tables e below (T5.setTop (mkF m 24 #[.val (.ref w2), .val (.int p1), .val (.int p2)] [])) _
        refine XS.iloadN X5.here hx rfl (hb hby d0_24) rfl ?_
        show Steps p.tables e below (T5.setTop (mkF m 25 #[.val (.ref w2), .val (.int p1), .val (.int p2)] [(.int p2)])) _
        refine XS.aloadN X5.here hx rfl (hb hby d0_25) rfl rfl ?_
        show Steps p.tables e below (T5.setTop (mkF m 26 #[.val (.ref w2), .val (.int p1), .val (.int p2)] [(.ref w2), (.int p2)])) _
        refine st8 _ ?_
        exact k
      by_cases hc10 : (0 : Int32) < p2
      ·
        obtain ⟨fs, hr, hrun, hended, hW, hsame⟩ := X8.leave (v := some (.int (0 : Int32))) (fun h => by rw [hret] at h; cases h)
        refine ⟨_, _, pre9 _ ?_, hrun, hended, _, _, rfl, ?_, ⟨_, rfl⟩, hW, hsame.mono (by decide) (by decide)⟩
        ·
          show Steps p.tables e below (T8.setTop (mkF m 29 #[.val (.ref w2), .val (.int p1), .val (.int p2)] [(.int (0 : Int32)), (.int p2)])) _
          refine XS.icmpYes X8.here hx rfl (pc0 := 29) (pc' := 36) rfl (hb hby d0_29) rfl (tlt hc10).2.2.1 (by decide) (by decide) ?_
          show Steps p.tables e below (T8.setTop (mkF m 36 #[.val (.ref w2), .val (.int p1), .val (.int p2)] [])) _
          refine XS.iconst X8.here hx rfl (hb hby d0_36) ?_
          show Steps p.tables e below (T8.setTop (mkF m 37 #[.val (.ref w2), .val (.int p1), .val (.int p2)] [(.int (0 : Int32))])) _
          exact retN X8 hx (t := .boolean) hret (by simp) (hb hby d0_37) hr
        ·
          show Q3 Z w1 w2 w3 w4 w5 w6 w7 w8 p1 p2 h0 n0 _ T8.heap _
          rw [e8]
          exact (Or.inr (Or.inr (Or.inl ⟨hc3, hc7, hc10, rfl, N0, rfl⟩)))
      ·
        have hq11 : p2 = (0 : Int32) := (own_geq (n := 0) (k := (0 : Int32)) (by decide) (by have q0 := rng32 p2; have q1 := own_nlt1 (n := 0) (k := (0 : Int32)) (by decide) hc7; have q2 := own_nlt2 (n := 0) (k := (0 : Int32)) (by decide) hc10; omega))
        have pre12 : ∀ t, Steps p.tables e below (T8.setTop (mkF m 29 #[.val (.ref w2), .val (.int p1), .val (.int (0 : Int32))] [(.int (0 : Int32)), (.int (0 : Int32))])) t → Steps p.tables e below (s₁.setTop (entryFrame m #[(.ref w2), (.int p1), (.int p2)] 3)) t := fun t k => pre9 t (by rw [hq11]; exact k)
        obtain ⟨fs, hr, hrun, hended, hW, hsame⟩ := X8.leave (v := some (.int (1 : Int32))) (fun h => by rw [hret] at h; cases h)
        refine ⟨_, _, pre12 _ ?_, hrun, hended, _, _, rfl, ?_, ⟨_, rfl⟩, hW, hsame.mono (by decide) (by decide)⟩
        ·
          show Steps p.tables e below (T8.setTop (mkF m 29 #[.val (.ref w2), .val (.int p1), .val (.int (0 : Int32))] [(.int (0 : Int32)), (.int (0 : Int32))])) _
          refine XS.icmpNo X8.here hx rfl (hb hby d0_29) rfl (flt (by decide : ¬ ((0 : Int32) < (0 : Int32)))).2.2.1 ?_
          show Steps p.tables e below (T8.setTop (mkF m 32 #[.val (.ref w2), .val (.int p1), .val (.int (0 : Int32))] [])) _
          refine XS.iconst X8.here hx rfl (hb hby d0_32) ?_
          show Steps p.tables e below (T8.setTop (mkF m 33 #[.val (.ref w2), .val (.int p1), .val (.int (0 : Int32))] [(.int (1 : Int32))])) _
          refine XS.goto X8.here hx rfl (pc0 := 33) (pc' := 37) rfl (hb hby d0_33) (by decide) (by decide) ?_
          show Steps p.tables e below (T8.setTop (mkF m 37 #[.val (.ref w2), .val (.int p1), .val (.int (0 : Int32))] [(.int (1 : Int32))])) _
          exact retN X8 hx (t := .boolean) hret (by simp) (hb hby d0_37) hr
        ·
          show Q3 Z w1 w2 w3 w4 w5 w6 w7 w8 p1 p2 h0 n0 _ T8.heap _
          rw [e8]
          exact (Or.inr (Or.inr (Or.inr ⟨hc3, hc7, hc10, rfl, N0, rfl⟩)))
theorem ef4 (m : MethodId) (x0 : Addr) (x1 : Int32) (x2 : Int32) : entryFrame m #[(.ref x0), (.int x1), (.int x2)] 3 = mkF m 0 #[.val (.ref x0), .val (.int x1), .val (.int x2)] [] := by first | (simp [entryFrame, mkF, argsToLocals, Value.category]; done) | rfl
def Q4 (Z : State) (w1 : Addr) (w2 : Addr) (w3 : Addr) (w4 : Addr) (w5 : Addr) (w6 : Addr) (w7 : Addr) (w8 : Addr) (p1 : Int32) (h0 : Heap) (n0 : Nat) (v : Option Value) (h : Heap) (L : List Loc) : Prop :=
  ((p1 < (0 : Int32)) ∧ v = some (.int (0 : Int32)) ∧ Fr n0 L ∧ h = h0)
  ∨ ((¬ (p1 < (0 : Int32))) ∧ v = some (.int (1 : Int32)) ∧ Fr n0 L ∧ h = h0)
set_option maxRecDepth 65536 in
set_option maxHeartbeats 40000000 in
theorem rm4 (l : Launch) (Z : State) (a0 : Array Value) (hw : ∀ d ∈ tables_1, d.before a0 Z = true) (w1 : Addr) (w2 : Addr) (w3 : Addr) (w4 : Addr) (w5 : Addr) (w6 : Addr) (w7 : Addr) (w8 : Addr) (G : GW Z w1 w2 w3 w4 w5 w6 w7 w8) (ws : List Jvm.Cond) (p1 : Int32) (h0 : Heap) (n0 : Nat) (O0 : Old Z n0 h0) :
    MetFree l (⟨"com/example/vipo/vipo/flow/PatternType", "admitsDegree", "(II)Z"⟩ : MethodName) (head1 (Jvm.Cond.code (⟨"com/example/vipo/vipo/flow/PatternType", "admitsDegree", "(II)Z"⟩ : MethodName) prog_18_method_6_code 3 (some .boolean) :: ws) ({ frames := 0, cells := 0, slots := 0, locals := 0 } : Room)) (fun a U => a = #[(.ref w2), (.int p1), (.int (0 : Int32))] ∧ Z.Warmed39 U.vm ∧ U.heap = h0) (fun _ _ _ _ _ => True) (fun _ U o U' => ∃ v L, o = .returned v ∧ Q4 Z w1 w2 w3 w4 w5 w6 w7 w8 p1 h0 n0 v U'.heap L ∧ FrameEnd U o U' L ({ frames := 0, cells := 0, slots := 0, locals := 0 } : Room).cells ({ frames := 0, cells := 0, slots := 0, locals := 0 } : Room).slots) := by
  obtain ⟨S_w1, E_w1, S_w2, E_w2, S_w3, E_w3, S_w4, E_w4, S_w5, E_w5, S_w6, E_w6, S_w7, E_w7, S_w8, E_w8, F_w1_minIn, F_w1_maxIn, F_w2_minIn, F_w2_maxIn, F_w2_minOut, F_w2_maxOut, F_w3_minIn, F_w3_maxIn, F_w4_minIn, F_w5_minIn, F_w6_minIn, F_w6_maxIn, F_w5_maxIn, F_w7_minIn, F_w7_maxIn, F_w7_minOut, F_w7_maxOut, F_w8_minIn, F_w8_maxIn, F_w1_minOut, F_w1_maxOut, F_w4_maxIn, F_w5_minOut, F_w5_maxOut, F_w6_minOut, F_w4_minOut, F_w6_maxOut, F_w4_maxOut, F_w8_minOut, F_w8_maxOut, F_w3_minOut, F_w3_maxOut⟩ := id G
  refine MetFree.of_bodySF (plainFor_of_name pn0) hisR ?_
  intro p e s m args below meth c s₁ Bd hml0 hP hK
  obtain ⟨rfl, hZ, hh⟩ := hP
  have hx := Bd.exec
  have hby := Bd.bytes
  have hml : c.maxLocals = 3 := hml0
  have hown : s.vm.findClass "com/example/vipo/vipo/flow/PatternType" = some m.cls := findClass_of_methodNamed Bd.named
  have hnm := (name_of_methodNamed Bd.named Bd.method).1
  have hret := Bd.returns
  have hlk : meth.locks = false := BodyLoose.notSynchronized Bd
  have X0 : Stand p l e ({ frames := 0, cells := 0, slots := 0, locals := 0 } : Room) s m #[(.ref w2), (.int p1), (.int (0 : Int32))] below meth c s₁ [] 0 0 := Stand.of_body Bd
  have e0 : s₁.heap = h0 := by rw [← hh, Bd.state]; rfl
  have N0 := Fr.nil n0
  have pre0 : ∀ t, Steps p.tables e below (s₁.setTop (mkF m 0 #[.val (.ref w2), .val (.int p1), .val (.int (0 : Int32))] [])) t → Steps p.tables e below (s₁.setTop (entryFrame m #[(.ref w2), (.int p1), (.int (0 : Int32))] 3)) t := fun t k => castTop (ef4 m w2 p1 (0 : Int32)) k
  obtain ⟨T1, X1, e1, st1⟩ := getF X0 hx hZ hown (host := "") (Or.inl (hw _ (List.mem_of_getElem? (i := 9) rfl))) Via.refl e0 (F_w2_minIn.ext O0.2) (g := (mkF m 1 #[.val (.ref w2), .val (.int p1), .val (.int (0 : Int32))] [(.ref w2)])) rfl rfl (hb hby d0_1)
  have pre2 : ∀ t, Steps p.tables e below (T1.setTop (mkF m 5 #[.val (.ref w2), .val (.int p1), .val (.int (0 : Int32))] [(.int p1), (.int (0 : Int32))])) t → Steps p.tables e below (s₁.setTop (entryFrame m #[(.ref w2), (.int p1), (.int (0 : Int32))] 3)) t := fun t k => by
    refine pre0 _ ?_
    show Steps p.tables e below (s₁.setTop (mkF m 0 #[.val (.ref w2), .val (.int p1), .val (.int (0 : Int32))] [])) _
    refine XS.aloadN X0.here hx rfl (hb hby d0_0) rfl rfl ?_
    show Steps p.tables e below (s₁.setTop (mkF m 1 #[.val (.ref w2), .val (.int p1), .val (.int (0 : Int32))] [(.ref w2)])) _
    refine st1 _ ?_
    show Steps p.tables e below (T1.setTop (mkF m 4 #[.val (.ref w2), .val (.int p1), .val (.int (0 : Int32))] [(.int (0 : Int32))])) _
    refine XS.iloadN X1.here hx rfl (hb hby d0_4) rfl ?_
    exact k
  by_cases hc3 : p1 < (0 : Int32)
  ·
    obtain ⟨fs, hr, hrun, hended, hW, hsame⟩ := X1.leave (v := some (.int (0 : Int32))) (fun h => by rw [hret] at h; cases h)
    refine ⟨_, _, pre2 _ ?_, hrun, hended, _, _, rfl, ?_, ⟨_, rfl⟩, hW, hsame.mono (by decide) (by decide)⟩
    ·
      show Steps p.tables e below (T1.setTop (mkF m 5 #[.val (.ref w2), .val (.int p1), .val (.int (0 : Int32))] [(.int p1), (.int (0 : Int32))])) _
      refine XS.icmpYes X1.here hx rfl (pc0 := 5) (pc' := 36) rfl (hb hby d0_5) rfl (tlt hc3).2.2.1 (by decide) (by decide) ?_
      show Steps p.tables e below (T1.setTop (mkF m 36 #[.val (.ref w2), .val (.int p1), .val (.int (0 : Int32))] [])) _
      refine XS.iconst X1.here hx rfl (hb hby d0_36) ?_
      show Steps p.tables e below (T1.setTop (mkF m 37 #[.val (.ref w2), .val (.int p1), .val (.int (0 : Int32))] [(.int (0 : Int32))])) _
      exact retN X1 hx (t := .boolean) hret (by simp) (hb hby d0_37) hr
    ·
      show Q4 Z w1 w2 w3 w4 w5 w6 w7 w8 p1 h0 n0 _ T1.heap _
      rw [e1]
      exact (Or.inl ⟨hc3, rfl, N0, rfl⟩)
  ·
    obtain ⟨T4, X4, e4, st4⟩ := getF X1 hx hZ hown (host := "") (Or.inl (hw _ (List.mem_of_getElem? (i := 11) rfl))) Via.refl e1 (F_w2_maxIn.ext O0.2) (g := (mkF m 10 #[.val (.ref w2), .val (.int p1), .val (.int (0 : Int32))] [(.ref w2), (.int p1)])) rfl rfl (hb hby d0_10)
    obtain ⟨T5, X5, e5, st5⟩ := getF X4 hx hZ hown (host := "") (Or.inl (hw _ (List.mem_of_getElem? (i := 15) rfl))) Via.refl e4 (F_w2_minOut.ext O0.2) (g := (mkF m 17 #[.val (.ref w2), .val (.int p1), .val (.int (0 : Int32))] [(.ref w2)])) rfl rfl (hb hby d0_17)
    obtain ⟨T6, X6, e6, st6⟩ := getF X5 hx hZ hown (host := "") (Or.inl (hw _ (List.mem_of_getElem? (i := 17) rfl))) Via.refl e5 (F_w2_maxOut.ext O0.2) (g := (mkF m 26 #[.val (.ref w2), .val (.int p1), .val (.int (0 : Int32))] [(.ref w2), (.int (0 : Int32))])) rfl rfl (hb hby d0_26)
    obtain ⟨fs, hr, hrun, hended, hW, hsame⟩ := X6.leave (v := some (.int (1 : Int32))) (fun h => by rw [hret] at h; cases h)
    refine ⟨_, _, pre2 _ ?_, hrun, hended, _, _, rfl, ?_, ⟨_, rfl⟩, hW, hsame.mono (by decide) (by decide)⟩
    ·
      show Steps p.tables e below (T1.setTop (mkF m 5 #[.val (.ref w2), .val (.int p1), .val (.int (0 : Int32))] [(.int p1), (.int (0 : Int32))])) _
      refine XS.icmpNo X1.here hx rfl (hb hby d0_5) rfl (flt hc3).2.2.1 ?_
      show Steps p.tables e below (T1.setTop (mkF m 8 #[.val (.ref w2), .val (.int p1), .val (.int (0 : Int32))] [])) _
      refine XS.iloadN X1.here hx rfl (hb hby d0_8) rfl ?_
      show Steps p.tables e below (T1.setTop (mkF m 9 #[.val (.ref w2), .val (.int p1), .val (.int (0 : Int32))] [(.int p1)])) _
      refine XS.aloadN X1.here hx rfl (hb hby d0_9) rfl rfl ?_
      show Steps p.tables e below (T1.setTop (mkF m 10 #[.val (.ref w2), .val (.int p1), .val (.int (0 : Int32))] [(.ref w2), (.int p1)])) _
      refine st4 _ ?_
      show Steps p.tables e below (T4.setTop (mkF m 13 #[.val (.ref w2), .val (.int p1), .val (.int (0 : Int32))] [(.int (2147483647 : Int32)), (.int p1)])) _
      refine XS.icmpNo X4.here hx rfl (hb hby d0_13) rfl (flt (own_gnlt2 (n := 2147483647) (k := (2147483647 : Int32)) (by decide) (by have q0 := rng32 p1; have q1 := own_nlt1 (n := 0) (k := (0 : Int32)) (by decide) hc3; omega))).2.2.1 ?_
      show Steps p.tables e below (T4.setTop (mkF m 16 #[.val (.ref w2), .val (.int p1), .val (.int (0 : Int32))] [])) _
      refine XS.aloadN X4.here hx rfl (hb hby d0_16) rfl rfl ?_
      show Steps p.tables e below (T4.setTop (mkF m 17 #[.val (.ref w2), .val (.int p1), .val (.int (0 : Int32))] [(.ref w2)])) _
      refine st5 _ ?_
      show Steps p.tables e below (T5.setTop (mkF m 20 #[.val (.ref w2), .val (.int p1), .val (.int (0 : Int32))] [(.int (0 : Int32))])) _
      refine XS.iloadN X5.here hx rfl (hb hby d0_20) rfl ?_
      show Steps p.tables e below (T5.setTop (mkF m 21 #[.val (.ref w2), .val (.int p1), .val (.int (0 : Int32))] [(.int (0 : Int32)), (.int (0 : Int32))])) _
      refine XS.icmpNo X5.here hx rfl (hb hby d0_21) rfl (flt (by decide : ¬ ((0 : Int32) < (0 : Int32)))).2.2.1 ?_
      show Steps p.tables e below (T5.setTop (mkF m 24 #[.val (.ref w2), .val (.int p1), .val (.int (0 : Int32))] [])) _
      refine XS.iloadN X5.here hx rfl (hb hby d0_24) rfl ?_
      show Steps p.tables e below (T5.setTop (mkF m 25 #[.val (.ref w2), .val (.int p1), .val (.int (0 : Int32))] [(.int (0 : Int32))])) _
      refine XS.aloadN X5.here hx rfl (hb hby d0_25) rfl rfl ?_
      show Steps p.tables e below (T5.setTop (mkF m 26 #[.val (.ref w2), .val (.int p1), .val (.int (0 : Int32))] [(.ref w2), (.int (0 : Int32))])) _
      refine st6 _ ?_
      show Steps p.tables e below (T6.setTop (mkF m 29 #[.val (.ref w2), .val (.int p1), .val (.int (0 : Int32))] [(.int (0 : Int32)), (.int (0 : Int32))])) _
      refine XS.icmpNo X6.here hx rfl (hb hby d0_29) rfl (flt (by decide : ¬ ((0 : Int32) < (0 : Int32)))).2.2.1 ?_
      show Steps p.tables e below (T6.setTop (mkF m 32 #[.val (.ref w2), .val (.int p1), .val (.int (0 : Int32))] [])) _
      refine XS.iconst X6.here hx rfl (hb hby d0_32) ?_
      show Steps p.tables e below (T6.setTop (mkF m 33 #[.val (.ref w2), .val (.int p1), .val (.int (0 : Int32))] [(.int (1 : Int32))])) _
      refine XS.goto X6.here hx rfl (pc0 := 33) (pc' := 37) rfl (hb hby d0_33) (by decide) (by decide) ?_
      show Steps p.tables e below (T6.setTop (mkF m 37 #[.val (.ref w2), .val (.int p1), .val (.int (0 : Int32))] [(.int (1 : Int32))])) _
      exact retN X6 hx (t := .boolean) hret (by simp) (hb hby d0_37) hr
    ·
      show Q4 Z w1 w2 w3 w4 w5 w6 w7 w8 p1 h0 n0 _ T6.heap _
      rw [e6]
      exact (Or.inr ⟨hc3, rfl, N0, rfl⟩)
theorem ef5 (m : MethodId) (x0 : Addr) (x1 : Int32) (x2 : Int32) : entryFrame m #[(.ref x0), (.int x1), (.int x2)] 3 = mkF m 0 #[.val (.ref x0), .val (.int x1), .val (.int x2)] [] := by first | (simp [entryFrame, mkF, argsToLocals, Value.category]; done) | rfl
def Q5 (Z : State) (w1 : Addr) (w2 : Addr) (w3 : Addr) (w4 : Addr) (w5 : Addr) (w6 : Addr) (w7 : Addr) (w8 : Addr) (h0 : Heap) (n0 : Nat) (v : Option Value) (h : Heap) (L : List Loc) : Prop :=
  (v = some (.int (1 : Int32)) ∧ Fr n0 L ∧ h = h0)
set_option maxRecDepth 65536 in
set_option maxHeartbeats 40000000 in
theorem rm5 (l : Launch) (Z : State) (a0 : Array Value) (hw : ∀ d ∈ tables_1, d.before a0 Z = true) (w1 : Addr) (w2 : Addr) (w3 : Addr) (w4 : Addr) (w5 : Addr) (w6 : Addr) (w7 : Addr) (w8 : Addr) (G : GW Z w1 w2 w3 w4 w5 w6 w7 w8) (ws : List Jvm.Cond) (h0 : Heap) (n0 : Nat) (O0 : Old Z n0 h0) :
    MetFree l (⟨"com/example/vipo/vipo/flow/PatternType", "admitsDegree", "(II)Z"⟩ : MethodName) (head1 (Jvm.Cond.code (⟨"com/example/vipo/vipo/flow/PatternType", "admitsDegree", "(II)Z"⟩ : MethodName) prog_18_method_6_code 3 (some .boolean) :: ws) ({ frames := 0, cells := 0, slots := 0, locals := 0 } : Room)) (fun a U => a = #[(.ref w5), (.int (1 : Int32)), (.int (1 : Int32))] ∧ Z.Warmed39 U.vm ∧ U.heap = h0) (fun _ _ _ _ _ => True) (fun _ U o U' => ∃ v L, o = .returned v ∧ Q5 Z w1 w2 w3 w4 w5 w6 w7 w8 h0 n0 v U'.heap L ∧ FrameEnd U o U' L ({ frames := 0, cells := 0, slots := 0, locals := 0 } : Room).cells ({ frames := 0, cells := 0, slots := 0, locals := 0 } : Room).slots) := by
  obtain ⟨S_w1, E_w1, S_w2, E_w2, S_w3, E_w3, S_w4, E_w4, S_w5, E_w5, S_w6, E_w6, S_w7, E_w7, S_w8, E_w8, F_w1_minIn, F_w1_maxIn, F_w2_minIn, F_w2_maxIn, F_w2_minOut, F_w2_maxOut, F_w3_minIn, F_w3_maxIn, F_w4_minIn, F_w5_minIn, F_w6_minIn, F_w6_maxIn, F_w5_maxIn, F_w7_minIn, F_w7_maxIn, F_w7_minOut, F_w7_maxOut, F_w8_minIn, F_w8_maxIn, F_w1_minOut, F_w1_maxOut, F_w4_maxIn, F_w5_minOut, F_w5_maxOut, F_w6_minOut, F_w4_minOut, F_w6_maxOut, F_w4_maxOut, F_w8_minOut, F_w8_maxOut, F_w3_minOut, F_w3_maxOut⟩ := id G
  refine MetFree.of_bodySF (plainFor_of_name pn0) hisR ?_
  intro p e s m args below meth c s₁ Bd hml0 hP hK
  obtain ⟨rfl, hZ, hh⟩ := hP
  have hx := Bd.exec
  have hby := Bd.bytes
  have hml : c.maxLocals = 3 := hml0
  have hown : s.vm.findClass "com/example/vipo/vipo/flow/PatternType" = some m.cls := findClass_of_methodNamed Bd.named
  have hnm := (name_of_methodNamed Bd.named Bd.method).1
  have hret := Bd.returns
  have hlk : meth.locks = false := BodyLoose.notSynchronized Bd
  have X0 : Stand p l e ({ frames := 0, cells := 0, slots := 0, locals := 0 } : Room) s m #[(.ref w5), (.int (1 : Int32)), (.int (1 : Int32))] below meth c s₁ [] 0 0 := Stand.of_body Bd
  have e0 : s₁.heap = h0 := by rw [← hh, Bd.state]; rfl
  have N0 := Fr.nil n0
  have pre0 : ∀ t, Steps p.tables e below (s₁.setTop (mkF m 0 #[.val (.ref w5), .val (.int (1 : Int32)), .val (.int (1 : Int32))] [])) t → Steps p.tables e below (s₁.setTop (entryFrame m #[(.ref w5), (.int (1 : Int32)), (.int (1 : Int32))] 3)) t := fun t k => castTop (ef5 m w5 (1 : Int32) (1 : Int32)) k
  obtain ⟨T1, X1, e1, st1⟩ := getF X0 hx hZ hown (host := "") (Or.inl (hw _ (List.mem_of_getElem? (i := 9) rfl))) Via.refl e0 (F_w5_minIn.ext O0.2) (g := (mkF m 1 #[.val (.ref w5), .val (.int (1 : Int32)), .val (.int (1 : Int32))] [(.ref w5)])) rfl rfl (hb hby d0_1)
  obtain ⟨T2, X2, e2, st2⟩ := getF X1 hx hZ hown (host := "") (Or.inl (hw _ (List.mem_of_getElem? (i := 11) rfl))) Via.refl e1 (F_w5_maxIn.ext O0.2) (g := (mkF m 10 #[.val (.ref w5), .val (.int (1 : Int32)), .val (.int (1 : Int32))] [(.ref w5), (.int (1 : Int32))])) rfl rfl (hb hby d0_10)
  obtain ⟨T3, X3, e3, st3⟩ := getF X2 hx hZ hown (host := "") (Or.inl (hw _ (List.mem_of_getElem? (i := 15) rfl))) Via.refl e2 (F_w5_minOut.ext O0.2) (g := (mkF m 17 #[.val (.ref w5), .val (.int (1 : Int32)), .val (.int (1 : Int32))] [(.ref w5)])) rfl rfl (hb hby d0_17)
  obtain ⟨T4, X4, e4, st4⟩ := getF X3 hx hZ hown (host := "") (Or.inl (hw _ (List.mem_of_getElem? (i := 17) rfl))) Via.refl e3 (F_w5_maxOut.ext O0.2) (g := (mkF m 26 #[.val (.ref w5), .val (.int (1 : Int32)), .val (.int (1 : Int32))] [(.ref w5), (.int (1 : Int32))])) rfl rfl (hb hby d0_26)
  obtain ⟨fs, hr, hrun, hended, hW, hsame⟩ := X4.leave (v := some (.int (1 : Int32))) (fun h => by rw [hret] at h; cases h)
  refine ⟨_, _, pre0 _ ?_, hrun, hended, _, _, rfl, ?_, ⟨_, rfl⟩, hW, hsame.mono (by decide) (by decide)⟩
  ·
    show Steps p.tables e below (s₁.setTop (mkF m 0 #[.val (.ref w5), .val (.int (1 : Int32)), .val (.int (1 : Int32))] [])) _
    refine XS.aloadN X0.here hx rfl (hb hby d0_0) rfl rfl ?_
    show Steps p.tables e below (s₁.setTop (mkF m 1 #[.val (.ref w5), .val (.int (1 : Int32)), .val (.int (1 : Int32))] [(.ref w5)])) _
    refine st1 _ ?_
    show Steps p.tables e below (T1.setTop (mkF m 4 #[.val (.ref w5), .val (.int (1 : Int32)), .val (.int (1 : Int32))] [(.int (1 : Int32))])) _
    refine XS.iloadN X1.here hx rfl (hb hby d0_4) rfl ?_
    show Steps p.tables e below (T1.setTop (mkF m 5 #[.val (.ref w5), .val (.int (1 : Int32)), .val (.int (1 : Int32))] [(.int (1 : Int32)), (.int (1 : Int32))])) _
    refine XS.icmpNo X1.here hx rfl (hb hby d0_5) rfl (flt (by decide : ¬ ((1 : Int32) < (1 : Int32)))).2.2.1 ?_
    show Steps p.tables e below (T1.setTop (mkF m 8 #[.val (.ref w5), .val (.int (1 : Int32)), .val (.int (1 : Int32))] [])) _
    refine XS.iloadN X1.here hx rfl (hb hby d0_8) rfl ?_
    show Steps p.tables e below (T1.setTop (mkF m 9 #[.val (.ref w5), .val (.int (1 : Int32)), .val (.int (1 : Int32))] [(.int (1 : Int32))])) _
    refine XS.aloadN X1.here hx rfl (hb hby d0_9) rfl rfl ?_
    show Steps p.tables e below (T1.setTop (mkF m 10 #[.val (.ref w5), .val (.int (1 : Int32)), .val (.int (1 : Int32))] [(.ref w5), (.int (1 : Int32))])) _
    refine st2 _ ?_
    show Steps p.tables e below (T2.setTop (mkF m 13 #[.val (.ref w5), .val (.int (1 : Int32)), .val (.int (1 : Int32))] [(.int (1 : Int32)), (.int (1 : Int32))])) _
    refine XS.icmpNo X2.here hx rfl (hb hby d0_13) rfl (flt (by decide : ¬ ((1 : Int32) < (1 : Int32)))).2.2.1 ?_
    show Steps p.tables e below (T2.setTop (mkF m 16 #[.val (.ref w5), .val (.int (1 : Int32)), .val (.int (1 : Int32))] [])) _
    refine XS.aloadN X2.here hx rfl (hb hby d0_16) rfl rfl ?_
    show Steps p.tables e below (T2.setTop (mkF m 17 #[.val (.ref w5), .val (.int (1 : Int32)), .val (.int (1 : Int32))] [(.ref w5)])) _
    refine st3 _ ?_
    show Steps p.tables e below (T3.setTop (mkF m 20 #[.val (.ref w5), .val (.int (1 : Int32)), .val (.int (1 : Int32))] [(.int (1 : Int32))])) _
    refine XS.iloadN X3.here hx rfl (hb hby d0_20) rfl ?_
    show Steps p.tables e below (T3.setTop (mkF m 21 #[.val (.ref w5), .val (.int (1 : Int32)), .val (.int (1 : Int32))] [(.int (1 : Int32)), (.int (1 : Int32))])) _
    refine XS.icmpNo X3.here hx rfl (hb hby d0_21) rfl (flt (by decide : ¬ ((1 : Int32) < (1 : Int32)))).2.2.1 ?_
    show Steps p.tables e below (T3.setTop (mkF m 24 #[.val (.ref w5), .val (.int (1 : Int32)), .val (.int (1 : Int32))] [])) _
    refine XS.iloadN X3.here hx rfl (hb hby d0_24) rfl ?_
    show Steps p.tables e below (T3.setTop (mkF m 25 #[.val (.ref w5), .val (.int (1 : Int32)), .val (.int (1 : Int32))] [(.int (1 : Int32))])) _
    refine XS.aloadN X3.here hx rfl (hb hby d0_25) rfl rfl ?_
    show Steps p.tables e below (T3.setTop (mkF m 26 #[.val (.ref w5), .val (.int (1 : Int32)), .val (.int (1 : Int32))] [(.ref w5), (.int (1 : Int32))])) _
    refine st4 _ ?_
    show Steps p.tables e below (T4.setTop (mkF m 29 #[.val (.ref w5), .val (.int (1 : Int32)), .val (.int (1 : Int32))] [(.int (1 : Int32)), (.int (1 : Int32))])) _
    refine XS.icmpNo X4.here hx rfl (hb hby d0_29) rfl (flt (by decide : ¬ ((1 : Int32) < (1 : Int32)))).2.2.1 ?_
    show Steps p.tables e below (T4.setTop (mkF m 32 #[.val (.ref w5), .val (.int (1 : Int32)), .val (.int (1 : Int32))] [])) _
    refine XS.iconst X4.here hx rfl (hb hby d0_32) ?_
    show Steps p.tables e below (T4.setTop (mkF m 33 #[.val (.ref w5), .val (.int (1 : Int32)), .val (.int (1 : Int32))] [(.int (1 : Int32))])) _
    refine XS.goto X4.here hx rfl (pc0 := 33) (pc' := 37) rfl (hb hby d0_33) (by decide) (by decide) ?_
    show Steps p.tables e below (T4.setTop (mkF m 37 #[.val (.ref w5), .val (.int (1 : Int32)), .val (.int (1 : Int32))] [(.int (1 : Int32))])) _
    exact retN X4 hx (t := .boolean) hret (by simp) (hb hby d0_37) hr
  ·
    show Q5 Z w1 w2 w3 w4 w5 w6 w7 w8 h0 n0 _ T4.heap _
    rw [e4]
    exact ⟨rfl, N0, rfl⟩
theorem ef6 (m : MethodId) (x0 : Addr) (x1 : Int32) (x2 : Int32) : entryFrame m #[(.ref x0), (.int x1), (.int x2)] 3 = mkF m 0 #[.val (.ref x0), .val (.int x1), .val (.int x2)] [] := by first | (simp [entryFrame, mkF, argsToLocals, Value.category]; done) | rfl
def Q6 (Z : State) (w1 : Addr) (w2 : Addr) (w3 : Addr) (w4 : Addr) (w5 : Addr) (w6 : Addr) (w7 : Addr) (w8 : Addr) (p1 : Int32) (h0 : Heap) (n0 : Nat) (v : Option Value) (h : Heap) (L : List Loc) : Prop :=
  ((p1 < (1 : Int32)) ∧ v = some (.int (0 : Int32)) ∧ Fr n0 L ∧ h = h0)
  ∨ ((¬ (p1 < (1 : Int32))) ∧ ((1 : Int32) < p1) ∧ v = some (.int (0 : Int32)) ∧ Fr n0 L ∧ h = h0)
  ∨ ((¬ (p1 < (1 : Int32))) ∧ (¬ ((1 : Int32) < p1)) ∧ v = some (.int (1 : Int32)) ∧ Fr n0 L ∧ h = h0)
set_option maxRecDepth 65536 in
set_option maxHeartbeats 40000000 in
theorem rm6 (l : Launch) (Z : State) (a0 : Array Value) (hw : ∀ d ∈ tables_1, d.before a0 Z = true) (w1 : Addr) (w2 : Addr) (w3 : Addr) (w4 : Addr) (w5 : Addr) (w6 : Addr) (w7 : Addr) (w8 : Addr) (G : GW Z w1 w2 w3 w4 w5 w6 w7 w8) (ws : List Jvm.Cond) (p1 : Int32) (h0 : Heap) (n0 : Nat) (O0 : Old Z n0 h0) :
    MetFree l (⟨"com/example/vipo/vipo/flow/PatternType", "admitsDegree", "(II)Z"⟩ : MethodName) (head1 (Jvm.Cond.code (⟨"com/example/vipo/vipo/flow/PatternType", "admitsDegree", "(II)Z"⟩ : MethodName) prog_18_method_6_code 3 (some .boolean) :: ws) ({ frames := 0, cells := 0, slots := 0, locals := 0 } : Room)) (fun a U => a = #[(.ref w5), (.int (1 : Int32)), (.int p1)] ∧ Z.Warmed39 U.vm ∧ U.heap = h0) (fun _ _ _ _ _ => True) (fun _ U o U' => ∃ v L, o = .returned v ∧ Q6 Z w1 w2 w3 w4 w5 w6 w7 w8 p1 h0 n0 v U'.heap L ∧ FrameEnd U o U' L ({ frames := 0, cells := 0, slots := 0, locals := 0 } : Room).cells ({ frames := 0, cells := 0, slots := 0, locals := 0 } : Room).slots) := by
  obtain ⟨S_w1, E_w1, S_w2, E_w2, S_w3, E_w3, S_w4, E_w4, S_w5, E_w5, S_w6, E_w6, S_w7, E_w7, S_w8, E_w8, F_w1_minIn, F_w1_maxIn, F_w2_minIn, F_w2_maxIn, F_w2_minOut, F_w2_maxOut, F_w3_minIn, F_w3_maxIn, F_w4_minIn, F_w5_minIn, F_w6_minIn, F_w6_maxIn, F_w5_maxIn, F_w7_minIn, F_w7_maxIn, F_w7_minOut, F_w7_maxOut, F_w8_minIn, F_w8_maxIn, F_w1_minOut, F_w1_maxOut, F_w4_maxIn, F_w5_minOut, F_w5_maxOut, F_w6_minOut, F_w4_minOut, F_w6_maxOut, F_w4_maxOut, F_w8_minOut, F_w8_maxOut, F_w3_minOut, F_w3_maxOut⟩ := id G
  refine MetFree.of_bodySF (plainFor_of_name pn0) hisR ?_
  intro p e s m args below meth c s₁ Bd hml0 hP hK
  obtain ⟨rfl, hZ, hh⟩ := hP
  have hx := Bd.exec
  have hby := Bd.bytes
  have hml : c.maxLocals = 3 := hml0
  have hown : s.vm.findClass "com/example/vipo/vipo/flow/PatternType" = some m.cls := findClass_of_methodNamed Bd.named
  have hnm := (name_of_methodNamed Bd.named Bd.method).1
  have hret := Bd.returns
  have hlk : meth.locks = false := BodyLoose.notSynchronized Bd
  have X0 : Stand p l e ({ frames := 0, cells := 0, slots := 0, locals := 0 } : Room) s m #[(.ref w5), (.int (1 : Int32)), (.int p1)] below meth c s₁ [] 0 0 := Stand.of_body Bd
  have e0 : s₁.heap = h0 := by rw [← hh, Bd.state]; rfl
  have N0 := Fr.nil n0
  have pre0 : ∀ t, Steps p.tables e below (s₁.setTop (mkF m 0 #[.val (.ref w5), .val (.int (1 : Int32)), .val (.int p1)] [])) t → Steps p.tables e below (s₁.setTop (entryFrame m #[(.ref w5), (.int (1 : Int32)), (.int p1)] 3)) t := fun t k => castTop (ef6 m w5 (1 : Int32) p1) k
  obtain ⟨T1, X1, e1, st1⟩ := getF X0 hx hZ hown (host := "") (Or.inl (hw _ (List.mem_of_getElem? (i := 9) rfl))) Via.refl e0 (F_w5_minIn.ext O0.2) (g := (mkF m 1 #[.val (.ref w5), .val (.int (1 : Int32)), .val (.int p1)] [(.ref w5)])) rfl rfl (hb hby d0_1)
  obtain ⟨T2, X2, e2, st2⟩ := getF X1 hx hZ hown (host := "") (Or.inl (hw _ (List.mem_of_getElem? (i := 11) rfl))) Via.refl e1 (F_w5_maxIn.ext O0.2) (g := (mkF m 10 #[.val (.ref w5), .val (.int (1 : Int32)), .val (.int p1)] [(.ref w5), (.int (1 : Int32))])) rfl rfl (hb hby d0_10)
  obtain ⟨T3, X3, e3, st3⟩ := getF X2 hx hZ hown (host := "") (Or.inl (hw _ (List.mem_of_getElem? (i := 15) rfl))) Via.refl e2 (F_w5_minOut.ext O0.2) (g := (mkF m 17 #[.val (.ref w5), .val (.int (1 : Int32)), .val (.int p1)] [(.ref w5)])) rfl rfl (hb hby d0_17)
  have pre4 : ∀ t, Steps p.tables e below (T3.setTop (mkF m 21 #[.val (.ref w5), .val (.int (1 : Int32)), .val (.int p1)] [(.int p1), (.int (1 : Int32))])) t → Steps p.tables e below (s₁.setTop (entryFrame m #[(.ref w5), (.int (1 : Int32)), (.int p1)] 3)) t := fun t k => by
    refine pre0 _ ?_
    show Steps p.tables e below (s₁.setTop (mkF m 0 #[.val (.ref w5), .val (.int (1 : Int32)), .val (.int p1)] [])) _
    refine XS.aloadN X0.here hx rfl (hb hby d0_0) rfl rfl ?_
    show Steps p.tables e below (s₁.setTop (mkF m 1 #[.val (.ref w5), .val (.int (1 : Int32)), .val (.int p1)] [(.ref w5)])) _
    refine st1 _ ?_
    show Steps p.tables e below (T1.setTop (mkF m 4 #[.val (.ref w5), .val (.int (1 : Int32)), .val (.int p1)] [(.int (1 : Int32))])) _
    refine XS.iloadN X1.here hx rfl (hb hby d0_4) rfl ?_
    show Steps p.tables e below (T1.setTop (mkF m 5 #[.val (.ref w5), .val (.int (1 : Int32)), .val (.int p1)] [(.int (1 : Int32)), (.int (1 : Int32))])) _
    refine XS.icmpNo X1.here hx rfl (hb hby d0_5) rfl (flt (by decide : ¬ ((1 : Int32) < (1 : Int32)))).2.2.1 ?_
    show Steps p.tables e below (T1.setTop (mkF m 8 #[.val (.ref w5), .val (.int (1 : Int32)), .val (.int p1)] [])) _
    refine XS.iloadN X1.here hx rfl (hb hby d0_8) rfl ?_
    show Steps p.tables e below (T1.setTop (mkF m 9 #[.val (.ref w5), .val (.int (1 : Int32)), .val (.int p1)] [(.int (1 : Int32))])) _
    refine XS.aloadN X1.here hx rfl (hb hby d0_9) rfl rfl ?_
    show Steps p.tables e below (T1.setTop (mkF m 10 #[.val (.ref w5), .val (.int (1 : Int32)), .val (.int p1)] [(.ref w5), (.int (1 : Int32))])) _
    refine st2 _ ?_
    show Steps p.tables e below (T2.setTop (mkF m 13 #[.val (.ref w5), .val (.int (1 : Int32)), .val (.int p1)] [(.int (1 : Int32)), (.int (1 : Int32))])) _
    refine XS.icmpNo X2.here hx rfl (hb hby d0_13) rfl (flt (by decide : ¬ ((1 : Int32) < (1 : Int32)))).2.2.1 ?_
    show Steps p.tables e below (T2.setTop (mkF m 16 #[.val (.ref w5), .val (.int (1 : Int32)), .val (.int p1)] [])) _
    refine XS.aloadN X2.here hx rfl (hb hby d0_16) rfl rfl ?_
    show Steps p.tables e below (T2.setTop (mkF m 17 #[.val (.ref w5), .val (.int (1 : Int32)), .val (.int p1)] [(.ref w5)])) _
    refine st3 _ ?_
    show Steps p.tables e below (T3.setTop (mkF m 20 #[.val (.ref w5), .val (.int (1 : Int32)), .val (.int p1)] [(.int (1 : Int32))])) _
    refine XS.iloadN X3.here hx rfl (hb hby d0_20) rfl ?_
    exact k
  by_cases hc5 : p1 < (1 : Int32)
  ·
    obtain ⟨fs, hr, hrun, hended, hW, hsame⟩ := X3.leave (v := some (.int (0 : Int32))) (fun h => by rw [hret] at h; cases h)
    refine ⟨_, _, pre4 _ ?_, hrun, hended, _, _, rfl, ?_, ⟨_, rfl⟩, hW, hsame.mono (by decide) (by decide)⟩
    ·
      show Steps p.tables e below (T3.setTop (mkF m 21 #[.val (.ref w5), .val (.int (1 : Int32)), .val (.int p1)] [(.int p1), (.int (1 : Int32))])) _
      refine XS.icmpYes X3.here hx rfl (pc0 := 21) (pc' := 36) rfl (hb hby d0_21) rfl (tlt hc5).2.2.1 (by decide) (by decide) ?_
      show Steps p.tables e below (T3.setTop (mkF m 36 #[.val (.ref w5), .val (.int (1 : Int32)), .val (.int p1)] [])) _
      refine XS.iconst X3.here hx rfl (hb hby d0_36) ?_
      show Steps p.tables e below (T3.setTop (mkF m 37 #[.val (.ref w5), .val (.int (1 : Int32)), .val (.int p1)] [(.int (0 : Int32))])) _
      exact retN X3 hx (t := .boolean) hret (by simp) (hb hby d0_37) hr
    ·
      show Q6 Z w1 w2 w3 w4 w5 w6 w7 w8 p1 h0 n0 _ T3.heap _
      rw [e3]
      exact (Or.inl ⟨hc5, rfl, N0, rfl⟩)
  ·
    obtain ⟨T6, X6, e6, st6⟩ := getF X3 hx hZ hown (host := "") (Or.inl (hw _ (List.mem_of_getElem? (i := 17) rfl))) Via.refl e3 (F_w5_maxOut.ext O0.2) (g := (mkF m 26 #[.val (.ref w5), .val (.int (1 : Int32)), .val (.int p1)] [(.ref w5), (.int p1)])) rfl rfl (hb hby d0_26)
    have pre7 : ∀ t, Steps p.tables e below (T6.setTop (mkF m 29 #[.val (.ref w5), .val (.int (1 : Int32)), .val (.int p1)] [(.int (1 : Int32)), (.int p1)])) t → Steps p.tables e below (s₁.setTop (entryFrame m #[(.ref w5), (.int (1 : Int32)), (.int p1)] 3)) t := fun t k => by
      refine pre4 _ ?_
      show Steps p.tables e below (T3.setTop (mkF m 21 #[.val (.ref w5), .val (.int (1 : Int32)), .val (.int p1)] [(.int p1), (.int (1 : Int32))])) _
      refine XS.icmpNo X3.here hx rfl (hb hby d0_21) rfl (flt hc5).2.2.1 ?_
      show Steps p.tables e below (T3.setTop (mkF m 24 #[.val (.ref w5), .val (.int (1 : Int32)), .val (.int p1)] [])) _
      refine XS.iloadN X3.here hx rfl (hb hby d0_24) rfl ?_
      show Steps p.tables e below (T3.setTop (mkF m 25 #[.val (.ref w5), .val (.int (1 : Int32)), .val (.int p1)] [(.int p1)])) _
      refine XS.aloadN X3.here hx rfl (hb hby d0_25) rfl rfl ?_
      show Steps p.tables e below (T3.setTop (mkF m 26 #[.val (.ref w5), .val (.int (1 : Int32)), .val (.int p1)] [(.ref w5), (.int p1)])) _
      refine st6 _ ?_
      exact k
    by_cases hc8 : (1 : Int32) < p1
    ·
      obtain ⟨fs, hr, hrun, hended, hW, hsame⟩ := X6.leave (v := some (.int (0 : Int32))) (fun h => by rw [hret] at h; cases h)
      refine ⟨_, _, pre7 _ ?_, hrun, hended, _, _, rfl, ?_, ⟨_, rfl⟩, hW, hsame.mono (by decide) (by decide)⟩
      ·
        show Steps p.tables e below (T6.setTop (mkF m 29 #[.val (.ref w5), .val (.int (1 : Int32)), .val (.int p1)] [(.int (1 : Int32)), (.int p1)])) _
        refine XS.icmpYes X6.here hx rfl (pc0 := 29) (pc' := 36) rfl (hb hby d0_29) rfl (tlt hc8).2.2.1 (by decide) (by decide) ?_
        show Steps p.tables e below (T6.setTop (mkF m 36 #[.val (.ref w5), .val (.int (1 : Int32)), .val (.int p1)] [])) _
        refine XS.iconst X6.here hx rfl (hb hby d0_36) ?_
        show Steps p.tables e below (T6.setTop (mkF m 37 #[.val (.ref w5), .val (.int (1 : Int32)), .val (.int p1)] [(.int (0 : Int32))])) _
        exact retN X6 hx (t := .boolean) hret (by simp) (hb hby d0_37) hr
      ·
        show Q6 Z w1 w2 w3 w4 w5 w6 w7 w8 p1 h0 n0 _ T6.heap _
        rw [e6]
        exact (Or.inr (Or.inl ⟨hc5, hc8, rfl, N0, rfl⟩))
    ·
      have hq9 : p1 = (1 : Int32) := (own_geq (n := 1) (k := (1 : Int32)) (by decide) (by have q0 := rng32 p1; have q1 := own_nlt1 (n := 1) (k := (1 : Int32)) (by decide) hc5; have q2 := own_nlt2 (n := 1) (k := (1 : Int32)) (by decide) hc8; omega))
      have pre10 : ∀ t, Steps p.tables e below (T6.setTop (mkF m 29 #[.val (.ref w5), .val (.int (1 : Int32)), .val (.int (1 : Int32))] [(.int (1 : Int32)), (.int (1 : Int32))])) t → Steps p.tables e below (s₁.setTop (entryFrame m #[(.ref w5), (.int (1 : Int32)), (.int p1)] 3)) t := fun t k => pre7 t (by rw [hq9]; exact k)
      obtain ⟨fs, hr, hrun, hended, hW, hsame⟩ := X6.leave (v := some (.int (1 : Int32))) (fun h => by rw [hret] at h; cases h)
      refine ⟨_, _, pre10 _ ?_, hrun, hended, _, _, rfl, ?_, ⟨_, rfl⟩, hW, hsame.mono (by decide) (by decide)⟩
      ·
        show Steps p.tables e below (T6.setTop (mkF m 29 #[.val (.ref w5), .val (.int (1 : Int32)), .val (.int (1 : Int32))] [(.int (1 : Int32)), (.int (1 : Int32))])) _
        refine XS.icmpNo X6.here hx rfl (hb hby d0_29) rfl (flt (by decide : ¬ ((1 : Int32) < (1 : Int32)))).2.2.1 ?_
        show Steps p.tables e below (T6.setTop (mkF m 32 #[.val (.ref w5), .val (.int (1 : Int32)), .val (.int (1 : Int32))] [])) _
        refine XS.iconst X6.here hx rfl (hb hby d0_32) ?_
        show Steps p.tables e below (T6.setTop (mkF m 33 #[.val (.ref w5), .val (.int (1 : Int32)), .val (.int (1 : Int32))] [(.int (1 : Int32))])) _
        refine XS.goto X6.here hx rfl (pc0 := 33) (pc' := 37) rfl (hb hby d0_33) (by decide) (by decide) ?_
        show Steps p.tables e below (T6.setTop (mkF m 37 #[.val (.ref w5), .val (.int (1 : Int32)), .val (.int (1 : Int32))] [(.int (1 : Int32))])) _
        exact retN X6 hx (t := .boolean) hret (by simp) (hb hby d0_37) hr
      ·
        show Q6 Z w1 w2 w3 w4 w5 w6 w7 w8 p1 h0 n0 _ T6.heap _
        rw [e6]
        exact (Or.inr (Or.inr ⟨hc5, hc8, rfl, N0, rfl⟩))
theorem ef7 (m : MethodId) (x0 : Addr) (x1 : Int32) (x2 : Int32) : entryFrame m #[(.ref x0), (.int x1), (.int x2)] 3 = mkF m 0 #[.val (.ref x0), .val (.int x1), .val (.int x2)] [] := by first | (simp [entryFrame, mkF, argsToLocals, Value.category]; done) | rfl
def Q7 (Z : State) (w1 : Addr) (w2 : Addr) (w3 : Addr) (w4 : Addr) (w5 : Addr) (w6 : Addr) (w7 : Addr) (w8 : Addr) (p1 : Int32) (p2 : Int32) (h0 : Heap) (n0 : Nat) (v : Option Value) (h : Heap) (L : List Loc) : Prop :=
  ((p1 < (1 : Int32)) ∧ v = some (.int (0 : Int32)) ∧ Fr n0 L ∧ h = h0)
  ∨ ((¬ (p1 < (1 : Int32))) ∧ ((1 : Int32) < p1) ∧ v = some (.int (0 : Int32)) ∧ Fr n0 L ∧ h = h0)
  ∨ ((¬ (p1 < (1 : Int32))) ∧ (¬ ((1 : Int32) < p1)) ∧ (p2 < (1 : Int32)) ∧ v = some (.int (0 : Int32)) ∧ Fr n0 L ∧ h = h0)
  ∨ ((¬ (p1 < (1 : Int32))) ∧ (¬ ((1 : Int32) < p1)) ∧ (¬ (p2 < (1 : Int32))) ∧ ((1 : Int32) < p2) ∧ v = some (.int (0 : Int32)) ∧ Fr n0 L ∧ h = h0)
  ∨ ((¬ (p1 < (1 : Int32))) ∧ (¬ ((1 : Int32) < p1)) ∧ (¬ (p2 < (1 : Int32))) ∧ (¬ ((1 : Int32) < p2)) ∧ v = some (.int (1 : Int32)) ∧ Fr n0 L ∧ h = h0)
set_option maxRecDepth 65536 in
set_option maxHeartbeats 40000000 in
theorem rm7 (l : Launch) (Z : State) (a0 : Array Value) (hw : ∀ d ∈ tables_1, d.before a0 Z = true) (w1 : Addr) (w2 : Addr) (w3 : Addr) (w4 : Addr) (w5 : Addr) (w6 : Addr) (w7 : Addr) (w8 : Addr) (G : GW Z w1 w2 w3 w4 w5 w6 w7 w8) (ws : List Jvm.Cond) (p1 : Int32) (p2 : Int32) (h0 : Heap) (n0 : Nat) (O0 : Old Z n0 h0) :
    MetFree l (⟨"com/example/vipo/vipo/flow/PatternType", "admitsDegree", "(II)Z"⟩ : MethodName) (head1 (Jvm.Cond.code (⟨"com/example/vipo/vipo/flow/PatternType", "admitsDegree", "(II)Z"⟩ : MethodName) prog_18_method_6_code 3 (some .boolean) :: ws) ({ frames := 0, cells := 0, slots := 0, locals := 0 } : Room)) (fun a U => a = #[(.ref w5), (.int p1), (.int p2)] ∧ Z.Warmed39 U.vm ∧ U.heap = h0) (fun _ _ _ _ _ => True) (fun _ U o U' => ∃ v L, o = .returned v ∧ Q7 Z w1 w2 w3 w4 w5 w6 w7 w8 p1 p2 h0 n0 v U'.heap L ∧ FrameEnd U o U' L ({ frames := 0, cells := 0, slots := 0, locals := 0 } : Room).cells ({ frames := 0, cells := 0, slots := 0, locals := 0 } : Room).slots) := by
  obtain ⟨S_w1, E_w1, S_w2, E_w2, S_w3, E_w3, S_w4, E_w4, S_w5, E_w5, S_w6, E_w6, S_w7, E_w7, S_w8, E_w8, F_w1_minIn, F_w1_maxIn, F_w2_minIn, F_w2_maxIn, F_w2_minOut, F_w2_maxOut, F_w3_minIn, F_w3_maxIn, F_w4_minIn, F_w5_minIn, F_w6_minIn, F_w6_maxIn, F_w5_maxIn, F_w7_minIn, F_w7_maxIn, F_w7_minOut, F_w7_maxOut, F_w8_minIn, F_w8_maxIn, F_w1_minOut, F_w1_maxOut, F_w4_maxIn, F_w5_minOut, F_w5_maxOut, F_w6_minOut, F_w4_minOut, F_w6_maxOut, F_w4_maxOut, F_w8_minOut, F_w8_maxOut, F_w3_minOut, F_w3_maxOut⟩ := id G
  refine MetFree.of_bodySF (plainFor_of_name pn0) hisR ?_
  intro p e s m args below meth c s₁ Bd hml0 hP hK
  obtain ⟨rfl, hZ, hh⟩ := hP
  have hx := Bd.exec
  have hby := Bd.bytes
  have hml : c.maxLocals = 3 := hml0
  have hown : s.vm.findClass "com/example/vipo/vipo/flow/PatternType" = some m.cls := findClass_of_methodNamed Bd.named
  have hnm := (name_of_methodNamed Bd.named Bd.method).1
  have hret := Bd.returns
  have hlk : meth.locks = false := BodyLoose.notSynchronized Bd
  have X0 : Stand p l e ({ frames := 0, cells := 0, slots := 0, locals := 0 } : Room) s m #[(.ref w5), (.int p1), (.int p2)] below meth c s₁ [] 0 0 := Stand.of_body Bd
  have e0 : s₁.heap = h0 := by rw [← hh, Bd.state]; rfl
  have N0 := Fr.nil n0
  have pre0 : ∀ t, Steps p.tables e below (s₁.setTop (mkF m 0 #[.val (.ref w5), .val (.int p1), .val (.int p2)] [])) t → Steps p.tables e below (s₁.setTop (entryFrame m #[(.ref w5), (.int p1), (.int p2)] 3)) t := fun t k => castTop (ef7 m w5 p1 p2) k
  obtain ⟨T1, X1, e1, st1⟩ := getF X0 hx hZ hown (host := "") (Or.inl (hw _ (List.mem_of_getElem? (i := 9) rfl))) Via.refl e0 (F_w5_minIn.ext O0.2) (g := (mkF m 1 #[.val (.ref w5), .val (.int p1), .val (.int p2)] [(.ref w5)])) rfl rfl (hb hby d0_1)
  have pre2 : ∀ t, Steps p.tables e below (T1.setTop (mkF m 5 #[.val (.ref w5), .val (.int p1), .val (.int p2)] [(.int p1), (.int (1 : Int32))])) t → Steps p.tables e below (s₁.setTop (entryFrame m #[(.ref w5), (.int p1), (.int p2)] 3)) t := fun t k => by
    refine pre0 _ ?_
    show Steps p.tables e below (s₁.setTop (mkF m 0 #[.val (.ref w5), .val (.int p1), .val (.int p2)] [])) _
    refine XS.aloadN X0.here hx rfl (hb hby d0_0) rfl rfl ?_
    show Steps p.tables e below (s₁.setTop (mkF m 1 #[.val (.ref w5), .val (.int p1), .val (.int p2)] [(.ref w5)])) _
    refine st1 _ ?_
    show Steps p.tables e below (T1.setTop (mkF m 4 #[.val (.ref w5), .val (.int p1), .val (.int p2)] [(.int (1 : Int32))])) _
    refine XS.iloadN X1.here hx rfl (hb hby d0_4) rfl ?_
    exact k
  by_cases hc3 : p1 < (1 : Int32)
  ·
    obtain ⟨fs, hr, hrun, hended, hW, hsame⟩ := X1.leave (v := some (.int (0 : Int32))) (fun h => by rw [hret] at h; cases h)
    refine ⟨_, _, pre2 _ ?_, hrun, hended, _, _, rfl, ?_, ⟨_, rfl⟩, hW, hsame.mono (by decide) (by decide)⟩
    ·
      show Steps p.tables e below (T1.setTop (mkF m 5 #[.val (.ref w5), .val (.int p1), .val (.int p2)] [(.int p1), (.int (1 : Int32))])) _
      refine XS.icmpYes X1.here hx rfl (pc0 := 5) (pc' := 36) rfl (hb hby d0_5) rfl (tlt hc3).2.2.1 (by decide) (by decide) ?_
      show Steps p.tables e below (T1.setTop (mkF m 36 #[.val (.ref w5), .val (.int p1), .val (.int p2)] [])) _
      refine XS.iconst X1.here hx rfl (hb hby d0_36) ?_
      show Steps p.tables e below (T1.setTop (mkF m 37 #[.val (.ref w5), .val (.int p1), .val (.int p2)] [(.int (0 : Int32))])) _
      exact retN X1 hx (t := .boolean) hret (by simp) (hb hby d0_37) hr
    ·
      show Q7 Z w1 w2 w3 w4 w5 w6 w7 w8 p1 p2 h0 n0 _ T1.heap _
      rw [e1]
      exact (Or.inl ⟨hc3, rfl, N0, rfl⟩)
  ·
    obtain ⟨T4, X4, e4, st4⟩ := getF X1 hx hZ hown (host := "") (Or.inl (hw _ (List.mem_of_getElem? (i := 11) rfl))) Via.refl e1 (F_w5_maxIn.ext O0.2) (g := (mkF m 10 #[.val (.ref w5), .val (.int p1), .val (.int p2)] [(.ref w5), (.int p1)])) rfl rfl (hb hby d0_10)
    have pre5 : ∀ t, Steps p.tables e below (T4.setTop (mkF m 13 #[.val (.ref w5), .val (.int p1), .val (.int p2)] [(.int (1 : Int32)), (.int p1)])) t → Steps p.tables e below (s₁.setTop (entryFrame m #[(.ref w5), (.int p1), (.int p2)] 3)) t := fun t k => by
      refine pre2 _ ?_
      show Steps p.tables e below (T1.setTop (mkF m 5 #[.val (.ref w5), .val (.int p1), .val (.int p2)] [(.int p1), (.int (1 : Int32))])) _
      refine XS.icmpNo X1.here hx rfl (hb hby d0_5) rfl (flt hc3).2.2.1 ?_
      show Steps p.tables e below (T1.setTop (mkF m 8 #[.val (.ref w5), .val (.int p1), .val (.int p2)] [])) _
      refine XS.iloadN X1.here hx rfl (hb hby d0_8) rfl ?_
      show Steps p.tables e below (T1.setTop (mkF m 9 #[.val (.ref w5), .val (.int p1), .val (.int p2)] [(.int p1)])) _
      refine XS.aloadN X1.here hx rfl (hb hby d0_9) rfl rfl ?_
      show Steps p.tables e below (T1.setTop (mkF m 10 #[.val (.ref w5), .val (.int p1), .val (.int p2)] [(.ref w5), (.int p1)])) _
      refine st4 _ ?_
      exact k
    by_cases hc6 : (1 : Int32) < p1
    ·
      obtain ⟨fs, hr, hrun, hended, hW, hsame⟩ := X4.leave (v := some (.int (0 : Int32))) (fun h => by rw [hret] at h; cases h)
      refine ⟨_, _, pre5 _ ?_, hrun, hended, _, _, rfl, ?_, ⟨_, rfl⟩, hW, hsame.mono (by decide) (by decide)⟩
      ·
        show Steps p.tables e below (T4.setTop (mkF m 13 #[.val (.ref w5), .val (.int p1), .val (.int p2)] [(.int (1 : Int32)), (.int p1)])) _
        refine XS.icmpYes X4.here hx rfl (pc0 := 13) (pc' := 36) rfl (hb hby d0_13) rfl (tlt hc6).2.2.1 (by decide) (by decide) ?_
        show Steps p.tables e below (T4.setTop (mkF m 36 #[.val (.ref w5), .val (.int p1), .val (.int p2)] [])) _
        refine XS.iconst X4.here hx rfl (hb hby d0_36) ?_
        show Steps p.tables e below (T4.setTop (mkF m 37 #[.val (.ref w5), .val (.int p1), .val (.int p2)] [(.int (0 : Int32))])) _
        exact retN X4 hx (t := .boolean) hret (by simp) (hb hby d0_37) hr
      ·
        show Q7 Z w1 w2 w3 w4 w5 w6 w7 w8 p1 p2 h0 n0 _ T4.heap _
        rw [e4]
        exact (Or.inr (Or.inl ⟨hc3, hc6, rfl, N0, rfl⟩))
    ·
      have hq7 : p1 = (1 : Int32) := (own_geq (n := 1) (k := (1 : Int32)) (by decide) (by have q0 := rng32 p1; have q1 := own_nlt1 (n := 1) (k := (1 : Int32)) (by decide) hc3; have q2 := own_nlt2 (n := 1) (k := (1 : Int32)) (by decide) hc6; omega))
      have pre8 : ∀ t, Steps p.tables e below (T4.setTop (mkF m 13 #[.val (.ref w5), .val (.int (1 : Int32)), .val (.int p2)] [(.int (1 : Int32)), (.int (1 : Int32))])) t → Steps p.tables e below (s₁.setTop (entryFrame m #[(.ref w5), (.int p1), (.int p2)] 3)) t := fun t k => pre5 t (by rw [hq7]; exact k)
      obtain ⟨T9, X9, e9, st9⟩ := getF X4 hx hZ hown (host := "") (Or.inl (hw _ (List.mem_of_getElem? (i := 15) rfl))) Via.refl e4 (F_w5_minOut.ext O0.2) (g := (mkF m 17 #[.val (.ref w5), .val (.int (1 : Int32)), .val (.int p2)] [(.ref w5)])) rfl rfl (hb hby d0_17)
      have pre10 : ∀ t, Steps p.tables e below (T9.setTop (mkF m 21 #[.val (.ref w5), .val (.int (1 : Int32)), .val (.int p2)] [(.int p2), (.int (1 : Int32))])) t → Steps p.tables e below (s₁.setTop (entryFrame m #[(.ref w5), (.int p1), (.int p2)] 3)) t := fun t k => by
        refine pre8 _ ?_
        show Steps p.tables e below (T4.setTop (mkF m 13 #[.val (.ref w5), .val (.int (1 : Int32)), .val (.int p2)] [(.int (1 : Int32)), (.int (1 : Int32))])) _
        refine XS.icmpNo X4.here hx rfl (hb hby d0_13) rfl (flt (by decide : ¬ ((1 : Int32) < (1 : Int32)))).2.2.1 ?_
        show Steps p.tables e below (T4.setTop (mkF m 16 #[.val (.ref w5), .val (.int (1 : Int32)), .val (.int p2)] [])) _
        refine XS.aloadN X4.here hx rfl (hb hby d0_16) rfl rfl ?_
        show Steps p.tables e below (T4.setTop (mkF m 17 #[.val (.ref w5), .val (.int (1 : Int32)), .val (.int p2)] [(.ref w5)])) _
        refine st9 _ ?_
        show Steps p.tables e below (T9.setTop (mkF m 20 #[.val (.ref w5), .val (.int (1 : Int32)), .val (.int p2)] [(.int (1 : Int32))])) _
        refine XS.iloadN X9.here hx rfl (hb hby d0_20) rfl ?_
        exact k
      by_cases hc11 : p2 < (1 : Int32)
      ·
        obtain ⟨fs, hr, hrun, hended, hW, hsame⟩ := X9.leave (v := some (.int (0 : Int32))) (fun h => by rw [hret] at h; cases h)
        refine ⟨_, _, pre10 _ ?_, hrun, hended, _, _, rfl, ?_, ⟨_, rfl⟩, hW, hsame.mono (by decide) (by decide)⟩
        ·
          show Steps p.tables e below (T9.setTop (mkF m 21 #[.val (.ref w5), .val (.int (1 : Int32)), .val (.int p2)] [(.int p2), (.int (1 : Int32))])) _
          refine XS.icmpYes X9.here hx rfl (pc0 := 21) (pc' := 36) rfl (hb hby d0_21) rfl (tlt hc11).2.2.1 (by decide) (by decide) ?_
          show Steps p.tables e below (T9.setTop (mkF m 36 #[.val (.ref w5), .val (.int (1 : Int32)), .val (.int p2)] [])) _
          refine XS.iconst X9.here hx rfl (hb hby d0_36) ?_
          show Steps p.tables e below (T9.setTop (mkF m 37 #[.val (.ref w5), .val (.int (1 : Int32)), .val (.int p2)] [(.int (0 : Int32))])) _
          exact retN X9 hx (t := .boolean) hret (by simp) (hb hby d0_37) hr
        ·
          show Q7 Z w1 w2 w3 w4 w5 w6 w7 w8 p1 p2 h0 n0 _ T9.heap _
          rw [e9]
          exact (Or.inr (Or.inr (Or.inl ⟨hc3, hc6, hc11, rfl, N0, rfl⟩)))
      ·
        obtain ⟨T12, X12, e12, st12⟩ := getF X9 hx hZ hown (host := "") (Or.inl (hw _ (List.mem_of_getElem? (i := 17) rfl))) Via.refl e9 (F_w5_maxOut.ext O0.2) (g := (mkF m 26 #[.val (.ref w5), .val (.int (1 : Int32)), .val (.int p2)] [(.ref w5), (.int p2)])) rfl rfl (hb hby d0_26)
        have pre13 : ∀ t, Steps p.tables e below (T12.setTop (mkF m 29 #[.val (.ref w5), .val (.int (1 : Int32)), .val (.int p2)] [(.int (1 : Int32)), (.int p2)])) t → Steps p.tables e below (s₁.setTop (entryFrame m #[(.ref w5), (.int p1), (.int p2)] 3)) t := fun t k => by
          refine pre10 _ ?_
          show Steps p.tables e below (T9.setTop (mkF m 21 #[.val (.ref w5), .val (.int (1 : Int32)), .val (.int p2)] [(.int p2), (.int (1 : Int32))])) _
          refine XS.icmpNo X9.here hx rfl (hb hby d0_21) rfl (flt hc11).2.2.1 ?_
          show Steps p.tables e below (T9.setTop (mkF m 24 #[.val (.ref w5), .val (.int (1 : Int32)), .val (.int p2)] [])) _
          refine XS.iloadN X9.here hx rfl (hb hby d0_24) rfl ?_
          show Steps p.tables e below (T9.setTop (mkF m 25 #[.val (.ref w5), .val (.int (1 : Int32)), .val (.int p2)] [(.int p2)])) _
          refine XS.aloadN X9.here hx rfl (hb hby d0_25) rfl rfl ?_
          show Steps p.tables e below (T9.setTop (mkF m 26 #[.val (.ref w5), .val (.int (1 : Int32)), .val (.int p2)] [(.ref w5), (.int p2)])) _
          refine st12 _ ?_
          exact k
        by_cases hc14 : (1 : Int32) < p2
        ·
          obtain ⟨fs, hr, hrun, hended, hW, hsame⟩ := X12.leave (v := some (.int (0 : Int32))) (fun h => by rw [hret] at h; cases h)
          refine ⟨_, _, pre13 _ ?_, hrun, hended, _, _, rfl, ?_, ⟨_, rfl⟩, hW, hsame.mono (by decide) (by decide)⟩
          ·
            show Steps p.tables e below (T12.setTop (mkF m 29 #[.val (.ref w5), .val (.int (1 : Int32)), .val (.int p2)] [(.int (1 : Int32)), (.int p2)])) _
            refine XS.icmpYes X12.here hx rfl (pc0 := 29) (pc' := 36) rfl (hb hby d0_29) rfl (tlt hc14).2.2.1 (by decide) (by decide) ?_
            show Steps p.tables e below (T12.setTop (mkF m 36 #[.val (.ref w5), .val (.int (1 : Int32)), .val (.int p2)] [])) _
            refine XS.iconst X12.here hx rfl (hb hby d0_36) ?_
            show Steps p.tables e below (T12.setTop (mkF m 37 #[.val (.ref w5), .val (.int (1 : Int32)), .val (.int p2)] [(.int (0 : Int32))])) _
            exact retN X12 hx (t := .boolean) hret (by simp) (hb hby d0_37) hr
          ·
            show Q7 Z w1 w2 w3 w4 w5 w6 w7 w8 p1 p2 h0 n0 _ T12.heap _
            rw [e12]
            exact (Or.inr (Or.inr (Or.inr (Or.inl ⟨hc3, hc6, hc11, hc14, rfl, N0, rfl⟩))))
        ·
          have hq15 : p2 = (1 : Int32) := (own_geq (n := 1) (k := (1 : Int32)) (by decide) (by have q0 := rng32 p2; have q1 := own_nlt1 (n := 1) (k := (1 : Int32)) (by decide) hc11; have q2 := own_nlt2 (n := 1) (k := (1 : Int32)) (by decide) hc14; omega))
          have pre16 : ∀ t, Steps p.tables e below (T12.setTop (mkF m 29 #[.val (.ref w5), .val (.int (1 : Int32)), .val (.int (1 : Int32))] [(.int (1 : Int32)), (.int (1 : Int32))])) t → Steps p.tables e below (s₁.setTop (entryFrame m #[(.ref w5), (.int p1), (.int p2)] 3)) t := fun t k => pre13 t (by rw [hq15]; exact k)
          obtain ⟨fs, hr, hrun, hended, hW, hsame⟩ := X12.leave (v := some (.int (1 : Int32))) (fun h => by rw [hret] at h; cases h)
          refine ⟨_, _, pre16 _ ?_, hrun, hended, _, _, rfl, ?_, ⟨_, rfl⟩, hW, hsame.mono (by decide) (by decide)⟩
          ·
            show Steps p.tables e below (T12.setTop (mkF m 29 #[.val (.ref w5), .val (.int (1 : Int32)), .val (.int (1 : Int32))] [(.int (1 : Int32)), (.int (1 : Int32))])) _
            refine XS.icmpNo X12.here hx rfl (hb hby d0_29) rfl (flt (by decide : ¬ ((1 : Int32) < (1 : Int32)))).2.2.1 ?_
            show Steps p.tables e below (T12.setTop (mkF m 32 #[.val (.ref w5), .val (.int (1 : Int32)), .val (.int (1 : Int32))] [])) _
            refine XS.iconst X12.here hx rfl (hb hby d0_32) ?_
            show Steps p.tables e below (T12.setTop (mkF m 33 #[.val (.ref w5), .val (.int (1 : Int32)), .val (.int (1 : Int32))] [(.int (1 : Int32))])) _
            refine XS.goto X12.here hx rfl (pc0 := 33) (pc' := 37) rfl (hb hby d0_33) (by decide) (by decide) ?_
            show Steps p.tables e below (T12.setTop (mkF m 37 #[.val (.ref w5), .val (.int (1 : Int32)), .val (.int (1 : Int32))] [(.int (1 : Int32))])) _
            exact retN X12 hx (t := .boolean) hret (by simp) (hb hby d0_37) hr
          ·
            show Q7 Z w1 w2 w3 w4 w5 w6 w7 w8 p1 p2 h0 n0 _ T12.heap _
            rw [e12]
            exact (Or.inr (Or.inr (Or.inr (Or.inr ⟨hc3, hc6, hc11, hc14, rfl, N0, rfl⟩))))
theorem ef8 (m : MethodId) (x0 : Addr) (x1 : Int32) (x2 : Int32) : entryFrame m #[(.ref x0), (.int x1), (.int x2)] 3 = mkF m 0 #[.val (.ref x0), .val (.int x1), .val (.int x2)] [] := by first | (simp [entryFrame, mkF, argsToLocals, Value.category]; done) | rfl
def Q8 (Z : State) (w1 : Addr) (w2 : Addr) (w3 : Addr) (w4 : Addr) (w5 : Addr) (w6 : Addr) (w7 : Addr) (w8 : Addr) (p1 : Int32) (h0 : Heap) (n0 : Nat) (v : Option Value) (h : Heap) (L : List Loc) : Prop :=
  ((p1 < (2 : Int32)) ∧ v = some (.int (0 : Int32)) ∧ Fr n0 L ∧ h = h0)
  ∨ ((¬ (p1 < (2 : Int32))) ∧ v = some (.int (1 : Int32)) ∧ Fr n0 L ∧ h = h0)
set_option maxRecDepth 65536 in
set_option maxHeartbeats 40000000 in
theorem rm8 (l : Launch) (Z : State) (a0 : Array Value) (hw : ∀ d ∈ tables_1, d.before a0 Z = true) (w1 : Addr) (w2 : Addr) (w3 : Addr) (w4 : Addr) (w5 : Addr) (w6 : Addr) (w7 : Addr) (w8 : Addr) (G : GW Z w1 w2 w3 w4 w5 w6 w7 w8) (ws : List Jvm.Cond) (p1 : Int32) (h0 : Heap) (n0 : Nat) (O0 : Old Z n0 h0) :
    MetFree l (⟨"com/example/vipo/vipo/flow/PatternType", "admitsDegree", "(II)Z"⟩ : MethodName) (head1 (Jvm.Cond.code (⟨"com/example/vipo/vipo/flow/PatternType", "admitsDegree", "(II)Z"⟩ : MethodName) prog_18_method_6_code 3 (some .boolean) :: ws) ({ frames := 0, cells := 0, slots := 0, locals := 0 } : Room)) (fun a U => a = #[(.ref w6), (.int (1 : Int32)), (.int p1)] ∧ Z.Warmed39 U.vm ∧ U.heap = h0) (fun _ _ _ _ _ => True) (fun _ U o U' => ∃ v L, o = .returned v ∧ Q8 Z w1 w2 w3 w4 w5 w6 w7 w8 p1 h0 n0 v U'.heap L ∧ FrameEnd U o U' L ({ frames := 0, cells := 0, slots := 0, locals := 0 } : Room).cells ({ frames := 0, cells := 0, slots := 0, locals := 0 } : Room).slots) := by
  obtain ⟨S_w1, E_w1, S_w2, E_w2, S_w3, E_w3, S_w4, E_w4, S_w5, E_w5, S_w6, E_w6, S_w7, E_w7, S_w8, E_w8, F_w1_minIn, F_w1_maxIn, F_w2_minIn, F_w2_maxIn, F_w2_minOut, F_w2_maxOut, F_w3_minIn, F_w3_maxIn, F_w4_minIn, F_w5_minIn, F_w6_minIn, F_w6_maxIn, F_w5_maxIn, F_w7_minIn, F_w7_maxIn, F_w7_minOut, F_w7_maxOut, F_w8_minIn, F_w8_maxIn, F_w1_minOut, F_w1_maxOut, F_w4_maxIn, F_w5_minOut, F_w5_maxOut, F_w6_minOut, F_w4_minOut, F_w6_maxOut, F_w4_maxOut, F_w8_minOut, F_w8_maxOut, F_w3_minOut, F_w3_maxOut⟩ := id G
  refine MetFree.of_bodySF (plainFor_of_name pn0) hisR ?_
  intro p e s m args below meth c s₁ Bd hml0 hP hK
  obtain ⟨rfl, hZ, hh⟩ := hP
  have hx := Bd.exec
  have hby := Bd.bytes
  have hml : c.maxLocals = 3 := hml0
  have hown : s.vm.findClass "com/example/vipo/vipo/flow/PatternType" = some m.cls := findClass_of_methodNamed Bd.named
  have hnm := (name_of_methodNamed Bd.named Bd.method).1
  have hret := Bd.returns
  have hlk : meth.locks = false := BodyLoose.notSynchronized Bd
  have X0 : Stand p l e ({ frames := 0, cells := 0, slots := 0, locals := 0 } : Room) s m #[(.ref w6), (.int (1 : Int32)), (.int p1)] below meth c s₁ [] 0 0 := Stand.of_body Bd
  have e0 : s₁.heap = h0 := by rw [← hh, Bd.state]; rfl
  have N0 := Fr.nil n0
  have pre0 : ∀ t, Steps p.tables e below (s₁.setTop (mkF m 0 #[.val (.ref w6), .val (.int (1 : Int32)), .val (.int p1)] [])) t → Steps p.tables e below (s₁.setTop (entryFrame m #[(.ref w6), (.int (1 : Int32)), (.int p1)] 3)) t := fun t k => castTop (ef8 m w6 (1 : Int32) p1) k
  obtain ⟨T1, X1, e1, st1⟩ := getF X0 hx hZ hown (host := "") (Or.inl (hw _ (List.mem_of_getElem? (i := 9) rfl))) Via.refl e0 (F_w6_minIn.ext O0.2) (g := (mkF m 1 #[.val (.ref w6), .val (.int (1 : Int32)), .val (.int p1)] [(.ref w6)])) rfl rfl (hb hby d0_1)
  obtain ⟨T2, X2, e2, st2⟩ := getF X1 hx hZ hown (host := "") (Or.inl (hw _ (List.mem_of_getElem? (i := 11) rfl))) Via.refl e1 (F_w6_maxIn.ext O0.2) (g := (mkF m 10 #[.val (.ref w6), .val (.int (1 : Int32)), .val (.int p1)] [(.ref w6), (.int (1 : Int32))])) rfl rfl (hb hby d0_10)
  obtain ⟨T3, X3, e3, st3⟩ := getF X2 hx hZ hown (host := "") (Or.inl (hw _ (List.mem_of_getElem? (i := 15) rfl))) Via.refl e2 (F_w6_minOut.ext O0.2) (g := (mkF m 17 #[.val (.ref w6), .val (.int (1 : Int32)), .val (.int p1)] [(.ref w6)])) rfl rfl (hb hby d0_17)
  have pre4 : ∀ t, Steps p.tables e below (T3.setTop (mkF m 21 #[.val (.ref w6), .val (.int (1 : Int32)), .val (.int p1)] [(.int p1), (.int (2 : Int32))])) t → Steps p.tables e below (s₁.setTop (entryFrame m #[(.ref w6), (.int (1 : Int32)), (.int p1)] 3)) t := fun t k => by
    refine pre0 _ ?_
    show Steps p.tables e below (s₁.setTop (mkF m 0 #[.val (.ref w6), .val (.int (1 : Int32)), .val (.int p1)] [])) _
    refine XS.aloadN X0.here hx rfl (hb hby d0_0) rfl rfl ?_
    show Steps p.tables e below (s₁.setTop (mkF m 1 #[.val (.ref w6), .val (.int (1 : Int32)), .val (.int p1)] [(.ref w6)])) _
    refine st1 _ ?_
    show Steps p.tables e below (T1.setTop (mkF m 4 #[.val (.ref w6), .val (.int (1 : Int32)), .val (.int p1)] [(.int (1 : Int32))])) _
    refine XS.iloadN X1.here hx rfl (hb hby d0_4) rfl ?_
    show Steps p.tables e below (T1.setTop (mkF m 5 #[.val (.ref w6), .val (.int (1 : Int32)), .val (.int p1)] [(.int (1 : Int32)), (.int (1 : Int32))])) _
    refine XS.icmpNo X1.here hx rfl (hb hby d0_5) rfl (flt (by decide : ¬ ((1 : Int32) < (1 : Int32)))).2.2.1 ?_
    show Steps p.tables e below (T1.setTop (mkF m 8 #[.val (.ref w6), .val (.int (1 : Int32)), .val (.int p1)] [])) _
    refine XS.iloadN X1.here hx rfl (hb hby d0_8) rfl ?_
    show Steps p.tables e below (T1.setTop (mkF m 9 #[.val (.ref w6), .val (.int (1 : Int32)), .val (.int p1)] [(.int (1 : Int32))])) _
    refine XS.aloadN X1.here hx rfl (hb hby d0_9) rfl rfl ?_
    show Steps p.tables e below (T1.setTop (mkF m 10 #[.val (.ref w6), .val (.int (1 : Int32)), .val (.int p1)] [(.ref w6), (.int (1 : Int32))])) _
    refine st2 _ ?_
    show Steps p.tables e below (T2.setTop (mkF m 13 #[.val (.ref w6), .val (.int (1 : Int32)), .val (.int p1)] [(.int (1 : Int32)), (.int (1 : Int32))])) _
    refine XS.icmpNo X2.here hx rfl (hb hby d0_13) rfl (flt (by decide : ¬ ((1 : Int32) < (1 : Int32)))).2.2.1 ?_
    show Steps p.tables e below (T2.setTop (mkF m 16 #[.val (.ref w6), .val (.int (1 : Int32)), .val (.int p1)] [])) _
    refine XS.aloadN X2.here hx rfl (hb hby d0_16) rfl rfl ?_
    show Steps p.tables e below (T2.setTop (mkF m 17 #[.val (.ref w6), .val (.int (1 : Int32)), .val (.int p1)] [(.ref w6)])) _
    refine st3 _ ?_
    show Steps p.tables e below (T3.setTop (mkF m 20 #[.val (.ref w6), .val (.int (1 : Int32)), .val (.int p1)] [(.int (2 : Int32))])) _
    refine XS.iloadN X3.here hx rfl (hb hby d0_20) rfl ?_
    exact k
  by_cases hc5 : p1 < (2 : Int32)
  ·
    obtain ⟨fs, hr, hrun, hended, hW, hsame⟩ := X3.leave (v := some (.int (0 : Int32))) (fun h => by rw [hret] at h; cases h)
    refine ⟨_, _, pre4 _ ?_, hrun, hended, _, _, rfl, ?_, ⟨_, rfl⟩, hW, hsame.mono (by decide) (by decide)⟩
    ·
      show Steps p.tables e below (T3.setTop (mkF m 21 #[.val (.ref w6), .val (.int (1 : Int32)), .val (.int p1)] [(.int p1), (.int (2 : Int32))])) _
      refine XS.icmpYes X3.here hx rfl (pc0 := 21) (pc' := 36) rfl (hb hby d0_21) rfl (tlt hc5).2.2.1 (by decide) (by decide) ?_
      show Steps p.tables e below (T3.setTop (mkF m 36 #[.val (.ref w6), .val (.int (1 : Int32)), .val (.int p1)] [])) _
      refine XS.iconst X3.here hx rfl (hb hby d0_36) ?_
      show Steps p.tables e below (T3.setTop (mkF m 37 #[.val (.ref w6), .val (.int (1 : Int32)), .val (.int p1)] [(.int (0 : Int32))])) _
      exact retN X3 hx (t := .boolean) hret (by simp) (hb hby d0_37) hr
    ·
      show Q8 Z w1 w2 w3 w4 w5 w6 w7 w8 p1 h0 n0 _ T3.heap _
      rw [e3]
      exact (Or.inl ⟨hc5, rfl, N0, rfl⟩)
  ·
    obtain ⟨T6, X6, e6, st6⟩ := getF X3 hx hZ hown (host := "") (Or.inl (hw _ (List.mem_of_getElem? (i := 17) rfl))) Via.refl e3 (F_w6_maxOut.ext O0.2) (g := (mkF m 26 #[.val (.ref w6), .val (.int (1 : Int32)), .val (.int p1)] [(.ref w6), (.int p1)])) rfl rfl (hb hby d0_26)
    obtain ⟨fs, hr, hrun, hended, hW, hsame⟩ := X6.leave (v := some (.int (1 : Int32))) (fun h => by rw [hret] at h; cases h)
    refine ⟨_, _, pre4 _ ?_, hrun, hended, _, _, rfl, ?_, ⟨_, rfl⟩, hW, hsame.mono (by decide) (by decide)⟩
    ·
      show Steps p.tables e below (T3.setTop (mkF m 21 #[.val (.ref w6), .val (.int (1 : Int32)), .val (.int p1)] [(.int p1), (.int (2 : Int32))])) _
      refine XS.icmpNo X3.here hx rfl (hb hby d0_21) rfl (flt hc5).2.2.1 ?_
      show Steps p.tables e below (T3.setTop (mkF m 24 #[.val (.ref w6), .val (.int (1 : Int32)), .val (.int p1)] [])) _
      refine XS.iloadN X3.here hx rfl (hb hby d0_24) rfl ?_
      show Steps p.tables e below (T3.setTop (mkF m 25 #[.val (.ref w6), .val (.int (1 : Int32)), .val (.int p1)] [(.int p1)])) _
      refine XS.aloadN X3.here hx rfl (hb hby d0_25) rfl rfl ?_
      show Steps p.tables e below (T3.setTop (mkF m 26 #[.val (.ref w6), .val (.int (1 : Int32)), .val (.int p1)] [(.ref w6), (.int p1)])) _
      refine st6 _ ?_
      show Steps p.tables e below (T6.setTop (mkF m 29 #[.val (.ref w6), .val (.int (1 : Int32)), .val (.int p1)] [(.int (2147483647 : Int32)), (.int p1)])) _
      refine XS.icmpNo X6.here hx rfl (hb hby d0_29) rfl (flt (own_gnlt2 (n := 2147483647) (k := (2147483647 : Int32)) (by decide) (by have q0 := rng32 p1; have q1 := own_nlt1 (n := 2) (k := (2 : Int32)) (by decide) hc5; omega))).2.2.1 ?_
      show Steps p.tables e below (T6.setTop (mkF m 32 #[.val (.ref w6), .val (.int (1 : Int32)), .val (.int p1)] [])) _
      refine XS.iconst X6.here hx rfl (hb hby d0_32) ?_
      show Steps p.tables e below (T6.setTop (mkF m 33 #[.val (.ref w6), .val (.int (1 : Int32)), .val (.int p1)] [(.int (1 : Int32))])) _
      refine XS.goto X6.here hx rfl (pc0 := 33) (pc' := 37) rfl (hb hby d0_33) (by decide) (by decide) ?_
      show Steps p.tables e below (T6.setTop (mkF m 37 #[.val (.ref w6), .val (.int (1 : Int32)), .val (.int p1)] [(.int (1 : Int32))])) _
      exact retN X6 hx (t := .boolean) hret (by simp) (hb hby d0_37) hr
    ·
      show Q8 Z w1 w2 w3 w4 w5 w6 w7 w8 p1 h0 n0 _ T6.heap _
      rw [e6]
      exact (Or.inr ⟨hc5, rfl, N0, rfl⟩)
theorem ef9 (m : MethodId) (x0 : Addr) (x1 : Int32) (x2 : Int32) : entryFrame m #[(.ref x0), (.int x1), (.int x2)] 3 = mkF m 0 #[.val (.ref x0), .val (.int x1), .val (.int x2)] [] := by first | (simp [entryFrame, mkF, argsToLocals, Value.category]; done) | rfl
def Q9 (Z : State) (w1 : Addr) (w2 : Addr) (w3 : Addr) (w4 : Addr) (w5 : Addr) (w6 : Addr) (w7 : Addr) (w8 : Addr) (p1 : Int32) (p2 : Int32) (h0 : Heap) (n0 : Nat) (v : Option Value) (h : Heap) (L : List Loc) : Prop :=
  ((p1 < (1 : Int32)) ∧ v = some (.int (0 : Int32)) ∧ Fr n0 L ∧ h = h0)
  ∨ ((¬ (p1 < (1 : Int32))) ∧ ((1 : Int32) < p1) ∧ v = some (.int (0 : Int32)) ∧ Fr n0 L ∧ h = h0)
  ∨ ((¬ (p1 < (1 : Int32))) ∧ (¬ ((1 : Int32) < p1)) ∧ (p2 < (2 : Int32)) ∧ v = some (.int (0 : Int32)) ∧ Fr n0 L ∧ h = h0)
  ∨ ((¬ (p1 < (1 : Int32))) ∧ (¬ ((1 : Int32) < p1)) ∧ (¬ (p2 < (2 : Int32))) ∧ v = some (.int (1 : Int32)) ∧ Fr n0 L ∧ h = h0)
set_option maxRecDepth 65536 in
set_option maxHeartbeats 40000000 in
theorem rm9 (l : Launch) (Z : State) (a0 : Array Value) (hw : ∀ d ∈ tables_1, d.before a0 Z = true) (w1 : Addr) (w2 : Addr) (w3 : Addr) (w4 : Addr) (w5 : Addr) (w6 : Addr) (w7 : Addr) (w8 : Addr) (G : GW Z w1 w2 w3 w4 w5 w6 w7 w8) (ws : List Jvm.Cond) (p1 : Int32) (p2 : Int32) (h0 : Heap) (n0 : Nat) (O0 : Old Z n0 h0) :
    MetFree l (⟨"com/example/vipo/vipo/flow/PatternType", "admitsDegree", "(II)Z"⟩ : MethodName) (head1 (Jvm.Cond.code (⟨"com/example/vipo/vipo/flow/PatternType", "admitsDegree", "(II)Z"⟩ : MethodName) prog_18_method_6_code 3 (some .boolean) :: ws) ({ frames := 0, cells := 0, slots := 0, locals := 0 } : Room)) (fun a U => a = #[(.ref w6), (.int p1), (.int p2)] ∧ Z.Warmed39 U.vm ∧ U.heap = h0) (fun _ _ _ _ _ => True) (fun _ U o U' => ∃ v L, o = .returned v ∧ Q9 Z w1 w2 w3 w4 w5 w6 w7 w8 p1 p2 h0 n0 v U'.heap L ∧ FrameEnd U o U' L ({ frames := 0, cells := 0, slots := 0, locals := 0 } : Room).cells ({ frames := 0, cells := 0, slots := 0, locals := 0 } : Room).slots) := by
  obtain ⟨S_w1, E_w1, S_w2, E_w2, S_w3, E_w3, S_w4, E_w4, S_w5, E_w5, S_w6, E_w6, S_w7, E_w7, S_w8, E_w8, F_w1_minIn, F_w1_maxIn, F_w2_minIn, F_w2_maxIn, F_w2_minOut, F_w2_maxOut, F_w3_minIn, F_w3_maxIn, F_w4_minIn, F_w5_minIn, F_w6_minIn, F_w6_maxIn, F_w5_maxIn, F_w7_minIn, F_w7_maxIn, F_w7_minOut, F_w7_maxOut, F_w8_minIn, F_w8_maxIn, F_w1_minOut, F_w1_maxOut, F_w4_maxIn, F_w5_minOut, F_w5_maxOut, F_w6_minOut, F_w4_minOut, F_w6_maxOut, F_w4_maxOut, F_w8_minOut, F_w8_maxOut, F_w3_minOut, F_w3_maxOut⟩ := id G
  refine MetFree.of_bodySF (plainFor_of_name pn0) hisR ?_
  intro p e s m args below meth c s₁ Bd hml0 hP hK
  obtain ⟨rfl, hZ, hh⟩ := hP
  have hx := Bd.exec
  have hby := Bd.bytes
  have hml : c.maxLocals = 3 := hml0
  have hown : s.vm.findClass "com/example/vipo/vipo/flow/PatternType" = some m.cls := findClass_of_methodNamed Bd.named
  have hnm := (name_of_methodNamed Bd.named Bd.method).1
  have hret := Bd.returns
  have hlk : meth.locks = false := BodyLoose.notSynchronized Bd
  have X0 : Stand p l e ({ frames := 0, cells := 0, slots := 0, locals := 0 } : Room) s m #[(.ref w6), (.int p1), (.int p2)] below meth c s₁ [] 0 0 := Stand.of_body Bd
  have e0 : s₁.heap = h0 := by rw [← hh, Bd.state]; rfl
  have N0 := Fr.nil n0
  have pre0 : ∀ t, Steps p.tables e below (s₁.setTop (mkF m 0 #[.val (.ref w6), .val (.int p1), .val (.int p2)] [])) t → Steps p.tables e below (s₁.setTop (entryFrame m #[(.ref w6), (.int p1), (.int p2)] 3)) t := fun t k => castTop (ef9 m w6 p1 p2) k
  obtain ⟨T1, X1, e1, st1⟩ := getF X0 hx hZ hown (host := "") (Or.inl (hw _ (List.mem_of_getElem? (i := 9) rfl))) Via.refl e0 (F_w6_minIn.ext O0.2) (g := (mkF m 1 #[.val (.ref w6), .val (.int p1), .val (.int p2)] [(.ref w6)])) rfl rfl (hb hby d0_1)
  have pre2 : ∀ t, Steps p.tables e below (T1.setTop (mkF m 5 #[.val (.ref w6), .val (.int p1), .val (.int p2)] [(.int p1), (.int (1 : Int32))])) t → Steps p.tables e below (s₁.setTop (entryFrame m #[(.ref w6), (.int p1), (.int p2)] 3)) t := fun t k => by
    refine pre0 _ ?_
    show Steps p.tables e below (s₁.setTop (mkF m 0 #[.val (.ref w6), .val (.int p1), .val (.int p2)] [])) _
    refine XS.aloadN X0.here hx rfl (hb hby d0_0) rfl rfl ?_
    show Steps p.tables e below (s₁.setTop (mkF m 1 #[.val (.ref w6), .val (.int p1), .val (.int p2)] [(.ref w6)])) _
    refine st1 _ ?_
    show Steps p.tables e below (T1.setTop (mkF m 4 #[.val (.ref w6), .val (.int p1), .val (.int p2)] [(.int (1 : Int32))])) _
    refine XS.iloadN X1.here hx rfl (hb hby d0_4) rfl ?_
    exact k
  by_cases hc3 : p1 < (1 : Int32)
  ·
    obtain ⟨fs, hr, hrun, hended, hW, hsame⟩ := X1.leave (v := some (.int (0 : Int32))) (fun h => by rw [hret] at h; cases h)
    refine ⟨_, _, pre2 _ ?_, hrun, hended, _, _, rfl, ?_, ⟨_, rfl⟩, hW, hsame.mono (by decide) (by decide)⟩
    ·
      show Steps p.tables e below (T1.setTop (mkF m 5 #[.val (.ref w6), .val (.int p1), .val (.int p2)] [(.int p1), (.int (1 : Int32))])) _
      refine XS.icmpYes X1.here hx rfl (pc0 := 5) (pc' := 36) rfl (hb hby d0_5) rfl (tlt hc3).2.2.1 (by decide) (by decide) ?_
      show Steps p.tables e below (T1.setTop (mkF m 36 #[.val (.ref w6), .val (.int p1), .val (.int p2)] [])) _
      refine XS.iconst X1.here hx rfl (hb hby d0_36) ?_
      show Steps p.tables e below (T1.setTop (mkF m 37 #[.val (.ref w6), .val (.int p1), .val (.int p2)] [(.int (0 : Int32))])) _
      exact retN X1 hx (t := .boolean) hret (by simp) (hb hby d0_37) hr
    ·
      show Q9 Z w1 w2 w3 w4 w5 w6 w7 w8 p1 p2 h0 n0 _ T1.heap _
      rw [e1]
      exact (Or.inl ⟨hc3, rfl, N0, rfl⟩)
  ·
    obtain ⟨T4, X4, e4, st4⟩ := getF X1 hx hZ hown (host := "") (Or.inl (hw _ (List.mem_of_getElem? (i := 11) rfl))) Via.refl e1 (F_w6_maxIn.ext O0.2) (g := (mkF m 10 #[.val (.ref w6), .val (.int p1), .val (.int p2)] [(.ref w6), (.int p1)])) rfl rfl (hb hby d0_10)
    have pre5 : ∀ t, Steps p.tables e below (T4.setTop (mkF m 13 #[.val (.ref w6), .val (.int p1), .val (.int p2)] [(.int (1 : Int32)), (.int p1)])) t → Steps p.tables e below (s₁.setTop (entryFrame m #[(.ref w6), (.int p1), (.int p2)] 3)) t := fun t k => by
      refine pre2 _ ?_
      show Steps p.tables e below (T1.setTop (mkF m 5 #[.val (.ref w6), .val (.int p1), .val (.int p2)] [(.int p1), (.int (1 : Int32))])) _
      refine XS.icmpNo X1.here hx rfl (hb hby d0_5) rfl (flt hc3).2.2.1 ?_
      show Steps p.tables e below (T1.setTop (mkF m 8 #[.val (.ref w6), .val (.int p1), .val (.int p2)] [])) _
      refine XS.iloadN X1.here hx rfl (hb hby d0_8) rfl ?_
      show Steps p.tables e below (T1.setTop (mkF m 9 #[.val (.ref w6), .val (.int p1), .val (.int p2)] [(.int p1)])) _
      refine XS.aloadN X1.here hx rfl (hb hby d0_9) rfl rfl ?_
      show Steps p.tables e below (T1.setTop (mkF m 10 #[.val (.ref w6), .val (.int p1), .val (.int p2)] [(.ref w6), (.int p1)])) _
      refine st4 _ ?_
      exact k
    by_cases hc6 : (1 : Int32) < p1
    ·
      obtain ⟨fs, hr, hrun, hended, hW, hsame⟩ := X4.leave (v := some (.int (0 : Int32))) (fun h => by rw [hret] at h; cases h)
      refine ⟨_, _, pre5 _ ?_, hrun, hended, _, _, rfl, ?_, ⟨_, rfl⟩, hW, hsame.mono (by decide) (by decide)⟩
      ·
        show Steps p.tables e below (T4.setTop (mkF m 13 #[.val (.ref w6), .val (.int p1), .val (.int p2)] [(.int (1 : Int32)), (.int p1)])) _
        refine XS.icmpYes X4.here hx rfl (pc0 := 13) (pc' := 36) rfl (hb hby d0_13) rfl (tlt hc6).2.2.1 (by decide) (by decide) ?_
        show Steps p.tables e below (T4.setTop (mkF m 36 #[.val (.ref w6), .val (.int p1), .val (.int p2)] [])) _
        refine XS.iconst X4.here hx rfl (hb hby d0_36) ?_
        show Steps p.tables e below (T4.setTop (mkF m 37 #[.val (.ref w6), .val (.int p1), .val (.int p2)] [(.int (0 : Int32))])) _
        exact retN X4 hx (t := .boolean) hret (by simp) (hb hby d0_37) hr
      ·
        show Q9 Z w1 w2 w3 w4 w5 w6 w7 w8 p1 p2 h0 n0 _ T4.heap _
        rw [e4]
        exact (Or.inr (Or.inl ⟨hc3, hc6, rfl, N0, rfl⟩))
    ·
      have hq7 : p1 = (1 : Int32) := (own_geq (n := 1) (k := (1 : Int32)) (by decide) (by have q0 := rng32 p1; have q1 := own_nlt1 (n := 1) (k := (1 : Int32)) (by decide) hc3; have q2 := own_nlt2 (n := 1) (k := (1 : Int32)) (by decide) hc6; omega))
      have pre8 : ∀ t, Steps p.tables e below (T4.setTop (mkF m 13 #[.val (.ref w6), .val (.int (1 : Int32)), .val (.int p2)] [(.int (1 : Int32)), (.int (1 : Int32))])) t → Steps p.tables e below (s₁.setTop (entryFrame m #[(.ref w6), (.int p1), (.int p2)] 3)) t := fun t k => pre5 t (by rw [hq7]; exact k)
      obtain ⟨T9, X9, e9, st9⟩ := getF X4 hx hZ hown (host := "") (Or.inl (hw _ (List.mem_of_getElem? (i := 15) rfl))) Via.refl e4 (F_w6_minOut.ext O0.2) (g := (mkF m 17 #[.val (.ref w6), .val (.int (1 : Int32)), .val (.int p2)] [(.ref w6)])) rfl rfl (hb hby d0_17)
      have pre10 : ∀ t, Steps p.tables e below (T9.setTop (mkF m 21 #[.val (.ref w6), .val (.int (1 : Int32)), .val (.int p2)] [(.int p2), (.int (2 : Int32))])) t → Steps p.tables e below (s₁.setTop (entryFrame m #[(.ref w6), (.int p1), (.int p2)] 3)) t := fun t k => by
        refine pre8 _ ?_
        show Steps p.tables e below (T4.setTop (mkF m 13 #[.val (.ref w6), .val (.int (1 : Int32)), .val (.int p2)] [(.int (1 : Int32)), (.int (1 : Int32))])) _
        refine XS.icmpNo X4.here hx rfl (hb hby d0_13) rfl (flt (by decide : ¬ ((1 : Int32) < (1 : Int32)))).2.2.1 ?_
        show Steps p.tables e below (T4.setTop (mkF m 16 #[.val (.ref w6), .val (.int (1 : Int32)), .val (.int p2)] [])) _
        refine XS.aloadN X4.here hx rfl (hb hby d0_16) rfl rfl ?_
        show Steps p.tables e below (T4.setTop (mkF m 17 #[.val (.ref w6), .val (.int (1 : Int32)), .val (.int p2)] [(.ref w6)])) _
        refine st9 _ ?_
        show Steps p.tables e below (T9.setTop (mkF m 20 #[.val (.ref w6), .val (.int (1 : Int32)), .val (.int p2)] [(.int (2 : Int32))])) _
        refine XS.iloadN X9.here hx rfl (hb hby d0_20) rfl ?_
        exact k
      by_cases hc11 : p2 < (2 : Int32)
      ·
        obtain ⟨fs, hr, hrun, hended, hW, hsame⟩ := X9.leave (v := some (.int (0 : Int32))) (fun h => by rw [hret] at h; cases h)
        refine ⟨_, _, pre10 _ ?_, hrun, hended, _, _, rfl, ?_, ⟨_, rfl⟩, hW, hsame.mono (by decide) (by decide)⟩
        ·
          show Steps p.tables e below (T9.setTop (mkF m 21 #[.val (.ref w6), .val (.int (1 : Int32)), .val (.int p2)] [(.int p2), (.int (2 : Int32))])) _
          refine XS.icmpYes X9.here hx rfl (pc0 := 21) (pc' := 36) rfl (hb hby d0_21) rfl (tlt hc11).2.2.1 (by decide) (by decide) ?_
          show Steps p.tables e below (T9.setTop (mkF m 36 #[.val (.ref w6), .val (.int (1 : Int32)), .val (.int p2)] [])) _
          refine XS.iconst X9.here hx rfl (hb hby d0_36) ?_
          show Steps p.tables e below (T9.setTop (mkF m 37 #[.val (.ref w6), .val (.int (1 : Int32)), .val (.int p2)] [(.int (0 : Int32))])) _
          exact retN X9 hx (t := .boolean) hret (by simp) (hb hby d0_37) hr
        ·
          show Q9 Z w1 w2 w3 w4 w5 w6 w7 w8 p1 p2 h0 n0 _ T9.heap _
          rw [e9]
          exact (Or.inr (Or.inr (Or.inl ⟨hc3, hc6, hc11, rfl, N0, rfl⟩)))
      ·
        obtain ⟨T12, X12, e12, st12⟩ := getF X9 hx hZ hown (host := "") (Or.inl (hw _ (List.mem_of_getElem? (i := 17) rfl))) Via.refl e9 (F_w6_maxOut.ext O0.2) (g := (mkF m 26 #[.val (.ref w6), .val (.int (1 : Int32)), .val (.int p2)] [(.ref w6), (.int p2)])) rfl rfl (hb hby d0_26)
        obtain ⟨fs, hr, hrun, hended, hW, hsame⟩ := X12.leave (v := some (.int (1 : Int32))) (fun h => by rw [hret] at h; cases h)
        refine ⟨_, _, pre10 _ ?_, hrun, hended, _, _, rfl, ?_, ⟨_, rfl⟩, hW, hsame.mono (by decide) (by decide)⟩
        ·
          show Steps p.tables e below (T9.setTop (mkF m 21 #[.val (.ref w6), .val (.int (1 : Int32)), .val (.int p2)] [(.int p2), (.int (2 : Int32))])) _
          refine XS.icmpNo X9.here hx rfl (hb hby d0_21) rfl (flt hc11).2.2.1 ?_
          show Steps p.tables e below (T9.setTop (mkF m 24 #[.val (.ref w6), .val (.int (1 : Int32)), .val (.int p2)] [])) _
          refine XS.iloadN X9.here hx rfl (hb hby d0_24) rfl ?_
          show Steps p.tables e below (T9.setTop (mkF m 25 #[.val (.ref w6), .val (.int (1 : Int32)), .val (.int p2)] [(.int p2)])) _
          refine XS.aloadN X9.here hx rfl (hb hby d0_25) rfl rfl ?_
          show Steps p.tables e below (T9.setTop (mkF m 26 #[.val (.ref w6), .val (.int (1 : Int32)), .val (.int p2)] [(.ref w6), (.int p2)])) _
          refine st12 _ ?_
          show Steps p.tables e below (T12.setTop (mkF m 29 #[.val (.ref w6), .val (.int (1 : Int32)), .val (.int p2)] [(.int (2147483647 : Int32)), (.int p2)])) _
          refine XS.icmpNo X12.here hx rfl (hb hby d0_29) rfl (flt (own_gnlt2 (n := 2147483647) (k := (2147483647 : Int32)) (by decide) (by have q0 := rng32 p2; have q1 := own_nlt1 (n := 2) (k := (2 : Int32)) (by decide) hc11; omega))).2.2.1 ?_
          show Steps p.tables e below (T12.setTop (mkF m 32 #[.val (.ref w6), .val (.int (1 : Int32)), .val (.int p2)] [])) _
          refine XS.iconst X12.here hx rfl (hb hby d0_32) ?_
          show Steps p.tables e below (T12.setTop (mkF m 33 #[.val (.ref w6), .val (.int (1 : Int32)), .val (.int p2)] [(.int (1 : Int32))])) _
          refine XS.goto X12.here hx rfl (pc0 := 33) (pc' := 37) rfl (hb hby d0_33) (by decide) (by decide) ?_
          show Steps p.tables e below (T12.setTop (mkF m 37 #[.val (.ref w6), .val (.int (1 : Int32)), .val (.int p2)] [(.int (1 : Int32))])) _
          exact retN X12 hx (t := .boolean) hret (by simp) (hb hby d0_37) hr
        ·
          show Q9 Z w1 w2 w3 w4 w5 w6 w7 w8 p1 p2 h0 n0 _ T12.heap _
          rw [e12]
          exact (Or.inr (Or.inr (Or.inr ⟨hc3, hc6, hc11, rfl, N0, rfl⟩)))
theorem ef10 (m : MethodId) (x0 : Addr) (x1 : Int32) (x2 : Int32) : entryFrame m #[(.ref x0), (.int x1), (.int x2)] 3 = mkF m 0 #[.val (.ref x0), .val (.int x1), .val (.int x2)] [] := by first | (simp [entryFrame, mkF, argsToLocals, Value.category]; done) | rfl
def Q10 (Z : State) (w1 : Addr) (w2 : Addr) (w3 : Addr) (w4 : Addr) (w5 : Addr) (w6 : Addr) (w7 : Addr) (w8 : Addr) (p1 : Int32) (h0 : Heap) (n0 : Nat) (v : Option Value) (h : Heap) (L : List Loc) : Prop :=
  ((p1 < (2 : Int32)) ∧ v = some (.int (0 : Int32)) ∧ Fr n0 L ∧ h = h0)
  ∨ ((¬ (p1 < (2 : Int32))) ∧ v = some (.int (1 : Int32)) ∧ Fr n0 L ∧ h = h0)
set_option maxRecDepth 65536 in
set_option maxHeartbeats 40000000 in
theorem rm10 (l : Launch) (Z : State) (a0 : Array Value) (hw : ∀ d ∈ tables_1, d.before a0 Z = true) (w1 : Addr) (w2 : Addr) (w3 : Addr) (w4 : Addr) (w5 : Addr) (w6 : Addr) (w7 : Addr) (w8 : Addr) (G : GW Z w1 w2 w3 w4 w5 w6 w7 w8) (ws : List Jvm.Cond) (p1 : Int32) (h0 : Heap) (n0 : Nat) (O0 : Old Z n0 h0) :
    MetFree l (⟨"com/example/vipo/vipo/flow/PatternType", "admitsDegree", "(II)Z"⟩ : MethodName) (head1 (Jvm.Cond.code (⟨"com/example/vipo/vipo/flow/PatternType", "admitsDegree", "(II)Z"⟩ : MethodName) prog_18_method_6_code 3 (some .boolean) :: ws) ({ frames := 0, cells := 0, slots := 0, locals := 0 } : Room)) (fun a U => a = #[(.ref w3), (.int (1 : Int32)), (.int p1)] ∧ Z.Warmed39 U.vm ∧ U.heap = h0) (fun _ _ _ _ _ => True) (fun _ U o U' => ∃ v L, o = .returned v ∧ Q10 Z w1 w2 w3 w4 w5 w6 w7 w8 p1 h0 n0 v U'.heap L ∧ FrameEnd U o U' L ({ frames := 0, cells := 0, slots := 0, locals := 0 } : Room).cells ({ frames := 0, cells := 0, slots := 0, locals := 0 } : Room).slots) := by
  obtain ⟨S_w1, E_w1, S_w2, E_w2, S_w3, E_w3, S_w4, E_w4, S_w5, E_w5, S_w6, E_w6, S_w7, E_w7, S_w8, E_w8, F_w1_minIn, F_w1_maxIn, F_w2_minIn, F_w2_maxIn, F_w2_minOut, F_w2_maxOut, F_w3_minIn, F_w3_maxIn, F_w4_minIn, F_w5_minIn, F_w6_minIn, F_w6_maxIn, F_w5_maxIn, F_w7_minIn, F_w7_maxIn, F_w7_minOut, F_w7_maxOut, F_w8_minIn, F_w8_maxIn, F_w1_minOut, F_w1_maxOut, F_w4_maxIn, F_w5_minOut, F_w5_maxOut, F_w6_minOut, F_w4_minOut, F_w6_maxOut, F_w4_maxOut, F_w8_minOut, F_w8_maxOut, F_w3_minOut, F_w3_maxOut⟩ := id G
  refine MetFree.of_bodySF (plainFor_of_name pn0) hisR ?_
  intro p e s m args below meth c s₁ Bd hml0 hP hK
  obtain ⟨rfl, hZ, hh⟩ := hP
  have hx := Bd.exec
  have hby := Bd.bytes
  have hml : c.maxLocals = 3 := hml0
  have hown : s.vm.findClass "com/example/vipo/vipo/flow/PatternType" = some m.cls := findClass_of_methodNamed Bd.named
  have hnm := (name_of_methodNamed Bd.named Bd.method).1
  have hret := Bd.returns
  have hlk : meth.locks = false := BodyLoose.notSynchronized Bd
  have X0 : Stand p l e ({ frames := 0, cells := 0, slots := 0, locals := 0 } : Room) s m #[(.ref w3), (.int (1 : Int32)), (.int p1)] below meth c s₁ [] 0 0 := Stand.of_body Bd
  have e0 : s₁.heap = h0 := by rw [← hh, Bd.state]; rfl
  have N0 := Fr.nil n0
  have pre0 : ∀ t, Steps p.tables e below (s₁.setTop (mkF m 0 #[.val (.ref w3), .val (.int (1 : Int32)), .val (.int p1)] [])) t → Steps p.tables e below (s₁.setTop (entryFrame m #[(.ref w3), (.int (1 : Int32)), (.int p1)] 3)) t := fun t k => castTop (ef10 m w3 (1 : Int32) p1) k
  obtain ⟨T1, X1, e1, st1⟩ := getF X0 hx hZ hown (host := "") (Or.inl (hw _ (List.mem_of_getElem? (i := 9) rfl))) Via.refl e0 (F_w3_minIn.ext O0.2) (g := (mkF m 1 #[.val (.ref w3), .val (.int (1 : Int32)), .val (.int p1)] [(.ref w3)])) rfl rfl (hb hby d0_1)
  obtain ⟨T2, X2, e2, st2⟩ := getF X1 hx hZ hown (host := "") (Or.inl (hw _ (List.mem_of_getElem? (i := 11) rfl))) Via.refl e1 (F_w3_maxIn.ext O0.2) (g := (mkF m 10 #[.val (.ref w3), .val (.int (1 : Int32)), .val (.int p1)] [(.ref w3), (.int (1 : Int32))])) rfl rfl (hb hby d0_10)
  obtain ⟨T3, X3, e3, st3⟩ := getF X2 hx hZ hown (host := "") (Or.inl (hw _ (List.mem_of_getElem? (i := 15) rfl))) Via.refl e2 (F_w3_minOut.ext O0.2) (g := (mkF m 17 #[.val (.ref w3), .val (.int (1 : Int32)), .val (.int p1)] [(.ref w3)])) rfl rfl (hb hby d0_17)
  have pre4 : ∀ t, Steps p.tables e below (T3.setTop (mkF m 21 #[.val (.ref w3), .val (.int (1 : Int32)), .val (.int p1)] [(.int p1), (.int (2 : Int32))])) t → Steps p.tables e below (s₁.setTop (entryFrame m #[(.ref w3), (.int (1 : Int32)), (.int p1)] 3)) t := fun t k => by
    refine pre0 _ ?_
    show Steps p.tables e below (s₁.setTop (mkF m 0 #[.val (.ref w3), .val (.int (1 : Int32)), .val (.int p1)] [])) _
    refine XS.aloadN X0.here hx rfl (hb hby d0_0) rfl rfl ?_
    show Steps p.tables e below (s₁.setTop (mkF m 1 #[.val (.ref w3), .val (.int (1 : Int32)), .val (.int p1)] [(.ref w3)])) _
    refine st1 _ ?_
    show Steps p.tables e below (T1.setTop (mkF m 4 #[.val (.ref w3), .val (.int (1 : Int32)), .val (.int p1)] [(.int (1 : Int32))])) _
    refine XS.iloadN X1.here hx rfl (hb hby d0_4) rfl ?_
    show Steps p.tables e below (T1.setTop (mkF m 5 #[.val (.ref w3), .val (.int (1 : Int32)), .val (.int p1)] [(.int (1 : Int32)), (.int (1 : Int32))])) _
    refine XS.icmpNo X1.here hx rfl (hb hby d0_5) rfl (flt (by decide : ¬ ((1 : Int32) < (1 : Int32)))).2.2.1 ?_
    show Steps p.tables e below (T1.setTop (mkF m 8 #[.val (.ref w3), .val (.int (1 : Int32)), .val (.int p1)] [])) _
    refine XS.iloadN X1.here hx rfl (hb hby d0_8) rfl ?_
    show Steps p.tables e below (T1.setTop (mkF m 9 #[.val (.ref w3), .val (.int (1 : Int32)), .val (.int p1)] [(.int (1 : Int32))])) _
    refine XS.aloadN X1.here hx rfl (hb hby d0_9) rfl rfl ?_
    show Steps p.tables e below (T1.setTop (mkF m 10 #[.val (.ref w3), .val (.int (1 : Int32)), .val (.int p1)] [(.ref w3), (.int (1 : Int32))])) _
    refine st2 _ ?_
    show Steps p.tables e below (T2.setTop (mkF m 13 #[.val (.ref w3), .val (.int (1 : Int32)), .val (.int p1)] [(.int (1 : Int32)), (.int (1 : Int32))])) _
    refine XS.icmpNo X2.here hx rfl (hb hby d0_13) rfl (flt (by decide : ¬ ((1 : Int32) < (1 : Int32)))).2.2.1 ?_
    show Steps p.tables e below (T2.setTop (mkF m 16 #[.val (.ref w3), .val (.int (1 : Int32)), .val (.int p1)] [])) _
    refine XS.aloadN X2.here hx rfl (hb hby d0_16) rfl rfl ?_
    show Steps p.tables e below (T2.setTop (mkF m 17 #[.val (.ref w3), .val (.int (1 : Int32)), .val (.int p1)] [(.ref w3)])) _
    refine st3 _ ?_
    show Steps p.tables e below (T3.setTop (mkF m 20 #[.val (.ref w3), .val (.int (1 : Int32)), .val (.int p1)] [(.int (2 : Int32))])) _
    refine XS.iloadN X3.here hx rfl (hb hby d0_20) rfl ?_
    exact k
  by_cases hc5 : p1 < (2 : Int32)
  ·
    obtain ⟨fs, hr, hrun, hended, hW, hsame⟩ := X3.leave (v := some (.int (0 : Int32))) (fun h => by rw [hret] at h; cases h)
    refine ⟨_, _, pre4 _ ?_, hrun, hended, _, _, rfl, ?_, ⟨_, rfl⟩, hW, hsame.mono (by decide) (by decide)⟩
    ·
      show Steps p.tables e below (T3.setTop (mkF m 21 #[.val (.ref w3), .val (.int (1 : Int32)), .val (.int p1)] [(.int p1), (.int (2 : Int32))])) _
      refine XS.icmpYes X3.here hx rfl (pc0 := 21) (pc' := 36) rfl (hb hby d0_21) rfl (tlt hc5).2.2.1 (by decide) (by decide) ?_
      show Steps p.tables e below (T3.setTop (mkF m 36 #[.val (.ref w3), .val (.int (1 : Int32)), .val (.int p1)] [])) _
      refine XS.iconst X3.here hx rfl (hb hby d0_36) ?_
      show Steps p.tables e below (T3.setTop (mkF m 37 #[.val (.ref w3), .val (.int (1 : Int32)), .val (.int p1)] [(.int (0 : Int32))])) _
      exact retN X3 hx (t := .boolean) hret (by simp) (hb hby d0_37) hr
    ·
      show Q10 Z w1 w2 w3 w4 w5 w6 w7 w8 p1 h0 n0 _ T3.heap _
      rw [e3]
      exact (Or.inl ⟨hc5, rfl, N0, rfl⟩)
  ·
    obtain ⟨T6, X6, e6, st6⟩ := getF X3 hx hZ hown (host := "") (Or.inl (hw _ (List.mem_of_getElem? (i := 17) rfl))) Via.refl e3 (F_w3_maxOut.ext O0.2) (g := (mkF m 26 #[.val (.ref w3), .val (.int (1 : Int32)), .val (.int p1)] [(.ref w3), (.int p1)])) rfl rfl (hb hby d0_26)
    obtain ⟨fs, hr, hrun, hended, hW, hsame⟩ := X6.leave (v := some (.int (1 : Int32))) (fun h => by rw [hret] at h; cases h)
    refine ⟨_, _, pre4 _ ?_, hrun, hended, _, _, rfl, ?_, ⟨_, rfl⟩, hW, hsame.mono (by decide) (by decide)⟩
    ·
      show Steps p.tables e below (T3.setTop (mkF m 21 #[.val (.ref w3), .val (.int (1 : Int32)), .val (.int p1)] [(.int p1), (.int (2 : Int32))])) _
      refine XS.icmpNo X3.here hx rfl (hb hby d0_21) rfl (flt hc5).2.2.1 ?_
      show Steps p.tables e below (T3.setTop (mkF m 24 #[.val (.ref w3), .val (.int (1 : Int32)), .val (.int p1)] [])) _
      refine XS.iloadN X3.here hx rfl (hb hby d0_24) rfl ?_
      show Steps p.tables e below (T3.setTop (mkF m 25 #[.val (.ref w3), .val (.int (1 : Int32)), .val (.int p1)] [(.int p1)])) _
      refine XS.aloadN X3.here hx rfl (hb hby d0_25) rfl rfl ?_
      show Steps p.tables e below (T3.setTop (mkF m 26 #[.val (.ref w3), .val (.int (1 : Int32)), .val (.int p1)] [(.ref w3), (.int p1)])) _
      refine st6 _ ?_
      show Steps p.tables e below (T6.setTop (mkF m 29 #[.val (.ref w3), .val (.int (1 : Int32)), .val (.int p1)] [(.int (2147483647 : Int32)), (.int p1)])) _
      refine XS.icmpNo X6.here hx rfl (hb hby d0_29) rfl (flt (own_gnlt2 (n := 2147483647) (k := (2147483647 : Int32)) (by decide) (by have q0 := rng32 p1; have q1 := own_nlt1 (n := 2) (k := (2 : Int32)) (by decide) hc5; omega))).2.2.1 ?_
      show Steps p.tables e below (T6.setTop (mkF m 32 #[.val (.ref w3), .val (.int (1 : Int32)), .val (.int p1)] [])) _
      refine XS.iconst X6.here hx rfl (hb hby d0_32) ?_
      show Steps p.tables e below (T6.setTop (mkF m 33 #[.val (.ref w3), .val (.int (1 : Int32)), .val (.int p1)] [(.int (1 : Int32))])) _
      refine XS.goto X6.here hx rfl (pc0 := 33) (pc' := 37) rfl (hb hby d0_33) (by decide) (by decide) ?_
      show Steps p.tables e below (T6.setTop (mkF m 37 #[.val (.ref w3), .val (.int (1 : Int32)), .val (.int p1)] [(.int (1 : Int32))])) _
      exact retN X6 hx (t := .boolean) hret (by simp) (hb hby d0_37) hr
    ·
      show Q10 Z w1 w2 w3 w4 w5 w6 w7 w8 p1 h0 n0 _ T6.heap _
      rw [e6]
      exact (Or.inr ⟨hc5, rfl, N0, rfl⟩)
theorem ef11 (m : MethodId) (x0 : Addr) (x1 : Int32) (x2 : Int32) : entryFrame m #[(.ref x0), (.int x1), (.int x2)] 3 = mkF m 0 #[.val (.ref x0), .val (.int x1), .val (.int x2)] [] := by first | (simp [entryFrame, mkF, argsToLocals, Value.category]; done) | rfl
def Q11 (Z : State) (w1 : Addr) (w2 : Addr) (w3 : Addr) (w4 : Addr) (w5 : Addr) (w6 : Addr) (w7 : Addr) (w8 : Addr) (p1 : Int32) (p2 : Int32) (h0 : Heap) (n0 : Nat) (v : Option Value) (h : Heap) (L : List Loc) : Prop :=
  ((p1 < (1 : Int32)) ∧ v = some (.int (0 : Int32)) ∧ Fr n0 L ∧ h = h0)
  ∨ ((¬ (p1 < (1 : Int32))) ∧ ((1 : Int32) < p1) ∧ v = some (.int (0 : Int32)) ∧ Fr n0 L ∧ h = h0)
  ∨ ((¬ (p1 < (1 : Int32))) ∧ (¬ ((1 : Int32) < p1)) ∧ (p2 < (2 : Int32)) ∧ v = some (.int (0 : Int32)) ∧ Fr n0 L ∧ h = h0)
  ∨ ((¬ (p1 < (1 : Int32))) ∧ (¬ ((1 : Int32) < p1)) ∧ (¬ (p2 < (2 : Int32))) ∧ v = some (.int (1 : Int32)) ∧ Fr n0 L ∧ h = h0)
set_option maxRecDepth 65536 in
set_option maxHeartbeats 40000000 in
theorem rm11 (l : Launch) (Z : State) (a0 : Array Value) (hw : ∀ d ∈ tables_1, d.before a0 Z = true) (w1 : Addr) (w2 : Addr) (w3 : Addr) (w4 : Addr) (w5 : Addr) (w6 : Addr) (w7 : Addr) (w8 : Addr) (G : GW Z w1 w2 w3 w4 w5 w6 w7 w8) (ws : List Jvm.Cond) (p1 : Int32) (p2 : Int32) (h0 : Heap) (n0 : Nat) (O0 : Old Z n0 h0) :
    MetFree l (⟨"com/example/vipo/vipo/flow/PatternType", "admitsDegree", "(II)Z"⟩ : MethodName) (head1 (Jvm.Cond.code (⟨"com/example/vipo/vipo/flow/PatternType", "admitsDegree", "(II)Z"⟩ : MethodName) prog_18_method_6_code 3 (some .boolean) :: ws) ({ frames := 0, cells := 0, slots := 0, locals := 0 } : Room)) (fun a U => a = #[(.ref w3), (.int p1), (.int p2)] ∧ Z.Warmed39 U.vm ∧ U.heap = h0) (fun _ _ _ _ _ => True) (fun _ U o U' => ∃ v L, o = .returned v ∧ Q11 Z w1 w2 w3 w4 w5 w6 w7 w8 p1 p2 h0 n0 v U'.heap L ∧ FrameEnd U o U' L ({ frames := 0, cells := 0, slots := 0, locals := 0 } : Room).cells ({ frames := 0, cells := 0, slots := 0, locals := 0 } : Room).slots) := by
  obtain ⟨S_w1, E_w1, S_w2, E_w2, S_w3, E_w3, S_w4, E_w4, S_w5, E_w5, S_w6, E_w6, S_w7, E_w7, S_w8, E_w8, F_w1_minIn, F_w1_maxIn, F_w2_minIn, F_w2_maxIn, F_w2_minOut, F_w2_maxOut, F_w3_minIn, F_w3_maxIn, F_w4_minIn, F_w5_minIn, F_w6_minIn, F_w6_maxIn, F_w5_maxIn, F_w7_minIn, F_w7_maxIn, F_w7_minOut, F_w7_maxOut, F_w8_minIn, F_w8_maxIn, F_w1_minOut, F_w1_maxOut, F_w4_maxIn, F_w5_minOut, F_w5_maxOut, F_w6_minOut, F_w4_minOut, F_w6_maxOut, F_w4_maxOut, F_w8_minOut, F_w8_maxOut, F_w3_minOut, F_w3_maxOut⟩ := id G
  refine MetFree.of_bodySF (plainFor_of_name pn0) hisR ?_
  intro p e s m args below meth c s₁ Bd hml0 hP hK
  obtain ⟨rfl, hZ, hh⟩ := hP
  have hx := Bd.exec
  have hby := Bd.bytes
  have hml : c.maxLocals = 3 := hml0
  have hown : s.vm.findClass "com/example/vipo/vipo/flow/PatternType" = some m.cls := findClass_of_methodNamed Bd.named
  have hnm := (name_of_methodNamed Bd.named Bd.method).1
  have hret := Bd.returns
  have hlk : meth.locks = false := BodyLoose.notSynchronized Bd
  have X0 : Stand p l e ({ frames := 0, cells := 0, slots := 0, locals := 0 } : Room) s m #[(.ref w3), (.int p1), (.int p2)] below meth c s₁ [] 0 0 := Stand.of_body Bd
  have e0 : s₁.heap = h0 := by rw [← hh, Bd.state]; rfl
  have N0 := Fr.nil n0
  have pre0 : ∀ t, Steps p.tables e below (s₁.setTop (mkF m 0 #[.val (.ref w3), .val (.int p1), .val (.int p2)] [])) t → Steps p.tables e below (s₁.setTop (entryFrame m #[(.ref w3), (.int p1), (.int p2)] 3)) t := fun t k => castTop (ef11 m w3 p1 p2) k
  obtain ⟨T1, X1, e1, st1⟩ := getF X0 hx hZ hown (host := "") (Or.inl (hw _ (List.mem_of_getElem? (i := 9) rfl))) Via.refl e0 (F_w3_minIn.ext O0.2) (g := (mkF m 1 #[.val (.ref w3), .val (.int p1), .val (.int p2)] [(.ref w3)])) rfl rfl (hb hby d0_1)
  have pre2 : ∀ t, Steps p.tables e below (T1.setTop (mkF m 5 #[.val (.ref w3), .val (.int p1), .val (.int p2)] [(.int p1), (.int (1 : Int32))])) t → Steps p.tables e below (s₁.setTop (entryFrame m #[(.ref w3), (.int p1), (.int p2)] 3)) t := fun t k => by
    refine pre0 _ ?_
    show Steps p.tables e below (s₁.setTop (mkF m 0 #[.val (.ref w3), .val (.int p1), .val (.int p2)] [])) _
    refine XS.aloadN X0.here hx rfl (hb hby d0_0) rfl rfl ?_
    show Steps p.tables e below (s₁.setTop (mkF m 1 #[.val (.ref w3), .val (.int p1), .val (.int p2)] [(.ref w3)])) _
    refine st1 _ ?_
    show Steps p.tables e below (T1.setTop (mkF m 4 #[.val (.ref w3), .val (.int p1), .val (.int p2)] [(.int (1 : Int32))])) _
    refine XS.iloadN X1.here hx rfl (hb hby d0_4) rfl ?_
    exact k
  by_cases hc3 : p1 < (1 : Int32)
  ·
    obtain ⟨fs, hr, hrun, hended, hW, hsame⟩ := X1.leave (v := some (.int (0 : Int32))) (fun h => by rw [hret] at h; cases h)
    refine ⟨_, _, pre2 _ ?_, hrun, hended, _, _, rfl, ?_, ⟨_, rfl⟩, hW, hsame.mono (by decide) (by decide)⟩
    ·
      show Steps p.tables e below (T1.setTop (mkF m 5 #[.val (.ref w3), .val (.int p1), .val (.int p2)] [(.int p1), (.int (1 : Int32))])) _
      refine XS.icmpYes X1.here hx rfl (pc0 := 5) (pc' := 36) rfl (hb hby d0_5) rfl (tlt hc3).2.2.1 (by decide) (by decide) ?_
      show Steps p.tables e below (T1.setTop (mkF m 36 #[.val (.ref w3), .val (.int p1), .val (.int p2)] [])) _
      refine XS.iconst X1.here hx rfl (hb hby d0_36) ?_
      show Steps p.tables e below (T1.setTop (mkF m 37 #[.val (.ref w3), .val (.int p1), .val (.int p2)] [(.int (0 : Int32))])) _
      exact retN X1 hx (t := .boolean) hret (by simp) (hb hby d0_37) hr
    ·
      show Q11 Z w1 w2 w3 w4 w5 w6 w7 w8 p1 p2 h0 n0 _ T1.heap _
      rw [e1]
      exact (Or.inl ⟨hc3, rfl, N0, rfl⟩)
  ·
    obtain ⟨T4, X4, e4, st4⟩ := getF X1 hx hZ hown (host := "") (Or.inl (hw _ (List.mem_of_getElem? (i := 11) rfl))) Via.refl e1 (F_w3_maxIn.ext O0.2) (g := (mkF m 10 #[.val (.ref w3), .val (.int p1), .val (.int p2)] [(.ref w3), (.int p1)])) rfl rfl (hb hby d0_10)
    have pre5 : ∀ t, Steps p.tables e below (T4.setTop (mkF m 13 #[.val (.ref w3), .val (.int p1), .val (.int p2)] [(.int (1 : Int32)), (.int p1)])) t → Steps p.tables e below (s₁.setTop (entryFrame m #[(.ref w3), (.int p1), (.int p2)] 3)) t := fun t k => by
      refine pre2 _ ?_
      show Steps p.tables e below (T1.setTop (mkF m 5 #[.val (.ref w3), .val (.int p1), .val (.int p2)] [(.int p1), (.int (1 : Int32))])) _
      refine XS.icmpNo X1.here hx rfl (hb hby d0_5) rfl (flt hc3).2.2.1 ?_
      show Steps p.tables e below (T1.setTop (mkF m 8 #[.val (.ref w3), .val (.int p1), .val (.int p2)] [])) _
      refine XS.iloadN X1.here hx rfl (hb hby d0_8) rfl ?_
      show Steps p.tables e below (T1.setTop (mkF m 9 #[.val (.ref w3), .val (.int p1), .val (.int p2)] [(.int p1)])) _
      refine XS.aloadN X1.here hx rfl (hb hby d0_9) rfl rfl ?_
      show Steps p.tables e below (T1.setTop (mkF m 10 #[.val (.ref w3), .val (.int p1), .val (.int p2)] [(.ref w3), (.int p1)])) _
      refine st4 _ ?_
      exact k
    by_cases hc6 : (1 : Int32) < p1
    ·
      obtain ⟨fs, hr, hrun, hended, hW, hsame⟩ := X4.leave (v := some (.int (0 : Int32))) (fun h => by rw [hret] at h; cases h)
      refine ⟨_, _, pre5 _ ?_, hrun, hended, _, _, rfl, ?_, ⟨_, rfl⟩, hW, hsame.mono (by decide) (by decide)⟩
      ·
        show Steps p.tables e below (T4.setTop (mkF m 13 #[.val (.ref w3), .val (.int p1), .val (.int p2)] [(.int (1 : Int32)), (.int p1)])) _
        refine XS.icmpYes X4.here hx rfl (pc0 := 13) (pc' := 36) rfl (hb hby d0_13) rfl (tlt hc6).2.2.1 (by decide) (by decide) ?_
        show Steps p.tables e below (T4.setTop (mkF m 36 #[.val (.ref w3), .val (.int p1), .val (.int p2)] [])) _
        refine XS.iconst X4.here hx rfl (hb hby d0_36) ?_
        show Steps p.tables e below (T4.setTop (mkF m 37 #[.val (.ref w3), .val (.int p1), .val (.int p2)] [(.int (0 : Int32))])) _
        exact retN X4 hx (t := .boolean) hret (by simp) (hb hby d0_37) hr
      ·
        show Q11 Z w1 w2 w3 w4 w5 w6 w7 w8 p1 p2 h0 n0 _ T4.heap _
        rw [e4]
        exact (Or.inr (Or.inl ⟨hc3, hc6, rfl, N0, rfl⟩))
    ·
      have hq7 : p1 = (1 : Int32) := (own_geq (n := 1) (k := (1 : Int32)) (by decide) (by have q0 := rng32 p1; have q1 := own_nlt1 (n := 1) (k := (1 : Int32)) (by decide) hc3; have q2 := own_nlt2 (n := 1) (k := (1 : Int32)) (by decide) hc6; omega))
      have pre8 : ∀ t, Steps p.tables e below (T4.setTop (mkF m 13 #[.val (.ref w3), .val (.int (1 : Int32)), .val (.int p2)] [(.int (1 : Int32)), (.int (1 : Int32))])) t → Steps p.tables e below (s₁.setTop (entryFrame m #[(.ref w3), (.int p1), (.int p2)] 3)) t := fun t k => pre5 t (by rw [hq7]; exact k)
      obtain ⟨T9, X9, e9, st9⟩ := getF X4 hx hZ hown (host := "") (Or.inl (hw _ (List.mem_of_getElem? (i := 15) rfl))) Via.refl e4 (F_w3_minOut.ext O0.2) (g := (mkF m 17 #[.val (.ref w3), .val (.int (1 : Int32)), .val (.int p2)] [(.ref w3)])) rfl rfl (hb hby d0_17)
      have pre10 : ∀ t, Steps p.tables e below (T9.setTop (mkF m 21 #[.val (.ref w3), .val (.int (1 : Int32)), .val (.int p2)] [(.int p2), (.int (2 : Int32))])) t → Steps p.tables e below (s₁.setTop (entryFrame m #[(.ref w3), (.int p1), (.int p2)] 3)) t := fun t k => by
        refine pre8 _ ?_
        show Steps p.tables e below (T4.setTop (mkF m 13 #[.val (.ref w3), .val (.int (1 : Int32)), .val (.int p2)] [(.int (1 : Int32)), (.int (1 : Int32))])) _
        refine XS.icmpNo X4.here hx rfl (hb hby d0_13) rfl (flt (by decide : ¬ ((1 : Int32) < (1 : Int32)))).2.2.1 ?_
        show Steps p.tables e below (T4.setTop (mkF m 16 #[.val (.ref w3), .val (.int (1 : Int32)), .val (.int p2)] [])) _
        refine XS.aloadN X4.here hx rfl (hb hby d0_16) rfl rfl ?_
        show Steps p.tables e below (T4.setTop (mkF m 17 #[.val (.ref w3), .val (.int (1 : Int32)), .val (.int p2)] [(.ref w3)])) _
        refine st9 _ ?_
        show Steps p.tables e below (T9.setTop (mkF m 20 #[.val (.ref w3), .val (.int (1 : Int32)), .val (.int p2)] [(.int (2 : Int32))])) _
        refine XS.iloadN X9.here hx rfl (hb hby d0_20) rfl ?_
        exact k
      by_cases hc11 : p2 < (2 : Int32)
      ·
        obtain ⟨fs, hr, hrun, hended, hW, hsame⟩ := X9.leave (v := some (.int (0 : Int32))) (fun h => by rw [hret] at h; cases h)
        refine ⟨_, _, pre10 _ ?_, hrun, hended, _, _, rfl, ?_, ⟨_, rfl⟩, hW, hsame.mono (by decide) (by decide)⟩
        ·
          show Steps p.tables e below (T9.setTop (mkF m 21 #[.val (.ref w3), .val (.int (1 : Int32)), .val (.int p2)] [(.int p2), (.int (2 : Int32))])) _
          refine XS.icmpYes X9.here hx rfl (pc0 := 21) (pc' := 36) rfl (hb hby d0_21) rfl (tlt hc11).2.2.1 (by decide) (by decide) ?_
          show Steps p.tables e below (T9.setTop (mkF m 36 #[.val (.ref w3), .val (.int (1 : Int32)), .val (.int p2)] [])) _
          refine XS.iconst X9.here hx rfl (hb hby d0_36) ?_
          show Steps p.tables e below (T9.setTop (mkF m 37 #[.val (.ref w3), .val (.int (1 : Int32)), .val (.int p2)] [(.int (0 : Int32))])) _
          exact retN X9 hx (t := .boolean) hret (by simp) (hb hby d0_37) hr
        ·
          show Q11 Z w1 w2 w3 w4 w5 w6 w7 w8 p1 p2 h0 n0 _ T9.heap _
          rw [e9]
          exact (Or.inr (Or.inr (Or.inl ⟨hc3, hc6, hc11, rfl, N0, rfl⟩)))
      ·
        obtain ⟨T12, X12, e12, st12⟩ := getF X9 hx hZ hown (host := "") (Or.inl (hw _ (List.mem_of_getElem? (i := 17) rfl))) Via.refl e9 (F_w3_maxOut.ext O0.2) (g := (mkF m 26 #[.val (.ref w3), .val (.int (1 : Int32)), .val (.int p2)] [(.ref w3), (.int p2)])) rfl rfl (hb hby d0_26)
        obtain ⟨fs, hr, hrun, hended, hW, hsame⟩ := X12.leave (v := some (.int (1 : Int32))) (fun h => by rw [hret] at h; cases h)
        refine ⟨_, _, pre10 _ ?_, hrun, hended, _, _, rfl, ?_, ⟨_, rfl⟩, hW, hsame.mono (by decide) (by decide)⟩
        ·
          show Steps p.tables e below (T9.setTop (mkF m 21 #[.val (.ref w3), .val (.int (1 : Int32)), .val (.int p2)] [(.int p2), (.int (2 : Int32))])) _
          refine XS.icmpNo X9.here hx rfl (hb hby d0_21) rfl (flt hc11).2.2.1 ?_
          show Steps p.tables e below (T9.setTop (mkF m 24 #[.val (.ref w3), .val (.int (1 : Int32)), .val (.int p2)] [])) _
          refine XS.iloadN X9.here hx rfl (hb hby d0_24) rfl ?_
          show Steps p.tables e below (T9.setTop (mkF m 25 #[.val (.ref w3), .val (.int (1 : Int32)), .val (.int p2)] [(.int p2)])) _
          refine XS.aloadN X9.here hx rfl (hb hby d0_25) rfl rfl ?_
          show Steps p.tables e below (T9.setTop (mkF m 26 #[.val (.ref w3), .val (.int (1 : Int32)), .val (.int p2)] [(.ref w3), (.int p2)])) _
          refine st12 _ ?_
          show Steps p.tables e below (T12.setTop (mkF m 29 #[.val (.ref w3), .val (.int (1 : Int32)), .val (.int p2)] [(.int (2147483647 : Int32)), (.int p2)])) _
          refine XS.icmpNo X12.here hx rfl (hb hby d0_29) rfl (flt (own_gnlt2 (n := 2147483647) (k := (2147483647 : Int32)) (by decide) (by have q0 := rng32 p2; have q1 := own_nlt1 (n := 2) (k := (2 : Int32)) (by decide) hc11; omega))).2.2.1 ?_
          show Steps p.tables e below (T12.setTop (mkF m 32 #[.val (.ref w3), .val (.int (1 : Int32)), .val (.int p2)] [])) _
          refine XS.iconst X12.here hx rfl (hb hby d0_32) ?_
          show Steps p.tables e below (T12.setTop (mkF m 33 #[.val (.ref w3), .val (.int (1 : Int32)), .val (.int p2)] [(.int (1 : Int32))])) _
          refine XS.goto X12.here hx rfl (pc0 := 33) (pc' := 37) rfl (hb hby d0_33) (by decide) (by decide) ?_
          show Steps p.tables e below (T12.setTop (mkF m 37 #[.val (.ref w3), .val (.int (1 : Int32)), .val (.int p2)] [(.int (1 : Int32))])) _
          exact retN X12 hx (t := .boolean) hret (by simp) (hb hby d0_37) hr
        ·
          show Q11 Z w1 w2 w3 w4 w5 w6 w7 w8 p1 p2 h0 n0 _ T12.heap _
          rw [e12]
          exact (Or.inr (Or.inr (Or.inr ⟨hc3, hc6, hc11, rfl, N0, rfl⟩)))
theorem ef12 (m : MethodId) (x0 : Addr) (x1 : Int32) (x2 : Int32) : entryFrame m #[(.ref x0), (.int x1), (.int x2)] 3 = mkF m 0 #[.val (.ref x0), .val (.int x1), .val (.int x2)] [] := by first | (simp [entryFrame, mkF, argsToLocals, Value.category]; done) | rfl
def Q12 (Z : State) (w1 : Addr) (w2 : Addr) (w3 : Addr) (w4 : Addr) (w5 : Addr) (w6 : Addr) (w7 : Addr) (w8 : Addr) (p1 : Int32) (p2 : Int32) (h0 : Heap) (n0 : Nat) (v : Option Value) (h : Heap) (L : List Loc) : Prop :=
  ((p1 < (2 : Int32)) ∧ v = some (.int (0 : Int32)) ∧ Fr n0 L ∧ h = h0)
  ∨ ((¬ (p1 < (2 : Int32))) ∧ (p2 < (1 : Int32)) ∧ v = some (.int (0 : Int32)) ∧ Fr n0 L ∧ h = h0)
  ∨ ((¬ (p1 < (2 : Int32))) ∧ (¬ (p2 < (1 : Int32))) ∧ ((1 : Int32) < p2) ∧ v = some (.int (0 : Int32)) ∧ Fr n0 L ∧ h = h0)
  ∨ ((¬ (p1 < (2 : Int32))) ∧ (¬ (p2 < (1 : Int32))) ∧ (¬ ((1 : Int32) < p2)) ∧ v = some (.int (1 : Int32)) ∧ Fr n0 L ∧ h = h0)
set_option maxRecDepth 65536 in
set_option maxHeartbeats 40000000 in
theorem rm12 (l : Launch) (Z : State) (a0 : Array Value) (hw : ∀ d ∈ tables_1, d.before a0 Z = true) (w1 : Addr) (w2 : Addr) (w3 : Addr) (w4 : Addr) (w5 : Addr) (w6 : Addr) (w7 : Addr) (w8 : Addr) (G : GW Z w1 w2 w3 w4 w5 w6 w7 w8) (ws : List Jvm.Cond) (p1 : Int32) (p2 : Int32) (h0 : Heap) (n0 : Nat) (O0 : Old Z n0 h0) :
    MetFree l (⟨"com/example/vipo/vipo/flow/PatternType", "admitsDegree", "(II)Z"⟩ : MethodName) (head1 (Jvm.Cond.code (⟨"com/example/vipo/vipo/flow/PatternType", "admitsDegree", "(II)Z"⟩ : MethodName) prog_18_method_6_code 3 (some .boolean) :: ws) ({ frames := 0, cells := 0, slots := 0, locals := 0 } : Room)) (fun a U => a = #[(.ref w7), (.int p1), (.int p2)] ∧ Z.Warmed39 U.vm ∧ U.heap = h0) (fun _ _ _ _ _ => True) (fun _ U o U' => ∃ v L, o = .returned v ∧ Q12 Z w1 w2 w3 w4 w5 w6 w7 w8 p1 p2 h0 n0 v U'.heap L ∧ FrameEnd U o U' L ({ frames := 0, cells := 0, slots := 0, locals := 0 } : Room).cells ({ frames := 0, cells := 0, slots := 0, locals := 0 } : Room).slots) := by
  obtain ⟨S_w1, E_w1, S_w2, E_w2, S_w3, E_w3, S_w4, E_w4, S_w5, E_w5, S_w6, E_w6, S_w7, E_w7, S_w8, E_w8, F_w1_minIn, F_w1_maxIn, F_w2_minIn, F_w2_maxIn, F_w2_minOut, F_w2_maxOut, F_w3_minIn, F_w3_maxIn, F_w4_minIn, F_w5_minIn, F_w6_minIn, F_w6_maxIn, F_w5_maxIn, F_w7_minIn, F_w7_maxIn, F_w7_minOut, F_w7_maxOut, F_w8_minIn, F_w8_maxIn, F_w1_minOut, F_w1_maxOut, F_w4_maxIn, F_w5_minOut, F_w5_maxOut, F_w6_minOut, F_w4_minOut, F_w6_maxOut, F_w4_maxOut, F_w8_minOut, F_w8_maxOut, F_w3_minOut, F_w3_maxOut⟩ := id G
  refine MetFree.of_bodySF (plainFor_of_name pn0) hisR ?_
  intro p e s m args below meth c s₁ Bd hml0 hP hK
  obtain ⟨rfl, hZ, hh⟩ := hP
  have hx := Bd.exec
  have hby := Bd.bytes
  have hml : c.maxLocals = 3 := hml0
  have hown : s.vm.findClass "com/example/vipo/vipo/flow/PatternType" = some m.cls := findClass_of_methodNamed Bd.named
  have hnm := (name_of_methodNamed Bd.named Bd.method).1
  have hret := Bd.returns
  have hlk : meth.locks = false := BodyLoose.notSynchronized Bd
  have X0 : Stand p l e ({ frames := 0, cells := 0, slots := 0, locals := 0 } : Room) s m #[(.ref w7), (.int p1), (.int p2)] below meth c s₁ [] 0 0 := Stand.of_body Bd
  have e0 : s₁.heap = h0 := by rw [← hh, Bd.state]; rfl
  have N0 := Fr.nil n0
  have pre0 : ∀ t, Steps p.tables e below (s₁.setTop (mkF m 0 #[.val (.ref w7), .val (.int p1), .val (.int p2)] [])) t → Steps p.tables e below (s₁.setTop (entryFrame m #[(.ref w7), (.int p1), (.int p2)] 3)) t := fun t k => castTop (ef12 m w7 p1 p2) k
  obtain ⟨T1, X1, e1, st1⟩ := getF X0 hx hZ hown (host := "") (Or.inl (hw _ (List.mem_of_getElem? (i := 9) rfl))) Via.refl e0 (F_w7_minIn.ext O0.2) (g := (mkF m 1 #[.val (.ref w7), .val (.int p1), .val (.int p2)] [(.ref w7)])) rfl rfl (hb hby d0_1)
  have pre2 : ∀ t, Steps p.tables e below (T1.setTop (mkF m 5 #[.val (.ref w7), .val (.int p1), .val (.int p2)] [(.int p1), (.int (2 : Int32))])) t → Steps p.tables e below (s₁.setTop (entryFrame m #[(.ref w7), (.int p1), (.int p2)] 3)) t := fun t k => by
    refine pre0 _ ?_
    show Steps p.tables e below (s₁.setTop (mkF m 0 #[.val (.ref w7), .val (.int p1), .val (.int p2)] [])) _
    refine XS.aloadN X0.here hx rfl (hb hby d0_0) rfl rfl ?_
    show Steps p.tables e below (s₁.setTop (mkF m 1 #[.val (.ref w7), .val (.int p1), .val (.int p2)] [(.ref w7)])) _
    refine st1 _ ?_
    show Steps p.tables e below (T1.setTop (mkF m 4 #[.val (.ref w7), .val (.int p1), .val (.int p2)] [(.int (2 : Int32))])) _
    refine XS.iloadN X1.here hx rfl (hb hby d0_4) rfl ?_
    exact k
  by_cases hc3 : p1 < (2 : Int32)
  ·
    obtain ⟨fs, hr, hrun, hended, hW, hsame⟩ := X1.leave (v := some (.int (0 : Int32))) (fun h => by rw [hret] at h; cases h)
    refine ⟨_, _, pre2 _ ?_, hrun, hended, _, _, rfl, ?_, ⟨_, rfl⟩, hW, hsame.mono (by decide) (by decide)⟩
    ·
      show Steps p.tables e below (T1.setTop (mkF m 5 #[.val (.ref w7), .val (.int p1), .val (.int p2)] [(.int p1), (.int (2 : Int32))])) _
      refine XS.icmpYes X1.here hx rfl (pc0 := 5) (pc' := 36) rfl (hb hby d0_5) rfl (tlt hc3).2.2.1 (by decide) (by decide) ?_
      show Steps p.tables e below (T1.setTop (mkF m 36 #[.val (.ref w7), .val (.int p1), .val (.int p2)] [])) _
      refine XS.iconst X1.here hx rfl (hb hby d0_36) ?_
      show Steps p.tables e below (T1.setTop (mkF m 37 #[.val (.ref w7), .val (.int p1), .val (.int p2)] [(.int (0 : Int32))])) _
      exact retN X1 hx (t := .boolean) hret (by simp) (hb hby d0_37) hr
    ·
      show Q12 Z w1 w2 w3 w4 w5 w6 w7 w8 p1 p2 h0 n0 _ T1.heap _
      rw [e1]
      exact (Or.inl ⟨hc3, rfl, N0, rfl⟩)
  ·
    obtain ⟨T4, X4, e4, st4⟩ := getF X1 hx hZ hown (host := "") (Or.inl (hw _ (List.mem_of_getElem? (i := 11) rfl))) Via.refl e1 (F_w7_maxIn.ext O0.2) (g := (mkF m 10 #[.val (.ref w7), .val (.int p1), .val (.int p2)] [(.ref w7), (.int p1)])) rfl rfl (hb hby d0_10)
    obtain ⟨T5, X5, e5, st5⟩ := getF X4 hx hZ hown (host := "") (Or.inl (hw _ (List.mem_of_getElem? (i := 15) rfl))) Via.refl e4 (F_w7_minOut.ext O0.2) (g := (mkF m 17 #[.val (.ref w7), .val (.int p1), .val (.int p2)] [(.ref w7)])) rfl rfl (hb hby d0_17)
    have pre6 : ∀ t, Steps p.tables e below (T5.setTop (mkF m 21 #[.val (.ref w7), .val (.int p1), .val (.int p2)] [(.int p2), (.int (1 : Int32))])) t → Steps p.tables e below (s₁.setTop (entryFrame m #[(.ref w7), (.int p1), (.int p2)] 3)) t := fun t k => by
      refine pre2 _ ?_
      show Steps p.tables e below (T1.setTop (mkF m 5 #[.val (.ref w7), .val (.int p1), .val (.int p2)] [(.int p1), (.int (2 : Int32))])) _
      refine XS.icmpNo X1.here hx rfl (hb hby d0_5) rfl (flt hc3).2.2.1 ?_
      show Steps p.tables e below (T1.setTop (mkF m 8 #[.val (.ref w7), .val (.int p1), .val (.int p2)] [])) _
      refine XS.iloadN X1.here hx rfl (hb hby d0_8) rfl ?_
      show Steps p.tables e below (T1.setTop (mkF m 9 #[.val (.ref w7), .val (.int p1), .val (.int p2)] [(.int p1)])) _
      refine XS.aloadN X1.here hx rfl (hb hby d0_9) rfl rfl ?_
      show Steps p.tables e below (T1.setTop (mkF m 10 #[.val (.ref w7), .val (.int p1), .val (.int p2)] [(.ref w7), (.int p1)])) _
      refine st4 _ ?_
      show Steps p.tables e below (T4.setTop (mkF m 13 #[.val (.ref w7), .val (.int p1), .val (.int p2)] [(.int (2147483647 : Int32)), (.int p1)])) _
      refine XS.icmpNo X4.here hx rfl (hb hby d0_13) rfl (flt (own_gnlt2 (n := 2147483647) (k := (2147483647 : Int32)) (by decide) (by have q0 := rng32 p1; have q1 := own_nlt1 (n := 2) (k := (2 : Int32)) (by decide) hc3; omega))).2.2.1 ?_
      show Steps p.tables e below (T4.setTop (mkF m 16 #[.val (.ref w7), .val (.int p1), .val (.int p2)] [])) _
      refine XS.aloadN X4.here hx rfl (hb hby d0_16) rfl rfl ?_
      show Steps p.tables e below (T4.setTop (mkF m 17 #[.val (.ref w7), .val (.int p1), .val (.int p2)] [(.ref w7)])) _
      refine st5 _ ?_
      show Steps p.tables e below (T5.setTop (mkF m 20 #[.val (.ref w7), .val (.int p1), .val (.int p2)] [(.int (1 : Int32))])) _
      refine XS.iloadN X5.here hx rfl (hb hby d0_20) rfl ?_
      exact k
    by_cases hc7 : p2 < (1 : Int32)
    ·
      obtain ⟨fs, hr, hrun, hended, hW, hsame⟩ := X5.leave (v := some (.int (0 : Int32))) (fun h => by rw [hret] at h; cases h)
      refine ⟨_, _, pre6 _ ?_, hrun, hended, _, _, rfl, ?_, ⟨_, rfl⟩, hW, hsame.mono (by decide) (by decide)⟩
      ·
        show Steps p.tables e below (T5.setTop (mkF m 21 #[.val (.ref w7), .val (.int p1), .val (.int p2)] [(.int p2), (.int (1 : Int32))])) _
        refine XS.icmpYes X5.here hx rfl (pc0 := 21) (pc' := 36) rfl (hb hby d0_21) rfl (tlt hc7).2.2.1 (by decide) (by decide) ?_
        show Steps p.tables e below (T5.setTop (mkF m 36 #[.val (.ref w7), .val (.int p1), .val (.int p2)] [])) _
        refine XS.iconst X5.here hx rfl (hb hby d0_36) ?_
        show Steps p.tables e below (T5.setTop (mkF m 37 #[.val (.ref w7), .val (.int p1), .val (.int p2)] [(.int (0 : Int32))])) _
        exact retN X5 hx (t := .boolean) hret (by simp) (hb hby d0_37) hr
      ·
        show Q12 Z w1 w2 w3 w4 w5 w6 w7 w8 p1 p2 h0 n0 _ T5.heap _
        rw [e5]
        exact (Or.inr (Or.inl ⟨hc3, hc7, rfl, N0, rfl⟩))
    ·
      obtain ⟨T8, X8, e8, st8⟩ := getF X5 hx hZ hown (host := "") (Or.inl (hw _ (List.mem_of_getElem? (i := 17) rfl))) Via.refl e5 (F_w7_maxOut.ext O0.2) (g := (mkF m 26 #[.val (.ref w7), .val (.int p1), .val (.int p2)] [(.ref w7), (.int p2)])) rfl rfl (hb hby d0_26)
      have pre9 : ∀ t, Steps p.tables e below (T8.setTop (mkF m 29 #[.val (.ref w7), .val (.int p1), .val (.int p2)] [(.int (1 : Int32)), (.int p2)])) t → Steps p.tables e below (s₁.setTop (entryFrame m #[(.ref w7), (.int p1), (.int p2)] 3)) t := fun t k => by
        refine pre6 _ ?_
        show Steps p.tables e below (T5.setTop (mkF m 21 #[.val (.ref w7), .val (.int p1), .val (.int p2)] [(.int p2), (.int (1 : Int32))])) _
        refine XS.icmpNo X5.here hx rfl (hb hby d0_21) rfl (flt hc7).2.2.1 ?_
        show Steps p.tables e below (T5.setTop (mkF m 24 #[.val (.ref w7), .val (.int p1), .val (.int p2)] [])) _
        refine XS.iloadN X5.here hx rfl (hb hby d0_24) rfl ?_
        show Steps p.tables e below (T5.setTop (mkF m 25 #[.val (.ref w7), .val (.int p1), .val (.int p2)] [(.int p2)])) _
        refine XS.aloadN X5.here hx rfl (hb hby d0_25) rfl rfl ?_
        show Steps p.tables e below (T5.setTop (mkF m 26 #[.val (.ref w7), .val (.int p1), .val (.int p2)] [(.ref w7), (.int p2)])) _
        refine st8 _ ?_
        exact k
      by_cases hc10 : (1 : Int32) < p2
      ·
        obtain ⟨fs, hr, hrun, hended, hW, hsame⟩ := X8.leave (v := some (.int (0 : Int32))) (fun h => by rw [hret] at h; cases h)
        refine ⟨_, _, pre9 _ ?_, hrun, hended, _, _, rfl, ?_, ⟨_, rfl⟩, hW, hsame.mono (by decide) (by decide)⟩
        ·
          show Steps p.tables e below (T8.setTop (mkF m 29 #[.val (.ref w7), .val (.int p1), .val (.int p2)] [(.int (1 : Int32)), (.int p2)])) _
          refine XS.icmpYes X8.here hx rfl (pc0 := 29) (pc' := 36) rfl (hb hby d0_29) rfl (tlt hc10).2.2.1 (by decide) (by decide) ?_
          show Steps p.tables e below (T8.setTop (mkF m 36 #[.val (.ref w7), .val (.int p1), .val (.int p2)] [])) _
          refine XS.iconst X8.here hx rfl (hb hby d0_36) ?_
          show Steps p.tables e below (T8.setTop (mkF m 37 #[.val (.ref w7), .val (.int p1), .val (.int p2)] [(.int (0 : Int32))])) _
          exact retN X8 hx (t := .boolean) hret (by simp) (hb hby d0_37) hr
        ·
          show Q12 Z w1 w2 w3 w4 w5 w6 w7 w8 p1 p2 h0 n0 _ T8.heap _
          rw [e8]
          exact (Or.inr (Or.inr (Or.inl ⟨hc3, hc7, hc10, rfl, N0, rfl⟩)))
      ·
        have hq11 : p2 = (1 : Int32) := (own_geq (n := 1) (k := (1 : Int32)) (by decide) (by have q0 := rng32 p2; have q1 := own_nlt1 (n := 1) (k := (1 : Int32)) (by decide) hc7; have q2 := own_nlt2 (n := 1) (k := (1 : Int32)) (by decide) hc10; omega))
        have pre12 : ∀ t, Steps p.tables e below (T8.setTop (mkF m 29 #[.val (.ref w7), .val (.int p1), .val (.int (1 : Int32))] [(.int (1 : Int32)), (.int (1 : Int32))])) t → Steps p.tables e below (s₁.setTop (entryFrame m #[(.ref w7), (.int p1), (.int p2)] 3)) t := fun t k => pre9 t (by rw [hq11]; exact k)
        obtain ⟨fs, hr, hrun, hended, hW, hsame⟩ := X8.leave (v := some (.int (1 : Int32))) (fun h => by rw [hret] at h; cases h)
        refine ⟨_, _, pre12 _ ?_, hrun, hended, _, _, rfl, ?_, ⟨_, rfl⟩, hW, hsame.mono (by decide) (by decide)⟩
        ·
          show Steps p.tables e below (T8.setTop (mkF m 29 #[.val (.ref w7), .val (.int p1), .val (.int (1 : Int32))] [(.int (1 : Int32)), (.int (1 : Int32))])) _
          refine XS.icmpNo X8.here hx rfl (hb hby d0_29) rfl (flt (by decide : ¬ ((1 : Int32) < (1 : Int32)))).2.2.1 ?_
          show Steps p.tables e below (T8.setTop (mkF m 32 #[.val (.ref w7), .val (.int p1), .val (.int (1 : Int32))] [])) _
          refine XS.iconst X8.here hx rfl (hb hby d0_32) ?_
          show Steps p.tables e below (T8.setTop (mkF m 33 #[.val (.ref w7), .val (.int p1), .val (.int (1 : Int32))] [(.int (1 : Int32))])) _
          refine XS.goto X8.here hx rfl (pc0 := 33) (pc' := 37) rfl (hb hby d0_33) (by decide) (by decide) ?_
          show Steps p.tables e below (T8.setTop (mkF m 37 #[.val (.ref w7), .val (.int p1), .val (.int (1 : Int32))] [(.int (1 : Int32))])) _
          exact retN X8 hx (t := .boolean) hret (by simp) (hb hby d0_37) hr
        ·
          show Q12 Z w1 w2 w3 w4 w5 w6 w7 w8 p1 p2 h0 n0 _ T8.heap _
          rw [e8]
          exact (Or.inr (Or.inr (Or.inr ⟨hc3, hc7, hc10, rfl, N0, rfl⟩)))
theorem ef13 (m : MethodId) (x0 : Addr) (x1 : Int32) (x2 : Int32) : entryFrame m #[(.ref x0), (.int x1), (.int x2)] 3 = mkF m 0 #[.val (.ref x0), .val (.int x1), .val (.int x2)] [] := by first | (simp [entryFrame, mkF, argsToLocals, Value.category]; done) | rfl
def Q13 (Z : State) (w1 : Addr) (w2 : Addr) (w3 : Addr) (w4 : Addr) (w5 : Addr) (w6 : Addr) (w7 : Addr) (w8 : Addr) (p1 : Int32) (h0 : Heap) (n0 : Nat) (v : Option Value) (h : Heap) (L : List Loc) : Prop :=
  ((p1 < (2 : Int32)) ∧ v = some (.int (0 : Int32)) ∧ Fr n0 L ∧ h = h0)
  ∨ ((¬ (p1 < (2 : Int32))) ∧ v = some (.int (1 : Int32)) ∧ Fr n0 L ∧ h = h0)
set_option maxRecDepth 65536 in
set_option maxHeartbeats 40000000 in
theorem rm13 (l : Launch) (Z : State) (a0 : Array Value) (hw : ∀ d ∈ tables_1, d.before a0 Z = true) (w1 : Addr) (w2 : Addr) (w3 : Addr) (w4 : Addr) (w5 : Addr) (w6 : Addr) (w7 : Addr) (w8 : Addr) (G : GW Z w1 w2 w3 w4 w5 w6 w7 w8) (ws : List Jvm.Cond) (p1 : Int32) (h0 : Heap) (n0 : Nat) (O0 : Old Z n0 h0) :
    MetFree l (⟨"com/example/vipo/vipo/flow/PatternType", "admitsDegree", "(II)Z"⟩ : MethodName) (head1 (Jvm.Cond.code (⟨"com/example/vipo/vipo/flow/PatternType", "admitsDegree", "(II)Z"⟩ : MethodName) prog_18_method_6_code 3 (some .boolean) :: ws) ({ frames := 0, cells := 0, slots := 0, locals := 0 } : Room)) (fun a U => a = #[(.ref w7), (.int p1), (.int (1 : Int32))] ∧ Z.Warmed39 U.vm ∧ U.heap = h0) (fun _ _ _ _ _ => True) (fun _ U o U' => ∃ v L, o = .returned v ∧ Q13 Z w1 w2 w3 w4 w5 w6 w7 w8 p1 h0 n0 v U'.heap L ∧ FrameEnd U o U' L ({ frames := 0, cells := 0, slots := 0, locals := 0 } : Room).cells ({ frames := 0, cells := 0, slots := 0, locals := 0 } : Room).slots) := by
  obtain ⟨S_w1, E_w1, S_w2, E_w2, S_w3, E_w3, S_w4, E_w4, S_w5, E_w5, S_w6, E_w6, S_w7, E_w7, S_w8, E_w8, F_w1_minIn, F_w1_maxIn, F_w2_minIn, F_w2_maxIn, F_w2_minOut, F_w2_maxOut, F_w3_minIn, F_w3_maxIn, F_w4_minIn, F_w5_minIn, F_w6_minIn, F_w6_maxIn, F_w5_maxIn, F_w7_minIn, F_w7_maxIn, F_w7_minOut, F_w7_maxOut, F_w8_minIn, F_w8_maxIn, F_w1_minOut, F_w1_maxOut, F_w4_maxIn, F_w5_minOut, F_w5_maxOut, F_w6_minOut, F_w4_minOut, F_w6_maxOut, F_w4_maxOut, F_w8_minOut, F_w8_maxOut, F_w3_minOut, F_w3_maxOut⟩ := id G
  refine MetFree.of_bodySF (plainFor_of_name pn0) hisR ?_
  intro p e s m args below meth c s₁ Bd hml0 hP hK
  obtain ⟨rfl, hZ, hh⟩ := hP
  have hx := Bd.exec
  have hby := Bd.bytes
  have hml : c.maxLocals = 3 := hml0
  have hown : s.vm.findClass "com/example/vipo/vipo/flow/PatternType" = some m.cls := findClass_of_methodNamed Bd.named
  have hnm := (name_of_methodNamed Bd.named Bd.method).1
  have hret := Bd.returns
  have hlk : meth.locks = false := BodyLoose.notSynchronized Bd
  have X0 : Stand p l e ({ frames := 0, cells := 0, slots := 0, locals := 0 } : Room) s m #[(.ref w7), (.int p1), (.int (1 : Int32))] below meth c s₁ [] 0 0 := Stand.of_body Bd
  have e0 : s₁.heap = h0 := by rw [← hh, Bd.state]; rfl
  have N0 := Fr.nil n0
  have pre0 : ∀ t, Steps p.tables e below (s₁.setTop (mkF m 0 #[.val (.ref w7), .val (.int p1), .val (.int (1 : Int32))] [])) t → Steps p.tables e below (s₁.setTop (entryFrame m #[(.ref w7), (.int p1), (.int (1 : Int32))] 3)) t := fun t k => castTop (ef13 m w7 p1 (1 : Int32)) k
  obtain ⟨T1, X1, e1, st1⟩ := getF X0 hx hZ hown (host := "") (Or.inl (hw _ (List.mem_of_getElem? (i := 9) rfl))) Via.refl e0 (F_w7_minIn.ext O0.2) (g := (mkF m 1 #[.val (.ref w7), .val (.int p1), .val (.int (1 : Int32))] [(.ref w7)])) rfl rfl (hb hby d0_1)
  have pre2 : ∀ t, Steps p.tables e below (T1.setTop (mkF m 5 #[.val (.ref w7), .val (.int p1), .val (.int (1 : Int32))] [(.int p1), (.int (2 : Int32))])) t → Steps p.tables e below (s₁.setTop (entryFrame m #[(.ref w7), (.int p1), (.int (1 : Int32))] 3)) t := fun t k => by
    refine pre0 _ ?_
    show Steps p.tables e below (s₁.setTop (mkF m 0 #[.val (.ref w7), .val (.int p1), .val (.int (1 : Int32))] [])) _
    refine XS.aloadN X0.here hx rfl (hb hby d0_0) rfl rfl ?_
    show Steps p.tables e below (s₁.setTop (mkF m 1 #[.val (.ref w7), .val (.int p1), .val (.int (1 : Int32))] [(.ref w7)])) _
    refine st1 _ ?_
    show Steps p.tables e below (T1.setTop (mkF m 4 #[.val (.ref w7), .val (.int p1), .val (.int (1 : Int32))] [(.int (2 : Int32))])) _
    refine XS.iloadN X1.here hx rfl (hb hby d0_4) rfl ?_
    exact k
  by_cases hc3 : p1 < (2 : Int32)
  ·
    obtain ⟨fs, hr, hrun, hended, hW, hsame⟩ := X1.leave (v := some (.int (0 : Int32))) (fun h => by rw [hret] at h; cases h)
    refine ⟨_, _, pre2 _ ?_, hrun, hended, _, _, rfl, ?_, ⟨_, rfl⟩, hW, hsame.mono (by decide) (by decide)⟩
    ·
      show Steps p.tables e below (T1.setTop (mkF m 5 #[.val (.ref w7), .val (.int p1), .val (.int (1 : Int32))] [(.int p1), (.int (2 : Int32))])) _
      refine XS.icmpYes X1.here hx rfl (pc0 := 5) (pc' := 36) rfl (hb hby d0_5) rfl (tlt hc3).2.2.1 (by decide) (by decide) ?_
      show Steps p.tables e below (T1.setTop (mkF m 36 #[.val (.ref w7), .val (.int p1), .val (.int (1 : Int32))] [])) _
      refine XS.iconst X1.here hx rfl (hb hby d0_36) ?_
      show Steps p.tables e below (T1.setTop (mkF m 37 #[.val (.ref w7), .val (.int p1), .val (.int (1 : Int32))] [(.int (0 : Int32))])) _
      exact retN X1 hx (t := .boolean) hret (by simp) (hb hby d0_37) hr
    ·
      show Q13 Z w1 w2 w3 w4 w5 w6 w7 w8 p1 h0 n0 _ T1.heap _
      rw [e1]
      exact (Or.inl ⟨hc3, rfl, N0, rfl⟩)
  ·
    obtain ⟨T4, X4, e4, st4⟩ := getF X1 hx hZ hown (host := "") (Or.inl (hw _ (List.mem_of_getElem? (i := 11) rfl))) Via.refl e1 (F_w7_maxIn.ext O0.2) (g := (mkF m 10 #[.val (.ref w7), .val (.int p1), .val (.int (1 : Int32))] [(.ref w7), (.int p1)])) rfl rfl (hb hby d0_10)
    obtain ⟨T5, X5, e5, st5⟩ := getF X4 hx hZ hown (host := "") (Or.inl (hw _ (List.mem_of_getElem? (i := 15) rfl))) Via.refl e4 (F_w7_minOut.ext O0.2) (g := (mkF m 17 #[.val (.ref w7), .val (.int p1), .val (.int (1 : Int32))] [(.ref w7)])) rfl rfl (hb hby d0_17)
    obtain ⟨T6, X6, e6, st6⟩ := getF X5 hx hZ hown (host := "") (Or.inl (hw _ (List.mem_of_getElem? (i := 17) rfl))) Via.refl e5 (F_w7_maxOut.ext O0.2) (g := (mkF m 26 #[.val (.ref w7), .val (.int p1), .val (.int (1 : Int32))] [(.ref w7), (.int (1 : Int32))])) rfl rfl (hb hby d0_26)
    obtain ⟨fs, hr, hrun, hended, hW, hsame⟩ := X6.leave (v := some (.int (1 : Int32))) (fun h => by rw [hret] at h; cases h)
    refine ⟨_, _, pre2 _ ?_, hrun, hended, _, _, rfl, ?_, ⟨_, rfl⟩, hW, hsame.mono (by decide) (by decide)⟩
    ·
      show Steps p.tables e below (T1.setTop (mkF m 5 #[.val (.ref w7), .val (.int p1), .val (.int (1 : Int32))] [(.int p1), (.int (2 : Int32))])) _
      refine XS.icmpNo X1.here hx rfl (hb hby d0_5) rfl (flt hc3).2.2.1 ?_
      show Steps p.tables e below (T1.setTop (mkF m 8 #[.val (.ref w7), .val (.int p1), .val (.int (1 : Int32))] [])) _
      refine XS.iloadN X1.here hx rfl (hb hby d0_8) rfl ?_
      show Steps p.tables e below (T1.setTop (mkF m 9 #[.val (.ref w7), .val (.int p1), .val (.int (1 : Int32))] [(.int p1)])) _
      refine XS.aloadN X1.here hx rfl (hb hby d0_9) rfl rfl ?_
      show Steps p.tables e below (T1.setTop (mkF m 10 #[.val (.ref w7), .val (.int p1), .val (.int (1 : Int32))] [(.ref w7), (.int p1)])) _
      refine st4 _ ?_
      show Steps p.tables e below (T4.setTop (mkF m 13 #[.val (.ref w7), .val (.int p1), .val (.int (1 : Int32))] [(.int (2147483647 : Int32)), (.int p1)])) _
      refine XS.icmpNo X4.here hx rfl (hb hby d0_13) rfl (flt (own_gnlt2 (n := 2147483647) (k := (2147483647 : Int32)) (by decide) (by have q0 := rng32 p1; have q1 := own_nlt1 (n := 2) (k := (2 : Int32)) (by decide) hc3; omega))).2.2.1 ?_
      show Steps p.tables e below (T4.setTop (mkF m 16 #[.val (.ref w7), .val (.int p1), .val (.int (1 : Int32))] [])) _
      refine XS.aloadN X4.here hx rfl (hb hby d0_16) rfl rfl ?_
      show Steps p.tables e below (T4.setTop (mkF m 17 #[.val (.ref w7), .val (.int p1), .val (.int (1 : Int32))] [(.ref w7)])) _
      refine st5 _ ?_
      show Steps p.tables e below (T5.setTop (mkF m 20 #[.val (.ref w7), .val (.int p1), .val (.int (1 : Int32))] [(.int (1 : Int32))])) _
      refine XS.iloadN X5.here hx rfl (hb hby d0_20) rfl ?_
      show Steps p.tables e below (T5.setTop (mkF m 21 #[.val (.ref w7), .val (.int p1), .val (.int (1 : Int32))] [(.int (1 : Int32)), (.int (1 : Int32))])) _
      refine XS.icmpNo X5.here hx rfl (hb hby d0_21) rfl (flt (by decide : ¬ ((1 : Int32) < (1 : Int32)))).2.2.1 ?_
      show Steps p.tables e below (T5.setTop (mkF m 24 #[.val (.ref w7), .val (.int p1), .val (.int (1 : Int32))] [])) _
      refine XS.iloadN X5.here hx rfl (hb hby d0_24) rfl ?_
      show Steps p.tables e below (T5.setTop (mkF m 25 #[.val (.ref w7), .val (.int p1), .val (.int (1 : Int32))] [(.int (1 : Int32))])) _
      refine XS.aloadN X5.here hx rfl (hb hby d0_25) rfl rfl ?_
      show Steps p.tables e below (T5.setTop (mkF m 26 #[.val (.ref w7), .val (.int p1), .val (.int (1 : Int32))] [(.ref w7), (.int (1 : Int32))])) _
      refine st6 _ ?_
      show Steps p.tables e below (T6.setTop (mkF m 29 #[.val (.ref w7), .val (.int p1), .val (.int (1 : Int32))] [(.int (1 : Int32)), (.int (1 : Int32))])) _
      refine XS.icmpNo X6.here hx rfl (hb hby d0_29) rfl (flt (by decide : ¬ ((1 : Int32) < (1 : Int32)))).2.2.1 ?_
      show Steps p.tables e below (T6.setTop (mkF m 32 #[.val (.ref w7), .val (.int p1), .val (.int (1 : Int32))] [])) _
      refine XS.iconst X6.here hx rfl (hb hby d0_32) ?_
      show Steps p.tables e below (T6.setTop (mkF m 33 #[.val (.ref w7), .val (.int p1), .val (.int (1 : Int32))] [(.int (1 : Int32))])) _
      refine XS.goto X6.here hx rfl (pc0 := 33) (pc' := 37) rfl (hb hby d0_33) (by decide) (by decide) ?_
      show Steps p.tables e below (T6.setTop (mkF m 37 #[.val (.ref w7), .val (.int p1), .val (.int (1 : Int32))] [(.int (1 : Int32))])) _
      exact retN X6 hx (t := .boolean) hret (by simp) (hb hby d0_37) hr
    ·
      show Q13 Z w1 w2 w3 w4 w5 w6 w7 w8 p1 h0 n0 _ T6.heap _
      rw [e6]
      exact (Or.inr ⟨hc3, rfl, N0, rfl⟩)
theorem ef14 (m : MethodId) (x0 : Addr) (x1 : Int32) (x2 : Int32) : entryFrame m #[(.ref x0), (.int x1), (.int x2)] 3 = mkF m 0 #[.val (.ref x0), .val (.int x1), .val (.int x2)] [] := by first | (simp [entryFrame, mkF, argsToLocals, Value.category]; done) | rfl
def Q14 (Z : State) (w1 : Addr) (w2 : Addr) (w3 : Addr) (w4 : Addr) (w5 : Addr) (w6 : Addr) (w7 : Addr) (w8 : Addr) (h0 : Heap) (n0 : Nat) (v : Option Value) (h : Heap) (L : List Loc) : Prop :=
  (v = some (.int (1 : Int32)) ∧ Fr n0 L ∧ h = h0)
set_option maxRecDepth 65536 in
set_option maxHeartbeats 40000000 in
theorem rm14 (l : Launch) (Z : State) (a0 : Array Value) (hw : ∀ d ∈ tables_1, d.before a0 Z = true) (w1 : Addr) (w2 : Addr) (w3 : Addr) (w4 : Addr) (w5 : Addr) (w6 : Addr) (w7 : Addr) (w8 : Addr) (G : GW Z w1 w2 w3 w4 w5 w6 w7 w8) (ws : List Jvm.Cond) (h0 : Heap) (n0 : Nat) (O0 : Old Z n0 h0) :
    MetFree l (⟨"com/example/vipo/vipo/flow/PatternType", "admitsDegree", "(II)Z"⟩ : MethodName) (head1 (Jvm.Cond.code (⟨"com/example/vipo/vipo/flow/PatternType", "admitsDegree", "(II)Z"⟩ : MethodName) prog_18_method_6_code 3 (some .boolean) :: ws) ({ frames := 0, cells := 0, slots := 0, locals := 0 } : Room)) (fun a U => a = #[(.ref w8), (.int (1 : Int32)), (.int (1 : Int32))] ∧ Z.Warmed39 U.vm ∧ U.heap = h0) (fun _ _ _ _ _ => True) (fun _ U o U' => ∃ v L, o = .returned v ∧ Q14 Z w1 w2 w3 w4 w5 w6 w7 w8 h0 n0 v U'.heap L ∧ FrameEnd U o U' L ({ frames := 0, cells := 0, slots := 0, locals := 0 } : Room).cells ({ frames := 0, cells := 0, slots := 0, locals := 0 } : Room).slots) := by
  obtain ⟨S_w1, E_w1, S_w2, E_w2, S_w3, E_w3, S_w4, E_w4, S_w5, E_w5, S_w6, E_w6, S_w7, E_w7, S_w8, E_w8, F_w1_minIn, F_w1_maxIn, F_w2_minIn, F_w2_maxIn, F_w2_minOut, F_w2_maxOut, F_w3_minIn, F_w3_maxIn, F_w4_minIn, F_w5_minIn, F_w6_minIn, F_w6_maxIn, F_w5_maxIn, F_w7_minIn, F_w7_maxIn, F_w7_minOut, F_w7_maxOut, F_w8_minIn, F_w8_maxIn, F_w1_minOut, F_w1_maxOut, F_w4_maxIn, F_w5_minOut, F_w5_maxOut, F_w6_minOut, F_w4_minOut, F_w6_maxOut, F_w4_maxOut, F_w8_minOut, F_w8_maxOut, F_w3_minOut, F_w3_maxOut⟩ := id G
  refine MetFree.of_bodySF (plainFor_of_name pn0) hisR ?_
  intro p e s m args below meth c s₁ Bd hml0 hP hK
  obtain ⟨rfl, hZ, hh⟩ := hP
  have hx := Bd.exec
  have hby := Bd.bytes
  have hml : c.maxLocals = 3 := hml0
  have hown : s.vm.findClass "com/example/vipo/vipo/flow/PatternType" = some m.cls := findClass_of_methodNamed Bd.named
  have hnm := (name_of_methodNamed Bd.named Bd.method).1
  have hret := Bd.returns
  have hlk : meth.locks = false := BodyLoose.notSynchronized Bd
  have X0 : Stand p l e ({ frames := 0, cells := 0, slots := 0, locals := 0 } : Room) s m #[(.ref w8), (.int (1 : Int32)), (.int (1 : Int32))] below meth c s₁ [] 0 0 := Stand.of_body Bd
  have e0 : s₁.heap = h0 := by rw [← hh, Bd.state]; rfl
  have N0 := Fr.nil n0
  have pre0 : ∀ t, Steps p.tables e below (s₁.setTop (mkF m 0 #[.val (.ref w8), .val (.int (1 : Int32)), .val (.int (1 : Int32))] [])) t → Steps p.tables e below (s₁.setTop (entryFrame m #[(.ref w8), (.int (1 : Int32)), (.int (1 : Int32))] 3)) t := fun t k => castTop (ef14 m w8 (1 : Int32) (1 : Int32)) k
  obtain ⟨T1, X1, e1, st1⟩ := getF X0 hx hZ hown (host := "") (Or.inl (hw _ (List.mem_of_getElem? (i := 9) rfl))) Via.refl e0 (F_w8_minIn.ext O0.2) (g := (mkF m 1 #[.val (.ref w8), .val (.int (1 : Int32)), .val (.int (1 : Int32))] [(.ref w8)])) rfl rfl (hb hby d0_1)
  obtain ⟨T2, X2, e2, st2⟩ := getF X1 hx hZ hown (host := "") (Or.inl (hw _ (List.mem_of_getElem? (i := 11) rfl))) Via.refl e1 (F_w8_maxIn.ext O0.2) (g := (mkF m 10 #[.val (.ref w8), .val (.int (1 : Int32)), .val (.int (1 : Int32))] [(.ref w8), (.int (1 : Int32))])) rfl rfl (hb hby d0_10)
  obtain ⟨T3, X3, e3, st3⟩ := getF X2 hx hZ hown (host := "") (Or.inl (hw _ (List.mem_of_getElem? (i := 15) rfl))) Via.refl e2 (F_w8_minOut.ext O0.2) (g := (mkF m 17 #[.val (.ref w8), .val (.int (1 : Int32)), .val (.int (1 : Int32))] [(.ref w8)])) rfl rfl (hb hby d0_17)
  obtain ⟨T4, X4, e4, st4⟩ := getF X3 hx hZ hown (host := "") (Or.inl (hw _ (List.mem_of_getElem? (i := 17) rfl))) Via.refl e3 (F_w8_maxOut.ext O0.2) (g := (mkF m 26 #[.val (.ref w8), .val (.int (1 : Int32)), .val (.int (1 : Int32))] [(.ref w8), (.int (1 : Int32))])) rfl rfl (hb hby d0_26)
  obtain ⟨fs, hr, hrun, hended, hW, hsame⟩ := X4.leave (v := some (.int (1 : Int32))) (fun h => by rw [hret] at h; cases h)
  refine ⟨_, _, pre0 _ ?_, hrun, hended, _, _, rfl, ?_, ⟨_, rfl⟩, hW, hsame.mono (by decide) (by decide)⟩
  ·
    show Steps p.tables e below (s₁.setTop (mkF m 0 #[.val (.ref w8), .val (.int (1 : Int32)), .val (.int (1 : Int32))] [])) _
    refine XS.aloadN X0.here hx rfl (hb hby d0_0) rfl rfl ?_
    show Steps p.tables e below (s₁.setTop (mkF m 1 #[.val (.ref w8), .val (.int (1 : Int32)), .val (.int (1 : Int32))] [(.ref w8)])) _
    refine st1 _ ?_
    show Steps p.tables e below (T1.setTop (mkF m 4 #[.val (.ref w8), .val (.int (1 : Int32)), .val (.int (1 : Int32))] [(.int (1 : Int32))])) _
    refine XS.iloadN X1.here hx rfl (hb hby d0_4) rfl ?_
    show Steps p.tables e below (T1.setTop (mkF m 5 #[.val (.ref w8), .val (.int (1 : Int32)), .val (.int (1 : Int32))] [(.int (1 : Int32)), (.int (1 : Int32))])) _
    refine XS.icmpNo X1.here hx rfl (hb hby d0_5) rfl (flt (by decide : ¬ ((1 : Int32) < (1 : Int32)))).2.2.1 ?_
    show Steps p.tables e below (T1.setTop (mkF m 8 #[.val (.ref w8), .val (.int (1 : Int32)), .val (.int (1 : Int32))] [])) _
    refine XS.iloadN X1.here hx rfl (hb hby d0_8) rfl ?_
    show Steps p.tables e below (T1.setTop (mkF m 9 #[.val (.ref w8), .val (.int (1 : Int32)), .val (.int (1 : Int32))] [(.int (1 : Int32))])) _
    refine XS.aloadN X1.here hx rfl (hb hby d0_9) rfl rfl ?_
    show Steps p.tables e below (T1.setTop (mkF m 10 #[.val (.ref w8), .val (.int (1 : Int32)), .val (.int (1 : Int32))] [(.ref w8), (.int (1 : Int32))])) _
    refine st2 _ ?_
    show Steps p.tables e below (T2.setTop (mkF m 13 #[.val (.ref w8), .val (.int (1 : Int32)), .val (.int (1 : Int32))] [(.int (1 : Int32)), (.int (1 : Int32))])) _
    refine XS.icmpNo X2.here hx rfl (hb hby d0_13) rfl (flt (by decide : ¬ ((1 : Int32) < (1 : Int32)))).2.2.1 ?_
    show Steps p.tables e below (T2.setTop (mkF m 16 #[.val (.ref w8), .val (.int (1 : Int32)), .val (.int (1 : Int32))] [])) _
    refine XS.aloadN X2.here hx rfl (hb hby d0_16) rfl rfl ?_
    show Steps p.tables e below (T2.setTop (mkF m 17 #[.val (.ref w8), .val (.int (1 : Int32)), .val (.int (1 : Int32))] [(.ref w8)])) _
    refine st3 _ ?_
    show Steps p.tables e below (T3.setTop (mkF m 20 #[.val (.ref w8), .val (.int (1 : Int32)), .val (.int (1 : Int32))] [(.int (1 : Int32))])) _
    refine XS.iloadN X3.here hx rfl (hb hby d0_20) rfl ?_
    show Steps p.tables e below (T3.setTop (mkF m 21 #[.val (.ref w8), .val (.int (1 : Int32)), .val (.int (1 : Int32))] [(.int (1 : Int32)), (.int (1 : Int32))])) _
    refine XS.icmpNo X3.here hx rfl (hb hby d0_21) rfl (flt (by decide : ¬ ((1 : Int32) < (1 : Int32)))).2.2.1 ?_
    show Steps p.tables e below (T3.setTop (mkF m 24 #[.val (.ref w8), .val (.int (1 : Int32)), .val (.int (1 : Int32))] [])) _
    refine XS.iloadN X3.here hx rfl (hb hby d0_24) rfl ?_
    show Steps p.tables e below (T3.setTop (mkF m 25 #[.val (.ref w8), .val (.int (1 : Int32)), .val (.int (1 : Int32))] [(.int (1 : Int32))])) _
    refine XS.aloadN X3.here hx rfl (hb hby d0_25) rfl rfl ?_
    show Steps p.tables e below (T3.setTop (mkF m 26 #[.val (.ref w8), .val (.int (1 : Int32)), .val (.int (1 : Int32))] [(.ref w8), (.int (1 : Int32))])) _
    refine st4 _ ?_
    show Steps p.tables e below (T4.setTop (mkF m 29 #[.val (.ref w8), .val (.int (1 : Int32)), .val (.int (1 : Int32))] [(.int (1 : Int32)), (.int (1 : Int32))])) _
    refine XS.icmpNo X4.here hx rfl (hb hby d0_29) rfl (flt (by decide : ¬ ((1 : Int32) < (1 : Int32)))).2.2.1 ?_
    show Steps p.tables e below (T4.setTop (mkF m 32 #[.val (.ref w8), .val (.int (1 : Int32)), .val (.int (1 : Int32))] [])) _
    refine XS.iconst X4.here hx rfl (hb hby d0_32) ?_
    show Steps p.tables e below (T4.setTop (mkF m 33 #[.val (.ref w8), .val (.int (1 : Int32)), .val (.int (1 : Int32))] [(.int (1 : Int32))])) _
    refine XS.goto X4.here hx rfl (pc0 := 33) (pc' := 37) rfl (hb hby d0_33) (by decide) (by decide) ?_
    show Steps p.tables e below (T4.setTop (mkF m 37 #[.val (.ref w8), .val (.int (1 : Int32)), .val (.int (1 : Int32))] [(.int (1 : Int32))])) _
    exact retN X4 hx (t := .boolean) hret (by simp) (hb hby d0_37) hr
  ·
    show Q14 Z w1 w2 w3 w4 w5 w6 w7 w8 h0 n0 _ T4.heap _
    rw [e4]
    exact ⟨rfl, N0, rfl⟩
theorem ef15 (m : MethodId) (x0 : Addr) (x1 : Int32) (x2 : Int32) : entryFrame m #[(.ref x0), (.int x1), (.int x2)] 3 = mkF m 0 #[.val (.ref x0), .val (.int x1), .val (.int x2)] [] := by first | (simp [entryFrame, mkF, argsToLocals, Value.category]; done) | rfl
def Q15 (Z : State) (w1 : Addr) (w2 : Addr) (w3 : Addr) (w4 : Addr) (w5 : Addr) (w6 : Addr) (w7 : Addr) (w8 : Addr) (p1 : Int32) (h0 : Heap) (n0 : Nat) (v : Option Value) (h : Heap) (L : List Loc) : Prop :=
  ((p1 < (1 : Int32)) ∧ v = some (.int (0 : Int32)) ∧ Fr n0 L ∧ h = h0)
  ∨ ((¬ (p1 < (1 : Int32))) ∧ ((1 : Int32) < p1) ∧ v = some (.int (0 : Int32)) ∧ Fr n0 L ∧ h = h0)
  ∨ ((¬ (p1 < (1 : Int32))) ∧ (¬ ((1 : Int32) < p1)) ∧ v = some (.int (1 : Int32)) ∧ Fr n0 L ∧ h = h0)
set_option maxRecDepth 65536 in
set_option maxHeartbeats 40000000 in
theorem rm15 (l : Launch) (Z : State) (a0 : Array Value) (hw : ∀ d ∈ tables_1, d.before a0 Z = true) (w1 : Addr) (w2 : Addr) (w3 : Addr) (w4 : Addr) (w5 : Addr) (w6 : Addr) (w7 : Addr) (w8 : Addr) (G : GW Z w1 w2 w3 w4 w5 w6 w7 w8) (ws : List Jvm.Cond) (p1 : Int32) (h0 : Heap) (n0 : Nat) (O0 : Old Z n0 h0) :
    MetFree l (⟨"com/example/vipo/vipo/flow/PatternType", "admitsDegree", "(II)Z"⟩ : MethodName) (head1 (Jvm.Cond.code (⟨"com/example/vipo/vipo/flow/PatternType", "admitsDegree", "(II)Z"⟩ : MethodName) prog_18_method_6_code 3 (some .boolean) :: ws) ({ frames := 0, cells := 0, slots := 0, locals := 0 } : Room)) (fun a U => a = #[(.ref w8), (.int (1 : Int32)), (.int p1)] ∧ Z.Warmed39 U.vm ∧ U.heap = h0) (fun _ _ _ _ _ => True) (fun _ U o U' => ∃ v L, o = .returned v ∧ Q15 Z w1 w2 w3 w4 w5 w6 w7 w8 p1 h0 n0 v U'.heap L ∧ FrameEnd U o U' L ({ frames := 0, cells := 0, slots := 0, locals := 0 } : Room).cells ({ frames := 0, cells := 0, slots := 0, locals := 0 } : Room).slots) := by
  obtain ⟨S_w1, E_w1, S_w2, E_w2, S_w3, E_w3, S_w4, E_w4, S_w5, E_w5, S_w6, E_w6, S_w7, E_w7, S_w8, E_w8, F_w1_minIn, F_w1_maxIn, F_w2_minIn, F_w2_maxIn, F_w2_minOut, F_w2_maxOut, F_w3_minIn, F_w3_maxIn, F_w4_minIn, F_w5_minIn, F_w6_minIn, F_w6_maxIn, F_w5_maxIn, F_w7_minIn, F_w7_maxIn, F_w7_minOut, F_w7_maxOut, F_w8_minIn, F_w8_maxIn, F_w1_minOut, F_w1_maxOut, F_w4_maxIn, F_w5_minOut, F_w5_maxOut, F_w6_minOut, F_w4_minOut, F_w6_maxOut, F_w4_maxOut, F_w8_minOut, F_w8_maxOut, F_w3_minOut, F_w3_maxOut⟩ := id G
  refine MetFree.of_bodySF (plainFor_of_name pn0) hisR ?_
  intro p e s m args below meth c s₁ Bd hml0 hP hK
  obtain ⟨rfl, hZ, hh⟩ := hP
  have hx := Bd.exec
  have hby := Bd.bytes
  have hml : c.maxLocals = 3 := hml0
  have hown : s.vm.findClass "com/example/vipo/vipo/flow/PatternType" = some m.cls := findClass_of_methodNamed Bd.named
  have hnm := (name_of_methodNamed Bd.named Bd.method).1
  have hret := Bd.returns
  have hlk : meth.locks = false := BodyLoose.notSynchronized Bd
  have X0 : Stand p l e ({ frames := 0, cells := 0, slots := 0, locals := 0 } : Room) s m #[(.ref w8), (.int (1 : Int32)), (.int p1)] below meth c s₁ [] 0 0 := Stand.of_body Bd
  have e0 : s₁.heap = h0 := by rw [← hh, Bd.state]; rfl
  have N0 := Fr.nil n0
  have pre0 : ∀ t, Steps p.tables e below (s₁.setTop (mkF m 0 #[.val (.ref w8), .val (.int (1 : Int32)), .val (.int p1)] [])) t → Steps p.tables e below (s₁.setTop (entryFrame m #[(.ref w8), (.int (1 : Int32)), (.int p1)] 3)) t := fun t k => castTop (ef15 m w8 (1 : Int32) p1) k
  obtain ⟨T1, X1, e1, st1⟩ := getF X0 hx hZ hown (host := "") (Or.inl (hw _ (List.mem_of_getElem? (i := 9) rfl))) Via.refl e0 (F_w8_minIn.ext O0.2) (g := (mkF m 1 #[.val (.ref w8), .val (.int (1 : Int32)), .val (.int p1)] [(.ref w8)])) rfl rfl (hb hby d0_1)
  obtain ⟨T2, X2, e2, st2⟩ := getF X1 hx hZ hown (host := "") (Or.inl (hw _ (List.mem_of_getElem? (i := 11) rfl))) Via.refl e1 (F_w8_maxIn.ext O0.2) (g := (mkF m 10 #[.val (.ref w8), .val (.int (1 : Int32)), .val (.int p1)] [(.ref w8), (.int (1 : Int32))])) rfl rfl (hb hby d0_10)
  obtain ⟨T3, X3, e3, st3⟩ := getF X2 hx hZ hown (host := "") (Or.inl (hw _ (List.mem_of_getElem? (i := 15) rfl))) Via.refl e2 (F_w8_minOut.ext O0.2) (g := (mkF m 17 #[.val (.ref w8), .val (.int (1 : Int32)), .val (.int p1)] [(.ref w8)])) rfl rfl (hb hby d0_17)
  have pre4 : ∀ t, Steps p.tables e below (T3.setTop (mkF m 21 #[.val (.ref w8), .val (.int (1 : Int32)), .val (.int p1)] [(.int p1), (.int (1 : Int32))])) t → Steps p.tables e below (s₁.setTop (entryFrame m #[(.ref w8), (.int (1 : Int32)), (.int p1)] 3)) t := fun t k => by
    refine pre0 _ ?_
    show Steps p.tables e below (s₁.setTop (mkF m 0 #[.val (.ref w8), .val (.int (1 : Int32)), .val (.int p1)] [])) _
    refine XS.aloadN X0.here hx rfl (hb hby d0_0) rfl rfl ?_
    show Steps p.tables e below (s₁.setTop (mkF m 1 #[.val (.ref w8), .val (.int (1 : Int32)), .val (.int p1)] [(.ref w8)])) _
    refine st1 _ ?_
    show Steps p.tables e below (T1.setTop (mkF m 4 #[.val (.ref w8), .val (.int (1 : Int32)), .val (.int p1)] [(.int (1 : Int32))])) _
    refine XS.iloadN X1.here hx rfl (hb hby d0_4) rfl ?_
    show Steps p.tables e below (T1.setTop (mkF m 5 #[.val (.ref w8), .val (.int (1 : Int32)), .val (.int p1)] [(.int (1 : Int32)), (.int (1 : Int32))])) _
    refine XS.icmpNo X1.here hx rfl (hb hby d0_5) rfl (flt (by decide : ¬ ((1 : Int32) < (1 : Int32)))).2.2.1 ?_
    show Steps p.tables e below (T1.setTop (mkF m 8 #[.val (.ref w8), .val (.int (1 : Int32)), .val (.int p1)] [])) _
    refine XS.iloadN X1.here hx rfl (hb hby d0_8) rfl ?_
    show Steps p.tables e below (T1.setTop (mkF m 9 #[.val (.ref w8), .val (.int (1 : Int32)), .val (.int p1)] [(.int (1 : Int32))])) _
    refine XS.aloadN X1.here hx rfl (hb hby d0_9) rfl rfl ?_
    show Steps p.tables e below (T1.setTop (mkF m 10 #[.val (.ref w8), .val (.int (1 : Int32)), .val (.int p1)] [(.ref w8), (.int (1 : Int32))])) _
    refine st2 _ ?_
    show Steps p.tables e below (T2.setTop (mkF m 13 #[.val (.ref w8), .val (.int (1 : Int32)), .val (.int p1)] [(.int (1 : Int32)), (.int (1 : Int32))])) _
    refine XS.icmpNo X2.here hx rfl (hb hby d0_13) rfl (flt (by decide : ¬ ((1 : Int32) < (1 : Int32)))).2.2.1 ?_
    show Steps p.tables e below (T2.setTop (mkF m 16 #[.val (.ref w8), .val (.int (1 : Int32)), .val (.int p1)] [])) _
    refine XS.aloadN X2.here hx rfl (hb hby d0_16) rfl rfl ?_
    show Steps p.tables e below (T2.setTop (mkF m 17 #[.val (.ref w8), .val (.int (1 : Int32)), .val (.int p1)] [(.ref w8)])) _
    refine st3 _ ?_
    show Steps p.tables e below (T3.setTop (mkF m 20 #[.val (.ref w8), .val (.int (1 : Int32)), .val (.int p1)] [(.int (1 : Int32))])) _
    refine XS.iloadN X3.here hx rfl (hb hby d0_20) rfl ?_
    exact k
  by_cases hc5 : p1 < (1 : Int32)
  ·
    obtain ⟨fs, hr, hrun, hended, hW, hsame⟩ := X3.leave (v := some (.int (0 : Int32))) (fun h => by rw [hret] at h; cases h)
    refine ⟨_, _, pre4 _ ?_, hrun, hended, _, _, rfl, ?_, ⟨_, rfl⟩, hW, hsame.mono (by decide) (by decide)⟩
    ·
      show Steps p.tables e below (T3.setTop (mkF m 21 #[.val (.ref w8), .val (.int (1 : Int32)), .val (.int p1)] [(.int p1), (.int (1 : Int32))])) _
      refine XS.icmpYes X3.here hx rfl (pc0 := 21) (pc' := 36) rfl (hb hby d0_21) rfl (tlt hc5).2.2.1 (by decide) (by decide) ?_
      show Steps p.tables e below (T3.setTop (mkF m 36 #[.val (.ref w8), .val (.int (1 : Int32)), .val (.int p1)] [])) _
      refine XS.iconst X3.here hx rfl (hb hby d0_36) ?_
      show Steps p.tables e below (T3.setTop (mkF m 37 #[.val (.ref w8), .val (.int (1 : Int32)), .val (.int p1)] [(.int (0 : Int32))])) _
      exact retN X3 hx (t := .boolean) hret (by simp) (hb hby d0_37) hr
    ·
      show Q15 Z w1 w2 w3 w4 w5 w6 w7 w8 p1 h0 n0 _ T3.heap _
      rw [e3]
      exact (Or.inl ⟨hc5, rfl, N0, rfl⟩)
  ·
    obtain ⟨T6, X6, e6, st6⟩ := getF X3 hx hZ hown (host := "") (Or.inl (hw _ (List.mem_of_getElem? (i := 17) rfl))) Via.refl e3 (F_w8_maxOut.ext O0.2) (g := (mkF m 26 #[.val (.ref w8), .val (.int (1 : Int32)), .val (.int p1)] [(.ref w8), (.int p1)])) rfl rfl (hb hby d0_26)
    have pre7 : ∀ t, Steps p.tables e below (T6.setTop (mkF m 29 #[.val (.ref w8), .val (.int (1 : Int32)), .val (.int p1)] [(.int (1 : Int32)), (.int p1)])) t → Steps p.tables e below (s₁.setTop (entryFrame m #[(.ref w8), (.int (1 : Int32)), (.int p1)] 3)) t := fun t k => by
      refine pre4 _ ?_
      show Steps p.tables e below (T3.setTop (mkF m 21 #[.val (.ref w8), .val (.int (1 : Int32)), .val (.int p1)] [(.int p1), (.int (1 : Int32))])) _
      refine XS.icmpNo X3.here hx rfl (hb hby d0_21) rfl (flt hc5).2.2.1 ?_
      show Steps p.tables e below (T3.setTop (mkF m 24 #[.val (.ref w8), .val (.int (1 : Int32)), .val (.int p1)] [])) _
      refine XS.iloadN X3.here hx rfl (hb hby d0_24) rfl ?_
      show Steps p.tables e below (T3.setTop (mkF m 25 #[.val (.ref w8), .val (.int (1 : Int32)), .val (.int p1)] [(.int p1)])) _
      refine XS.aloadN X3.here hx rfl (hb hby d0_25) rfl rfl ?_
      show Steps p.tables e below (T3.setTop (mkF m 26 #[.val (.ref w8), .val (.int (1 : Int32)), .val (.int p1)] [(.ref w8), (.int p1)])) _
      refine st6 _ ?_
      exact k
    by_cases hc8 : (1 : Int32) < p1
    ·
      obtain ⟨fs, hr, hrun, hended, hW, hsame⟩ := X6.leave (v := some (.int (0 : Int32))) (fun h => by rw [hret] at h; cases h)
      refine ⟨_, _, pre7 _ ?_, hrun, hended, _, _, rfl, ?_, ⟨_, rfl⟩, hW, hsame.mono (by decide) (by decide)⟩
      ·
        show Steps p.tables e below (T6.setTop (mkF m 29 #[.val (.ref w8), .val (.int (1 : Int32)), .val (.int p1)] [(.int (1 : Int32)), (.int p1)])) _
        refine XS.icmpYes X6.here hx rfl (pc0 := 29) (pc' := 36) rfl (hb hby d0_29) rfl (tlt hc8).2.2.1 (by decide) (by decide) ?_
        show Steps p.tables e below (T6.setTop (mkF m 36 #[.val (.ref w8), .val (.int (1 : Int32)), .val (.int p1)] [])) _
        refine XS.iconst X6.here hx rfl (hb hby d0_36) ?_
        show Steps p.tables e below (T6.setTop (mkF m 37 #[.val (.ref w8), .val (.int (1 : Int32)), .val (.int p1)] [(.int (0 : Int32))])) _
        exact retN X6 hx (t := .boolean) hret (by simp) (hb hby d0_37) hr
      ·
        show Q15 Z w1 w2 w3 w4 w5 w6 w7 w8 p1 h0 n0 _ T6.heap _
        rw [e6]
        exact (Or.inr (Or.inl ⟨hc5, hc8, rfl, N0, rfl⟩))
    ·
      have hq9 : p1 = (1 : Int32) := (own_geq (n := 1) (k := (1 : Int32)) (by decide) (by have q0 := rng32 p1; have q1 := own_nlt1 (n := 1) (k := (1 : Int32)) (by decide) hc5; have q2 := own_nlt2 (n := 1) (k := (1 : Int32)) (by decide) hc8; omega))
      have pre10 : ∀ t, Steps p.tables e below (T6.setTop (mkF m 29 #[.val (.ref w8), .val (.int (1 : Int32)), .val (.int (1 : Int32))] [(.int (1 : Int32)), (.int (1 : Int32))])) t → Steps p.tables e below (s₁.setTop (entryFrame m #[(.ref w8), (.int (1 : Int32)), (.int p1)] 3)) t := fun t k => pre7 t (by rw [hq9]; exact k)
      obtain ⟨fs, hr, hrun, hended, hW, hsame⟩ := X6.leave (v := some (.int (1 : Int32))) (fun h => by rw [hret] at h; cases h)
      refine ⟨_, _, pre10 _ ?_, hrun, hended, _, _, rfl, ?_, ⟨_, rfl⟩, hW, hsame.mono (by decide) (by decide)⟩
      ·
        show Steps p.tables e below (T6.setTop (mkF m 29 #[.val (.ref w8), .val (.int (1 : Int32)), .val (.int (1 : Int32))] [(.int (1 : Int32)), (.int (1 : Int32))])) _
        refine XS.icmpNo X6.here hx rfl (hb hby d0_29) rfl (flt (by decide : ¬ ((1 : Int32) < (1 : Int32)))).2.2.1 ?_
        show Steps p.tables e below (T6.setTop (mkF m 32 #[.val (.ref w8), .val (.int (1 : Int32)), .val (.int (1 : Int32))] [])) _
        refine XS.iconst X6.here hx rfl (hb hby d0_32) ?_
        show Steps p.tables e below (T6.setTop (mkF m 33 #[.val (.ref w8), .val (.int (1 : Int32)), .val (.int (1 : Int32))] [(.int (1 : Int32))])) _
        refine XS.goto X6.here hx rfl (pc0 := 33) (pc' := 37) rfl (hb hby d0_33) (by decide) (by decide) ?_
        show Steps p.tables e below (T6.setTop (mkF m 37 #[.val (.ref w8), .val (.int (1 : Int32)), .val (.int (1 : Int32))] [(.int (1 : Int32))])) _
        exact retN X6 hx (t := .boolean) hret (by simp) (hb hby d0_37) hr
      ·
        show Q15 Z w1 w2 w3 w4 w5 w6 w7 w8 p1 h0 n0 _ T6.heap _
        rw [e6]
        exact (Or.inr (Or.inr ⟨hc5, hc8, rfl, N0, rfl⟩))
theorem ef16 (m : MethodId) (x0 : Addr) (x1 : Int32) (x2 : Int32) : entryFrame m #[(.ref x0), (.int x1), (.int x2)] 3 = mkF m 0 #[.val (.ref x0), .val (.int x1), .val (.int x2)] [] := by first | (simp [entryFrame, mkF, argsToLocals, Value.category]; done) | rfl
def Q16 (Z : State) (w1 : Addr) (w2 : Addr) (w3 : Addr) (w4 : Addr) (w5 : Addr) (w6 : Addr) (w7 : Addr) (w8 : Addr) (p1 : Int32) (p2 : Int32) (h0 : Heap) (n0 : Nat) (v : Option Value) (h : Heap) (L : List Loc) : Prop :=
  ((p1 < (1 : Int32)) ∧ v = some (.int (0 : Int32)) ∧ Fr n0 L ∧ h = h0)
  ∨ ((¬ (p1 < (1 : Int32))) ∧ ((1 : Int32) < p1) ∧ v = some (.int (0 : Int32)) ∧ Fr n0 L ∧ h = h0)
  ∨ ((¬ (p1 < (1 : Int32))) ∧ (¬ ((1 : Int32) < p1)) ∧ (p2 < (1 : Int32)) ∧ v = some (.int (0 : Int32)) ∧ Fr n0 L ∧ h = h0)
  ∨ ((¬ (p1 < (1 : Int32))) ∧ (¬ ((1 : Int32) < p1)) ∧ (¬ (p2 < (1 : Int32))) ∧ ((1 : Int32) < p2) ∧ v = some (.int (0 : Int32)) ∧ Fr n0 L ∧ h = h0)
  ∨ ((¬ (p1 < (1 : Int32))) ∧ (¬ ((1 : Int32) < p1)) ∧ (¬ (p2 < (1 : Int32))) ∧ (¬ ((1 : Int32) < p2)) ∧ v = some (.int (1 : Int32)) ∧ Fr n0 L ∧ h = h0)
set_option maxRecDepth 65536 in
set_option maxHeartbeats 40000000 in
theorem rm16 (l : Launch) (Z : State) (a0 : Array Value) (hw : ∀ d ∈ tables_1, d.before a0 Z = true) (w1 : Addr) (w2 : Addr) (w3 : Addr) (w4 : Addr) (w5 : Addr) (w6 : Addr) (w7 : Addr) (w8 : Addr) (G : GW Z w1 w2 w3 w4 w5 w6 w7 w8) (ws : List Jvm.Cond) (p1 : Int32) (p2 : Int32) (h0 : Heap) (n0 : Nat) (O0 : Old Z n0 h0) :
    MetFree l (⟨"com/example/vipo/vipo/flow/PatternType", "admitsDegree", "(II)Z"⟩ : MethodName) (head1 (Jvm.Cond.code (⟨"com/example/vipo/vipo/flow/PatternType", "admitsDegree", "(II)Z"⟩ : MethodName) prog_18_method_6_code 3 (some .boolean) :: ws) ({ frames := 0, cells := 0, slots := 0, locals := 0 } : Room)) (fun a U => a = #[(.ref w8), (.int p1), (.int p2)] ∧ Z.Warmed39 U.vm ∧ U.heap = h0) (fun _ _ _ _ _ => True) (fun _ U o U' => ∃ v L, o = .returned v ∧ Q16 Z w1 w2 w3 w4 w5 w6 w7 w8 p1 p2 h0 n0 v U'.heap L ∧ FrameEnd U o U' L ({ frames := 0, cells := 0, slots := 0, locals := 0 } : Room).cells ({ frames := 0, cells := 0, slots := 0, locals := 0 } : Room).slots) := by
  obtain ⟨S_w1, E_w1, S_w2, E_w2, S_w3, E_w3, S_w4, E_w4, S_w5, E_w5, S_w6, E_w6, S_w7, E_w7, S_w8, E_w8, F_w1_minIn, F_w1_maxIn, F_w2_minIn, F_w2_maxIn, F_w2_minOut, F_w2_maxOut, F_w3_minIn, F_w3_maxIn, F_w4_minIn, F_w5_minIn, F_w6_minIn, F_w6_maxIn, F_w5_maxIn, F_w7_minIn, F_w7_maxIn, F_w7_minOut, F_w7_maxOut, F_w8_minIn, F_w8_maxIn, F_w1_minOut, F_w1_maxOut, F_w4_maxIn, F_w5_minOut, F_w5_maxOut, F_w6_minOut, F_w4_minOut, F_w6_maxOut, F_w4_maxOut, F_w8_minOut, F_w8_maxOut, F_w3_minOut, F_w3_maxOut⟩ := id G
  refine MetFree.of_bodySF (plainFor_of_name pn0) hisR ?_
  intro p e s m args below meth c s₁ Bd hml0 hP hK
  obtain ⟨rfl, hZ, hh⟩ := hP
  have hx := Bd.exec
  have hby := Bd.bytes
  have hml : c.maxLocals = 3 := hml0
  have hown : s.vm.findClass "com/example/vipo/vipo/flow/PatternType" = some m.cls := findClass_of_methodNamed Bd.named
  have hnm := (name_of_methodNamed Bd.named Bd.method).1
  have hret := Bd.returns
  have hlk : meth.locks = false := BodyLoose.notSynchronized Bd
  have X0 : Stand p l e ({ frames := 0, cells := 0, slots := 0, locals := 0 } : Room) s m #[(.ref w8), (.int p1), (.int p2)] below meth c s₁ [] 0 0 := Stand.of_body Bd
  have e0 : s₁.heap = h0 := by rw [← hh, Bd.state]; rfl
  have N0 := Fr.nil n0
  have pre0 : ∀ t, Steps p.tables e below (s₁.setTop (mkF m 0 #[.val (.ref w8), .val (.int p1), .val (.int p2)] [])) t → Steps p.tables e below (s₁.setTop (entryFrame m #[(.ref w8), (.int p1), (.int p2)] 3)) t := fun t k => castTop (ef16 m w8 p1 p2) k
  obtain ⟨T1, X1, e1, st1⟩ := getF X0 hx hZ hown (host := "") (Or.inl (hw _ (List.mem_of_getElem? (i := 9) rfl))) Via.refl e0 (F_w8_minIn.ext O0.2) (g := (mkF m 1 #[.val (.ref w8), .val (.int p1), .val (.int p2)] [(.ref w8)])) rfl rfl (hb hby d0_1)
  have pre2 : ∀ t, Steps p.tables e below (T1.setTop (mkF m 5 #[.val (.ref w8), .val (.int p1), .val (.int p2)] [(.int p1), (.int (1 : Int32))])) t → Steps p.tables e below (s₁.setTop (entryFrame m #[(.ref w8), (.int p1), (.int p2)] 3)) t := fun t k => by
    refine pre0 _ ?_
    show Steps p.tables e below (s₁.setTop (mkF m 0 #[.val (.ref w8), .val (.int p1), .val (.int p2)] [])) _
    refine XS.aloadN X0.here hx rfl (hb hby d0_0) rfl rfl ?_
    show Steps p.tables e below (s₁.setTop (mkF m 1 #[.val (.ref w8), .val (.int p1), .val (.int p2)] [(.ref w8)])) _
    refine st1 _ ?_
    show Steps p.tables e below (T1.setTop (mkF m 4 #[.val (.ref w8), .val (.int p1), .val (.int p2)] [(.int (1 : Int32))])) _
    refine XS.iloadN X1.here hx rfl (hb hby d0_4) rfl ?_
    exact k
  by_cases hc3 : p1 < (1 : Int32)
  ·
    obtain ⟨fs, hr, hrun, hended, hW, hsame⟩ := X1.leave (v := some (.int (0 : Int32))) (fun h => by rw [hret] at h; cases h)
    refine ⟨_, _, pre2 _ ?_, hrun, hended, _, _, rfl, ?_, ⟨_, rfl⟩, hW, hsame.mono (by decide) (by decide)⟩
    ·
      show Steps p.tables e below (T1.setTop (mkF m 5 #[.val (.ref w8), .val (.int p1), .val (.int p2)] [(.int p1), (.int (1 : Int32))])) _
      refine XS.icmpYes X1.here hx rfl (pc0 := 5) (pc' := 36) rfl (hb hby d0_5) rfl (tlt hc3).2.2.1 (by decide) (by decide) ?_
      show Steps p.tables e below (T1.setTop (mkF m 36 #[.val (.ref w8), .val (.int p1), .val (.int p2)] [])) _
      refine XS.iconst X1.here hx rfl (hb hby d0_36) ?_
      show Steps p.tables e below (T1.setTop (mkF m 37 #[.val (.ref w8), .val (.int p1), .val (.int p2)] [(.int (0 : Int32))])) _
      exact retN X1 hx (t := .boolean) hret (by simp) (hb hby d0_37) hr
    ·
      show Q16 Z w1 w2 w3 w4 w5 w6 w7 w8 p1 p2 h0 n0 _ T1.heap _
      rw [e1]
      exact (Or.inl ⟨hc3, rfl, N0, rfl⟩)
  ·
    obtain ⟨T4, X4, e4, st4⟩ := getF X1 hx hZ hown (host := "") (Or.inl (hw _ (List.mem_of_getElem? (i := 11) rfl))) Via.refl e1 (F_w8_maxIn.ext O0.2) (g := (mkF m 10 #[.val (.ref w8), .val (.int p1), .val (.int p2)] [(.ref w8), (.int p1)])) rfl rfl (hb hby d0_10)
    have pre5 : ∀ t, Steps p.tables e below (T4.setTop (mkF m 13 #[.val (.ref w8), .val (.int p1), .val (.int p2)] [(.int (1 : Int32)), (.int p1)])) t → Steps p.tables e below (s₁.setTop (entryFrame m #[(.ref w8), (.int p1), (.int p2)] 3)) t := fun t k => by
      refine pre2 _ ?_
      show Steps p.tables e below (T1.setTop (mkF m 5 #[.val (.ref w8), .val (.int p1), .val (.int p2)] [(.int p1), (.int (1 : Int32))])) _
      refine XS.icmpNo X1.here hx rfl (hb hby d0_5) rfl (flt hc3).2.2.1 ?_
      show Steps p.tables e below (T1.setTop (mkF m 8 #[.val (.ref w8), .val (.int p1), .val (.int p2)] [])) _
      refine XS.iloadN X1.here hx rfl (hb hby d0_8) rfl ?_
      show Steps p.tables e below (T1.setTop (mkF m 9 #[.val (.ref w8), .val (.int p1), .val (.int p2)] [(.int p1)])) _
      refine XS.aloadN X1.here hx rfl (hb hby d0_9) rfl rfl ?_
      show Steps p.tables e below (T1.setTop (mkF m 10 #[.val (.ref w8), .val (.int p1), .val (.int p2)] [(.ref w8), (.int p1)])) _
      refine st4 _ ?_
      exact k
    by_cases hc6 : (1 : Int32) < p1
    ·
      obtain ⟨fs, hr, hrun, hended, hW, hsame⟩ := X4.leave (v := some (.int (0 : Int32))) (fun h => by rw [hret] at h; cases h)
      refine ⟨_, _, pre5 _ ?_, hrun, hended, _, _, rfl, ?_, ⟨_, rfl⟩, hW, hsame.mono (by decide) (by decide)⟩
      ·
        show Steps p.tables e below (T4.setTop (mkF m 13 #[.val (.ref w8), .val (.int p1), .val (.int p2)] [(.int (1 : Int32)), (.int p1)])) _
        refine XS.icmpYes X4.here hx rfl (pc0 := 13) (pc' := 36) rfl (hb hby d0_13) rfl (tlt hc6).2.2.1 (by decide) (by decide) ?_
        show Steps p.tables e below (T4.setTop (mkF m 36 #[.val (.ref w8), .val (.int p1), .val (.int p2)] [])) _
        refine XS.iconst X4.here hx rfl (hb hby d0_36) ?_
        show Steps p.tables e below (T4.setTop (mkF m 37 #[.val (.ref w8), .val (.int p1), .val (.int p2)] [(.int (0 : Int32))])) _
        exact retN X4 hx (t := .boolean) hret (by simp) (hb hby d0_37) hr
      ·
        show Q16 Z w1 w2 w3 w4 w5 w6 w7 w8 p1 p2 h0 n0 _ T4.heap _
        rw [e4]
        exact (Or.inr (Or.inl ⟨hc3, hc6, rfl, N0, rfl⟩))
    ·
      have hq7 : p1 = (1 : Int32) := (own_geq (n := 1) (k := (1 : Int32)) (by decide) (by have q0 := rng32 p1; have q1 := own_nlt1 (n := 1) (k := (1 : Int32)) (by decide) hc3; have q2 := own_nlt2 (n := 1) (k := (1 : Int32)) (by decide) hc6; omega))
      have pre8 : ∀ t, Steps p.tables e below (T4.setTop (mkF m 13 #[.val (.ref w8), .val (.int (1 : Int32)), .val (.int p2)] [(.int (1 : Int32)), (.int (1 : Int32))])) t → Steps p.tables e below (s₁.setTop (entryFrame m #[(.ref w8), (.int p1), (.int p2)] 3)) t := fun t k => pre5 t (by rw [hq7]; exact k)
      obtain ⟨T9, X9, e9, st9⟩ := getF X4 hx hZ hown (host := "") (Or.inl (hw _ (List.mem_of_getElem? (i := 15) rfl))) Via.refl e4 (F_w8_minOut.ext O0.2) (g := (mkF m 17 #[.val (.ref w8), .val (.int (1 : Int32)), .val (.int p2)] [(.ref w8)])) rfl rfl (hb hby d0_17)
      have pre10 : ∀ t, Steps p.tables e below (T9.setTop (mkF m 21 #[.val (.ref w8), .val (.int (1 : Int32)), .val (.int p2)] [(.int p2), (.int (1 : Int32))])) t → Steps p.tables e below (s₁.setTop (entryFrame m #[(.ref w8), (.int p1), (.int p2)] 3)) t := fun t k => by
        refine pre8 _ ?_
        show Steps p.tables e below (T4.setTop (mkF m 13 #[.val (.ref w8), .val (.int (1 : Int32)), .val (.int p2)] [(.int (1 : Int32)), (.int (1 : Int32))])) _
        refine XS.icmpNo X4.here hx rfl (hb hby d0_13) rfl (flt (by decide : ¬ ((1 : Int32) < (1 : Int32)))).2.2.1 ?_
        show Steps p.tables e below (T4.setTop (mkF m 16 #[.val (.ref w8), .val (.int (1 : Int32)), .val (.int p2)] [])) _
        refine XS.aloadN X4.here hx rfl (hb hby d0_16) rfl rfl ?_
        show Steps p.tables e below (T4.setTop (mkF m 17 #[.val (.ref w8), .val (.int (1 : Int32)), .val (.int p2)] [(.ref w8)])) _
        refine st9 _ ?_
        show Steps p.tables e below (T9.setTop (mkF m 20 #[.val (.ref w8), .val (.int (1 : Int32)), .val (.int p2)] [(.int (1 : Int32))])) _
        refine XS.iloadN X9.here hx rfl (hb hby d0_20) rfl ?_
        exact k
      by_cases hc11 : p2 < (1 : Int32)
      ·
        obtain ⟨fs, hr, hrun, hended, hW, hsame⟩ := X9.leave (v := some (.int (0 : Int32))) (fun h => by rw [hret] at h; cases h)
        refine ⟨_, _, pre10 _ ?_, hrun, hended, _, _, rfl, ?_, ⟨_, rfl⟩, hW, hsame.mono (by decide) (by decide)⟩
        ·
          show Steps p.tables e below (T9.setTop (mkF m 21 #[.val (.ref w8), .val (.int (1 : Int32)), .val (.int p2)] [(.int p2), (.int (1 : Int32))])) _
          refine XS.icmpYes X9.here hx rfl (pc0 := 21) (pc' := 36) rfl (hb hby d0_21) rfl (tlt hc11).2.2.1 (by decide) (by decide) ?_
          show Steps p.tables e below (T9.setTop (mkF m 36 #[.val (.ref w8), .val (.int (1 : Int32)), .val (.int p2)] [])) _
          refine XS.iconst X9.here hx rfl (hb hby d0_36) ?_
          show Steps p.tables e below (T9.setTop (mkF m 37 #[.val (.ref w8), .val (.int (1 : Int32)), .val (.int p2)] [(.int (0 : Int32))])) _
          exact retN X9 hx (t := .boolean) hret (by simp) (hb hby d0_37) hr
        ·
          show Q16 Z w1 w2 w3 w4 w5 w6 w7 w8 p1 p2 h0 n0 _ T9.heap _
          rw [e9]
          exact (Or.inr (Or.inr (Or.inl ⟨hc3, hc6, hc11, rfl, N0, rfl⟩)))
      ·
        obtain ⟨T12, X12, e12, st12⟩ := getF X9 hx hZ hown (host := "") (Or.inl (hw _ (List.mem_of_getElem? (i := 17) rfl))) Via.refl e9 (F_w8_maxOut.ext O0.2) (g := (mkF m 26 #[.val (.ref w8), .val (.int (1 : Int32)), .val (.int p2)] [(.ref w8), (.int p2)])) rfl rfl (hb hby d0_26)
        have pre13 : ∀ t, Steps p.tables e below (T12.setTop (mkF m 29 #[.val (.ref w8), .val (.int (1 : Int32)), .val (.int p2)] [(.int (1 : Int32)), (.int p2)])) t → Steps p.tables e below (s₁.setTop (entryFrame m #[(.ref w8), (.int p1), (.int p2)] 3)) t := fun t k => by
          refine pre10 _ ?_
          show Steps p.tables e below (T9.setTop (mkF m 21 #[.val (.ref w8), .val (.int (1 : Int32)), .val (.int p2)] [(.int p2), (.int (1 : Int32))])) _
          refine XS.icmpNo X9.here hx rfl (hb hby d0_21) rfl (flt hc11).2.2.1 ?_
          show Steps p.tables e below (T9.setTop (mkF m 24 #[.val (.ref w8), .val (.int (1 : Int32)), .val (.int p2)] [])) _
          refine XS.iloadN X9.here hx rfl (hb hby d0_24) rfl ?_
          show Steps p.tables e below (T9.setTop (mkF m 25 #[.val (.ref w8), .val (.int (1 : Int32)), .val (.int p2)] [(.int p2)])) _
          refine XS.aloadN X9.here hx rfl (hb hby d0_25) rfl rfl ?_
          show Steps p.tables e below (T9.setTop (mkF m 26 #[.val (.ref w8), .val (.int (1 : Int32)), .val (.int p2)] [(.ref w8), (.int p2)])) _
          refine st12 _ ?_
          exact k
        by_cases hc14 : (1 : Int32) < p2
        ·
          obtain ⟨fs, hr, hrun, hended, hW, hsame⟩ := X12.leave (v := some (.int (0 : Int32))) (fun h => by rw [hret] at h; cases h)
          refine ⟨_, _, pre13 _ ?_, hrun, hended, _, _, rfl, ?_, ⟨_, rfl⟩, hW, hsame.mono (by decide) (by decide)⟩
          ·
            show Steps p.tables e below (T12.setTop (mkF m 29 #[.val (.ref w8), .val (.int (1 : Int32)), .val (.int p2)] [(.int (1 : Int32)), (.int p2)])) _
            refine XS.icmpYes X12.here hx rfl (pc0 := 29) (pc' := 36) rfl (hb hby d0_29) rfl (tlt hc14).2.2.1 (by decide) (by decide) ?_
            show Steps p.tables e below (T12.setTop (mkF m 36 #[.val (.ref w8), .val (.int (1 : Int32)), .val (.int p2)] [])) _
            refine XS.iconst X12.here hx rfl (hb hby d0_36) ?_
            show Steps p.tables e below (T12.setTop (mkF m 37 #[.val (.ref w8), .val (.int (1 : Int32)), .val (.int p2)] [(.int (0 : Int32))])) _
            exact retN X12 hx (t := .boolean) hret (by simp) (hb hby d0_37) hr
          ·
            show Q16 Z w1 w2 w3 w4 w5 w6 w7 w8 p1 p2 h0 n0 _ T12.heap _
            rw [e12]
            exact (Or.inr (Or.inr (Or.inr (Or.inl ⟨hc3, hc6, hc11, hc14, rfl, N0, rfl⟩))))
        ·
          have hq15 : p2 = (1 : Int32) := (own_geq (n := 1) (k := (1 : Int32)) (by decide) (by have q0 := rng32 p2; have q1 := own_nlt1 (n := 1) (k := (1 : Int32)) (by decide) hc11; have q2 := own_nlt2 (n := 1) (k := (1 : Int32)) (by decide) hc14; omega))
          have pre16 : ∀ t, Steps p.tables e below (T12.setTop (mkF m 29 #[.val (.ref w8), .val (.int (1 : Int32)), .val (.int (1 : Int32))] [(.int (1 : Int32)), (.int (1 : Int32))])) t → Steps p.tables e below (s₁.setTop (entryFrame m #[(.ref w8), (.int p1), (.int p2)] 3)) t := fun t k => pre13 t (by rw [hq15]; exact k)
          obtain ⟨fs, hr, hrun, hended, hW, hsame⟩ := X12.leave (v := some (.int (1 : Int32))) (fun h => by rw [hret] at h; cases h)
          refine ⟨_, _, pre16 _ ?_, hrun, hended, _, _, rfl, ?_, ⟨_, rfl⟩, hW, hsame.mono (by decide) (by decide)⟩
          ·
            show Steps p.tables e below (T12.setTop (mkF m 29 #[.val (.ref w8), .val (.int (1 : Int32)), .val (.int (1 : Int32))] [(.int (1 : Int32)), (.int (1 : Int32))])) _
            refine XS.icmpNo X12.here hx rfl (hb hby d0_29) rfl (flt (by decide : ¬ ((1 : Int32) < (1 : Int32)))).2.2.1 ?_
            show Steps p.tables e below (T12.setTop (mkF m 32 #[.val (.ref w8), .val (.int (1 : Int32)), .val (.int (1 : Int32))] [])) _
            refine XS.iconst X12.here hx rfl (hb hby d0_32) ?_
            show Steps p.tables e below (T12.setTop (mkF m 33 #[.val (.ref w8), .val (.int (1 : Int32)), .val (.int (1 : Int32))] [(.int (1 : Int32))])) _
            refine XS.goto X12.here hx rfl (pc0 := 33) (pc' := 37) rfl (hb hby d0_33) (by decide) (by decide) ?_
            show Steps p.tables e below (T12.setTop (mkF m 37 #[.val (.ref w8), .val (.int (1 : Int32)), .val (.int (1 : Int32))] [(.int (1 : Int32))])) _
            exact retN X12 hx (t := .boolean) hret (by simp) (hb hby d0_37) hr
          ·
            show Q16 Z w1 w2 w3 w4 w5 w6 w7 w8 p1 p2 h0 n0 _ T12.heap _
            rw [e12]
            exact (Or.inr (Or.inr (Or.inr (Or.inr ⟨hc3, hc6, hc11, hc14, rfl, N0, rfl⟩))))
theorem ef17 (m : MethodId) (x0 : Addr) (x1 : Int32) (x2 : Int32) : entryFrame m #[(.ref x0), (.int x1), (.int x2)] 3 = mkF m 0 #[.val (.ref x0), .val (.int x1), .val (.int x2)] [] := by first | (simp [entryFrame, mkF, argsToLocals, Value.category]; done) | rfl
def Q17 (Z : State) (w1 : Addr) (w2 : Addr) (w3 : Addr) (w4 : Addr) (w5 : Addr) (w6 : Addr) (w7 : Addr) (w8 : Addr) (h0 : Heap) (n0 : Nat) (v : Option Value) (h : Heap) (L : List Loc) : Prop :=
  (v = some (.int (1 : Int32)) ∧ Fr n0 L ∧ h = h0)
set_option maxRecDepth 65536 in
set_option maxHeartbeats 40000000 in
theorem rm17 (l : Launch) (Z : State) (a0 : Array Value) (hw : ∀ d ∈ tables_1, d.before a0 Z = true) (w1 : Addr) (w2 : Addr) (w3 : Addr) (w4 : Addr) (w5 : Addr) (w6 : Addr) (w7 : Addr) (w8 : Addr) (G : GW Z w1 w2 w3 w4 w5 w6 w7 w8) (ws : List Jvm.Cond) (h0 : Heap) (n0 : Nat) (O0 : Old Z n0 h0) :
    MetFree l (⟨"com/example/vipo/vipo/flow/PatternType", "admitsDegree", "(II)Z"⟩ : MethodName) (head1 (Jvm.Cond.code (⟨"com/example/vipo/vipo/flow/PatternType", "admitsDegree", "(II)Z"⟩ : MethodName) prog_18_method_6_code 3 (some .boolean) :: ws) ({ frames := 0, cells := 0, slots := 0, locals := 0 } : Room)) (fun a U => a = #[(.ref w4), (.int (2 : Int32)), (.int (2 : Int32))] ∧ Z.Warmed39 U.vm ∧ U.heap = h0) (fun _ _ _ _ _ => True) (fun _ U o U' => ∃ v L, o = .returned v ∧ Q17 Z w1 w2 w3 w4 w5 w6 w7 w8 h0 n0 v U'.heap L ∧ FrameEnd U o U' L ({ frames := 0, cells := 0, slots := 0, locals := 0 } : Room).cells ({ frames := 0, cells := 0, slots := 0, locals := 0 } : Room).slots) := by
  obtain ⟨S_w1, E_w1, S_w2, E_w2, S_w3, E_w3, S_w4, E_w4, S_w5, E_w5, S_w6, E_w6, S_w7, E_w7, S_w8, E_w8, F_w1_minIn, F_w1_maxIn, F_w2_minIn, F_w2_maxIn, F_w2_minOut, F_w2_maxOut, F_w3_minIn, F_w3_maxIn, F_w4_minIn, F_w5_minIn, F_w6_minIn, F_w6_maxIn, F_w5_maxIn, F_w7_minIn, F_w7_maxIn, F_w7_minOut, F_w7_maxOut, F_w8_minIn, F_w8_maxIn, F_w1_minOut, F_w1_maxOut, F_w4_maxIn, F_w5_minOut, F_w5_maxOut, F_w6_minOut, F_w4_minOut, F_w6_maxOut, F_w4_maxOut, F_w8_minOut, F_w8_maxOut, F_w3_minOut, F_w3_maxOut⟩ := id G
  refine MetFree.of_bodySF (plainFor_of_name pn0) hisR ?_
  intro p e s m args below meth c s₁ Bd hml0 hP hK
  obtain ⟨rfl, hZ, hh⟩ := hP
  have hx := Bd.exec
  have hby := Bd.bytes
  have hml : c.maxLocals = 3 := hml0
  have hown : s.vm.findClass "com/example/vipo/vipo/flow/PatternType" = some m.cls := findClass_of_methodNamed Bd.named
  have hnm := (name_of_methodNamed Bd.named Bd.method).1
  have hret := Bd.returns
  have hlk : meth.locks = false := BodyLoose.notSynchronized Bd
  have X0 : Stand p l e ({ frames := 0, cells := 0, slots := 0, locals := 0 } : Room) s m #[(.ref w4), (.int (2 : Int32)), (.int (2 : Int32))] below meth c s₁ [] 0 0 := Stand.of_body Bd
  have e0 : s₁.heap = h0 := by rw [← hh, Bd.state]; rfl
  have N0 := Fr.nil n0
  have pre0 : ∀ t, Steps p.tables e below (s₁.setTop (mkF m 0 #[.val (.ref w4), .val (.int (2 : Int32)), .val (.int (2 : Int32))] [])) t → Steps p.tables e below (s₁.setTop (entryFrame m #[(.ref w4), (.int (2 : Int32)), (.int (2 : Int32))] 3)) t := fun t k => castTop (ef17 m w4 (2 : Int32) (2 : Int32)) k
  obtain ⟨T1, X1, e1, st1⟩ := getF X0 hx hZ hown (host := "") (Or.inl (hw _ (List.mem_of_getElem? (i := 9) rfl))) Via.refl e0 (F_w4_minIn.ext O0.2) (g := (mkF m 1 #[.val (.ref w4), .val (.int (2 : Int32)), .val (.int (2 : Int32))] [(.ref w4)])) rfl rfl (hb hby d0_1)
  obtain ⟨T2, X2, e2, st2⟩ := getF X1 hx hZ hown (host := "") (Or.inl (hw _ (List.mem_of_getElem? (i := 11) rfl))) Via.refl e1 (F_w4_maxIn.ext O0.2) (g := (mkF m 10 #[.val (.ref w4), .val (.int (2 : Int32)), .val (.int (2 : Int32))] [(.ref w4), (.int (2 : Int32))])) rfl rfl (hb hby d0_10)
  obtain ⟨T3, X3, e3, st3⟩ := getF X2 hx hZ hown (host := "") (Or.inl (hw _ (List.mem_of_getElem? (i := 15) rfl))) Via.refl e2 (F_w4_minOut.ext O0.2) (g := (mkF m 17 #[.val (.ref w4), .val (.int (2 : Int32)), .val (.int (2 : Int32))] [(.ref w4)])) rfl rfl (hb hby d0_17)
  obtain ⟨T4, X4, e4, st4⟩ := getF X3 hx hZ hown (host := "") (Or.inl (hw _ (List.mem_of_getElem? (i := 17) rfl))) Via.refl e3 (F_w4_maxOut.ext O0.2) (g := (mkF m 26 #[.val (.ref w4), .val (.int (2 : Int32)), .val (.int (2 : Int32))] [(.ref w4), (.int (2 : Int32))])) rfl rfl (hb hby d0_26)
  obtain ⟨fs, hr, hrun, hended, hW, hsame⟩ := X4.leave (v := some (.int (1 : Int32))) (fun h => by rw [hret] at h; cases h)
  refine ⟨_, _, pre0 _ ?_, hrun, hended, _, _, rfl, ?_, ⟨_, rfl⟩, hW, hsame.mono (by decide) (by decide)⟩
  ·
    show Steps p.tables e below (s₁.setTop (mkF m 0 #[.val (.ref w4), .val (.int (2 : Int32)), .val (.int (2 : Int32))] [])) _
    refine XS.aloadN X0.here hx rfl (hb hby d0_0) rfl rfl ?_
    show Steps p.tables e below (s₁.setTop (mkF m 1 #[.val (.ref w4), .val (.int (2 : Int32)), .val (.int (2 : Int32))] [(.ref w4)])) _
    refine st1 _ ?_
    show Steps p.tables e below (T1.setTop (mkF m 4 #[.val (.ref w4), .val (.int (2 : Int32)), .val (.int (2 : Int32))] [(.int (2 : Int32))])) _
    refine XS.iloadN X1.here hx rfl (hb hby d0_4) rfl ?_
    show Steps p.tables e below (T1.setTop (mkF m 5 #[.val (.ref w4), .val (.int (2 : Int32)), .val (.int (2 : Int32))] [(.int (2 : Int32)), (.int (2 : Int32))])) _
    refine XS.icmpNo X1.here hx rfl (hb hby d0_5) rfl (flt (by decide : ¬ ((2 : Int32) < (2 : Int32)))).2.2.1 ?_
    show Steps p.tables e below (T1.setTop (mkF m 8 #[.val (.ref w4), .val (.int (2 : Int32)), .val (.int (2 : Int32))] [])) _
    refine XS.iloadN X1.here hx rfl (hb hby d0_8) rfl ?_
    show Steps p.tables e below (T1.setTop (mkF m 9 #[.val (.ref w4), .val (.int (2 : Int32)), .val (.int (2 : Int32))] [(.int (2 : Int32))])) _
    refine XS.aloadN X1.here hx rfl (hb hby d0_9) rfl rfl ?_
    show Steps p.tables e below (T1.setTop (mkF m 10 #[.val (.ref w4), .val (.int (2 : Int32)), .val (.int (2 : Int32))] [(.ref w4), (.int (2 : Int32))])) _
    refine st2 _ ?_
    show Steps p.tables e below (T2.setTop (mkF m 13 #[.val (.ref w4), .val (.int (2 : Int32)), .val (.int (2 : Int32))] [(.int (2 : Int32)), (.int (2 : Int32))])) _
    refine XS.icmpNo X2.here hx rfl (hb hby d0_13) rfl (flt (by decide : ¬ ((2 : Int32) < (2 : Int32)))).2.2.1 ?_
    show Steps p.tables e below (T2.setTop (mkF m 16 #[.val (.ref w4), .val (.int (2 : Int32)), .val (.int (2 : Int32))] [])) _
    refine XS.aloadN X2.here hx rfl (hb hby d0_16) rfl rfl ?_
    show Steps p.tables e below (T2.setTop (mkF m 17 #[.val (.ref w4), .val (.int (2 : Int32)), .val (.int (2 : Int32))] [(.ref w4)])) _
    refine st3 _ ?_
    show Steps p.tables e below (T3.setTop (mkF m 20 #[.val (.ref w4), .val (.int (2 : Int32)), .val (.int (2 : Int32))] [(.int (2 : Int32))])) _
    refine XS.iloadN X3.here hx rfl (hb hby d0_20) rfl ?_
    show Steps p.tables e below (T3.setTop (mkF m 21 #[.val (.ref w4), .val (.int (2 : Int32)), .val (.int (2 : Int32))] [(.int (2 : Int32)), (.int (2 : Int32))])) _
    refine XS.icmpNo X3.here hx rfl (hb hby d0_21) rfl (flt (by decide : ¬ ((2 : Int32) < (2 : Int32)))).2.2.1 ?_
    show Steps p.tables e below (T3.setTop (mkF m 24 #[.val (.ref w4), .val (.int (2 : Int32)), .val (.int (2 : Int32))] [])) _
    refine XS.iloadN X3.here hx rfl (hb hby d0_24) rfl ?_
    show Steps p.tables e below (T3.setTop (mkF m 25 #[.val (.ref w4), .val (.int (2 : Int32)), .val (.int (2 : Int32))] [(.int (2 : Int32))])) _
    refine XS.aloadN X3.here hx rfl (hb hby d0_25) rfl rfl ?_
    show Steps p.tables e below (T3.setTop (mkF m 26 #[.val (.ref w4), .val (.int (2 : Int32)), .val (.int (2 : Int32))] [(.ref w4), (.int (2 : Int32))])) _
    refine st4 _ ?_
    show Steps p.tables e below (T4.setTop (mkF m 29 #[.val (.ref w4), .val (.int (2 : Int32)), .val (.int (2 : Int32))] [(.int (2 : Int32)), (.int (2 : Int32))])) _
    refine XS.icmpNo X4.here hx rfl (hb hby d0_29) rfl (flt (by decide : ¬ ((2 : Int32) < (2 : Int32)))).2.2.1 ?_
    show Steps p.tables e below (T4.setTop (mkF m 32 #[.val (.ref w4), .val (.int (2 : Int32)), .val (.int (2 : Int32))] [])) _
    refine XS.iconst X4.here hx rfl (hb hby d0_32) ?_
    show Steps p.tables e below (T4.setTop (mkF m 33 #[.val (.ref w4), .val (.int (2 : Int32)), .val (.int (2 : Int32))] [(.int (1 : Int32))])) _
    refine XS.goto X4.here hx rfl (pc0 := 33) (pc' := 37) rfl (hb hby d0_33) (by decide) (by decide) ?_
    show Steps p.tables e below (T4.setTop (mkF m 37 #[.val (.ref w4), .val (.int (2 : Int32)), .val (.int (2 : Int32))] [(.int (1 : Int32))])) _
    exact retN X4 hx (t := .boolean) hret (by simp) (hb hby d0_37) hr
  ·
    show Q17 Z w1 w2 w3 w4 w5 w6 w7 w8 h0 n0 _ T4.heap _
    rw [e4]
    exact ⟨rfl, N0, rfl⟩
theorem ef18 (m : MethodId) (x0 : Addr) (x1 : Int32) (x2 : Int32) : entryFrame m #[(.ref x0), (.int x1), (.int x2)] 3 = mkF m 0 #[.val (.ref x0), .val (.int x1), .val (.int x2)] [] := by first | (simp [entryFrame, mkF, argsToLocals, Value.category]; done) | rfl
def Q18 (Z : State) (w1 : Addr) (w2 : Addr) (w3 : Addr) (w4 : Addr) (w5 : Addr) (w6 : Addr) (w7 : Addr) (w8 : Addr) (p1 : Int32) (h0 : Heap) (n0 : Nat) (v : Option Value) (h : Heap) (L : List Loc) : Prop :=
  ((p1 < (2 : Int32)) ∧ v = some (.int (0 : Int32)) ∧ Fr n0 L ∧ h = h0)
  ∨ ((¬ (p1 < (2 : Int32))) ∧ ((2 : Int32) < p1) ∧ v = some (.int (0 : Int32)) ∧ Fr n0 L ∧ h = h0)
  ∨ ((¬ (p1 < (2 : Int32))) ∧ (¬ ((2 : Int32) < p1)) ∧ v = some (.int (1 : Int32)) ∧ Fr n0 L ∧ h = h0)
set_option maxRecDepth 65536 in
set_option maxHeartbeats 40000000 in
theorem rm18 (l : Launch) (Z : State) (a0 : Array Value) (hw : ∀ d ∈ tables_1, d.before a0 Z = true) (w1 : Addr) (w2 : Addr) (w3 : Addr) (w4 : Addr) (w5 : Addr) (w6 : Addr) (w7 : Addr) (w8 : Addr) (G : GW Z w1 w2 w3 w4 w5 w6 w7 w8) (ws : List Jvm.Cond) (p1 : Int32) (h0 : Heap) (n0 : Nat) (O0 : Old Z n0 h0) :
    MetFree l (⟨"com/example/vipo/vipo/flow/PatternType", "admitsDegree", "(II)Z"⟩ : MethodName) (head1 (Jvm.Cond.code (⟨"com/example/vipo/vipo/flow/PatternType", "admitsDegree", "(II)Z"⟩ : MethodName) prog_18_method_6_code 3 (some .boolean) :: ws) ({ frames := 0, cells := 0, slots := 0, locals := 0 } : Room)) (fun a U => a = #[(.ref w4), (.int (2 : Int32)), (.int p1)] ∧ Z.Warmed39 U.vm ∧ U.heap = h0) (fun _ _ _ _ _ => True) (fun _ U o U' => ∃ v L, o = .returned v ∧ Q18 Z w1 w2 w3 w4 w5 w6 w7 w8 p1 h0 n0 v U'.heap L ∧ FrameEnd U o U' L ({ frames := 0, cells := 0, slots := 0, locals := 0 } : Room).cells ({ frames := 0, cells := 0, slots := 0, locals := 0 } : Room).slots) := by
  obtain ⟨S_w1, E_w1, S_w2, E_w2, S_w3, E_w3, S_w4, E_w4, S_w5, E_w5, S_w6, E_w6, S_w7, E_w7, S_w8, E_w8, F_w1_minIn, F_w1_maxIn, F_w2_minIn, F_w2_maxIn, F_w2_minOut, F_w2_maxOut, F_w3_minIn, F_w3_maxIn, F_w4_minIn, F_w5_minIn, F_w6_minIn, F_w6_maxIn, F_w5_maxIn, F_w7_minIn, F_w7_maxIn, F_w7_minOut, F_w7_maxOut, F_w8_minIn, F_w8_maxIn, F_w1_minOut, F_w1_maxOut, F_w4_maxIn, F_w5_minOut, F_w5_maxOut, F_w6_minOut, F_w4_minOut, F_w6_maxOut, F_w4_maxOut, F_w8_minOut, F_w8_maxOut, F_w3_minOut, F_w3_maxOut⟩ := id G
  refine MetFree.of_bodySF (plainFor_of_name pn0) hisR ?_
  intro p e s m args below meth c s₁ Bd hml0 hP hK
  obtain ⟨rfl, hZ, hh⟩ := hP
  have hx := Bd.exec
  have hby := Bd.bytes
  have hml : c.maxLocals = 3 := hml0
  have hown : s.vm.findClass "com/example/vipo/vipo/flow/PatternType" = some m.cls := findClass_of_methodNamed Bd.named
  have hnm := (name_of_methodNamed Bd.named Bd.method).1
  have hret := Bd.returns
  have hlk : meth.locks = false := BodyLoose.notSynchronized Bd
  have X0 : Stand p l e ({ frames := 0, cells := 0, slots := 0, locals := 0 } : Room) s m #[(.ref w4), (.int (2 : Int32)), (.int p1)] below meth c s₁ [] 0 0 := Stand.of_body Bd
  have e0 : s₁.heap = h0 := by rw [← hh, Bd.state]; rfl
  have N0 := Fr.nil n0
  have pre0 : ∀ t, Steps p.tables e below (s₁.setTop (mkF m 0 #[.val (.ref w4), .val (.int (2 : Int32)), .val (.int p1)] [])) t → Steps p.tables e below (s₁.setTop (entryFrame m #[(.ref w4), (.int (2 : Int32)), (.int p1)] 3)) t := fun t k => castTop (ef18 m w4 (2 : Int32) p1) k
  obtain ⟨T1, X1, e1, st1⟩ := getF X0 hx hZ hown (host := "") (Or.inl (hw _ (List.mem_of_getElem? (i := 9) rfl))) Via.refl e0 (F_w4_minIn.ext O0.2) (g := (mkF m 1 #[.val (.ref w4), .val (.int (2 : Int32)), .val (.int p1)] [(.ref w4)])) rfl rfl (hb hby d0_1)
  obtain ⟨T2, X2, e2, st2⟩ := getF X1 hx hZ hown (host := "") (Or.inl (hw _ (List.mem_of_getElem? (i := 11) rfl))) Via.refl e1 (F_w4_maxIn.ext O0.2) (g := (mkF m 10 #[.val (.ref w4), .val (.int (2 : Int32)), .val (.int p1)] [(.ref w4), (.int (2 : Int32))])) rfl rfl (hb hby d0_10)
  obtain ⟨T3, X3, e3, st3⟩ := getF X2 hx hZ hown (host := "") (Or.inl (hw _ (List.mem_of_getElem? (i := 15) rfl))) Via.refl e2 (F_w4_minOut.ext O0.2) (g := (mkF m 17 #[.val (.ref w4), .val (.int (2 : Int32)), .val (.int p1)] [(.ref w4)])) rfl rfl (hb hby d0_17)
  have pre4 : ∀ t, Steps p.tables e below (T3.setTop (mkF m 21 #[.val (.ref w4), .val (.int (2 : Int32)), .val (.int p1)] [(.int p1), (.int (2 : Int32))])) t → Steps p.tables e below (s₁.setTop (entryFrame m #[(.ref w4), (.int (2 : Int32)), (.int p1)] 3)) t := fun t k => by
    refine pre0 _ ?_
    show Steps p.tables e below (s₁.setTop (mkF m 0 #[.val (.ref w4), .val (.int (2 : Int32)), .val (.int p1)] [])) _
    refine XS.aloadN X0.here hx rfl (hb hby d0_0) rfl rfl ?_
    show Steps p.tables e below (s₁.setTop (mkF m 1 #[.val (.ref w4), .val (.int (2 : Int32)), .val (.int p1)] [(.ref w4)])) _
    refine st1 _ ?_
    show Steps p.tables e below (T1.setTop (mkF m 4 #[.val (.ref w4), .val (.int (2 : Int32)), .val (.int p1)] [(.int (2 : Int32))])) _
    refine XS.iloadN X1.here hx rfl (hb hby d0_4) rfl ?_
    show Steps p.tables e below (T1.setTop (mkF m 5 #[.val (.ref w4), .val (.int (2 : Int32)), .val (.int p1)] [(.int (2 : Int32)), (.int (2 : Int32))])) _
    refine XS.icmpNo X1.here hx rfl (hb hby d0_5) rfl (flt (by decide : ¬ ((2 : Int32) < (2 : Int32)))).2.2.1 ?_
    show Steps p.tables e below (T1.setTop (mkF m 8 #[.val (.ref w4), .val (.int (2 : Int32)), .val (.int p1)] [])) _
    refine XS.iloadN X1.here hx rfl (hb hby d0_8) rfl ?_
    show Steps p.tables e below (T1.setTop (mkF m 9 #[.val (.ref w4), .val (.int (2 : Int32)), .val (.int p1)] [(.int (2 : Int32))])) _
    refine XS.aloadN X1.here hx rfl (hb hby d0_9) rfl rfl ?_
    show Steps p.tables e below (T1.setTop (mkF m 10 #[.val (.ref w4), .val (.int (2 : Int32)), .val (.int p1)] [(.ref w4), (.int (2 : Int32))])) _
    refine st2 _ ?_
    show Steps p.tables e below (T2.setTop (mkF m 13 #[.val (.ref w4), .val (.int (2 : Int32)), .val (.int p1)] [(.int (2 : Int32)), (.int (2 : Int32))])) _
    refine XS.icmpNo X2.here hx rfl (hb hby d0_13) rfl (flt (by decide : ¬ ((2 : Int32) < (2 : Int32)))).2.2.1 ?_
    show Steps p.tables e below (T2.setTop (mkF m 16 #[.val (.ref w4), .val (.int (2 : Int32)), .val (.int p1)] [])) _
    refine XS.aloadN X2.here hx rfl (hb hby d0_16) rfl rfl ?_
    show Steps p.tables e below (T2.setTop (mkF m 17 #[.val (.ref w4), .val (.int (2 : Int32)), .val (.int p1)] [(.ref w4)])) _
    refine st3 _ ?_
    show Steps p.tables e below (T3.setTop (mkF m 20 #[.val (.ref w4), .val (.int (2 : Int32)), .val (.int p1)] [(.int (2 : Int32))])) _
    refine XS.iloadN X3.here hx rfl (hb hby d0_20) rfl ?_
    exact k
  by_cases hc5 : p1 < (2 : Int32)
  ·
    obtain ⟨fs, hr, hrun, hended, hW, hsame⟩ := X3.leave (v := some (.int (0 : Int32))) (fun h => by rw [hret] at h; cases h)
    refine ⟨_, _, pre4 _ ?_, hrun, hended, _, _, rfl, ?_, ⟨_, rfl⟩, hW, hsame.mono (by decide) (by decide)⟩
    ·
      show Steps p.tables e below (T3.setTop (mkF m 21 #[.val (.ref w4), .val (.int (2 : Int32)), .val (.int p1)] [(.int p1), (.int (2 : Int32))])) _
      refine XS.icmpYes X3.here hx rfl (pc0 := 21) (pc' := 36) rfl (hb hby d0_21) rfl (tlt hc5).2.2.1 (by decide) (by decide) ?_
      show Steps p.tables e below (T3.setTop (mkF m 36 #[.val (.ref w4), .val (.int (2 : Int32)), .val (.int p1)] [])) _
      refine XS.iconst X3.here hx rfl (hb hby d0_36) ?_
      show Steps p.tables e below (T3.setTop (mkF m 37 #[.val (.ref w4), .val (.int (2 : Int32)), .val (.int p1)] [(.int (0 : Int32))])) _
      exact retN X3 hx (t := .boolean) hret (by simp) (hb hby d0_37) hr
    ·
      show Q18 Z w1 w2 w3 w4 w5 w6 w7 w8 p1 h0 n0 _ T3.heap _
      rw [e3]
      exact (Or.inl ⟨hc5, rfl, N0, rfl⟩)
  ·
    obtain ⟨T6, X6, e6, st6⟩ := getF X3 hx hZ hown (host := "") (Or.inl (hw _ (List.mem_of_getElem? (i := 17) rfl))) Via.refl e3 (F_w4_maxOut.ext O0.2) (g := (mkF m 26 #[.val (.ref w4), .val (.int (2 : Int32)), .val (.int p1)] [(.ref w4), (.int p1)])) rfl rfl (hb hby d0_26)
    have pre7 : ∀ t, Steps p.tables e below (T6.setTop (mkF m 29 #[.val (.ref w4), .val (.int (2 : Int32)), .val (.int p1)] [(.int (2 : Int32)), (.int p1)])) t → Steps p.tables e below (s₁.setTop (entryFrame m #[(.ref w4), (.int (2 : Int32)), (.int p1)] 3)) t := fun t k => by
      refine pre4 _ ?_
      show Steps p.tables e below (T3.setTop (mkF m 21 #[.val (.ref w4), .val (.int (2 : Int32)), .val (.int p1)] [(.int p1), (.int (2 : Int32))])) _
      refine XS.icmpNo X3.here hx rfl (hb hby d0_21) rfl (flt hc5).2.2.1 ?_
      show Steps p.tables e below (T3.setTop (mkF m 24 #[.val (.ref w4), .val (.int (2 : Int32)), .val (.int p1)] [])) _
      refine XS.iloadN X3.here hx rfl (hb hby d0_24) rfl ?_
      show Steps p.tables e below (T3.setTop (mkF m 25 #[.val (.ref w4), .val (.int (2 : Int32)), .val (.int p1)] [(.int p1)])) _
      refine XS.aloadN X3.here hx rfl (hb hby d0_25) rfl rfl ?_
      show Steps p.tables e below (T3.setTop (mkF m 26 #[.val (.ref w4), .val (.int (2 : Int32)), .val (.int p1)] [(.ref w4), (.int p1)])) _
      refine st6 _ ?_
      exact k
    by_cases hc8 : (2 : Int32) < p1
    ·
      obtain ⟨fs, hr, hrun, hended, hW, hsame⟩ := X6.leave (v := some (.int (0 : Int32))) (fun h => by rw [hret] at h; cases h)
      refine ⟨_, _, pre7 _ ?_, hrun, hended, _, _, rfl, ?_, ⟨_, rfl⟩, hW, hsame.mono (by decide) (by decide)⟩
      ·
        show Steps p.tables e below (T6.setTop (mkF m 29 #[.val (.ref w4), .val (.int (2 : Int32)), .val (.int p1)] [(.int (2 : Int32)), (.int p1)])) _
        refine XS.icmpYes X6.here hx rfl (pc0 := 29) (pc' := 36) rfl (hb hby d0_29) rfl (tlt hc8).2.2.1 (by decide) (by decide) ?_
        show Steps p.tables e below (T6.setTop (mkF m 36 #[.val (.ref w4), .val (.int (2 : Int32)), .val (.int p1)] [])) _
        refine XS.iconst X6.here hx rfl (hb hby d0_36) ?_
        show Steps p.tables e below (T6.setTop (mkF m 37 #[.val (.ref w4), .val (.int (2 : Int32)), .val (.int p1)] [(.int (0 : Int32))])) _
        exact retN X6 hx (t := .boolean) hret (by simp) (hb hby d0_37) hr
      ·
        show Q18 Z w1 w2 w3 w4 w5 w6 w7 w8 p1 h0 n0 _ T6.heap _
        rw [e6]
        exact (Or.inr (Or.inl ⟨hc5, hc8, rfl, N0, rfl⟩))
    ·
      have hq9 : p1 = (2 : Int32) := (own_geq (n := 2) (k := (2 : Int32)) (by decide) (by have q0 := rng32 p1; have q1 := own_nlt1 (n := 2) (k := (2 : Int32)) (by decide) hc5; have q2 := own_nlt2 (n := 2) (k := (2 : Int32)) (by decide) hc8; omega))
      have pre10 : ∀ t, Steps p.tables e below (T6.setTop (mkF m 29 #[.val (.ref w4), .val (.int (2 : Int32)), .val (.int (2 : Int32))] [(.int (2 : Int32)), (.int (2 : Int32))])) t → Steps p.tables e below (s₁.setTop (entryFrame m #[(.ref w4), (.int (2 : Int32)), (.int p1)] 3)) t := fun t k => pre7 t (by rw [hq9]; exact k)
      obtain ⟨fs, hr, hrun, hended, hW, hsame⟩ := X6.leave (v := some (.int (1 : Int32))) (fun h => by rw [hret] at h; cases h)
      refine ⟨_, _, pre10 _ ?_, hrun, hended, _, _, rfl, ?_, ⟨_, rfl⟩, hW, hsame.mono (by decide) (by decide)⟩
      ·
        show Steps p.tables e below (T6.setTop (mkF m 29 #[.val (.ref w4), .val (.int (2 : Int32)), .val (.int (2 : Int32))] [(.int (2 : Int32)), (.int (2 : Int32))])) _
        refine XS.icmpNo X6.here hx rfl (hb hby d0_29) rfl (flt (by decide : ¬ ((2 : Int32) < (2 : Int32)))).2.2.1 ?_
        show Steps p.tables e below (T6.setTop (mkF m 32 #[.val (.ref w4), .val (.int (2 : Int32)), .val (.int (2 : Int32))] [])) _
        refine XS.iconst X6.here hx rfl (hb hby d0_32) ?_
        show Steps p.tables e below (T6.setTop (mkF m 33 #[.val (.ref w4), .val (.int (2 : Int32)), .val (.int (2 : Int32))] [(.int (1 : Int32))])) _
        refine XS.goto X6.here hx rfl (pc0 := 33) (pc' := 37) rfl (hb hby d0_33) (by decide) (by decide) ?_
        show Steps p.tables e below (T6.setTop (mkF m 37 #[.val (.ref w4), .val (.int (2 : Int32)), .val (.int (2 : Int32))] [(.int (1 : Int32))])) _
        exact retN X6 hx (t := .boolean) hret (by simp) (hb hby d0_37) hr
      ·
        show Q18 Z w1 w2 w3 w4 w5 w6 w7 w8 p1 h0 n0 _ T6.heap _
        rw [e6]
        exact (Or.inr (Or.inr ⟨hc5, hc8, rfl, N0, rfl⟩))
theorem ef19 (m : MethodId) (x0 : Addr) (x1 : Int32) (x2 : Int32) : entryFrame m #[(.ref x0), (.int x1), (.int x2)] 3 = mkF m 0 #[.val (.ref x0), .val (.int x1), .val (.int x2)] [] := by first | (simp [entryFrame, mkF, argsToLocals, Value.category]; done) | rfl
def Q19 (Z : State) (w1 : Addr) (w2 : Addr) (w3 : Addr) (w4 : Addr) (w5 : Addr) (w6 : Addr) (w7 : Addr) (w8 : Addr) (p1 : Int32) (p2 : Int32) (h0 : Heap) (n0 : Nat) (v : Option Value) (h : Heap) (L : List Loc) : Prop :=
  ((p1 < (2 : Int32)) ∧ v = some (.int (0 : Int32)) ∧ Fr n0 L ∧ h = h0)
  ∨ ((¬ (p1 < (2 : Int32))) ∧ ((2 : Int32) < p1) ∧ v = some (.int (0 : Int32)) ∧ Fr n0 L ∧ h = h0)
  ∨ ((¬ (p1 < (2 : Int32))) ∧ (¬ ((2 : Int32) < p1)) ∧ (p2 < (2 : Int32)) ∧ v = some (.int (0 : Int32)) ∧ Fr n0 L ∧ h = h0)
  ∨ ((¬ (p1 < (2 : Int32))) ∧ (¬ ((2 : Int32) < p1)) ∧ (¬ (p2 < (2 : Int32))) ∧ ((2 : Int32) < p2) ∧ v = some (.int (0 : Int32)) ∧ Fr n0 L ∧ h = h0)
  ∨ ((¬ (p1 < (2 : Int32))) ∧ (¬ ((2 : Int32) < p1)) ∧ (¬ (p2 < (2 : Int32))) ∧ (¬ ((2 : Int32) < p2)) ∧ v = some (.int (1 : Int32)) ∧ Fr n0 L ∧ h = h0)
set_option maxRecDepth 65536 in
set_option maxHeartbeats 40000000 in
theorem rm19 (l : Launch) (Z : State) (a0 : Array Value) (hw : ∀ d ∈ tables_1, d.before a0 Z = true) (w1 : Addr) (w2 : Addr) (w3 : Addr) (w4 : Addr) (w5 : Addr) (w6 : Addr) (w7 : Addr) (w8 : Addr) (G : GW Z w1 w2 w3 w4 w5 w6 w7 w8) (ws : List Jvm.Cond) (p1 : Int32) (p2 : Int32) (h0 : Heap) (n0 : Nat) (O0 : Old Z n0 h0) :
    MetFree l (⟨"com/example/vipo/vipo/flow/PatternType", "admitsDegree", "(II)Z"⟩ : MethodName) (head1 (Jvm.Cond.code (⟨"com/example/vipo/vipo/flow/PatternType", "admitsDegree", "(II)Z"⟩ : MethodName) prog_18_method_6_code 3 (some .boolean) :: ws) ({ frames := 0, cells := 0, slots := 0, locals := 0 } : Room)) (fun a U => a = #[(.ref w4), (.int p1), (.int p2)] ∧ Z.Warmed39 U.vm ∧ U.heap = h0) (fun _ _ _ _ _ => True) (fun _ U o U' => ∃ v L, o = .returned v ∧ Q19 Z w1 w2 w3 w4 w5 w6 w7 w8 p1 p2 h0 n0 v U'.heap L ∧ FrameEnd U o U' L ({ frames := 0, cells := 0, slots := 0, locals := 0 } : Room).cells ({ frames := 0, cells := 0, slots := 0, locals := 0 } : Room).slots) := by
  obtain ⟨S_w1, E_w1, S_w2, E_w2, S_w3, E_w3, S_w4, E_w4, S_w5, E_w5, S_w6, E_w6, S_w7, E_w7, S_w8, E_w8, F_w1_minIn, F_w1_maxIn, F_w2_minIn, F_w2_maxIn, F_w2_minOut, F_w2_maxOut, F_w3_minIn, F_w3_maxIn, F_w4_minIn, F_w5_minIn, F_w6_minIn, F_w6_maxIn, F_w5_maxIn, F_w7_minIn, F_w7_maxIn, F_w7_minOut, F_w7_maxOut, F_w8_minIn, F_w8_maxIn, F_w1_minOut, F_w1_maxOut, F_w4_maxIn, F_w5_minOut, F_w5_maxOut, F_w6_minOut, F_w4_minOut, F_w6_maxOut, F_w4_maxOut, F_w8_minOut, F_w8_maxOut, F_w3_minOut, F_w3_maxOut⟩ := id G
  refine MetFree.of_bodySF (plainFor_of_name pn0) hisR ?_
  intro p e s m args below meth c s₁ Bd hml0 hP hK
  obtain ⟨rfl, hZ, hh⟩ := hP
  have hx := Bd.exec
  have hby := Bd.bytes
  have hml : c.maxLocals = 3 := hml0
  have hown : s.vm.findClass "com/example/vipo/vipo/flow/PatternType" = some m.cls := findClass_of_methodNamed Bd.named
  have hnm := (name_of_methodNamed Bd.named Bd.method).1
  have hret := Bd.returns
  have hlk : meth.locks = false := BodyLoose.notSynchronized Bd
  have X0 : Stand p l e ({ frames := 0, cells := 0, slots := 0, locals := 0 } : Room) s m #[(.ref w4), (.int p1), (.int p2)] below meth c s₁ [] 0 0 := Stand.of_body Bd
  have e0 : s₁.heap = h0 := by rw [← hh, Bd.state]; rfl
  have N0 := Fr.nil n0
  have pre0 : ∀ t, Steps p.tables e below (s₁.setTop (mkF m 0 #[.val (.ref w4), .val (.int p1), .val (.int p2)] [])) t → Steps p.tables e below (s₁.setTop (entryFrame m #[(.ref w4), (.int p1), (.int p2)] 3)) t := fun t k => castTop (ef19 m w4 p1 p2) k
  obtain ⟨T1, X1, e1, st1⟩ := getF X0 hx hZ hown (host := "") (Or.inl (hw _ (List.mem_of_getElem? (i := 9) rfl))) Via.refl e0 (F_w4_minIn.ext O0.2) (g := (mkF m 1 #[.val (.ref w4), .val (.int p1), .val (.int p2)] [(.ref w4)])) rfl rfl (hb hby d0_1)
  have pre2 : ∀ t, Steps p.tables e below (T1.setTop (mkF m 5 #[.val (.ref w4), .val (.int p1), .val (.int p2)] [(.int p1), (.int (2 : Int32))])) t → Steps p.tables e below (s₁.setTop (entryFrame m #[(.ref w4), (.int p1), (.int p2)] 3)) t := fun t k => by
    refine pre0 _ ?_
    show Steps p.tables e below (s₁.setTop (mkF m 0 #[.val (.ref w4), .val (.int p1), .val (.int p2)] [])) _
    refine XS.aloadN X0.here hx rfl (hb hby d0_0) rfl rfl ?_
    show Steps p.tables e below (s₁.setTop (mkF m 1 #[.val (.ref w4), .val (.int p1), .val (.int p2)] [(.ref w4)])) _
    refine st1 _ ?_
    show Steps p.tables e below (T1.setTop (mkF m 4 #[.val (.ref w4), .val (.int p1), .val (.int p2)] [(.int (2 : Int32))])) _
    refine XS.iloadN X1.here hx rfl (hb hby d0_4) rfl ?_
    exact k
  by_cases hc3 : p1 < (2 : Int32)
  ·
    obtain ⟨fs, hr, hrun, hended, hW, hsame⟩ := X1.leave (v := some (.int (0 : Int32))) (fun h => by rw [hret] at h; cases h)
    refine ⟨_, _, pre2 _ ?_, hrun, hended, _, _, rfl, ?_, ⟨_, rfl⟩, hW, hsame.mono (by decide) (by decide)⟩
    ·
      show Steps p.tables e below (T1.setTop (mkF m 5 #[.val (.ref w4), .val (.int p1), .val (.int p2)] [(.int p1), (.int (2 : Int32))])) _
      refine XS.icmpYes X1.here hx rfl (pc0 := 5) (pc' := 36) rfl (hb hby d0_5) rfl (tlt hc3).2.2.1 (by decide) (by decide) ?_
      show Steps p.tables e below (T1.setTop (mkF m 36 #[.val (.ref w4), .val (.int p1), .val (.int p2)] [])) _
      refine XS.iconst X1.here hx rfl (hb hby d0_36) ?_
      show Steps p.tables e below (T1.setTop (mkF m 37 #[.val (.ref w4), .val (.int p1), .val (.int p2)] [(.int (0 : Int32))])) _
      exact retN X1 hx (t := .boolean) hret (by simp) (hb hby d0_37) hr
    ·
      show Q19 Z w1 w2 w3 w4 w5 w6 w7 w8 p1 p2 h0 n0 _ T1.heap _
      rw [e1]
      exact (Or.inl ⟨hc3, rfl, N0, rfl⟩)
  ·
    obtain ⟨T4, X4, e4, st4⟩ := getF X1 hx hZ hown (host := "") (Or.inl (hw _ (List.mem_of_getElem? (i := 11) rfl))) Via.refl e1 (F_w4_maxIn.ext O0.2) (g := (mkF m 10 #[.val (.ref w4), .val (.int p1), .val (.int p2)] [(.ref w4), (.int p1)])) rfl rfl (hb hby d0_10)
    have pre5 : ∀ t, Steps p.tables e below (T4.setTop (mkF m 13 #[.val (.ref w4), .val (.int p1), .val (.int p2)] [(.int (2 : Int32)), (.int p1)])) t → Steps p.tables e below (s₁.setTop (entryFrame m #[(.ref w4), (.int p1), (.int p2)] 3)) t := fun t k => by
      refine pre2 _ ?_
      show Steps p.tables e below (T1.setTop (mkF m 5 #[.val (.ref w4), .val (.int p1), .val (.int p2)] [(.int p1), (.int (2 : Int32))])) _
      refine XS.icmpNo X1.here hx rfl (hb hby d0_5) rfl (flt hc3).2.2.1 ?_
      show Steps p.tables e below (T1.setTop (mkF m 8 #[.val (.ref w4), .val (.int p1), .val (.int p2)] [])) _
      refine XS.iloadN X1.here hx rfl (hb hby d0_8) rfl ?_
      show Steps p.tables e below (T1.setTop (mkF m 9 #[.val (.ref w4), .val (.int p1), .val (.int p2)] [(.int p1)])) _
      refine XS.aloadN X1.here hx rfl (hb hby d0_9) rfl rfl ?_
      show Steps p.tables e below (T1.setTop (mkF m 10 #[.val (.ref w4), .val (.int p1), .val (.int p2)] [(.ref w4), (.int p1)])) _
      refine st4 _ ?_
      exact k
    by_cases hc6 : (2 : Int32) < p1
    ·
      obtain ⟨fs, hr, hrun, hended, hW, hsame⟩ := X4.leave (v := some (.int (0 : Int32))) (fun h => by rw [hret] at h; cases h)
      refine ⟨_, _, pre5 _ ?_, hrun, hended, _, _, rfl, ?_, ⟨_, rfl⟩, hW, hsame.mono (by decide) (by decide)⟩
      ·
        show Steps p.tables e below (T4.setTop (mkF m 13 #[.val (.ref w4), .val (.int p1), .val (.int p2)] [(.int (2 : Int32)), (.int p1)])) _
        refine XS.icmpYes X4.here hx rfl (pc0 := 13) (pc' := 36) rfl (hb hby d0_13) rfl (tlt hc6).2.2.1 (by decide) (by decide) ?_
        show Steps p.tables e below (T4.setTop (mkF m 36 #[.val (.ref w4), .val (.int p1), .val (.int p2)] [])) _
        refine XS.iconst X4.here hx rfl (hb hby d0_36) ?_
        show Steps p.tables e below (T4.setTop (mkF m 37 #[.val (.ref w4), .val (.int p1), .val (.int p2)] [(.int (0 : Int32))])) _
        exact retN X4 hx (t := .boolean) hret (by simp) (hb hby d0_37) hr
      ·
        show Q19 Z w1 w2 w3 w4 w5 w6 w7 w8 p1 p2 h0 n0 _ T4.heap _
        rw [e4]
        exact (Or.inr (Or.inl ⟨hc3, hc6, rfl, N0, rfl⟩))
    ·
      have hq7 : p1 = (2 : Int32) := (own_geq (n := 2) (k := (2 : Int32)) (by decide) (by have q0 := rng32 p1; have q1 := own_nlt1 (n := 2) (k := (2 : Int32)) (by decide) hc3; have q2 := own_nlt2 (n := 2) (k := (2 : Int32)) (by decide) hc6; omega))
      have pre8 : ∀ t, Steps p.tables e below (T4.setTop (mkF m 13 #[.val (.ref w4), .val (.int (2 : Int32)), .val (.int p2)] [(.int (2 : Int32)), (.int (2 : Int32))])) t → Steps p.tables e below (s₁.setTop (entryFrame m #[(.ref w4), (.int p1), (.int p2)] 3)) t := fun t k => pre5 t (by rw [hq7]; exact k)
      obtain ⟨T9, X9, e9, st9⟩ := getF X4 hx hZ hown (host := "") (Or.inl (hw _ (List.mem_of_getElem? (i := 15) rfl))) Via.refl e4 (F_w4_minOut.ext O0.2) (g := (mkF m 17 #[.val (.ref w4), .val (.int (2 : Int32)), .val (.int p2)] [(.ref w4)])) rfl rfl (hb hby d0_17)
      have pre10 : ∀ t, Steps p.tables e below (T9.setTop (mkF m 21 #[.val (.ref w4), .val (.int (2 : Int32)), .val (.int p2)] [(.int p2), (.int (2 : Int32))])) t → Steps p.tables e below (s₁.setTop (entryFrame m #[(.ref w4), (.int p1), (.int p2)] 3)) t := fun t k => by
        refine pre8 _ ?_
        show Steps p.tables e below (T4.setTop (mkF m 13 #[.val (.ref w4), .val (.int (2 : Int32)), .val (.int p2)] [(.int (2 : Int32)), (.int (2 : Int32))])) _
        refine XS.icmpNo X4.here hx rfl (hb hby d0_13) rfl (flt (by decide : ¬ ((2 : Int32) < (2 : Int32)))).2.2.1 ?_
        show Steps p.tables e below (T4.setTop (mkF m 16 #[.val (.ref w4), .val (.int (2 : Int32)), .val (.int p2)] [])) _
        refine XS.aloadN X4.here hx rfl (hb hby d0_16) rfl rfl ?_
        show Steps p.tables e below (T4.setTop (mkF m 17 #[.val (.ref w4), .val (.int (2 : Int32)), .val (.int p2)] [(.ref w4)])) _
        refine st9 _ ?_
        show Steps p.tables e below (T9.setTop (mkF m 20 #[.val (.ref w4), .val (.int (2 : Int32)), .val (.int p2)] [(.int (2 : Int32))])) _
        refine XS.iloadN X9.here hx rfl (hb hby d0_20) rfl ?_
        exact k
      by_cases hc11 : p2 < (2 : Int32)
      ·
        obtain ⟨fs, hr, hrun, hended, hW, hsame⟩ := X9.leave (v := some (.int (0 : Int32))) (fun h => by rw [hret] at h; cases h)
        refine ⟨_, _, pre10 _ ?_, hrun, hended, _, _, rfl, ?_, ⟨_, rfl⟩, hW, hsame.mono (by decide) (by decide)⟩
        ·
          show Steps p.tables e below (T9.setTop (mkF m 21 #[.val (.ref w4), .val (.int (2 : Int32)), .val (.int p2)] [(.int p2), (.int (2 : Int32))])) _
          refine XS.icmpYes X9.here hx rfl (pc0 := 21) (pc' := 36) rfl (hb hby d0_21) rfl (tlt hc11).2.2.1 (by decide) (by decide) ?_
          show Steps p.tables e below (T9.setTop (mkF m 36 #[.val (.ref w4), .val (.int (2 : Int32)), .val (.int p2)] [])) _
          refine XS.iconst X9.here hx rfl (hb hby d0_36) ?_
          show Steps p.tables e below (T9.setTop (mkF m 37 #[.val (.ref w4), .val (.int (2 : Int32)), .val (.int p2)] [(.int (0 : Int32))])) _
          exact retN X9 hx (t := .boolean) hret (by simp) (hb hby d0_37) hr
        ·
          show Q19 Z w1 w2 w3 w4 w5 w6 w7 w8 p1 p2 h0 n0 _ T9.heap _
          rw [e9]
          exact (Or.inr (Or.inr (Or.inl ⟨hc3, hc6, hc11, rfl, N0, rfl⟩)))
      ·
        obtain ⟨T12, X12, e12, st12⟩ := getF X9 hx hZ hown (host := "") (Or.inl (hw _ (List.mem_of_getElem? (i := 17) rfl))) Via.refl e9 (F_w4_maxOut.ext O0.2) (g := (mkF m 26 #[.val (.ref w4), .val (.int (2 : Int32)), .val (.int p2)] [(.ref w4), (.int p2)])) rfl rfl (hb hby d0_26)
        have pre13 : ∀ t, Steps p.tables e below (T12.setTop (mkF m 29 #[.val (.ref w4), .val (.int (2 : Int32)), .val (.int p2)] [(.int (2 : Int32)), (.int p2)])) t → Steps p.tables e below (s₁.setTop (entryFrame m #[(.ref w4), (.int p1), (.int p2)] 3)) t := fun t k => by
          refine pre10 _ ?_
          show Steps p.tables e below (T9.setTop (mkF m 21 #[.val (.ref w4), .val (.int (2 : Int32)), .val (.int p2)] [(.int p2), (.int (2 : Int32))])) _
          refine XS.icmpNo X9.here hx rfl (hb hby d0_21) rfl (flt hc11).2.2.1 ?_
          show Steps p.tables e below (T9.setTop (mkF m 24 #[.val (.ref w4), .val (.int (2 : Int32)), .val (.int p2)] [])) _
          refine XS.iloadN X9.here hx rfl (hb hby d0_24) rfl ?_
          show Steps p.tables e below (T9.setTop (mkF m 25 #[.val (.ref w4), .val (.int (2 : Int32)), .val (.int p2)] [(.int p2)])) _
          refine XS.aloadN X9.here hx rfl (hb hby d0_25) rfl rfl ?_
          show Steps p.tables e below (T9.setTop (mkF m 26 #[.val (.ref w4), .val (.int (2 : Int32)), .val (.int p2)] [(.ref w4), (.int p2)])) _
          refine st12 _ ?_
          exact k
        by_cases hc14 : (2 : Int32) < p2
        ·
          obtain ⟨fs, hr, hrun, hended, hW, hsame⟩ := X12.leave (v := some (.int (0 : Int32))) (fun h => by rw [hret] at h; cases h)
          refine ⟨_, _, pre13 _ ?_, hrun, hended, _, _, rfl, ?_, ⟨_, rfl⟩, hW, hsame.mono (by decide) (by decide)⟩
          ·
            show Steps p.tables e below (T12.setTop (mkF m 29 #[.val (.ref w4), .val (.int (2 : Int32)), .val (.int p2)] [(.int (2 : Int32)), (.int p2)])) _
            refine XS.icmpYes X12.here hx rfl (pc0 := 29) (pc' := 36) rfl (hb hby d0_29) rfl (tlt hc14).2.2.1 (by decide) (by decide) ?_
            show Steps p.tables e below (T12.setTop (mkF m 36 #[.val (.ref w4), .val (.int (2 : Int32)), .val (.int p2)] [])) _
            refine XS.iconst X12.here hx rfl (hb hby d0_36) ?_
            show Steps p.tables e below (T12.setTop (mkF m 37 #[.val (.ref w4), .val (.int (2 : Int32)), .val (.int p2)] [(.int (0 : Int32))])) _
            exact retN X12 hx (t := .boolean) hret (by simp) (hb hby d0_37) hr
          ·
            show Q19 Z w1 w2 w3 w4 w5 w6 w7 w8 p1 p2 h0 n0 _ T12.heap _
            rw [e12]
            exact (Or.inr (Or.inr (Or.inr (Or.inl ⟨hc3, hc6, hc11, hc14, rfl, N0, rfl⟩))))
        ·
          have hq15 : p2 = (2 : Int32) := (own_geq (n := 2) (k := (2 : Int32)) (by decide) (by have q0 := rng32 p2; have q1 := own_nlt1 (n := 2) (k := (2 : Int32)) (by decide) hc11; have q2 := own_nlt2 (n := 2) (k := (2 : Int32)) (by decide) hc14; omega))
          have pre16 : ∀ t, Steps p.tables e below (T12.setTop (mkF m 29 #[.val (.ref w4), .val (.int (2 : Int32)), .val (.int (2 : Int32))] [(.int (2 : Int32)), (.int (2 : Int32))])) t → Steps p.tables e below (s₁.setTop (entryFrame m #[(.ref w4), (.int p1), (.int p2)] 3)) t := fun t k => pre13 t (by rw [hq15]; exact k)
          obtain ⟨fs, hr, hrun, hended, hW, hsame⟩ := X12.leave (v := some (.int (1 : Int32))) (fun h => by rw [hret] at h; cases h)
          refine ⟨_, _, pre16 _ ?_, hrun, hended, _, _, rfl, ?_, ⟨_, rfl⟩, hW, hsame.mono (by decide) (by decide)⟩
          ·
            show Steps p.tables e below (T12.setTop (mkF m 29 #[.val (.ref w4), .val (.int (2 : Int32)), .val (.int (2 : Int32))] [(.int (2 : Int32)), (.int (2 : Int32))])) _
            refine XS.icmpNo X12.here hx rfl (hb hby d0_29) rfl (flt (by decide : ¬ ((2 : Int32) < (2 : Int32)))).2.2.1 ?_
            show Steps p.tables e below (T12.setTop (mkF m 32 #[.val (.ref w4), .val (.int (2 : Int32)), .val (.int (2 : Int32))] [])) _
            refine XS.iconst X12.here hx rfl (hb hby d0_32) ?_
            show Steps p.tables e below (T12.setTop (mkF m 33 #[.val (.ref w4), .val (.int (2 : Int32)), .val (.int (2 : Int32))] [(.int (1 : Int32))])) _
            refine XS.goto X12.here hx rfl (pc0 := 33) (pc' := 37) rfl (hb hby d0_33) (by decide) (by decide) ?_
            show Steps p.tables e below (T12.setTop (mkF m 37 #[.val (.ref w4), .val (.int (2 : Int32)), .val (.int (2 : Int32))] [(.int (1 : Int32))])) _
            exact retN X12 hx (t := .boolean) hret (by simp) (hb hby d0_37) hr
          ·
            show Q19 Z w1 w2 w3 w4 w5 w6 w7 w8 p1 p2 h0 n0 _ T12.heap _
            rw [e12]
            exact (Or.inr (Or.inr (Or.inr (Or.inr ⟨hc3, hc6, hc11, hc14, rfl, N0, rfl⟩))))
theorem pn1 : plainName "com/example/vipo/vipo/flow/PatternTypeAdmitsDegreePinLaw" = true := by first | (simp [plainName, overriddenIn]; done) | decide +kernel
theorem ef0 (m : MethodId) (x0 : Int32) (x1 : Int32) (x2 : Int32) : entryFrame m #[(.int x0), (.int x1), (.int x2)] maxLocals = mkF m 0 #[.val (.int x0), .val (.int x1), .val (.int x2), .unset, .unset, .unset] [] := by first | (simp [entryFrame, mkF, argsToLocals, Value.category, maxLocals]; done) | rfl
set_option maxRecDepth 65536 in
set_option maxHeartbeats 40000000 in
theorem rm0 (l : Launch) (Z : State) (a0 : Array Value) (hw : ∀ d ∈ tables_1, d.before a0 Z = true) (w1 : Addr) (w2 : Addr) (w3 : Addr) (w4 : Addr) (w5 : Addr) (w6 : Addr) (w7 : Addr) (w8 : Addr) (G : GW Z w1 w2 w3 w4 w5 w6 w7 w8) (ws : List Jvm.Cond) (p1 : Int32) (p2 : Int32) (p3 : Int32) (h0 : Heap) (n0 : Nat) (O0 : Old Z n0 h0) :
    MetFree l x (head1 (Jvm.Cond.code x code maxLocals ret :: ws) room_1) (fun a U => a = #[(.int p1), (.int p2), (.int p3)] ∧ Z.Warmed39 U.vm ∧ U.heap = h0) (fun _ _ _ _ _ => True) (fun _ U o U' => ∃ v L, o = .returned v ∧ Q0 n0 v U'.heap L ∧ FrameEnd U o U' L 0 0) := by
  obtain ⟨S_w1, E_w1, S_w2, E_w2, S_w3, E_w3, S_w4, E_w4, S_w5, E_w5, S_w6, E_w6, S_w7, E_w7, S_w8, E_w8, F_w1_minIn, F_w1_maxIn, F_w2_minIn, F_w2_maxIn, F_w2_minOut, F_w2_maxOut, F_w3_minIn, F_w3_maxIn, F_w4_minIn, F_w5_minIn, F_w6_minIn, F_w6_maxIn, F_w5_maxIn, F_w7_minIn, F_w7_maxIn, F_w7_minOut, F_w7_maxOut, F_w8_minIn, F_w8_maxIn, F_w1_minOut, F_w1_maxOut, F_w4_maxIn, F_w5_minOut, F_w5_maxOut, F_w6_minOut, F_w4_minOut, F_w6_maxOut, F_w4_maxOut, F_w8_minOut, F_w8_maxOut, F_w3_minOut, F_w3_maxOut⟩ := id G
  refine MetFree.of_bodySF (plainFor_of_name pn1) hisR ?_
  intro p e s m args below meth c s₁ Bd hml0 hP hK
  obtain ⟨rfl, hZ, hh⟩ := hP
  have hx := Bd.exec
  have hby := Bd.bytes
  have hml : c.maxLocals = 6 := hml0
  have hown : s.vm.findClass "com/example/vipo/vipo/flow/PatternTypeAdmitsDegreePinLaw" = some m.cls := findClass_of_methodNamed Bd.named
  have hnm := (name_of_methodNamed Bd.named Bd.method).1
  have hret := Bd.returns
  have hlk : meth.locks = false := BodyLoose.notSynchronized Bd
  have X0 : Stand p l e room_1 s m #[(.int p1), (.int p2), (.int p3)] below meth c s₁ [] 0 0 := Stand.of_body Bd
  have e0 : s₁.heap = h0 := by rw [← hh, Bd.state]; rfl
  have N0 := Fr.nil n0
  have pre0 : ∀ t, Steps p.tables e below (s₁.setTop (mkF m 0 #[.val (.int p1), .val (.int p2), .val (.int p3), .unset, .unset, .unset] [])) t → Steps p.tables e below (s₁.setTop (entryFrame m #[(.int p1), (.int p2), (.int p3)] maxLocals)) t := fun t k => castTop (ef0 m p1 p2 p3) k
  have pre1 : ∀ t, Steps p.tables e below (s₁.setTop (mkF m 9 #[.val (.int p1), .val (.int p2), .val (.int p3), .val (.int ((p1 &&& (2147483647 : Int32)) % (8 : Int32))), .unset, .unset] [(.int ((p1 &&& (2147483647 : Int32)) % (8 : Int32)))])) t → Steps p.tables e below (s₁.setTop (entryFrame m #[(.int p1), (.int p2), (.int p3)] maxLocals)) t := fun t k => by
    refine pre0 _ ?_
    show Steps p.tables e below (s₁.setTop (mkF m 0 #[.val (.int p1), .val (.int p2), .val (.int p3), .unset, .unset, .unset] [])) _
    refine XS.iloadN X0.here hx rfl (hb hby at_0) rfl ?_
    show Steps p.tables e below (s₁.setTop (mkF m 1 #[.val (.int p1), .val (.int p2), .val (.int p3), .unset, .unset, .unset] [(.int p1)])) _
    refine X0.ldcInt hx hown (mvT hZ (hw _ (List.mem_of_getElem? (i := 0) rfl))) (g := (mkF m 1 #[.val (.int p1), .val (.int p2), .val (.int p3), .unset, .unset, .unset] [(.int p1)])) rfl (hb hby at_1) _ ?_
    show Steps p.tables e below (s₁.setTop (mkF m 3 #[.val (.int p1), .val (.int p2), .val (.int p3), .unset, .unset, .unset] [(.int (2147483647 : Int32)), (.int p1)])) _
    refine XS.iand X0.here hx rfl (hb hby at_3) rfl ?_
    show Steps p.tables e below (s₁.setTop (mkF m 4 #[.val (.int p1), .val (.int p2), .val (.int p3), .unset, .unset, .unset] [(.int (p1 &&& (2147483647 : Int32)))])) _
    refine XS.bipush X0.here hx rfl (hb hby at_4) ?_
    show Steps p.tables e below (s₁.setTop (mkF m 6 #[.val (.int p1), .val (.int p2), .val (.int p3), .unset, .unset, .unset] [(.int (8 : Int32)), (.int (p1 &&& (2147483647 : Int32)))])) _
    refine iremM X0 hx rfl (hb hby at_6) rfl (by decide : ¬ ((8 : Int32) = (0 : Int32))) ?_
    show Steps p.tables e below (s₁.setTop (mkF m 7 #[.val (.int p1), .val (.int p2), .val (.int p3), .unset, .unset, .unset] [(.int ((p1 &&& (2147483647 : Int32)) % (8 : Int32)))])) _
    refine XS.istoreN X0.here hx rfl (hb hby at_7) rfl (l' := #[.val (.int p1), .val (.int p2), .val (.int p3), .val (.int ((p1 &&& (2147483647 : Int32)) % (8 : Int32))), .unset, .unset]) rfl ?_
    show Steps p.tables e below (s₁.setTop (mkF m 8 #[.val (.int p1), .val (.int p2), .val (.int p3), .val (.int ((p1 &&& (2147483647 : Int32)) % (8 : Int32))), .unset, .unset] [])) _
    refine XS.iloadN X0.here hx rfl (hb hby at_8) rfl ?_
    exact k
  by_cases hc2 : ((p1 &&& (2147483647 : Int32)) % (8 : Int32)) = (0 : Int32)
  ·
    have pre3 : ∀ t, Steps p.tables e below (s₁.setTop (mkF m 9 #[.val (.int p1), .val (.int p2), .val (.int p3), .val (.int (0 : Int32)), .unset, .unset] [(.int (0 : Int32))])) t → Steps p.tables e below (s₁.setTop (entryFrame m #[(.int p1), (.int p2), (.int p3)] maxLocals)) t := fun t k => pre1 t (by rw [hc2]; exact k)
    obtain ⟨T4, X4, e4, st4⟩ := getS2 X0 hx hZ hown (host := "") (Or.inl (hw _ (List.mem_of_getElem? (i := 1) rfl))) Via.refl e0 (S_w1.ext O0.2) (g := (mkF m 12 #[.val (.int p1), .val (.int p2), .val (.int p3), .val (.int (0 : Int32)), .unset, .unset] [])) rfl (hb hby at_12)
    have pre5 : ∀ t, Steps p.tables e below (T4.setTop (mkF m 18 #[.val (.int p1), .val (.int p2), .val (.int p3), .val (.int (0 : Int32)), .val (.ref w1), .unset] [(.int p2)])) t → Steps p.tables e below (s₁.setTop (entryFrame m #[(.int p1), (.int p2), (.int p3)] maxLocals)) t := fun t k => by
      refine pre3 _ ?_
      show Steps p.tables e below (s₁.setTop (mkF m 9 #[.val (.int p1), .val (.int p2), .val (.int p3), .val (.int (0 : Int32)), .unset, .unset] [(.int (0 : Int32))])) _
      refine XS.ifNo X0.here hx rfl (hb hby at_9) rfl ((if0 _ _).trans (teq (by decide : (0 : Int32) = (0 : Int32))).2) ?_
      show Steps p.tables e below (s₁.setTop (mkF m 12 #[.val (.int p1), .val (.int p2), .val (.int p3), .val (.int (0 : Int32)), .unset, .unset] [])) _
      refine st4 _ ?_
      show Steps p.tables e below (T4.setTop (mkF m 15 #[.val (.int p1), .val (.int p2), .val (.int p3), .val (.int (0 : Int32)), .unset, .unset] [(.ref w1)])) _
      refine XS.astore X4.here hx rfl (hb hby at_15) rfl rfl (l' := #[.val (.int p1), .val (.int p2), .val (.int p3), .val (.int (0 : Int32)), .val (.ref w1), .unset]) rfl ?_
      show Steps p.tables e below (T4.setTop (mkF m 17 #[.val (.int p1), .val (.int p2), .val (.int p3), .val (.int (0 : Int32)), .val (.ref w1), .unset] [])) _
      refine XS.iloadN X4.here hx rfl (hb hby at_17) rfl ?_
      exact k
    by_cases hc6 : p2 = (0 : Int32)
    ·
      have pre7 : ∀ t, Steps p.tables e below (T4.setTop (mkF m 18 #[.val (.int p1), .val (.int (0 : Int32)), .val (.int p3), .val (.int (0 : Int32)), .val (.ref w1), .unset] [(.int (0 : Int32))])) t → Steps p.tables e below (s₁.setTop (entryFrame m #[(.int p1), (.int p2), (.int p3)] maxLocals)) t := fun t k => pre5 t (by rw [hc6]; exact k)
      have pre8 : ∀ t, Steps p.tables e below (T4.setTop (mkF m 22 #[.val (.int p1), .val (.int (0 : Int32)), .val (.int p3), .val (.int (0 : Int32)), .val (.ref w1), .unset] [(.int p3)])) t → Steps p.tables e below (s₁.setTop (entryFrame m #[(.int p1), (.int p2), (.int p3)] maxLocals)) t := fun t k => by
        refine pre7 _ ?_
        show Steps p.tables e below (T4.setTop (mkF m 18 #[.val (.int p1), .val (.int (0 : Int32)), .val (.int p3), .val (.int (0 : Int32)), .val (.ref w1), .unset] [(.int (0 : Int32))])) _
        refine XS.ifNo X4.here hx rfl (hb hby at_18) rfl ((if0 _ _).trans (teq (by decide : (0 : Int32) = (0 : Int32))).2) ?_
        show Steps p.tables e below (T4.setTop (mkF m 21 #[.val (.int p1), .val (.int (0 : Int32)), .val (.int p3), .val (.int (0 : Int32)), .val (.ref w1), .unset] [])) _
        refine XS.iloadN X4.here hx rfl (hb hby at_21) rfl ?_
        exact k
      by_cases hc9 : p3 < (0 : Int32)
      ·
        obtain ⟨cq10, kq10, q10a, q10b, q10c⟩ := isOf hZ e4 (E_w1.ext O0.2)
        obtain ⟨_, _, ⟨T11, L11, c11, n11⟩, -, X11, ⟨Lc11, hQ11, l11, y11, z11⟩, st11⟩ := X4.virtualBack hx (y := (⟨"com/example/vipo/vipo/flow/PatternType", "admitsDegree", "(II)Z"⟩ : MethodName)) (z := (⟨"com/example/vipo/vipo/flow/PatternType", "admitsDegree", "(II)Z"⟩ : MethodName)) hown (mvT hZ (hw _ (List.mem_of_getElem? (i := 4) rfl))) (mvT hZ (hw _ (List.mem_of_getElem? (i := 5) rfl))) (notFace_of_selects (args := #[]) (mvT hZ (hw _ (List.mem_of_getElem? (i := 7) rfl)))) (mvT hZ (hw _ (List.mem_of_getElem? (i := 7) rfl))) (mvT hZ (hw _ (List.mem_of_getElem? (i := 6) rfl))) (by decide) (backOf (W := 0) (rm1 l Z a0 hw w1 w2 w3 w4 w5 w6 w7 w8 G [] p3 h0 n0 O0 ) hZ (hw _ (List.mem_of_getElem? (i := 8) rfl)) (hw _ (List.mem_of_getElem? (i := 2) rfl)) (by decide) (by decide)) q10a q10c (g := (mkF m 240 #[.val (.int p1), .val (.int (0 : Int32)), .val (.int p3), .val (.int (0 : Int32)), .val (.ref w1), .val (.int (0 : Int32))] [(.int p3), (.int (0 : Int32)), (.ref w1)])) rfl (by rw [hml]; rfl) (Steps.refl _) (argsL := [(.int (0 : Int32)), (.int p3)]) (rest := []) (lenOf pd0 rfl) rfl (by show 2 * 0 + _ ≤ _; exact Nat.le_of_eq rfl) (hb hby at_240) (fun _ _ => ⟨rfl, e4, (by decide : 0 + 0 ≤ _), (by decide : 0 + 0 ≤ _)⟩)
        dsimp only [Pt.U, Pt.locs, Pt.cells, Pt.slots] at X11 l11 y11 z11 st11 hQ11
        subst l11 y11 z11
        have pre12 : ∀ t, Steps p.tables e below (T4.setTop (mkF m 240 #[.val (.int p1), .val (.int (0 : Int32)), .val (.int p3), .val (.int (0 : Int32)), .val (.ref w1), .val (.int (0 : Int32))] [(.int p3), (.int (0 : Int32)), (.ref w1)])) t → Steps p.tables e below (s₁.setTop (entryFrame m #[(.int p1), (.int p2), (.int p3)] maxLocals)) t := fun t k => by
          refine pre8 _ ?_
          show Steps p.tables e below (T4.setTop (mkF m 22 #[.val (.int p1), .val (.int (0 : Int32)), .val (.int p3), .val (.int (0 : Int32)), .val (.ref w1), .unset] [(.int p3)])) _
          refine XS.ifYes X4.here hx rfl (pc0 := 22) (pc' := 29) rfl (hb hby at_22) rfl ((if0 _ _).trans (tlt hc9).1) (by decide) (by decide) ?_
          show Steps p.tables e below (T4.setTop (mkF m 29 #[.val (.int p1), .val (.int (0 : Int32)), .val (.int p3), .val (.int (0 : Int32)), .val (.ref w1), .unset] [])) _
          refine XS.iconst X4.here hx rfl (hb hby at_29) ?_
          show Steps p.tables e below (T4.setTop (mkF m 30 #[.val (.int p1), .val (.int (0 : Int32)), .val (.int p3), .val (.int (0 : Int32)), .val (.ref w1), .unset] [(.int (0 : Int32))])) _
          refine XS.istore X4.here hx rfl (hb hby at_30) rfl (l' := #[.val (.int p1), .val (.int (0 : Int32)), .val (.int p3), .val (.int (0 : Int32)), .val (.ref w1), .val (.int (0 : Int32))]) rfl ?_
          show Steps p.tables e below (T4.setTop (mkF m 32 #[.val (.int p1), .val (.int (0 : Int32)), .val (.int p3), .val (.int (0 : Int32)), .val (.ref w1), .val (.int (0 : Int32))] [])) _
          refine XS.goto X4.here hx rfl (pc0 := 32) (pc' := 236) rfl (hb hby at_32) (by decide) (by decide) ?_
          show Steps p.tables e below (T4.setTop (mkF m 236 #[.val (.int p1), .val (.int (0 : Int32)), .val (.int p3), .val (.int (0 : Int32)), .val (.ref w1), .val (.int (0 : Int32))] [])) _
          refine XS.aload X4.here hx rfl (hb hby at_236) rfl rfl ?_
          show Steps p.tables e below (T4.setTop (mkF m 238 #[.val (.int p1), .val (.int (0 : Int32)), .val (.int p3), .val (.int (0 : Int32)), .val (.ref w1), .val (.int (0 : Int32))] [(.ref w1)])) _
          refine XS.iloadN X4.here hx rfl (hb hby at_238) rfl ?_
          show Steps p.tables e below (T4.setTop (mkF m 239 #[.val (.int p1), .val (.int (0 : Int32)), .val (.int p3), .val (.int (0 : Int32)), .val (.ref w1), .val (.int (0 : Int32))] [(.int (0 : Int32)), (.ref w1)])) _
          refine XS.iloadN X4.here hx rfl (hb hby at_239) rfl ?_
          exact k
        have X11 : Stand p l e room_1 s m #[(.int p1), (.int p2), (.int p3)] below meth c T11 _ 0 0 := X11
        rcases hQ11 with ⟨hc13, rfl, Nq14, e15⟩ | ⟨hc16, rfl, Nq17, e18⟩
        ·
          have N11 := Fr.app N0 Nq14
          obtain ⟨fs, hr, hrun, hended, hW, hsame⟩ := X11.leave (v := some (.int (1 : Int32))) (fun h => by rw [hret] at h; cases h)
          refine ⟨_, _, pre12 _ ?_, hrun, hended, _, _, rfl, ?_, ⟨_, rfl⟩, hW, hsame.mono (by decide) (by decide)⟩
          ·
            show Steps p.tables e below (T4.setTop (mkF m 240 #[.val (.int p1), .val (.int (0 : Int32)), .val (.int p3), .val (.int (0 : Int32)), .val (.ref w1), .val (.int (0 : Int32))] [(.int p3), (.int (0 : Int32)), (.ref w1)])) _
            refine st11.trans ?_
            show Steps p.tables e below (T11.setTop (mkF m 243 #[.val (.int p1), .val (.int (0 : Int32)), .val (.int p3), .val (.int (0 : Int32)), .val (.ref w1), .val (.int (0 : Int32))] [(.int (0 : Int32))])) _
            refine XS.iload X11.here hx rfl (hb hby at_243) rfl ?_
            show Steps p.tables e below (T11.setTop (mkF m 245 #[.val (.int p1), .val (.int (0 : Int32)), .val (.int p3), .val (.int (0 : Int32)), .val (.ref w1), .val (.int (0 : Int32))] [(.int (0 : Int32)), (.int (0 : Int32))])) _
            refine XS.icmpNo X11.here hx rfl (hb hby at_245) rfl (teq (by decide : (0 : Int32) = (0 : Int32))).2 ?_
            show Steps p.tables e below (T11.setTop (mkF m 248 #[.val (.int p1), .val (.int (0 : Int32)), .val (.int p3), .val (.int (0 : Int32)), .val (.ref w1), .val (.int (0 : Int32))] [])) _
            refine XS.iconst X11.here hx rfl (hb hby at_248) ?_
            show Steps p.tables e below (T11.setTop (mkF m 249 #[.val (.int p1), .val (.int (0 : Int32)), .val (.int p3), .val (.int (0 : Int32)), .val (.ref w1), .val (.int (0 : Int32))] [(.int (1 : Int32))])) _
            refine XS.goto X11.here hx rfl (pc0 := 249) (pc' := 253) rfl (hb hby at_249) (by decide) (by decide) ?_
            show Steps p.tables e below (T11.setTop (mkF m 253 #[.val (.int p1), .val (.int (0 : Int32)), .val (.int p3), .val (.int (0 : Int32)), .val (.ref w1), .val (.int (0 : Int32))] [(.int (1 : Int32))])) _
            exact retN X11 hx (t := .boolean) hret (by simp) (hb hby at_253) hr
          ·
            show Q0 n0 _ T11.heap _
            rw [e15]
            exact ⟨rfl, N11⟩
        ·
          exact absurd hc9 hc16
      ·
        obtain ⟨cq19, kq19, q19a, q19b, q19c⟩ := isOf hZ e4 (E_w1.ext O0.2)
        obtain ⟨_, _, ⟨T20, L20, c20, n20⟩, -, X20, ⟨Lc20, hQ20, l20, y20, z20⟩, st20⟩ := X4.virtualBack hx (y := (⟨"com/example/vipo/vipo/flow/PatternType", "admitsDegree", "(II)Z"⟩ : MethodName)) (z := (⟨"com/example/vipo/vipo/flow/PatternType", "admitsDegree", "(II)Z"⟩ : MethodName)) hown (mvT hZ (hw _ (List.mem_of_getElem? (i := 4) rfl))) (mvT hZ (hw _ (List.mem_of_getElem? (i := 5) rfl))) (notFace_of_selects (args := #[]) (mvT hZ (hw _ (List.mem_of_getElem? (i := 7) rfl)))) (mvT hZ (hw _ (List.mem_of_getElem? (i := 7) rfl))) (mvT hZ (hw _ (List.mem_of_getElem? (i := 6) rfl))) (by decide) (backOf (W := 0) (rm1 l Z a0 hw w1 w2 w3 w4 w5 w6 w7 w8 G [] p3 h0 n0 O0 ) hZ (hw _ (List.mem_of_getElem? (i := 8) rfl)) (hw _ (List.mem_of_getElem? (i := 2) rfl)) (by decide) (by decide)) q19a q19c (g := (mkF m 240 #[.val (.int p1), .val (.int (0 : Int32)), .val (.int p3), .val (.int (0 : Int32)), .val (.ref w1), .val (.int (1 : Int32))] [(.int p3), (.int (0 : Int32)), (.ref w1)])) rfl (by rw [hml]; rfl) (Steps.refl _) (argsL := [(.int (0 : Int32)), (.int p3)]) (rest := []) (lenOf pd0 rfl) rfl (by show 2 * 0 + _ ≤ _; exact Nat.le_of_eq rfl) (hb hby at_240) (fun _ _ => ⟨rfl, e4, (by decide : 0 + 0 ≤ _), (by decide : 0 + 0 ≤ _)⟩)
        dsimp only [Pt.U, Pt.locs, Pt.cells, Pt.slots] at X20 l20 y20 z20 st20 hQ20
        subst l20 y20 z20
        have pre21 : ∀ t, Steps p.tables e below (T4.setTop (mkF m 240 #[.val (.int p1), .val (.int (0 : Int32)), .val (.int p3), .val (.int (0 : Int32)), .val (.ref w1), .val (.int (1 : Int32))] [(.int p3), (.int (0 : Int32)), (.ref w1)])) t → Steps p.tables e below (s₁.setTop (entryFrame m #[(.int p1), (.int p2), (.int p3)] maxLocals)) t := fun t k => by
          refine pre8 _ ?_
          show Steps p.tables e below (T4.setTop (mkF m 22 #[.val (.int p1), .val (.int (0 : Int32)), .val (.int p3), .val (.int (0 : Int32)), .val (.ref w1), .unset] [(.int p3)])) _
          refine XS.ifNo X4.here hx rfl (hb hby at_22) rfl ((if0 _ _).trans (flt hc9).1) ?_
          show Steps p.tables e below (T4.setTop (mkF m 25 #[.val (.int p1), .val (.int (0 : Int32)), .val (.int p3), .val (.int (0 : Int32)), .val (.ref w1), .unset] [])) _
          refine XS.iconst X4.here hx rfl (hb hby at_25) ?_
          show Steps p.tables e below (T4.setTop (mkF m 26 #[.val (.int p1), .val (.int (0 : Int32)), .val (.int p3), .val (.int (0 : Int32)), .val (.ref w1), .unset] [(.int (1 : Int32))])) _
          refine XS.goto X4.here hx rfl (pc0 := 26) (pc' := 30) rfl (hb hby at_26) (by decide) (by decide) ?_
          show Steps p.tables e below (T4.setTop (mkF m 30 #[.val (.int p1), .val (.int (0 : Int32)), .val (.int p3), .val (.int (0 : Int32)), .val (.ref w1), .unset] [(.int (1 : Int32))])) _
          refine XS.istore X4.here hx rfl (hb hby at_30) rfl (l' := #[.val (.int p1), .val (.int (0 : Int32)), .val (.int p3), .val (.int (0 : Int32)), .val (.ref w1), .val (.int (1 : Int32))]) rfl ?_
          show Steps p.tables e below (T4.setTop (mkF m 32 #[.val (.int p1), .val (.int (0 : Int32)), .val (.int p3), .val (.int (0 : Int32)), .val (.ref w1), .val (.int (1 : Int32))] [])) _
          refine XS.goto X4.here hx rfl (pc0 := 32) (pc' := 236) rfl (hb hby at_32) (by decide) (by decide) ?_
          show Steps p.tables e below (T4.setTop (mkF m 236 #[.val (.int p1), .val (.int (0 : Int32)), .val (.int p3), .val (.int (0 : Int32)), .val (.ref w1), .val (.int (1 : Int32))] [])) _
          refine XS.aload X4.here hx rfl (hb hby at_236) rfl rfl ?_
          show Steps p.tables e below (T4.setTop (mkF m 238 #[.val (.int p1), .val (.int (0 : Int32)), .val (.int p3), .val (.int (0 : Int32)), .val (.ref w1), .val (.int (1 : Int32))] [(.ref w1)])) _
          refine XS.iloadN X4.here hx rfl (hb hby at_238) rfl ?_
          show Steps p.tables e below (T4.setTop (mkF m 239 #[.val (.int p1), .val (.int (0 : Int32)), .val (.int p3), .val (.int (0 : Int32)), .val (.ref w1), .val (.int (1 : Int32))] [(.int (0 : Int32)), (.ref w1)])) _
          refine XS.iloadN X4.here hx rfl (hb hby at_239) rfl ?_
          exact k
        have X20 : Stand p l e room_1 s m #[(.int p1), (.int p2), (.int p3)] below meth c T20 _ 0 0 := X20
        rcases hQ20 with ⟨hc22, rfl, Nq23, e24⟩ | ⟨hc25, rfl, Nq26, e27⟩
        ·
          exact absurd hc22 hc9
        ·
          have N20 := Fr.app N0 Nq26
          obtain ⟨fs, hr, hrun, hended, hW, hsame⟩ := X20.leave (v := some (.int (1 : Int32))) (fun h => by rw [hret] at h; cases h)
          refine ⟨_, _, pre21 _ ?_, hrun, hended, _, _, rfl, ?_, ⟨_, rfl⟩, hW, hsame.mono (by decide) (by decide)⟩
          ·
            show Steps p.tables e below (T4.setTop (mkF m 240 #[.val (.int p1), .val (.int (0 : Int32)), .val (.int p3), .val (.int (0 : Int32)), .val (.ref w1), .val (.int (1 : Int32))] [(.int p3), (.int (0 : Int32)), (.ref w1)])) _
            refine st20.trans ?_
            show Steps p.tables e below (T20.setTop (mkF m 243 #[.val (.int p1), .val (.int (0 : Int32)), .val (.int p3), .val (.int (0 : Int32)), .val (.ref w1), .val (.int (1 : Int32))] [(.int (1 : Int32))])) _
            refine XS.iload X20.here hx rfl (hb hby at_243) rfl ?_
            show Steps p.tables e below (T20.setTop (mkF m 245 #[.val (.int p1), .val (.int (0 : Int32)), .val (.int p3), .val (.int (0 : Int32)), .val (.ref w1), .val (.int (1 : Int32))] [(.int (1 : Int32)), (.int (1 : Int32))])) _
            refine XS.icmpNo X20.here hx rfl (hb hby at_245) rfl (teq (by decide : (1 : Int32) = (1 : Int32))).2 ?_
            show Steps p.tables e below (T20.setTop (mkF m 248 #[.val (.int p1), .val (.int (0 : Int32)), .val (.int p3), .val (.int (0 : Int32)), .val (.ref w1), .val (.int (1 : Int32))] [])) _
            refine XS.iconst X20.here hx rfl (hb hby at_248) ?_
            show Steps p.tables e below (T20.setTop (mkF m 249 #[.val (.int p1), .val (.int (0 : Int32)), .val (.int p3), .val (.int (0 : Int32)), .val (.ref w1), .val (.int (1 : Int32))] [(.int (1 : Int32))])) _
            refine XS.goto X20.here hx rfl (pc0 := 249) (pc' := 253) rfl (hb hby at_249) (by decide) (by decide) ?_
            show Steps p.tables e below (T20.setTop (mkF m 253 #[.val (.int p1), .val (.int (0 : Int32)), .val (.int p3), .val (.int (0 : Int32)), .val (.ref w1), .val (.int (1 : Int32))] [(.int (1 : Int32))])) _
            exact retN X20 hx (t := .boolean) hret (by simp) (hb hby at_253) hr
          ·
            show Q0 n0 _ T20.heap _
            rw [e27]
            exact ⟨rfl, N20⟩
    ·
      obtain ⟨cq28, kq28, q28a, q28b, q28c⟩ := isOf hZ e4 (E_w1.ext O0.2)
      obtain ⟨_, _, ⟨T29, L29, c29, n29⟩, -, X29, ⟨Lc29, hQ29, l29, y29, z29⟩, st29⟩ := X4.virtualBack hx (y := (⟨"com/example/vipo/vipo/flow/PatternType", "admitsDegree", "(II)Z"⟩ : MethodName)) (z := (⟨"com/example/vipo/vipo/flow/PatternType", "admitsDegree", "(II)Z"⟩ : MethodName)) hown (mvT hZ (hw _ (List.mem_of_getElem? (i := 4) rfl))) (mvT hZ (hw _ (List.mem_of_getElem? (i := 5) rfl))) (notFace_of_selects (args := #[]) (mvT hZ (hw _ (List.mem_of_getElem? (i := 7) rfl)))) (mvT hZ (hw _ (List.mem_of_getElem? (i := 7) rfl))) (mvT hZ (hw _ (List.mem_of_getElem? (i := 6) rfl))) (by decide) (backOf (W := 0) (rm2 l Z a0 hw w1 w2 w3 w4 w5 w6 w7 w8 G [] p2 p3 h0 n0 O0 ) hZ (hw _ (List.mem_of_getElem? (i := 8) rfl)) (hw _ (List.mem_of_getElem? (i := 2) rfl)) (by decide) (by decide)) q28a q28c (g := (mkF m 240 #[.val (.int p1), .val (.int p2), .val (.int p3), .val (.int (0 : Int32)), .val (.ref w1), .val (.int (0 : Int32))] [(.int p3), (.int p2), (.ref w1)])) rfl (by rw [hml]; rfl) (Steps.refl _) (argsL := [(.int p2), (.int p3)]) (rest := []) (lenOf pd0 rfl) rfl (by show 2 * 0 + _ ≤ _; exact Nat.le_of_eq rfl) (hb hby at_240) (fun _ _ => ⟨rfl, e4, (by decide : 0 + 0 ≤ _), (by decide : 0 + 0 ≤ _)⟩)
      dsimp only [Pt.U, Pt.locs, Pt.cells, Pt.slots] at X29 l29 y29 z29 st29 hQ29
      subst l29 y29 z29
      have pre30 : ∀ t, Steps p.tables e below (T4.setTop (mkF m 240 #[.val (.int p1), .val (.int p2), .val (.int p3), .val (.int (0 : Int32)), .val (.ref w1), .val (.int (0 : Int32))] [(.int p3), (.int p2), (.ref w1)])) t → Steps p.tables e below (s₁.setTop (entryFrame m #[(.int p1), (.int p2), (.int p3)] maxLocals)) t := fun t k => by
        refine pre5 _ ?_
        show Steps p.tables e below (T4.setTop (mkF m 18 #[.val (.int p1), .val (.int p2), .val (.int p3), .val (.int (0 : Int32)), .val (.ref w1), .unset] [(.int p2)])) _
        refine XS.ifYes X4.here hx rfl (pc0 := 18) (pc' := 29) rfl (hb hby at_18) rfl ((if0 _ _).trans (feq hc6).2) (by decide) (by decide) ?_
        show Steps p.tables e below (T4.setTop (mkF m 29 #[.val (.int p1), .val (.int p2), .val (.int p3), .val (.int (0 : Int32)), .val (.ref w1), .unset] [])) _
        refine XS.iconst X4.here hx rfl (hb hby at_29) ?_
        show Steps p.tables e below (T4.setTop (mkF m 30 #[.val (.int p1), .val (.int p2), .val (.int p3), .val (.int (0 : Int32)), .val (.ref w1), .unset] [(.int (0 : Int32))])) _
        refine XS.istore X4.here hx rfl (hb hby at_30) rfl (l' := #[.val (.int p1), .val (.int p2), .val (.int p3), .val (.int (0 : Int32)), .val (.ref w1), .val (.int (0 : Int32))]) rfl ?_
        show Steps p.tables e below (T4.setTop (mkF m 32 #[.val (.int p1), .val (.int p2), .val (.int p3), .val (.int (0 : Int32)), .val (.ref w1), .val (.int (0 : Int32))] [])) _
        refine XS.goto X4.here hx rfl (pc0 := 32) (pc' := 236) rfl (hb hby at_32) (by decide) (by decide) ?_
        show Steps p.tables e below (T4.setTop (mkF m 236 #[.val (.int p1), .val (.int p2), .val (.int p3), .val (.int (0 : Int32)), .val (.ref w1), .val (.int (0 : Int32))] [])) _
        refine XS.aload X4.here hx rfl (hb hby at_236) rfl rfl ?_
        show Steps p.tables e below (T4.setTop (mkF m 238 #[.val (.int p1), .val (.int p2), .val (.int p3), .val (.int (0 : Int32)), .val (.ref w1), .val (.int (0 : Int32))] [(.ref w1)])) _
        refine XS.iloadN X4.here hx rfl (hb hby at_238) rfl ?_
        show Steps p.tables e below (T4.setTop (mkF m 239 #[.val (.int p1), .val (.int p2), .val (.int p3), .val (.int (0 : Int32)), .val (.ref w1), .val (.int (0 : Int32))] [(.int p2), (.ref w1)])) _
        refine XS.iloadN X4.here hx rfl (hb hby at_239) rfl ?_
        exact k
      have X29 : Stand p l e room_1 s m #[(.int p1), (.int p2), (.int p3)] below meth c T29 _ 0 0 := X29
      rcases hQ29 with ⟨hc31, rfl, Nq32, e33⟩ | ⟨hc34, hc35, rfl, Nq36, e37⟩ | ⟨hc38, hc39, hc40, rfl, Nq41, e42⟩ | ⟨hc43, hc44, hc45, rfl, Nq46, e47⟩
      ·
        have N29 := Fr.app N0 Nq32
        obtain ⟨fs, hr, hrun, hended, hW, hsame⟩ := X29.leave (v := some (.int (1 : Int32))) (fun h => by rw [hret] at h; cases h)
        refine ⟨_, _, pre30 _ ?_, hrun, hended, _, _, rfl, ?_, ⟨_, rfl⟩, hW, hsame.mono (by decide) (by decide)⟩
        ·
          show Steps p.tables e below (T4.setTop (mkF m 240 #[.val (.int p1), .val (.int p2), .val (.int p3), .val (.int (0 : Int32)), .val (.ref w1), .val (.int (0 : Int32))] [(.int p3), (.int p2), (.ref w1)])) _
          refine st29.trans ?_
          show Steps p.tables e below (T29.setTop (mkF m 243 #[.val (.int p1), .val (.int p2), .val (.int p3), .val (.int (0 : Int32)), .val (.ref w1), .val (.int (0 : Int32))] [(.int (0 : Int32))])) _
          refine XS.iload X29.here hx rfl (hb hby at_243) rfl ?_
          show Steps p.tables e below (T29.setTop (mkF m 245 #[.val (.int p1), .val (.int p2), .val (.int p3), .val (.int (0 : Int32)), .val (.ref w1), .val (.int (0 : Int32))] [(.int (0 : Int32)), (.int (0 : Int32))])) _
          refine XS.icmpNo X29.here hx rfl (hb hby at_245) rfl (teq (by decide : (0 : Int32) = (0 : Int32))).2 ?_
          show Steps p.tables e below (T29.setTop (mkF m 248 #[.val (.int p1), .val (.int p2), .val (.int p3), .val (.int (0 : Int32)), .val (.ref w1), .val (.int (0 : Int32))] [])) _
          refine XS.iconst X29.here hx rfl (hb hby at_248) ?_
          show Steps p.tables e below (T29.setTop (mkF m 249 #[.val (.int p1), .val (.int p2), .val (.int p3), .val (.int (0 : Int32)), .val (.ref w1), .val (.int (0 : Int32))] [(.int (1 : Int32))])) _
          refine XS.goto X29.here hx rfl (pc0 := 249) (pc' := 253) rfl (hb hby at_249) (by decide) (by decide) ?_
          show Steps p.tables e below (T29.setTop (mkF m 253 #[.val (.int p1), .val (.int p2), .val (.int p3), .val (.int (0 : Int32)), .val (.ref w1), .val (.int (0 : Int32))] [(.int (1 : Int32))])) _
          exact retN X29 hx (t := .boolean) hret (by simp) (hb hby at_253) hr
        ·
          show Q0 n0 _ T29.heap _
          rw [e33]
          exact ⟨rfl, N29⟩
      ·
        have N29 := Fr.app N0 Nq36
        obtain ⟨fs, hr, hrun, hended, hW, hsame⟩ := X29.leave (v := some (.int (1 : Int32))) (fun h => by rw [hret] at h; cases h)
        refine ⟨_, _, pre30 _ ?_, hrun, hended, _, _, rfl, ?_, ⟨_, rfl⟩, hW, hsame.mono (by decide) (by decide)⟩
        ·
          show Steps p.tables e below (T4.setTop (mkF m 240 #[.val (.int p1), .val (.int p2), .val (.int p3), .val (.int (0 : Int32)), .val (.ref w1), .val (.int (0 : Int32))] [(.int p3), (.int p2), (.ref w1)])) _
          refine st29.trans ?_
          show Steps p.tables e below (T29.setTop (mkF m 243 #[.val (.int p1), .val (.int p2), .val (.int p3), .val (.int (0 : Int32)), .val (.ref w1), .val (.int (0 : Int32))] [(.int (0 : Int32))])) _
          refine XS.iload X29.here hx rfl (hb hby at_243) rfl ?_
          show Steps p.tables e below (T29.setTop (mkF m 245 #[.val (.int p1), .val (.int p2), .val (.int p3), .val (.int (0 : Int32)), .val (.ref w1), .val (.int (0 : Int32))] [(.int (0 : Int32)), (.int (0 : Int32))])) _
          refine XS.icmpNo X29.here hx rfl (hb hby at_245) rfl (teq (by decide : (0 : Int32) = (0 : Int32))).2 ?_
          show Steps p.tables e below (T29.setTop (mkF m 248 #[.val (.int p1), .val (.int p2), .val (.int p3), .val (.int (0 : Int32)), .val (.ref w1), .val (.int (0 : Int32))] [])) _
          refine XS.iconst X29.here hx rfl (hb hby at_248) ?_
          show Steps p.tables e below (T29.setTop (mkF m 249 #[.val (.int p1), .val (.int p2), .val (.int p3), .val (.int (0 : Int32)), .val (.ref w1), .val (.int (0 : Int32))] [(.int (1 : Int32))])) _
          refine XS.goto X29.here hx rfl (pc0 := 249) (pc' := 253) rfl (hb hby at_249) (by decide) (by decide) ?_
          show Steps p.tables e below (T29.setTop (mkF m 253 #[.val (.int p1), .val (.int p2), .val (.int p3), .val (.int (0 : Int32)), .val (.ref w1), .val (.int (0 : Int32))] [(.int (1 : Int32))])) _
          exact retN X29 hx (t := .boolean) hret (by simp) (hb hby at_253) hr
        ·
          show Q0 n0 _ T29.heap _
          rw [e37]
          exact ⟨rfl, N29⟩
      ·
        exact absurd (own_glt2 (n := 0) (k := (0 : Int32)) (by decide) (by have q0 := rng32 p2; have q1 := own_neq (n := 0) (k := (0 : Int32)) (by decide) hc6; have q2 := own_nlt1 (n := 0) (k := (0 : Int32)) (by decide) hc38; omega)) hc39
      ·
        exact absurd (own_glt2 (n := 0) (k := (0 : Int32)) (by decide) (by have q0 := rng32 p2; have q1 := own_neq (n := 0) (k := (0 : Int32)) (by decide) hc6; have q2 := own_nlt1 (n := 0) (k := (0 : Int32)) (by decide) hc43; omega)) hc44
  ·
    have pre48 : ∀ t, Steps p.tables e below (s₁.setTop (mkF m 37 #[.val (.int p1), .val (.int p2), .val (.int p3), .val (.int ((p1 &&& (2147483647 : Int32)) % (8 : Int32))), .unset, .unset] [(.int (1 : Int32)), (.int ((p1 &&& (2147483647 : Int32)) % (8 : Int32)))])) t → Steps p.tables e below (s₁.setTop (entryFrame m #[(.int p1), (.int p2), (.int p3)] maxLocals)) t := fun t k => by
      refine pre1 _ ?_
      show Steps p.tables e below (s₁.setTop (mkF m 9 #[.val (.int p1), .val (.int p2), .val (.int p3), .val (.int ((p1 &&& (2147483647 : Int32)) % (8 : Int32))), .unset, .unset] [(.int ((p1 &&& (2147483647 : Int32)) % (8 : Int32)))])) _
      refine XS.ifYes X0.here hx rfl (pc0 := 9) (pc' := 35) rfl (hb hby at_9) rfl ((if0 _ _).trans (feq hc2).2) (by decide) (by decide) ?_
      show Steps p.tables e below (s₁.setTop (mkF m 35 #[.val (.int p1), .val (.int p2), .val (.int p3), .val (.int ((p1 &&& (2147483647 : Int32)) % (8 : Int32))), .unset, .unset] [])) _
      refine XS.iloadN X0.here hx rfl (hb hby at_35) rfl ?_
      show Steps p.tables e below (s₁.setTop (mkF m 36 #[.val (.int p1), .val (.int p2), .val (.int p3), .val (.int ((p1 &&& (2147483647 : Int32)) % (8 : Int32))), .unset, .unset] [(.int ((p1 &&& (2147483647 : Int32)) % (8 : Int32)))])) _
      refine XS.iconst X0.here hx rfl (hb hby at_36) ?_
      exact k
    by_cases hc49 : ((p1 &&& (2147483647 : Int32)) % (8 : Int32)) = (1 : Int32)
    ·
      have pre50 : ∀ t, Steps p.tables e below (s₁.setTop (mkF m 37 #[.val (.int p1), .val (.int p2), .val (.int p3), .val (.int (1 : Int32)), .unset, .unset] [(.int (1 : Int32)), (.int (1 : Int32))])) t → Steps p.tables e below (s₁.setTop (entryFrame m #[(.int p1), (.int p2), (.int p3)] maxLocals)) t := fun t k => pre48 t (by rw [hc49]; exact k)
      obtain ⟨T51, X51, e51, st51⟩ := getS2 X0 hx hZ hown (host := "") (Or.inl (hw _ (List.mem_of_getElem? (i := 13) rfl))) Via.refl e0 (S_w2.ext O0.2) (g := (mkF m 40 #[.val (.int p1), .val (.int p2), .val (.int p3), .val (.int (1 : Int32)), .unset, .unset] [])) rfl (hb hby at_40)
      have pre52 : ∀ t, Steps p.tables e below (T51.setTop (mkF m 46 #[.val (.int p1), .val (.int p2), .val (.int p3), .val (.int (1 : Int32)), .val (.ref w2), .unset] [(.int p2)])) t → Steps p.tables e below (s₁.setTop (entryFrame m #[(.int p1), (.int p2), (.int p3)] maxLocals)) t := fun t k => by
        refine pre50 _ ?_
        show Steps p.tables e below (s₁.setTop (mkF m 37 #[.val (.int p1), .val (.int p2), .val (.int p3), .val (.int (1 : Int32)), .unset, .unset] [(.int (1 : Int32)), (.int (1 : Int32))])) _
        refine XS.icmpNo X0.here hx rfl (hb hby at_37) rfl (teq (by decide : (1 : Int32) = (1 : Int32))).2 ?_
        show Steps p.tables e below (s₁.setTop (mkF m 40 #[.val (.int p1), .val (.int p2), .val (.int p3), .val (.int (1 : Int32)), .unset, .unset] [])) _
        refine st51 _ ?_
        show Steps p.tables e below (T51.setTop (mkF m 43 #[.val (.int p1), .val (.int p2), .val (.int p3), .val (.int (1 : Int32)), .unset, .unset] [(.ref w2)])) _
        refine XS.astore X51.here hx rfl (hb hby at_43) rfl rfl (l' := #[.val (.int p1), .val (.int p2), .val (.int p3), .val (.int (1 : Int32)), .val (.ref w2), .unset]) rfl ?_
        show Steps p.tables e below (T51.setTop (mkF m 45 #[.val (.int p1), .val (.int p2), .val (.int p3), .val (.int (1 : Int32)), .val (.ref w2), .unset] [])) _
        refine XS.iloadN X51.here hx rfl (hb hby at_45) rfl ?_
        exact k
      by_cases hc53 : p2 < (0 : Int32)
      ·
        obtain ⟨cq54, kq54, q54a, q54b, q54c⟩ := isOf hZ e51 (E_w2.ext O0.2)
        obtain ⟨_, _, ⟨T55, L55, c55, n55⟩, -, X55, ⟨Lc55, hQ55, l55, y55, z55⟩, st55⟩ := X51.virtualBack hx (y := (⟨"com/example/vipo/vipo/flow/PatternType", "admitsDegree", "(II)Z"⟩ : MethodName)) (z := (⟨"com/example/vipo/vipo/flow/PatternType", "admitsDegree", "(II)Z"⟩ : MethodName)) hown (mvT hZ (hw _ (List.mem_of_getElem? (i := 4) rfl))) (mvT hZ (hw _ (List.mem_of_getElem? (i := 5) rfl))) (notFace_of_selects (args := #[]) (mvT hZ (hw _ (List.mem_of_getElem? (i := 7) rfl)))) (mvT hZ (hw _ (List.mem_of_getElem? (i := 7) rfl))) (mvT hZ (hw _ (List.mem_of_getElem? (i := 6) rfl))) (by decide) (backOf (W := 0) (rm3 l Z a0 hw w1 w2 w3 w4 w5 w6 w7 w8 G [] p2 p3 h0 n0 O0 ) hZ (hw _ (List.mem_of_getElem? (i := 8) rfl)) (hw _ (List.mem_of_getElem? (i := 2) rfl)) (by decide) (by decide)) q54a q54c (g := (mkF m 240 #[.val (.int p1), .val (.int p2), .val (.int p3), .val (.int (1 : Int32)), .val (.ref w2), .val (.int (0 : Int32))] [(.int p3), (.int p2), (.ref w2)])) rfl (by rw [hml]; rfl) (Steps.refl _) (argsL := [(.int p2), (.int p3)]) (rest := []) (lenOf pd0 rfl) rfl (by show 2 * 0 + _ ≤ _; exact Nat.le_of_eq rfl) (hb hby at_240) (fun _ _ => ⟨rfl, e51, (by decide : 0 + 0 ≤ _), (by decide : 0 + 0 ≤ _)⟩)
        dsimp only [Pt.U, Pt.locs, Pt.cells, Pt.slots] at X55 l55 y55 z55 st55 hQ55
        subst l55 y55 z55
        have pre56 : ∀ t, Steps p.tables e below (T51.setTop (mkF m 240 #[.val (.int p1), .val (.int p2), .val (.int p3), .val (.int (1 : Int32)), .val (.ref w2), .val (.int (0 : Int32))] [(.int p3), (.int p2), (.ref w2)])) t → Steps p.tables e below (s₁.setTop (entryFrame m #[(.int p1), (.int p2), (.int p3)] maxLocals)) t := fun t k => by
          refine pre52 _ ?_
          show Steps p.tables e below (T51.setTop (mkF m 46 #[.val (.int p1), .val (.int p2), .val (.int p3), .val (.int (1 : Int32)), .val (.ref w2), .unset] [(.int p2)])) _
          refine XS.ifYes X51.here hx rfl (pc0 := 46) (pc' := 57) rfl (hb hby at_46) rfl ((if0 _ _).trans (tlt hc53).1) (by decide) (by decide) ?_
          show Steps p.tables e below (T51.setTop (mkF m 57 #[.val (.int p1), .val (.int p2), .val (.int p3), .val (.int (1 : Int32)), .val (.ref w2), .unset] [])) _
          refine XS.iconst X51.here hx rfl (hb hby at_57) ?_
          show Steps p.tables e below (T51.setTop (mkF m 58 #[.val (.int p1), .val (.int p2), .val (.int p3), .val (.int (1 : Int32)), .val (.ref w2), .unset] [(.int (0 : Int32))])) _
          refine XS.istore X51.here hx rfl (hb hby at_58) rfl (l' := #[.val (.int p1), .val (.int p2), .val (.int p3), .val (.int (1 : Int32)), .val (.ref w2), .val (.int (0 : Int32))]) rfl ?_
          show Steps p.tables e below (T51.setTop (mkF m 60 #[.val (.int p1), .val (.int p2), .val (.int p3), .val (.int (1 : Int32)), .val (.ref w2), .val (.int (0 : Int32))] [])) _
          refine XS.goto X51.here hx rfl (pc0 := 60) (pc' := 236) rfl (hb hby at_60) (by decide) (by decide) ?_
          show Steps p.tables e below (T51.setTop (mkF m 236 #[.val (.int p1), .val (.int p2), .val (.int p3), .val (.int (1 : Int32)), .val (.ref w2), .val (.int (0 : Int32))] [])) _
          refine XS.aload X51.here hx rfl (hb hby at_236) rfl rfl ?_
          show Steps p.tables e below (T51.setTop (mkF m 238 #[.val (.int p1), .val (.int p2), .val (.int p3), .val (.int (1 : Int32)), .val (.ref w2), .val (.int (0 : Int32))] [(.ref w2)])) _
          refine XS.iloadN X51.here hx rfl (hb hby at_238) rfl ?_
          show Steps p.tables e below (T51.setTop (mkF m 239 #[.val (.int p1), .val (.int p2), .val (.int p3), .val (.int (1 : Int32)), .val (.ref w2), .val (.int (0 : Int32))] [(.int p2), (.ref w2)])) _
          refine XS.iloadN X51.here hx rfl (hb hby at_239) rfl ?_
          exact k
        have X55 : Stand p l e room_1 s m #[(.int p1), (.int p2), (.int p3)] below meth c T55 _ 0 0 := X55
        rcases hQ55 with ⟨hc57, rfl, Nq58, e59⟩ | ⟨hc60, hc61, rfl, Nq62, e63⟩ | ⟨hc64, hc65, hc66, rfl, Nq67, e68⟩ | ⟨hc69, hc70, hc71, rfl, Nq72, e73⟩
        ·
          have N55 := Fr.app N0 Nq58
          obtain ⟨fs, hr, hrun, hended, hW, hsame⟩ := X55.leave (v := some (.int (1 : Int32))) (fun h => by rw [hret] at h; cases h)
          refine ⟨_, _, pre56 _ ?_, hrun, hended, _, _, rfl, ?_, ⟨_, rfl⟩, hW, hsame.mono (by decide) (by decide)⟩
          ·
            show Steps p.tables e below (T51.setTop (mkF m 240 #[.val (.int p1), .val (.int p2), .val (.int p3), .val (.int (1 : Int32)), .val (.ref w2), .val (.int (0 : Int32))] [(.int p3), (.int p2), (.ref w2)])) _
            refine st55.trans ?_
            show Steps p.tables e below (T55.setTop (mkF m 243 #[.val (.int p1), .val (.int p2), .val (.int p3), .val (.int (1 : Int32)), .val (.ref w2), .val (.int (0 : Int32))] [(.int (0 : Int32))])) _
            refine XS.iload X55.here hx rfl (hb hby at_243) rfl ?_
            show Steps p.tables e below (T55.setTop (mkF m 245 #[.val (.int p1), .val (.int p2), .val (.int p3), .val (.int (1 : Int32)), .val (.ref w2), .val (.int (0 : Int32))] [(.int (0 : Int32)), (.int (0 : Int32))])) _
            refine XS.icmpNo X55.here hx rfl (hb hby at_245) rfl (teq (by decide : (0 : Int32) = (0 : Int32))).2 ?_
            show Steps p.tables e below (T55.setTop (mkF m 248 #[.val (.int p1), .val (.int p2), .val (.int p3), .val (.int (1 : Int32)), .val (.ref w2), .val (.int (0 : Int32))] [])) _
            refine XS.iconst X55.here hx rfl (hb hby at_248) ?_
            show Steps p.tables e below (T55.setTop (mkF m 249 #[.val (.int p1), .val (.int p2), .val (.int p3), .val (.int (1 : Int32)), .val (.ref w2), .val (.int (0 : Int32))] [(.int (1 : Int32))])) _
            refine XS.goto X55.here hx rfl (pc0 := 249) (pc' := 253) rfl (hb hby at_249) (by decide) (by decide) ?_
            show Steps p.tables e below (T55.setTop (mkF m 253 #[.val (.int p1), .val (.int p2), .val (.int p3), .val (.int (1 : Int32)), .val (.ref w2), .val (.int (0 : Int32))] [(.int (1 : Int32))])) _
            exact retN X55 hx (t := .boolean) hret (by simp) (hb hby at_253) hr
          ·
            show Q0 n0 _ T55.heap _
            rw [e59]
            exact ⟨rfl, N55⟩
        ·
          exact absurd hc53 hc60
        ·
          exact absurd hc53 hc64
        ·
          exact absurd hc53 hc69
      ·
        have pre74 : ∀ t, Steps p.tables e below (T51.setTop (mkF m 50 #[.val (.int p1), .val (.int p2), .val (.int p3), .val (.int (1 : Int32)), .val (.ref w2), .unset] [(.int p3)])) t → Steps p.tables e below (s₁.setTop (entryFrame m #[(.int p1), (.int p2), (.int p3)] maxLocals)) t := fun t k => by
          refine pre52 _ ?_
          show Steps p.tables e below (T51.setTop (mkF m 46 #[.val (.int p1), .val (.int p2), .val (.int p3), .val (.int (1 : Int32)), .val (.ref w2), .unset] [(.int p2)])) _
          refine XS.ifNo X51.here hx rfl (hb hby at_46) rfl ((if0 _ _).trans (flt hc53).1) ?_
          show Steps p.tables e below (T51.setTop (mkF m 49 #[.val (.int p1), .val (.int p2), .val (.int p3), .val (.int (1 : Int32)), .val (.ref w2), .unset] [])) _
          refine XS.iloadN X51.here hx rfl (hb hby at_49) rfl ?_
          exact k
        by_cases hc75 : p3 = (0 : Int32)
        ·
          have pre76 : ∀ t, Steps p.tables e below (T51.setTop (mkF m 50 #[.val (.int p1), .val (.int p2), .val (.int (0 : Int32)), .val (.int (1 : Int32)), .val (.ref w2), .unset] [(.int (0 : Int32))])) t → Steps p.tables e below (s₁.setTop (entryFrame m #[(.int p1), (.int p2), (.int p3)] maxLocals)) t := fun t k => pre74 t (by rw [hc75]; exact k)
          obtain ⟨cq77, kq77, q77a, q77b, q77c⟩ := isOf hZ e51 (E_w2.ext O0.2)
          obtain ⟨_, _, ⟨T78, L78, c78, n78⟩, -, X78, ⟨Lc78, hQ78, l78, y78, z78⟩, st78⟩ := X51.virtualBack hx (y := (⟨"com/example/vipo/vipo/flow/PatternType", "admitsDegree", "(II)Z"⟩ : MethodName)) (z := (⟨"com/example/vipo/vipo/flow/PatternType", "admitsDegree", "(II)Z"⟩ : MethodName)) hown (mvT hZ (hw _ (List.mem_of_getElem? (i := 4) rfl))) (mvT hZ (hw _ (List.mem_of_getElem? (i := 5) rfl))) (notFace_of_selects (args := #[]) (mvT hZ (hw _ (List.mem_of_getElem? (i := 7) rfl)))) (mvT hZ (hw _ (List.mem_of_getElem? (i := 7) rfl))) (mvT hZ (hw _ (List.mem_of_getElem? (i := 6) rfl))) (by decide) (backOf (W := 0) (rm4 l Z a0 hw w1 w2 w3 w4 w5 w6 w7 w8 G [] p2 h0 n0 O0 ) hZ (hw _ (List.mem_of_getElem? (i := 8) rfl)) (hw _ (List.mem_of_getElem? (i := 2) rfl)) (by decide) (by decide)) q77a q77c (g := (mkF m 240 #[.val (.int p1), .val (.int p2), .val (.int (0 : Int32)), .val (.int (1 : Int32)), .val (.ref w2), .val (.int (1 : Int32))] [(.int (0 : Int32)), (.int p2), (.ref w2)])) rfl (by rw [hml]; rfl) (Steps.refl _) (argsL := [(.int p2), (.int (0 : Int32))]) (rest := []) (lenOf pd0 rfl) rfl (by show 2 * 0 + _ ≤ _; exact Nat.le_of_eq rfl) (hb hby at_240) (fun _ _ => ⟨rfl, e51, (by decide : 0 + 0 ≤ _), (by decide : 0 + 0 ≤ _)⟩)
          dsimp only [Pt.U, Pt.locs, Pt.cells, Pt.slots] at X78 l78 y78 z78 st78 hQ78
          subst l78 y78 z78
          have pre79 : ∀ t, Steps p.tables e below (T51.setTop (mkF m 240 #[.val (.int p1), .val (.int p2), .val (.int (0 : Int32)), .val (.int (1 : Int32)), .val (.ref w2), .val (.int (1 : Int32))] [(.int (0 : Int32)), (.int p2), (.ref w2)])) t → Steps p.tables e below (s₁.setTop (entryFrame m #[(.int p1), (.int p2), (.int p3)] maxLocals)) t := fun t k => by
            refine pre76 _ ?_
            show Steps p.tables e below (T51.setTop (mkF m 50 #[.val (.int p1), .val (.int p2), .val (.int (0 : Int32)), .val (.int (1 : Int32)), .val (.ref w2), .unset] [(.int (0 : Int32))])) _
            refine XS.ifNo X51.here hx rfl (hb hby at_50) rfl ((if0 _ _).trans (teq (by decide : (0 : Int32) = (0 : Int32))).2) ?_
            show Steps p.tables e below (T51.setTop (mkF m 53 #[.val (.int p1), .val (.int p2), .val (.int (0 : Int32)), .val (.int (1 : Int32)), .val (.ref w2), .unset] [])) _
            refine XS.iconst X51.here hx rfl (hb hby at_53) ?_
            show Steps p.tables e below (T51.setTop (mkF m 54 #[.val (.int p1), .val (.int p2), .val (.int (0 : Int32)), .val (.int (1 : Int32)), .val (.ref w2), .unset] [(.int (1 : Int32))])) _
            refine XS.goto X51.here hx rfl (pc0 := 54) (pc' := 58) rfl (hb hby at_54) (by decide) (by decide) ?_
            show Steps p.tables e below (T51.setTop (mkF m 58 #[.val (.int p1), .val (.int p2), .val (.int (0 : Int32)), .val (.int (1 : Int32)), .val (.ref w2), .unset] [(.int (1 : Int32))])) _
            refine XS.istore X51.here hx rfl (hb hby at_58) rfl (l' := #[.val (.int p1), .val (.int p2), .val (.int (0 : Int32)), .val (.int (1 : Int32)), .val (.ref w2), .val (.int (1 : Int32))]) rfl ?_
            show Steps p.tables e below (T51.setTop (mkF m 60 #[.val (.int p1), .val (.int p2), .val (.int (0 : Int32)), .val (.int (1 : Int32)), .val (.ref w2), .val (.int (1 : Int32))] [])) _
            refine XS.goto X51.here hx rfl (pc0 := 60) (pc' := 236) rfl (hb hby at_60) (by decide) (by decide) ?_
            show Steps p.tables e below (T51.setTop (mkF m 236 #[.val (.int p1), .val (.int p2), .val (.int (0 : Int32)), .val (.int (1 : Int32)), .val (.ref w2), .val (.int (1 : Int32))] [])) _
            refine XS.aload X51.here hx rfl (hb hby at_236) rfl rfl ?_
            show Steps p.tables e below (T51.setTop (mkF m 238 #[.val (.int p1), .val (.int p2), .val (.int (0 : Int32)), .val (.int (1 : Int32)), .val (.ref w2), .val (.int (1 : Int32))] [(.ref w2)])) _
            refine XS.iloadN X51.here hx rfl (hb hby at_238) rfl ?_
            show Steps p.tables e below (T51.setTop (mkF m 239 #[.val (.int p1), .val (.int p2), .val (.int (0 : Int32)), .val (.int (1 : Int32)), .val (.ref w2), .val (.int (1 : Int32))] [(.int p2), (.ref w2)])) _
            refine XS.iloadN X51.here hx rfl (hb hby at_239) rfl ?_
            exact k
          have X78 : Stand p l e room_1 s m #[(.int p1), (.int p2), (.int p3)] below meth c T78 _ 0 0 := X78
          rcases hQ78 with ⟨hc80, rfl, Nq81, e82⟩ | ⟨hc83, rfl, Nq84, e85⟩
          ·
            exact absurd hc80 hc53
          ·
            have N78 := Fr.app N0 Nq84
            obtain ⟨fs, hr, hrun, hended, hW, hsame⟩ := X78.leave (v := some (.int (1 : Int32))) (fun h => by rw [hret] at h; cases h)
            refine ⟨_, _, pre79 _ ?_, hrun, hended, _, _, rfl, ?_, ⟨_, rfl⟩, hW, hsame.mono (by decide) (by decide)⟩
            ·
              show Steps p.tables e below (T51.setTop (mkF m 240 #[.val (.int p1), .val (.int p2), .val (.int (0 : Int32)), .val (.int (1 : Int32)), .val (.ref w2), .val (.int (1 : Int32))] [(.int (0 : Int32)), (.int p2), (.ref w2)])) _
              refine st78.trans ?_
              show Steps p.tables e below (T78.setTop (mkF m 243 #[.val (.int p1), .val (.int p2), .val (.int (0 : Int32)), .val (.int (1 : Int32)), .val (.ref w2), .val (.int (1 : Int32))] [(.int (1 : Int32))])) _
              refine XS.iload X78.here hx rfl (hb hby at_243) rfl ?_
              show Steps p.tables e below (T78.setTop (mkF m 245 #[.val (.int p1), .val (.int p2), .val (.int (0 : Int32)), .val (.int (1 : Int32)), .val (.ref w2), .val (.int (1 : Int32))] [(.int (1 : Int32)), (.int (1 : Int32))])) _
              refine XS.icmpNo X78.here hx rfl (hb hby at_245) rfl (teq (by decide : (1 : Int32) = (1 : Int32))).2 ?_
              show Steps p.tables e below (T78.setTop (mkF m 248 #[.val (.int p1), .val (.int p2), .val (.int (0 : Int32)), .val (.int (1 : Int32)), .val (.ref w2), .val (.int (1 : Int32))] [])) _
              refine XS.iconst X78.here hx rfl (hb hby at_248) ?_
              show Steps p.tables e below (T78.setTop (mkF m 249 #[.val (.int p1), .val (.int p2), .val (.int (0 : Int32)), .val (.int (1 : Int32)), .val (.ref w2), .val (.int (1 : Int32))] [(.int (1 : Int32))])) _
              refine XS.goto X78.here hx rfl (pc0 := 249) (pc' := 253) rfl (hb hby at_249) (by decide) (by decide) ?_
              show Steps p.tables e below (T78.setTop (mkF m 253 #[.val (.int p1), .val (.int p2), .val (.int (0 : Int32)), .val (.int (1 : Int32)), .val (.ref w2), .val (.int (1 : Int32))] [(.int (1 : Int32))])) _
              exact retN X78 hx (t := .boolean) hret (by simp) (hb hby at_253) hr
            ·
              show Q0 n0 _ T78.heap _
              rw [e85]
              exact ⟨rfl, N78⟩
        ·
          obtain ⟨cq86, kq86, q86a, q86b, q86c⟩ := isOf hZ e51 (E_w2.ext O0.2)
          obtain ⟨_, _, ⟨T87, L87, c87, n87⟩, -, X87, ⟨Lc87, hQ87, l87, y87, z87⟩, st87⟩ := X51.virtualBack hx (y := (⟨"com/example/vipo/vipo/flow/PatternType", "admitsDegree", "(II)Z"⟩ : MethodName)) (z := (⟨"com/example/vipo/vipo/flow/PatternType", "admitsDegree", "(II)Z"⟩ : MethodName)) hown (mvT hZ (hw _ (List.mem_of_getElem? (i := 4) rfl))) (mvT hZ (hw _ (List.mem_of_getElem? (i := 5) rfl))) (notFace_of_selects (args := #[]) (mvT hZ (hw _ (List.mem_of_getElem? (i := 7) rfl)))) (mvT hZ (hw _ (List.mem_of_getElem? (i := 7) rfl))) (mvT hZ (hw _ (List.mem_of_getElem? (i := 6) rfl))) (by decide) (backOf (W := 0) (rm3 l Z a0 hw w1 w2 w3 w4 w5 w6 w7 w8 G [] p2 p3 h0 n0 O0 ) hZ (hw _ (List.mem_of_getElem? (i := 8) rfl)) (hw _ (List.mem_of_getElem? (i := 2) rfl)) (by decide) (by decide)) q86a q86c (g := (mkF m 240 #[.val (.int p1), .val (.int p2), .val (.int p3), .val (.int (1 : Int32)), .val (.ref w2), .val (.int (0 : Int32))] [(.int p3), (.int p2), (.ref w2)])) rfl (by rw [hml]; rfl) (Steps.refl _) (argsL := [(.int p2), (.int p3)]) (rest := []) (lenOf pd0 rfl) rfl (by show 2 * 0 + _ ≤ _; exact Nat.le_of_eq rfl) (hb hby at_240) (fun _ _ => ⟨rfl, e51, (by decide : 0 + 0 ≤ _), (by decide : 0 + 0 ≤ _)⟩)
          dsimp only [Pt.U, Pt.locs, Pt.cells, Pt.slots] at X87 l87 y87 z87 st87 hQ87
          subst l87 y87 z87
          have pre88 : ∀ t, Steps p.tables e below (T51.setTop (mkF m 240 #[.val (.int p1), .val (.int p2), .val (.int p3), .val (.int (1 : Int32)), .val (.ref w2), .val (.int (0 : Int32))] [(.int p3), (.int p2), (.ref w2)])) t → Steps p.tables e below (s₁.setTop (entryFrame m #[(.int p1), (.int p2), (.int p3)] maxLocals)) t := fun t k => by
            refine pre74 _ ?_
            show Steps p.tables e below (T51.setTop (mkF m 50 #[.val (.int p1), .val (.int p2), .val (.int p3), .val (.int (1 : Int32)), .val (.ref w2), .unset] [(.int p3)])) _
            refine XS.ifYes X51.here hx rfl (pc0 := 50) (pc' := 57) rfl (hb hby at_50) rfl ((if0 _ _).trans (feq hc75).2) (by decide) (by decide) ?_
            show Steps p.tables e below (T51.setTop (mkF m 57 #[.val (.int p1), .val (.int p2), .val (.int p3), .val (.int (1 : Int32)), .val (.ref w2), .unset] [])) _
            refine XS.iconst X51.here hx rfl (hb hby at_57) ?_
            show Steps p.tables e below (T51.setTop (mkF m 58 #[.val (.int p1), .val (.int p2), .val (.int p3), .val (.int (1 : Int32)), .val (.ref w2), .unset] [(.int (0 : Int32))])) _
            refine XS.istore X51.here hx rfl (hb hby at_58) rfl (l' := #[.val (.int p1), .val (.int p2), .val (.int p3), .val (.int (1 : Int32)), .val (.ref w2), .val (.int (0 : Int32))]) rfl ?_
            show Steps p.tables e below (T51.setTop (mkF m 60 #[.val (.int p1), .val (.int p2), .val (.int p3), .val (.int (1 : Int32)), .val (.ref w2), .val (.int (0 : Int32))] [])) _
            refine XS.goto X51.here hx rfl (pc0 := 60) (pc' := 236) rfl (hb hby at_60) (by decide) (by decide) ?_
            show Steps p.tables e below (T51.setTop (mkF m 236 #[.val (.int p1), .val (.int p2), .val (.int p3), .val (.int (1 : Int32)), .val (.ref w2), .val (.int (0 : Int32))] [])) _
            refine XS.aload X51.here hx rfl (hb hby at_236) rfl rfl ?_
            show Steps p.tables e below (T51.setTop (mkF m 238 #[.val (.int p1), .val (.int p2), .val (.int p3), .val (.int (1 : Int32)), .val (.ref w2), .val (.int (0 : Int32))] [(.ref w2)])) _
            refine XS.iloadN X51.here hx rfl (hb hby at_238) rfl ?_
            show Steps p.tables e below (T51.setTop (mkF m 239 #[.val (.int p1), .val (.int p2), .val (.int p3), .val (.int (1 : Int32)), .val (.ref w2), .val (.int (0 : Int32))] [(.int p2), (.ref w2)])) _
            refine XS.iloadN X51.here hx rfl (hb hby at_239) rfl ?_
            exact k
          have X87 : Stand p l e room_1 s m #[(.int p1), (.int p2), (.int p3)] below meth c T87 _ 0 0 := X87
          rcases hQ87 with ⟨hc89, rfl, Nq90, e91⟩ | ⟨hc92, hc93, rfl, Nq94, e95⟩ | ⟨hc96, hc97, hc98, rfl, Nq99, e100⟩ | ⟨hc101, hc102, hc103, rfl, Nq104, e105⟩
          ·
            exact absurd hc89 hc53
          ·
            have N87 := Fr.app N0 Nq94
            obtain ⟨fs, hr, hrun, hended, hW, hsame⟩ := X87.leave (v := some (.int (1 : Int32))) (fun h => by rw [hret] at h; cases h)
            refine ⟨_, _, pre88 _ ?_, hrun, hended, _, _, rfl, ?_, ⟨_, rfl⟩, hW, hsame.mono (by decide) (by decide)⟩
            ·
              show Steps p.tables e below (T51.setTop (mkF m 240 #[.val (.int p1), .val (.int p2), .val (.int p3), .val (.int (1 : Int32)), .val (.ref w2), .val (.int (0 : Int32))] [(.int p3), (.int p2), (.ref w2)])) _
              refine st87.trans ?_
              show Steps p.tables e below (T87.setTop (mkF m 243 #[.val (.int p1), .val (.int p2), .val (.int p3), .val (.int (1 : Int32)), .val (.ref w2), .val (.int (0 : Int32))] [(.int (0 : Int32))])) _
              refine XS.iload X87.here hx rfl (hb hby at_243) rfl ?_
              show Steps p.tables e below (T87.setTop (mkF m 245 #[.val (.int p1), .val (.int p2), .val (.int p3), .val (.int (1 : Int32)), .val (.ref w2), .val (.int (0 : Int32))] [(.int (0 : Int32)), (.int (0 : Int32))])) _
              refine XS.icmpNo X87.here hx rfl (hb hby at_245) rfl (teq (by decide : (0 : Int32) = (0 : Int32))).2 ?_
              show Steps p.tables e below (T87.setTop (mkF m 248 #[.val (.int p1), .val (.int p2), .val (.int p3), .val (.int (1 : Int32)), .val (.ref w2), .val (.int (0 : Int32))] [])) _
              refine XS.iconst X87.here hx rfl (hb hby at_248) ?_
              show Steps p.tables e below (T87.setTop (mkF m 249 #[.val (.int p1), .val (.int p2), .val (.int p3), .val (.int (1 : Int32)), .val (.ref w2), .val (.int (0 : Int32))] [(.int (1 : Int32))])) _
              refine XS.goto X87.here hx rfl (pc0 := 249) (pc' := 253) rfl (hb hby at_249) (by decide) (by decide) ?_
              show Steps p.tables e below (T87.setTop (mkF m 253 #[.val (.int p1), .val (.int p2), .val (.int p3), .val (.int (1 : Int32)), .val (.ref w2), .val (.int (0 : Int32))] [(.int (1 : Int32))])) _
              exact retN X87 hx (t := .boolean) hret (by simp) (hb hby at_253) hr
            ·
              show Q0 n0 _ T87.heap _
              rw [e95]
              exact ⟨rfl, N87⟩
          ·
            have N87 := Fr.app N0 Nq99
            obtain ⟨fs, hr, hrun, hended, hW, hsame⟩ := X87.leave (v := some (.int (1 : Int32))) (fun h => by rw [hret] at h; cases h)
            refine ⟨_, _, pre88 _ ?_, hrun, hended, _, _, rfl, ?_, ⟨_, rfl⟩, hW, hsame.mono (by decide) (by decide)⟩
            ·
              show Steps p.tables e below (T51.setTop (mkF m 240 #[.val (.int p1), .val (.int p2), .val (.int p3), .val (.int (1 : Int32)), .val (.ref w2), .val (.int (0 : Int32))] [(.int p3), (.int p2), (.ref w2)])) _
              refine st87.trans ?_
              show Steps p.tables e below (T87.setTop (mkF m 243 #[.val (.int p1), .val (.int p2), .val (.int p3), .val (.int (1 : Int32)), .val (.ref w2), .val (.int (0 : Int32))] [(.int (0 : Int32))])) _
              refine XS.iload X87.here hx rfl (hb hby at_243) rfl ?_
              show Steps p.tables e below (T87.setTop (mkF m 245 #[.val (.int p1), .val (.int p2), .val (.int p3), .val (.int (1 : Int32)), .val (.ref w2), .val (.int (0 : Int32))] [(.int (0 : Int32)), (.int (0 : Int32))])) _
              refine XS.icmpNo X87.here hx rfl (hb hby at_245) rfl (teq (by decide : (0 : Int32) = (0 : Int32))).2 ?_
              show Steps p.tables e below (T87.setTop (mkF m 248 #[.val (.int p1), .val (.int p2), .val (.int p3), .val (.int (1 : Int32)), .val (.ref w2), .val (.int (0 : Int32))] [])) _
              refine XS.iconst X87.here hx rfl (hb hby at_248) ?_
              show Steps p.tables e below (T87.setTop (mkF m 249 #[.val (.int p1), .val (.int p2), .val (.int p3), .val (.int (1 : Int32)), .val (.ref w2), .val (.int (0 : Int32))] [(.int (1 : Int32))])) _
              refine XS.goto X87.here hx rfl (pc0 := 249) (pc' := 253) rfl (hb hby at_249) (by decide) (by decide) ?_
              show Steps p.tables e below (T87.setTop (mkF m 253 #[.val (.int p1), .val (.int p2), .val (.int p3), .val (.int (1 : Int32)), .val (.ref w2), .val (.int (0 : Int32))] [(.int (1 : Int32))])) _
              exact retN X87 hx (t := .boolean) hret (by simp) (hb hby at_253) hr
            ·
              show Q0 n0 _ T87.heap _
              rw [e100]
              exact ⟨rfl, N87⟩
          ·
            exact absurd (own_glt2 (n := 0) (k := (0 : Int32)) (by decide) (by have q0 := rng32 p3; have q1 := own_neq (n := 0) (k := (0 : Int32)) (by decide) hc75; have q2 := own_nlt1 (n := 0) (k := (0 : Int32)) (by decide) hc102; omega)) hc103
    ·
      have pre106 : ∀ t, Steps p.tables e below (s₁.setTop (mkF m 65 #[.val (.int p1), .val (.int p2), .val (.int p3), .val (.int ((p1 &&& (2147483647 : Int32)) % (8 : Int32))), .unset, .unset] [(.int (2 : Int32)), (.int ((p1 &&& (2147483647 : Int32)) % (8 : Int32)))])) t → Steps p.tables e below (s₁.setTop (entryFrame m #[(.int p1), (.int p2), (.int p3)] maxLocals)) t := fun t k => by
        refine pre48 _ ?_
        show Steps p.tables e below (s₁.setTop (mkF m 37 #[.val (.int p1), .val (.int p2), .val (.int p3), .val (.int ((p1 &&& (2147483647 : Int32)) % (8 : Int32))), .unset, .unset] [(.int (1 : Int32)), (.int ((p1 &&& (2147483647 : Int32)) % (8 : Int32)))])) _
        refine XS.icmpYes X0.here hx rfl (pc0 := 37) (pc' := 63) rfl (hb hby at_37) rfl (feq hc49).2 (by decide) (by decide) ?_
        show Steps p.tables e below (s₁.setTop (mkF m 63 #[.val (.int p1), .val (.int p2), .val (.int p3), .val (.int ((p1 &&& (2147483647 : Int32)) % (8 : Int32))), .unset, .unset] [])) _
        refine XS.iloadN X0.here hx rfl (hb hby at_63) rfl ?_
        show Steps p.tables e below (s₁.setTop (mkF m 64 #[.val (.int p1), .val (.int p2), .val (.int p3), .val (.int ((p1 &&& (2147483647 : Int32)) % (8 : Int32))), .unset, .unset] [(.int ((p1 &&& (2147483647 : Int32)) % (8 : Int32)))])) _
        refine XS.iconst X0.here hx rfl (hb hby at_64) ?_
        exact k
      by_cases hc107 : ((p1 &&& (2147483647 : Int32)) % (8 : Int32)) = (2 : Int32)
      ·
        have pre108 : ∀ t, Steps p.tables e below (s₁.setTop (mkF m 65 #[.val (.int p1), .val (.int p2), .val (.int p3), .val (.int (2 : Int32)), .unset, .unset] [(.int (2 : Int32)), (.int (2 : Int32))])) t → Steps p.tables e below (s₁.setTop (entryFrame m #[(.int p1), (.int p2), (.int p3)] maxLocals)) t := fun t k => pre106 t (by rw [hc107]; exact k)
        obtain ⟨T109, X109, e109, st109⟩ := getS2 X0 hx hZ hown (host := "") (Or.inl (hw _ (List.mem_of_getElem? (i := 23) rfl))) Via.refl e0 (S_w5.ext O0.2) (g := (mkF m 68 #[.val (.int p1), .val (.int p2), .val (.int p3), .val (.int (2 : Int32)), .unset, .unset] [])) rfl (hb hby at_68)
        have pre110 : ∀ t, Steps p.tables e below (T109.setTop (mkF m 75 #[.val (.int p1), .val (.int p2), .val (.int p3), .val (.int (2 : Int32)), .val (.ref w5), .unset] [(.int (1 : Int32)), (.int p2)])) t → Steps p.tables e below (s₁.setTop (entryFrame m #[(.int p1), (.int p2), (.int p3)] maxLocals)) t := fun t k => by
          refine pre108 _ ?_
          show Steps p.tables e below (s₁.setTop (mkF m 65 #[.val (.int p1), .val (.int p2), .val (.int p3), .val (.int (2 : Int32)), .unset, .unset] [(.int (2 : Int32)), (.int (2 : Int32))])) _
          refine XS.icmpNo X0.here hx rfl (hb hby at_65) rfl (teq (by decide : (2 : Int32) = (2 : Int32))).2 ?_
          show Steps p.tables e below (s₁.setTop (mkF m 68 #[.val (.int p1), .val (.int p2), .val (.int p3), .val (.int (2 : Int32)), .unset, .unset] [])) _
          refine st109 _ ?_
          show Steps p.tables e below (T109.setTop (mkF m 71 #[.val (.int p1), .val (.int p2), .val (.int p3), .val (.int (2 : Int32)), .unset, .unset] [(.ref w5)])) _
          refine XS.astore X109.here hx rfl (hb hby at_71) rfl rfl (l' := #[.val (.int p1), .val (.int p2), .val (.int p3), .val (.int (2 : Int32)), .val (.ref w5), .unset]) rfl ?_
          show Steps p.tables e below (T109.setTop (mkF m 73 #[.val (.int p1), .val (.int p2), .val (.int p3), .val (.int (2 : Int32)), .val (.ref w5), .unset] [])) _
          refine XS.iloadN X109.here hx rfl (hb hby at_73) rfl ?_
          show Steps p.tables e below (T109.setTop (mkF m 74 #[.val (.int p1), .val (.int p2), .val (.int p3), .val (.int (2 : Int32)), .val (.ref w5), .unset] [(.int p2)])) _
          refine XS.iconst X109.here hx rfl (hb hby at_74) ?_
          exact k
        by_cases hc111 : p2 = (1 : Int32)
        ·
          have pre112 : ∀ t, Steps p.tables e below (T109.setTop (mkF m 75 #[.val (.int p1), .val (.int (1 : Int32)), .val (.int p3), .val (.int (2 : Int32)), .val (.ref w5), .unset] [(.int (1 : Int32)), (.int (1 : Int32))])) t → Steps p.tables e below (s₁.setTop (entryFrame m #[(.int p1), (.int p2), (.int p3)] maxLocals)) t := fun t k => pre110 t (by rw [hc111]; exact k)
          have pre113 : ∀ t, Steps p.tables e below (T109.setTop (mkF m 80 #[.val (.int p1), .val (.int (1 : Int32)), .val (.int p3), .val (.int (2 : Int32)), .val (.ref w5), .unset] [(.int (1 : Int32)), (.int p3)])) t → Steps p.tables e below (s₁.setTop (entryFrame m #[(.int p1), (.int p2), (.int p3)] maxLocals)) t := fun t k => by
            refine pre112 _ ?_
            show Steps p.tables e below (T109.setTop (mkF m 75 #[.val (.int p1), .val (.int (1 : Int32)), .val (.int p3), .val (.int (2 : Int32)), .val (.ref w5), .unset] [(.int (1 : Int32)), (.int (1 : Int32))])) _
            refine XS.icmpNo X109.here hx rfl (hb hby at_75) rfl (teq (by decide : (1 : Int32) = (1 : Int32))).2 ?_
            show Steps p.tables e below (T109.setTop (mkF m 78 #[.val (.int p1), .val (.int (1 : Int32)), .val (.int p3), .val (.int (2 : Int32)), .val (.ref w5), .unset] [])) _
            refine XS.iloadN X109.here hx rfl (hb hby at_78) rfl ?_
            show Steps p.tables e below (T109.setTop (mkF m 79 #[.val (.int p1), .val (.int (1 : Int32)), .val (.int p3), .val (.int (2 : Int32)), .val (.ref w5), .unset] [(.int p3)])) _
            refine XS.iconst X109.here hx rfl (hb hby at_79) ?_
            exact k
          by_cases hc114 : p3 = (1 : Int32)
          ·
            have pre115 : ∀ t, Steps p.tables e below (T109.setTop (mkF m 80 #[.val (.int p1), .val (.int (1 : Int32)), .val (.int (1 : Int32)), .val (.int (2 : Int32)), .val (.ref w5), .unset] [(.int (1 : Int32)), (.int (1 : Int32))])) t → Steps p.tables e below (s₁.setTop (entryFrame m #[(.int p1), (.int p2), (.int p3)] maxLocals)) t := fun t k => pre113 t (by rw [hc114]; exact k)
            obtain ⟨cq116, kq116, q116a, q116b, q116c⟩ := isOf hZ e109 (E_w5.ext O0.2)
            obtain ⟨_, _, ⟨T117, L117, c117, n117⟩, -, X117, ⟨Lc117, hQ117, l117, y117, z117⟩, st117⟩ := X109.virtualBack hx (y := (⟨"com/example/vipo/vipo/flow/PatternType", "admitsDegree", "(II)Z"⟩ : MethodName)) (z := (⟨"com/example/vipo/vipo/flow/PatternType", "admitsDegree", "(II)Z"⟩ : MethodName)) hown (mvT hZ (hw _ (List.mem_of_getElem? (i := 4) rfl))) (mvT hZ (hw _ (List.mem_of_getElem? (i := 5) rfl))) (notFace_of_selects (args := #[]) (mvT hZ (hw _ (List.mem_of_getElem? (i := 7) rfl)))) (mvT hZ (hw _ (List.mem_of_getElem? (i := 7) rfl))) (mvT hZ (hw _ (List.mem_of_getElem? (i := 6) rfl))) (by decide) (backOf (W := 0) (rm5 l Z a0 hw w1 w2 w3 w4 w5 w6 w7 w8 G []  h0 n0 O0 ) hZ (hw _ (List.mem_of_getElem? (i := 8) rfl)) (hw _ (List.mem_of_getElem? (i := 2) rfl)) (by decide) (by decide)) q116a q116c (g := (mkF m 240 #[.val (.int p1), .val (.int (1 : Int32)), .val (.int (1 : Int32)), .val (.int (2 : Int32)), .val (.ref w5), .val (.int (1 : Int32))] [(.int (1 : Int32)), (.int (1 : Int32)), (.ref w5)])) rfl (by rw [hml]; rfl) (Steps.refl _) (argsL := [(.int (1 : Int32)), (.int (1 : Int32))]) (rest := []) (lenOf pd0 rfl) rfl (by show 2 * 0 + _ ≤ _; exact Nat.le_of_eq rfl) (hb hby at_240) (fun _ _ => ⟨rfl, e109, (by decide : 0 + 0 ≤ _), (by decide : 0 + 0 ≤ _)⟩)
            dsimp only [Pt.U, Pt.locs, Pt.cells, Pt.slots] at X117 l117 y117 z117 st117 hQ117
            subst l117 y117 z117
            have X117 : Stand p l e room_1 s m #[(.int p1), (.int p2), (.int p3)] below meth c T117 _ 0 0 := X117
            obtain ⟨rfl, Nq118, e119⟩ := hQ117
            have N117 := Fr.app N0 Nq118
            obtain ⟨fs, hr, hrun, hended, hW, hsame⟩ := X117.leave (v := some (.int (1 : Int32))) (fun h => by rw [hret] at h; cases h)
            refine ⟨_, _, pre115 _ ?_, hrun, hended, _, _, rfl, ?_, ⟨_, rfl⟩, hW, hsame.mono (by decide) (by decide)⟩
            ·
              show Steps p.tables e below (T109.setTop (mkF m 80 #[.val (.int p1), .val (.int (1 : Int32)), .val (.int (1 : Int32)), .val (.int (2 : Int32)), .val (.ref w5), .unset] [(.int (1 : Int32)), (.int (1 : Int32))])) _
              refine XS.icmpNo X109.here hx rfl (hb hby at_80) rfl (teq (by decide : (1 : Int32) = (1 : Int32))).2 ?_
              show Steps p.tables e below (T109.setTop (mkF m 83 #[.val (.int p1), .val (.int (1 : Int32)), .val (.int (1 : Int32)), .val (.int (2 : Int32)), .val (.ref w5), .unset] [])) _
              refine XS.iconst X109.here hx rfl (hb hby at_83) ?_
              show Steps p.tables e below (T109.setTop (mkF m 84 #[.val (.int p1), .val (.int (1 : Int32)), .val (.int (1 : Int32)), .val (.int (2 : Int32)), .val (.ref w5), .unset] [(.int (1 : Int32))])) _
              refine XS.goto X109.here hx rfl (pc0 := 84) (pc' := 88) rfl (hb hby at_84) (by decide) (by decide) ?_
              show Steps p.tables e below (T109.setTop (mkF m 88 #[.val (.int p1), .val (.int (1 : Int32)), .val (.int (1 : Int32)), .val (.int (2 : Int32)), .val (.ref w5), .unset] [(.int (1 : Int32))])) _
              refine XS.istore X109.here hx rfl (hb hby at_88) rfl (l' := #[.val (.int p1), .val (.int (1 : Int32)), .val (.int (1 : Int32)), .val (.int (2 : Int32)), .val (.ref w5), .val (.int (1 : Int32))]) rfl ?_
              show Steps p.tables e below (T109.setTop (mkF m 90 #[.val (.int p1), .val (.int (1 : Int32)), .val (.int (1 : Int32)), .val (.int (2 : Int32)), .val (.ref w5), .val (.int (1 : Int32))] [])) _
              refine XS.goto X109.here hx rfl (pc0 := 90) (pc' := 236) rfl (hb hby at_90) (by decide) (by decide) ?_
              show Steps p.tables e below (T109.setTop (mkF m 236 #[.val (.int p1), .val (.int (1 : Int32)), .val (.int (1 : Int32)), .val (.int (2 : Int32)), .val (.ref w5), .val (.int (1 : Int32))] [])) _
              refine XS.aload X109.here hx rfl (hb hby at_236) rfl rfl ?_
              show Steps p.tables e below (T109.setTop (mkF m 238 #[.val (.int p1), .val (.int (1 : Int32)), .val (.int (1 : Int32)), .val (.int (2 : Int32)), .val (.ref w5), .val (.int (1 : Int32))] [(.ref w5)])) _
              refine XS.iloadN X109.here hx rfl (hb hby at_238) rfl ?_
              show Steps p.tables e below (T109.setTop (mkF m 239 #[.val (.int p1), .val (.int (1 : Int32)), .val (.int (1 : Int32)), .val (.int (2 : Int32)), .val (.ref w5), .val (.int (1 : Int32))] [(.int (1 : Int32)), (.ref w5)])) _
              refine XS.iloadN X109.here hx rfl (hb hby at_239) rfl ?_
              show Steps p.tables e below (T109.setTop (mkF m 240 #[.val (.int p1), .val (.int (1 : Int32)), .val (.int (1 : Int32)), .val (.int (2 : Int32)), .val (.ref w5), .val (.int (1 : Int32))] [(.int (1 : Int32)), (.int (1 : Int32)), (.ref w5)])) _
              refine st117.trans ?_
              show Steps p.tables e below (T117.setTop (mkF m 243 #[.val (.int p1), .val (.int (1 : Int32)), .val (.int (1 : Int32)), .val (.int (2 : Int32)), .val (.ref w5), .val (.int (1 : Int32))] [(.int (1 : Int32))])) _
              refine XS.iload X117.here hx rfl (hb hby at_243) rfl ?_
              show Steps p.tables e below (T117.setTop (mkF m 245 #[.val (.int p1), .val (.int (1 : Int32)), .val (.int (1 : Int32)), .val (.int (2 : Int32)), .val (.ref w5), .val (.int (1 : Int32))] [(.int (1 : Int32)), (.int (1 : Int32))])) _
              refine XS.icmpNo X117.here hx rfl (hb hby at_245) rfl (teq (by decide : (1 : Int32) = (1 : Int32))).2 ?_
              show Steps p.tables e below (T117.setTop (mkF m 248 #[.val (.int p1), .val (.int (1 : Int32)), .val (.int (1 : Int32)), .val (.int (2 : Int32)), .val (.ref w5), .val (.int (1 : Int32))] [])) _
              refine XS.iconst X117.here hx rfl (hb hby at_248) ?_
              show Steps p.tables e below (T117.setTop (mkF m 249 #[.val (.int p1), .val (.int (1 : Int32)), .val (.int (1 : Int32)), .val (.int (2 : Int32)), .val (.ref w5), .val (.int (1 : Int32))] [(.int (1 : Int32))])) _
              refine XS.goto X117.here hx rfl (pc0 := 249) (pc' := 253) rfl (hb hby at_249) (by decide) (by decide) ?_
              show Steps p.tables e below (T117.setTop (mkF m 253 #[.val (.int p1), .val (.int (1 : Int32)), .val (.int (1 : Int32)), .val (.int (2 : Int32)), .val (.ref w5), .val (.int (1 : Int32))] [(.int (1 : Int32))])) _
              exact retN X117 hx (t := .boolean) hret (by simp) (hb hby at_253) hr
            ·
              show Q0 n0 _ T117.heap _
              rw [e119]
              exact ⟨rfl, N117⟩
          ·
            obtain ⟨cq120, kq120, q120a, q120b, q120c⟩ := isOf hZ e109 (E_w5.ext O0.2)
            obtain ⟨_, _, ⟨T121, L121, c121, n121⟩, -, X121, ⟨Lc121, hQ121, l121, y121, z121⟩, st121⟩ := X109.virtualBack hx (y := (⟨"com/example/vipo/vipo/flow/PatternType", "admitsDegree", "(II)Z"⟩ : MethodName)) (z := (⟨"com/example/vipo/vipo/flow/PatternType", "admitsDegree", "(II)Z"⟩ : MethodName)) hown (mvT hZ (hw _ (List.mem_of_getElem? (i := 4) rfl))) (mvT hZ (hw _ (List.mem_of_getElem? (i := 5) rfl))) (notFace_of_selects (args := #[]) (mvT hZ (hw _ (List.mem_of_getElem? (i := 7) rfl)))) (mvT hZ (hw _ (List.mem_of_getElem? (i := 7) rfl))) (mvT hZ (hw _ (List.mem_of_getElem? (i := 6) rfl))) (by decide) (backOf (W := 0) (rm6 l Z a0 hw w1 w2 w3 w4 w5 w6 w7 w8 G [] p3 h0 n0 O0 ) hZ (hw _ (List.mem_of_getElem? (i := 8) rfl)) (hw _ (List.mem_of_getElem? (i := 2) rfl)) (by decide) (by decide)) q120a q120c (g := (mkF m 240 #[.val (.int p1), .val (.int (1 : Int32)), .val (.int p3), .val (.int (2 : Int32)), .val (.ref w5), .val (.int (0 : Int32))] [(.int p3), (.int (1 : Int32)), (.ref w5)])) rfl (by rw [hml]; rfl) (Steps.refl _) (argsL := [(.int (1 : Int32)), (.int p3)]) (rest := []) (lenOf pd0 rfl) rfl (by show 2 * 0 + _ ≤ _; exact Nat.le_of_eq rfl) (hb hby at_240) (fun _ _ => ⟨rfl, e109, (by decide : 0 + 0 ≤ _), (by decide : 0 + 0 ≤ _)⟩)
            dsimp only [Pt.U, Pt.locs, Pt.cells, Pt.slots] at X121 l121 y121 z121 st121 hQ121
            subst l121 y121 z121
            have pre122 : ∀ t, Steps p.tables e below (T109.setTop (mkF m 240 #[.val (.int p1), .val (.int (1 : Int32)), .val (.int p3), .val (.int (2 : Int32)), .val (.ref w5), .val (.int (0 : Int32))] [(.int p3), (.int (1 : Int32)), (.ref w5)])) t → Steps p.tables e below (s₁.setTop (entryFrame m #[(.int p1), (.int p2), (.int p3)] maxLocals)) t := fun t k => by
              refine pre113 _ ?_
              show Steps p.tables e below (T109.setTop (mkF m 80 #[.val (.int p1), .val (.int (1 : Int32)), .val (.int p3), .val (.int (2 : Int32)), .val (.ref w5), .unset] [(.int (1 : Int32)), (.int p3)])) _
              refine XS.icmpYes X109.here hx rfl (pc0 := 80) (pc' := 87) rfl (hb hby at_80) rfl (feq hc114).2 (by decide) (by decide) ?_
              show Steps p.tables e below (T109.setTop (mkF m 87 #[.val (.int p1), .val (.int (1 : Int32)), .val (.int p3), .val (.int (2 : Int32)), .val (.ref w5), .unset] [])) _
              refine XS.iconst X109.here hx rfl (hb hby at_87) ?_
              show Steps p.tables e below (T109.setTop (mkF m 88 #[.val (.int p1), .val (.int (1 : Int32)), .val (.int p3), .val (.int (2 : Int32)), .val (.ref w5), .unset] [(.int (0 : Int32))])) _
              refine XS.istore X109.here hx rfl (hb hby at_88) rfl (l' := #[.val (.int p1), .val (.int (1 : Int32)), .val (.int p3), .val (.int (2 : Int32)), .val (.ref w5), .val (.int (0 : Int32))]) rfl ?_
              show Steps p.tables e below (T109.setTop (mkF m 90 #[.val (.int p1), .val (.int (1 : Int32)), .val (.int p3), .val (.int (2 : Int32)), .val (.ref w5), .val (.int (0 : Int32))] [])) _
              refine XS.goto X109.here hx rfl (pc0 := 90) (pc' := 236) rfl (hb hby at_90) (by decide) (by decide) ?_
              show Steps p.tables e below (T109.setTop (mkF m 236 #[.val (.int p1), .val (.int (1 : Int32)), .val (.int p3), .val (.int (2 : Int32)), .val (.ref w5), .val (.int (0 : Int32))] [])) _
              refine XS.aload X109.here hx rfl (hb hby at_236) rfl rfl ?_
              show Steps p.tables e below (T109.setTop (mkF m 238 #[.val (.int p1), .val (.int (1 : Int32)), .val (.int p3), .val (.int (2 : Int32)), .val (.ref w5), .val (.int (0 : Int32))] [(.ref w5)])) _
              refine XS.iloadN X109.here hx rfl (hb hby at_238) rfl ?_
              show Steps p.tables e below (T109.setTop (mkF m 239 #[.val (.int p1), .val (.int (1 : Int32)), .val (.int p3), .val (.int (2 : Int32)), .val (.ref w5), .val (.int (0 : Int32))] [(.int (1 : Int32)), (.ref w5)])) _
              refine XS.iloadN X109.here hx rfl (hb hby at_239) rfl ?_
              exact k
            have X121 : Stand p l e room_1 s m #[(.int p1), (.int p2), (.int p3)] below meth c T121 _ 0 0 := X121
            rcases hQ121 with ⟨hc123, rfl, Nq124, e125⟩ | ⟨hc126, hc127, rfl, Nq128, e129⟩ | ⟨hc130, hc131, rfl, Nq132, e133⟩
            ·
              have N121 := Fr.app N0 Nq124
              obtain ⟨fs, hr, hrun, hended, hW, hsame⟩ := X121.leave (v := some (.int (1 : Int32))) (fun h => by rw [hret] at h; cases h)
              refine ⟨_, _, pre122 _ ?_, hrun, hended, _, _, rfl, ?_, ⟨_, rfl⟩, hW, hsame.mono (by decide) (by decide)⟩
              ·
                show Steps p.tables e below (T109.setTop (mkF m 240 #[.val (.int p1), .val (.int (1 : Int32)), .val (.int p3), .val (.int (2 : Int32)), .val (.ref w5), .val (.int (0 : Int32))] [(.int p3), (.int (1 : Int32)), (.ref w5)])) _
                refine st121.trans ?_
                show Steps p.tables e below (T121.setTop (mkF m 243 #[.val (.int p1), .val (.int (1 : Int32)), .val (.int p3), .val (.int (2 : Int32)), .val (.ref w5), .val (.int (0 : Int32))] [(.int (0 : Int32))])) _
                refine XS.iload X121.here hx rfl (hb hby at_243) rfl ?_
                show Steps p.tables e below (T121.setTop (mkF m 245 #[.val (.int p1), .val (.int (1 : Int32)), .val (.int p3), .val (.int (2 : Int32)), .val (.ref w5), .val (.int (0 : Int32))] [(.int (0 : Int32)), (.int (0 : Int32))])) _
                refine XS.icmpNo X121.here hx rfl (hb hby at_245) rfl (teq (by decide : (0 : Int32) = (0 : Int32))).2 ?_
                show Steps p.tables e below (T121.setTop (mkF m 248 #[.val (.int p1), .val (.int (1 : Int32)), .val (.int p3), .val (.int (2 : Int32)), .val (.ref w5), .val (.int (0 : Int32))] [])) _
                refine XS.iconst X121.here hx rfl (hb hby at_248) ?_
                show Steps p.tables e below (T121.setTop (mkF m 249 #[.val (.int p1), .val (.int (1 : Int32)), .val (.int p3), .val (.int (2 : Int32)), .val (.ref w5), .val (.int (0 : Int32))] [(.int (1 : Int32))])) _
                refine XS.goto X121.here hx rfl (pc0 := 249) (pc' := 253) rfl (hb hby at_249) (by decide) (by decide) ?_
                show Steps p.tables e below (T121.setTop (mkF m 253 #[.val (.int p1), .val (.int (1 : Int32)), .val (.int p3), .val (.int (2 : Int32)), .val (.ref w5), .val (.int (0 : Int32))] [(.int (1 : Int32))])) _
                exact retN X121 hx (t := .boolean) hret (by simp) (hb hby at_253) hr
              ·
                show Q0 n0 _ T121.heap _
                rw [e125]
                exact ⟨rfl, N121⟩
            ·
              have N121 := Fr.app N0 Nq128
              obtain ⟨fs, hr, hrun, hended, hW, hsame⟩ := X121.leave (v := some (.int (1 : Int32))) (fun h => by rw [hret] at h; cases h)
              refine ⟨_, _, pre122 _ ?_, hrun, hended, _, _, rfl, ?_, ⟨_, rfl⟩, hW, hsame.mono (by decide) (by decide)⟩
              ·
                show Steps p.tables e below (T109.setTop (mkF m 240 #[.val (.int p1), .val (.int (1 : Int32)), .val (.int p3), .val (.int (2 : Int32)), .val (.ref w5), .val (.int (0 : Int32))] [(.int p3), (.int (1 : Int32)), (.ref w5)])) _
                refine st121.trans ?_
                show Steps p.tables e below (T121.setTop (mkF m 243 #[.val (.int p1), .val (.int (1 : Int32)), .val (.int p3), .val (.int (2 : Int32)), .val (.ref w5), .val (.int (0 : Int32))] [(.int (0 : Int32))])) _
                refine XS.iload X121.here hx rfl (hb hby at_243) rfl ?_
                show Steps p.tables e below (T121.setTop (mkF m 245 #[.val (.int p1), .val (.int (1 : Int32)), .val (.int p3), .val (.int (2 : Int32)), .val (.ref w5), .val (.int (0 : Int32))] [(.int (0 : Int32)), (.int (0 : Int32))])) _
                refine XS.icmpNo X121.here hx rfl (hb hby at_245) rfl (teq (by decide : (0 : Int32) = (0 : Int32))).2 ?_
                show Steps p.tables e below (T121.setTop (mkF m 248 #[.val (.int p1), .val (.int (1 : Int32)), .val (.int p3), .val (.int (2 : Int32)), .val (.ref w5), .val (.int (0 : Int32))] [])) _
                refine XS.iconst X121.here hx rfl (hb hby at_248) ?_
                show Steps p.tables e below (T121.setTop (mkF m 249 #[.val (.int p1), .val (.int (1 : Int32)), .val (.int p3), .val (.int (2 : Int32)), .val (.ref w5), .val (.int (0 : Int32))] [(.int (1 : Int32))])) _
                refine XS.goto X121.here hx rfl (pc0 := 249) (pc' := 253) rfl (hb hby at_249) (by decide) (by decide) ?_
                show Steps p.tables e below (T121.setTop (mkF m 253 #[.val (.int p1), .val (.int (1 : Int32)), .val (.int p3), .val (.int (2 : Int32)), .val (.ref w5), .val (.int (0 : Int32))] [(.int (1 : Int32))])) _
                exact retN X121 hx (t := .boolean) hret (by simp) (hb hby at_253) hr
              ·
                show Q0 n0 _ T121.heap _
                rw [e129]
                exact ⟨rfl, N121⟩
            ·
              exact absurd (own_glt2 (n := 1) (k := (1 : Int32)) (by decide) (by have q0 := rng32 p3; have q1 := own_neq (n := 1) (k := (1 : Int32)) (by decide) hc114; have q2 := own_nlt1 (n := 1) (k := (1 : Int32)) (by decide) hc130; omega)) hc131
        ·
          obtain ⟨cq134, kq134, q134a, q134b, q134c⟩ := isOf hZ e109 (E_w5.ext O0.2)
          obtain ⟨_, _, ⟨T135, L135, c135, n135⟩, -, X135, ⟨Lc135, hQ135, l135, y135, z135⟩, st135⟩ := X109.virtualBack hx (y := (⟨"com/example/vipo/vipo/flow/PatternType", "admitsDegree", "(II)Z"⟩ : MethodName)) (z := (⟨"com/example/vipo/vipo/flow/PatternType", "admitsDegree", "(II)Z"⟩ : MethodName)) hown (mvT hZ (hw _ (List.mem_of_getElem? (i := 4) rfl))) (mvT hZ (hw _ (List.mem_of_getElem? (i := 5) rfl))) (notFace_of_selects (args := #[]) (mvT hZ (hw _ (List.mem_of_getElem? (i := 7) rfl)))) (mvT hZ (hw _ (List.mem_of_getElem? (i := 7) rfl))) (mvT hZ (hw _ (List.mem_of_getElem? (i := 6) rfl))) (by decide) (backOf (W := 0) (rm7 l Z a0 hw w1 w2 w3 w4 w5 w6 w7 w8 G [] p2 p3 h0 n0 O0 ) hZ (hw _ (List.mem_of_getElem? (i := 8) rfl)) (hw _ (List.mem_of_getElem? (i := 2) rfl)) (by decide) (by decide)) q134a q134c (g := (mkF m 240 #[.val (.int p1), .val (.int p2), .val (.int p3), .val (.int (2 : Int32)), .val (.ref w5), .val (.int (0 : Int32))] [(.int p3), (.int p2), (.ref w5)])) rfl (by rw [hml]; rfl) (Steps.refl _) (argsL := [(.int p2), (.int p3)]) (rest := []) (lenOf pd0 rfl) rfl (by show 2 * 0 + _ ≤ _; exact Nat.le_of_eq rfl) (hb hby at_240) (fun _ _ => ⟨rfl, e109, (by decide : 0 + 0 ≤ _), (by decide : 0 + 0 ≤ _)⟩)
          dsimp only [Pt.U, Pt.locs, Pt.cells, Pt.slots] at X135 l135 y135 z135 st135 hQ135
          subst l135 y135 z135
          have pre136 : ∀ t, Steps p.tables e below (T109.setTop (mkF m 240 #[.val (.int p1), .val (.int p2), .val (.int p3), .val (.int (2 : Int32)), .val (.ref w5), .val (.int (0 : Int32))] [(.int p3), (.int p2), (.ref w5)])) t → Steps p.tables e below (s₁.setTop (entryFrame m #[(.int p1), (.int p2), (.int p3)] maxLocals)) t := fun t k => by
            refine pre110 _ ?_
            show Steps p.tables e below (T109.setTop (mkF m 75 #[.val (.int p1), .val (.int p2), .val (.int p3), .val (.int (2 : Int32)), .val (.ref w5), .unset] [(.int (1 : Int32)), (.int p2)])) _
            refine XS.icmpYes X109.here hx rfl (pc0 := 75) (pc' := 87) rfl (hb hby at_75) rfl (feq hc111).2 (by decide) (by decide) ?_
            show Steps p.tables e below (T109.setTop (mkF m 87 #[.val (.int p1), .val (.int p2), .val (.int p3), .val (.int (2 : Int32)), .val (.ref w5), .unset] [])) _
            refine XS.iconst X109.here hx rfl (hb hby at_87) ?_
            show Steps p.tables e below (T109.setTop (mkF m 88 #[.val (.int p1), .val (.int p2), .val (.int p3), .val (.int (2 : Int32)), .val (.ref w5), .unset] [(.int (0 : Int32))])) _
            refine XS.istore X109.here hx rfl (hb hby at_88) rfl (l' := #[.val (.int p1), .val (.int p2), .val (.int p3), .val (.int (2 : Int32)), .val (.ref w5), .val (.int (0 : Int32))]) rfl ?_
            show Steps p.tables e below (T109.setTop (mkF m 90 #[.val (.int p1), .val (.int p2), .val (.int p3), .val (.int (2 : Int32)), .val (.ref w5), .val (.int (0 : Int32))] [])) _
            refine XS.goto X109.here hx rfl (pc0 := 90) (pc' := 236) rfl (hb hby at_90) (by decide) (by decide) ?_
            show Steps p.tables e below (T109.setTop (mkF m 236 #[.val (.int p1), .val (.int p2), .val (.int p3), .val (.int (2 : Int32)), .val (.ref w5), .val (.int (0 : Int32))] [])) _
            refine XS.aload X109.here hx rfl (hb hby at_236) rfl rfl ?_
            show Steps p.tables e below (T109.setTop (mkF m 238 #[.val (.int p1), .val (.int p2), .val (.int p3), .val (.int (2 : Int32)), .val (.ref w5), .val (.int (0 : Int32))] [(.ref w5)])) _
            refine XS.iloadN X109.here hx rfl (hb hby at_238) rfl ?_
            show Steps p.tables e below (T109.setTop (mkF m 239 #[.val (.int p1), .val (.int p2), .val (.int p3), .val (.int (2 : Int32)), .val (.ref w5), .val (.int (0 : Int32))] [(.int p2), (.ref w5)])) _
            refine XS.iloadN X109.here hx rfl (hb hby at_239) rfl ?_
            exact k
          have X135 : Stand p l e room_1 s m #[(.int p1), (.int p2), (.int p3)] below meth c T135 _ 0 0 := X135
          rcases hQ135 with ⟨hc137, rfl, Nq138, e139⟩ | ⟨hc140, hc141, rfl, Nq142, e143⟩ | ⟨hc144, hc145, hc146, rfl, Nq147, e148⟩ | ⟨hc149, hc150, hc151, hc152, rfl, Nq153, e154⟩ | ⟨hc155, hc156, hc157, hc158, rfl, Nq159, e160⟩
          ·
            have N135 := Fr.app N0 Nq138
            obtain ⟨fs, hr, hrun, hended, hW, hsame⟩ := X135.leave (v := some (.int (1 : Int32))) (fun h => by rw [hret] at h; cases h)
            refine ⟨_, _, pre136 _ ?_, hrun, hended, _, _, rfl, ?_, ⟨_, rfl⟩, hW, hsame.mono (by decide) (by decide)⟩
            ·
              show Steps p.tables e below (T109.setTop (mkF m 240 #[.val (.int p1), .val (.int p2), .val (.int p3), .val (.int (2 : Int32)), .val (.ref w5), .val (.int (0 : Int32))] [(.int p3), (.int p2), (.ref w5)])) _
              refine st135.trans ?_
              show Steps p.tables e below (T135.setTop (mkF m 243 #[.val (.int p1), .val (.int p2), .val (.int p3), .val (.int (2 : Int32)), .val (.ref w5), .val (.int (0 : Int32))] [(.int (0 : Int32))])) _
              refine XS.iload X135.here hx rfl (hb hby at_243) rfl ?_
              show Steps p.tables e below (T135.setTop (mkF m 245 #[.val (.int p1), .val (.int p2), .val (.int p3), .val (.int (2 : Int32)), .val (.ref w5), .val (.int (0 : Int32))] [(.int (0 : Int32)), (.int (0 : Int32))])) _
              refine XS.icmpNo X135.here hx rfl (hb hby at_245) rfl (teq (by decide : (0 : Int32) = (0 : Int32))).2 ?_
              show Steps p.tables e below (T135.setTop (mkF m 248 #[.val (.int p1), .val (.int p2), .val (.int p3), .val (.int (2 : Int32)), .val (.ref w5), .val (.int (0 : Int32))] [])) _
              refine XS.iconst X135.here hx rfl (hb hby at_248) ?_
              show Steps p.tables e below (T135.setTop (mkF m 249 #[.val (.int p1), .val (.int p2), .val (.int p3), .val (.int (2 : Int32)), .val (.ref w5), .val (.int (0 : Int32))] [(.int (1 : Int32))])) _
              refine XS.goto X135.here hx rfl (pc0 := 249) (pc' := 253) rfl (hb hby at_249) (by decide) (by decide) ?_
              show Steps p.tables e below (T135.setTop (mkF m 253 #[.val (.int p1), .val (.int p2), .val (.int p3), .val (.int (2 : Int32)), .val (.ref w5), .val (.int (0 : Int32))] [(.int (1 : Int32))])) _
              exact retN X135 hx (t := .boolean) hret (by simp) (hb hby at_253) hr
            ·
              show Q0 n0 _ T135.heap _
              rw [e139]
              exact ⟨rfl, N135⟩
          ·
            have N135 := Fr.app N0 Nq142
            obtain ⟨fs, hr, hrun, hended, hW, hsame⟩ := X135.leave (v := some (.int (1 : Int32))) (fun h => by rw [hret] at h; cases h)
            refine ⟨_, _, pre136 _ ?_, hrun, hended, _, _, rfl, ?_, ⟨_, rfl⟩, hW, hsame.mono (by decide) (by decide)⟩
            ·
              show Steps p.tables e below (T109.setTop (mkF m 240 #[.val (.int p1), .val (.int p2), .val (.int p3), .val (.int (2 : Int32)), .val (.ref w5), .val (.int (0 : Int32))] [(.int p3), (.int p2), (.ref w5)])) _
              refine st135.trans ?_
              show Steps p.tables e below (T135.setTop (mkF m 243 #[.val (.int p1), .val (.int p2), .val (.int p3), .val (.int (2 : Int32)), .val (.ref w5), .val (.int (0 : Int32))] [(.int (0 : Int32))])) _
              refine XS.iload X135.here hx rfl (hb hby at_243) rfl ?_
              show Steps p.tables e below (T135.setTop (mkF m 245 #[.val (.int p1), .val (.int p2), .val (.int p3), .val (.int (2 : Int32)), .val (.ref w5), .val (.int (0 : Int32))] [(.int (0 : Int32)), (.int (0 : Int32))])) _
              refine XS.icmpNo X135.here hx rfl (hb hby at_245) rfl (teq (by decide : (0 : Int32) = (0 : Int32))).2 ?_
              show Steps p.tables e below (T135.setTop (mkF m 248 #[.val (.int p1), .val (.int p2), .val (.int p3), .val (.int (2 : Int32)), .val (.ref w5), .val (.int (0 : Int32))] [])) _
              refine XS.iconst X135.here hx rfl (hb hby at_248) ?_
              show Steps p.tables e below (T135.setTop (mkF m 249 #[.val (.int p1), .val (.int p2), .val (.int p3), .val (.int (2 : Int32)), .val (.ref w5), .val (.int (0 : Int32))] [(.int (1 : Int32))])) _
              refine XS.goto X135.here hx rfl (pc0 := 249) (pc' := 253) rfl (hb hby at_249) (by decide) (by decide) ?_
              show Steps p.tables e below (T135.setTop (mkF m 253 #[.val (.int p1), .val (.int p2), .val (.int p3), .val (.int (2 : Int32)), .val (.ref w5), .val (.int (0 : Int32))] [(.int (1 : Int32))])) _
              exact retN X135 hx (t := .boolean) hret (by simp) (hb hby at_253) hr
            ·
              show Q0 n0 _ T135.heap _
              rw [e143]
              exact ⟨rfl, N135⟩
          ·
            exact absurd (own_glt2 (n := 1) (k := (1 : Int32)) (by decide) (by have q0 := rng32 p2; have q1 := own_neq (n := 1) (k := (1 : Int32)) (by decide) hc111; have q2 := own_nlt1 (n := 1) (k := (1 : Int32)) (by decide) hc144; omega)) hc145
          ·
            exact absurd (own_glt2 (n := 1) (k := (1 : Int32)) (by decide) (by have q0 := rng32 p2; have q1 := own_neq (n := 1) (k := (1 : Int32)) (by decide) hc111; have q2 := own_nlt1 (n := 1) (k := (1 : Int32)) (by decide) hc149; omega)) hc150
          ·
            exact absurd (own_glt2 (n := 1) (k := (1 : Int32)) (by decide) (by have q0 := rng32 p2; have q1 := own_neq (n := 1) (k := (1 : Int32)) (by decide) hc111; have q2 := own_nlt1 (n := 1) (k := (1 : Int32)) (by decide) hc155; omega)) hc156
      ·
        have pre161 : ∀ t, Steps p.tables e below (s₁.setTop (mkF m 95 #[.val (.int p1), .val (.int p2), .val (.int p3), .val (.int ((p1 &&& (2147483647 : Int32)) % (8 : Int32))), .unset, .unset] [(.int (3 : Int32)), (.int ((p1 &&& (2147483647 : Int32)) % (8 : Int32)))])) t → Steps p.tables e below (s₁.setTop (entryFrame m #[(.int p1), (.int p2), (.int p3)] maxLocals)) t := fun t k => by
          refine pre106 _ ?_
          show Steps p.tables e below (s₁.setTop (mkF m 65 #[.val (.int p1), .val (.int p2), .val (.int p3), .val (.int ((p1 &&& (2147483647 : Int32)) % (8 : Int32))), .unset, .unset] [(.int (2 : Int32)), (.int ((p1 &&& (2147483647 : Int32)) % (8 : Int32)))])) _
          refine XS.icmpYes X0.here hx rfl (pc0 := 65) (pc' := 93) rfl (hb hby at_65) rfl (feq hc107).2 (by decide) (by decide) ?_
          show Steps p.tables e below (s₁.setTop (mkF m 93 #[.val (.int p1), .val (.int p2), .val (.int p3), .val (.int ((p1 &&& (2147483647 : Int32)) % (8 : Int32))), .unset, .unset] [])) _
          refine XS.iloadN X0.here hx rfl (hb hby at_93) rfl ?_
          show Steps p.tables e below (s₁.setTop (mkF m 94 #[.val (.int p1), .val (.int p2), .val (.int p3), .val (.int ((p1 &&& (2147483647 : Int32)) % (8 : Int32))), .unset, .unset] [(.int ((p1 &&& (2147483647 : Int32)) % (8 : Int32)))])) _
          refine XS.iconst X0.here hx rfl (hb hby at_94) ?_
          exact k
        by_cases hc162 : ((p1 &&& (2147483647 : Int32)) % (8 : Int32)) = (3 : Int32)
        ·
          have pre163 : ∀ t, Steps p.tables e below (s₁.setTop (mkF m 95 #[.val (.int p1), .val (.int p2), .val (.int p3), .val (.int (3 : Int32)), .unset, .unset] [(.int (3 : Int32)), (.int (3 : Int32))])) t → Steps p.tables e below (s₁.setTop (entryFrame m #[(.int p1), (.int p2), (.int p3)] maxLocals)) t := fun t k => pre161 t (by rw [hc162]; exact k)
          obtain ⟨T164, X164, e164, st164⟩ := getS2 X0 hx hZ hown (host := "") (Or.inl (hw _ (List.mem_of_getElem? (i := 25) rfl))) Via.refl e0 (S_w6.ext O0.2) (g := (mkF m 98 #[.val (.int p1), .val (.int p2), .val (.int p3), .val (.int (3 : Int32)), .unset, .unset] [])) rfl (hb hby at_98)
          have pre165 : ∀ t, Steps p.tables e below (T164.setTop (mkF m 105 #[.val (.int p1), .val (.int p2), .val (.int p3), .val (.int (3 : Int32)), .val (.ref w6), .unset] [(.int (1 : Int32)), (.int p2)])) t → Steps p.tables e below (s₁.setTop (entryFrame m #[(.int p1), (.int p2), (.int p3)] maxLocals)) t := fun t k => by
            refine pre163 _ ?_
            show Steps p.tables e below (s₁.setTop (mkF m 95 #[.val (.int p1), .val (.int p2), .val (.int p3), .val (.int (3 : Int32)), .unset, .unset] [(.int (3 : Int32)), (.int (3 : Int32))])) _
            refine XS.icmpNo X0.here hx rfl (hb hby at_95) rfl (teq (by decide : (3 : Int32) = (3 : Int32))).2 ?_
            show Steps p.tables e below (s₁.setTop (mkF m 98 #[.val (.int p1), .val (.int p2), .val (.int p3), .val (.int (3 : Int32)), .unset, .unset] [])) _
            refine st164 _ ?_
            show Steps p.tables e below (T164.setTop (mkF m 101 #[.val (.int p1), .val (.int p2), .val (.int p3), .val (.int (3 : Int32)), .unset, .unset] [(.ref w6)])) _
            refine XS.astore X164.here hx rfl (hb hby at_101) rfl rfl (l' := #[.val (.int p1), .val (.int p2), .val (.int p3), .val (.int (3 : Int32)), .val (.ref w6), .unset]) rfl ?_
            show Steps p.tables e below (T164.setTop (mkF m 103 #[.val (.int p1), .val (.int p2), .val (.int p3), .val (.int (3 : Int32)), .val (.ref w6), .unset] [])) _
            refine XS.iloadN X164.here hx rfl (hb hby at_103) rfl ?_
            show Steps p.tables e below (T164.setTop (mkF m 104 #[.val (.int p1), .val (.int p2), .val (.int p3), .val (.int (3 : Int32)), .val (.ref w6), .unset] [(.int p2)])) _
            refine XS.iconst X164.here hx rfl (hb hby at_104) ?_
            exact k
          by_cases hc166 : p2 = (1 : Int32)
          ·
            have pre167 : ∀ t, Steps p.tables e below (T164.setTop (mkF m 105 #[.val (.int p1), .val (.int (1 : Int32)), .val (.int p3), .val (.int (3 : Int32)), .val (.ref w6), .unset] [(.int (1 : Int32)), (.int (1 : Int32))])) t → Steps p.tables e below (s₁.setTop (entryFrame m #[(.int p1), (.int p2), (.int p3)] maxLocals)) t := fun t k => pre165 t (by rw [hc166]; exact k)
            have pre168 : ∀ t, Steps p.tables e below (T164.setTop (mkF m 110 #[.val (.int p1), .val (.int (1 : Int32)), .val (.int p3), .val (.int (3 : Int32)), .val (.ref w6), .unset] [(.int (2 : Int32)), (.int p3)])) t → Steps p.tables e below (s₁.setTop (entryFrame m #[(.int p1), (.int p2), (.int p3)] maxLocals)) t := fun t k => by
              refine pre167 _ ?_
              show Steps p.tables e below (T164.setTop (mkF m 105 #[.val (.int p1), .val (.int (1 : Int32)), .val (.int p3), .val (.int (3 : Int32)), .val (.ref w6), .unset] [(.int (1 : Int32)), (.int (1 : Int32))])) _
              refine XS.icmpNo X164.here hx rfl (hb hby at_105) rfl (teq (by decide : (1 : Int32) = (1 : Int32))).2 ?_
              show Steps p.tables e below (T164.setTop (mkF m 108 #[.val (.int p1), .val (.int (1 : Int32)), .val (.int p3), .val (.int (3 : Int32)), .val (.ref w6), .unset] [])) _
              refine XS.iloadN X164.here hx rfl (hb hby at_108) rfl ?_
              show Steps p.tables e below (T164.setTop (mkF m 109 #[.val (.int p1), .val (.int (1 : Int32)), .val (.int p3), .val (.int (3 : Int32)), .val (.ref w6), .unset] [(.int p3)])) _
              refine XS.iconst X164.here hx rfl (hb hby at_109) ?_
              exact k
            by_cases hc169 : p3 < (2 : Int32)
            ·
              obtain ⟨cq170, kq170, q170a, q170b, q170c⟩ := isOf hZ e164 (E_w6.ext O0.2)
              obtain ⟨_, _, ⟨T171, L171, c171, n171⟩, -, X171, ⟨Lc171, hQ171, l171, y171, z171⟩, st171⟩ := X164.virtualBack hx (y := (⟨"com/example/vipo/vipo/flow/PatternType", "admitsDegree", "(II)Z"⟩ : MethodName)) (z := (⟨"com/example/vipo/vipo/flow/PatternType", "admitsDegree", "(II)Z"⟩ : MethodName)) hown (mvT hZ (hw _ (List.mem_of_getElem? (i := 4) rfl))) (mvT hZ (hw _ (List.mem_of_getElem? (i := 5) rfl))) (notFace_of_selects (args := #[]) (mvT hZ (hw _ (List.mem_of_getElem? (i := 7) rfl)))) (mvT hZ (hw _ (List.mem_of_getElem? (i := 7) rfl))) (mvT hZ (hw _ (List.mem_of_getElem? (i := 6) rfl))) (by decide) (backOf (W := 0) (rm8 l Z a0 hw w1 w2 w3 w4 w5 w6 w7 w8 G [] p3 h0 n0 O0 ) hZ (hw _ (List.mem_of_getElem? (i := 8) rfl)) (hw _ (List.mem_of_getElem? (i := 2) rfl)) (by decide) (by decide)) q170a q170c (g := (mkF m 240 #[.val (.int p1), .val (.int (1 : Int32)), .val (.int p3), .val (.int (3 : Int32)), .val (.ref w6), .val (.int (0 : Int32))] [(.int p3), (.int (1 : Int32)), (.ref w6)])) rfl (by rw [hml]; rfl) (Steps.refl _) (argsL := [(.int (1 : Int32)), (.int p3)]) (rest := []) (lenOf pd0 rfl) rfl (by show 2 * 0 + _ ≤ _; exact Nat.le_of_eq rfl) (hb hby at_240) (fun _ _ => ⟨rfl, e164, (by decide : 0 + 0 ≤ _), (by decide : 0 + 0 ≤ _)⟩)
              dsimp only [Pt.U, Pt.locs, Pt.cells, Pt.slots] at X171 l171 y171 z171 st171 hQ171
              subst l171 y171 z171
              have pre172 : ∀ t, Steps p.tables e below (T164.setTop (mkF m 240 #[.val (.int p1), .val (.int (1 : Int32)), .val (.int p3), .val (.int (3 : Int32)), .val (.ref w6), .val (.int (0 : Int32))] [(.int p3), (.int (1 : Int32)), (.ref w6)])) t → Steps p.tables e below (s₁.setTop (entryFrame m #[(.int p1), (.int p2), (.int p3)] maxLocals)) t := fun t k => by
                refine pre168 _ ?_
                show Steps p.tables e below (T164.setTop (mkF m 110 #[.val (.int p1), .val (.int (1 : Int32)), .val (.int p3), .val (.int (3 : Int32)), .val (.ref w6), .unset] [(.int (2 : Int32)), (.int p3)])) _
                refine XS.icmpYes X164.here hx rfl (pc0 := 110) (pc' := 117) rfl (hb hby at_110) rfl (tlt hc169).1 (by decide) (by decide) ?_
                show Steps p.tables e below (T164.setTop (mkF m 117 #[.val (.int p1), .val (.int (1 : Int32)), .val (.int p3), .val (.int (3 : Int32)), .val (.ref w6), .unset] [])) _
                refine XS.iconst X164.here hx rfl (hb hby at_117) ?_
                show Steps p.tables e below (T164.setTop (mkF m 118 #[.val (.int p1), .val (.int (1 : Int32)), .val (.int p3), .val (.int (3 : Int32)), .val (.ref w6), .unset] [(.int (0 : Int32))])) _
                refine XS.istore X164.here hx rfl (hb hby at_118) rfl (l' := #[.val (.int p1), .val (.int (1 : Int32)), .val (.int p3), .val (.int (3 : Int32)), .val (.ref w6), .val (.int (0 : Int32))]) rfl ?_
                show Steps p.tables e below (T164.setTop (mkF m 120 #[.val (.int p1), .val (.int (1 : Int32)), .val (.int p3), .val (.int (3 : Int32)), .val (.ref w6), .val (.int (0 : Int32))] [])) _
                refine XS.goto X164.here hx rfl (pc0 := 120) (pc' := 236) rfl (hb hby at_120) (by decide) (by decide) ?_
                show Steps p.tables e below (T164.setTop (mkF m 236 #[.val (.int p1), .val (.int (1 : Int32)), .val (.int p3), .val (.int (3 : Int32)), .val (.ref w6), .val (.int (0 : Int32))] [])) _
                refine XS.aload X164.here hx rfl (hb hby at_236) rfl rfl ?_
                show Steps p.tables e below (T164.setTop (mkF m 238 #[.val (.int p1), .val (.int (1 : Int32)), .val (.int p3), .val (.int (3 : Int32)), .val (.ref w6), .val (.int (0 : Int32))] [(.ref w6)])) _
                refine XS.iloadN X164.here hx rfl (hb hby at_238) rfl ?_
                show Steps p.tables e below (T164.setTop (mkF m 239 #[.val (.int p1), .val (.int (1 : Int32)), .val (.int p3), .val (.int (3 : Int32)), .val (.ref w6), .val (.int (0 : Int32))] [(.int (1 : Int32)), (.ref w6)])) _
                refine XS.iloadN X164.here hx rfl (hb hby at_239) rfl ?_
                exact k
              have X171 : Stand p l e room_1 s m #[(.int p1), (.int p2), (.int p3)] below meth c T171 _ 0 0 := X171
              rcases hQ171 with ⟨hc173, rfl, Nq174, e175⟩ | ⟨hc176, rfl, Nq177, e178⟩
              ·
                have N171 := Fr.app N0 Nq174
                obtain ⟨fs, hr, hrun, hended, hW, hsame⟩ := X171.leave (v := some (.int (1 : Int32))) (fun h => by rw [hret] at h; cases h)
                refine ⟨_, _, pre172 _ ?_, hrun, hended, _, _, rfl, ?_, ⟨_, rfl⟩, hW, hsame.mono (by decide) (by decide)⟩
                ·
                  show Steps p.tables e below (T164.setTop (mkF m 240 #[.val (.int p1), .val (.int (1 : Int32)), .val (.int p3), .val (.int (3 : Int32)), .val (.ref w6), .val (.int (0 : Int32))] [(.int p3), (.int (1 : Int32)), (.ref w6)])) _
                  refine st171.trans ?_
                  show Steps p.tables e below (T171.setTop (mkF m 243 #[.val (.int p1), .val (.int (1 : Int32)), .val (.int p3), .val (.int (3 : Int32)), .val (.ref w6), .val (.int (0 : Int32))] [(.int (0 : Int32))])) _
                  refine XS.iload X171.here hx rfl (hb hby at_243) rfl ?_
                  show Steps p.tables e below (T171.setTop (mkF m 245 #[.val (.int p1), .val (.int (1 : Int32)), .val (.int p3), .val (.int (3 : Int32)), .val (.ref w6), .val (.int (0 : Int32))] [(.int (0 : Int32)), (.int (0 : Int32))])) _
                  refine XS.icmpNo X171.here hx rfl (hb hby at_245) rfl (teq (by decide : (0 : Int32) = (0 : Int32))).2 ?_
                  show Steps p.tables e below (T171.setTop (mkF m 248 #[.val (.int p1), .val (.int (1 : Int32)), .val (.int p3), .val (.int (3 : Int32)), .val (.ref w6), .val (.int (0 : Int32))] [])) _
                  refine XS.iconst X171.here hx rfl (hb hby at_248) ?_
                  show Steps p.tables e below (T171.setTop (mkF m 249 #[.val (.int p1), .val (.int (1 : Int32)), .val (.int p3), .val (.int (3 : Int32)), .val (.ref w6), .val (.int (0 : Int32))] [(.int (1 : Int32))])) _
                  refine XS.goto X171.here hx rfl (pc0 := 249) (pc' := 253) rfl (hb hby at_249) (by decide) (by decide) ?_
                  show Steps p.tables e below (T171.setTop (mkF m 253 #[.val (.int p1), .val (.int (1 : Int32)), .val (.int p3), .val (.int (3 : Int32)), .val (.ref w6), .val (.int (0 : Int32))] [(.int (1 : Int32))])) _
                  exact retN X171 hx (t := .boolean) hret (by simp) (hb hby at_253) hr
                ·
                  show Q0 n0 _ T171.heap _
                  rw [e175]
                  exact ⟨rfl, N171⟩
              ·
                exact absurd hc169 hc176
            ·
              obtain ⟨cq179, kq179, q179a, q179b, q179c⟩ := isOf hZ e164 (E_w6.ext O0.2)
              obtain ⟨_, _, ⟨T180, L180, c180, n180⟩, -, X180, ⟨Lc180, hQ180, l180, y180, z180⟩, st180⟩ := X164.virtualBack hx (y := (⟨"com/example/vipo/vipo/flow/PatternType", "admitsDegree", "(II)Z"⟩ : MethodName)) (z := (⟨"com/example/vipo/vipo/flow/PatternType", "admitsDegree", "(II)Z"⟩ : MethodName)) hown (mvT hZ (hw _ (List.mem_of_getElem? (i := 4) rfl))) (mvT hZ (hw _ (List.mem_of_getElem? (i := 5) rfl))) (notFace_of_selects (args := #[]) (mvT hZ (hw _ (List.mem_of_getElem? (i := 7) rfl)))) (mvT hZ (hw _ (List.mem_of_getElem? (i := 7) rfl))) (mvT hZ (hw _ (List.mem_of_getElem? (i := 6) rfl))) (by decide) (backOf (W := 0) (rm8 l Z a0 hw w1 w2 w3 w4 w5 w6 w7 w8 G [] p3 h0 n0 O0 ) hZ (hw _ (List.mem_of_getElem? (i := 8) rfl)) (hw _ (List.mem_of_getElem? (i := 2) rfl)) (by decide) (by decide)) q179a q179c (g := (mkF m 240 #[.val (.int p1), .val (.int (1 : Int32)), .val (.int p3), .val (.int (3 : Int32)), .val (.ref w6), .val (.int (1 : Int32))] [(.int p3), (.int (1 : Int32)), (.ref w6)])) rfl (by rw [hml]; rfl) (Steps.refl _) (argsL := [(.int (1 : Int32)), (.int p3)]) (rest := []) (lenOf pd0 rfl) rfl (by show 2 * 0 + _ ≤ _; exact Nat.le_of_eq rfl) (hb hby at_240) (fun _ _ => ⟨rfl, e164, (by decide : 0 + 0 ≤ _), (by decide : 0 + 0 ≤ _)⟩)
              dsimp only [Pt.U, Pt.locs, Pt.cells, Pt.slots] at X180 l180 y180 z180 st180 hQ180
              subst l180 y180 z180
              have pre181 : ∀ t, Steps p.tables e below (T164.setTop (mkF m 240 #[.val (.int p1), .val (.int (1 : Int32)), .val (.int p3), .val (.int (3 : Int32)), .val (.ref w6), .val (.int (1 : Int32))] [(.int p3), (.int (1 : Int32)), (.ref w6)])) t → Steps p.tables e below (s₁.setTop (entryFrame m #[(.int p1), (.int p2), (.int p3)] maxLocals)) t := fun t k => by
                refine pre168 _ ?_
                show Steps p.tables e below (T164.setTop (mkF m 110 #[.val (.int p1), .val (.int (1 : Int32)), .val (.int p3), .val (.int (3 : Int32)), .val (.ref w6), .unset] [(.int (2 : Int32)), (.int p3)])) _
                refine XS.icmpNo X164.here hx rfl (hb hby at_110) rfl (flt hc169).1 ?_
                show Steps p.tables e below (T164.setTop (mkF m 113 #[.val (.int p1), .val (.int (1 : Int32)), .val (.int p3), .val (.int (3 : Int32)), .val (.ref w6), .unset] [])) _
                refine XS.iconst X164.here hx rfl (hb hby at_113) ?_
                show Steps p.tables e below (T164.setTop (mkF m 114 #[.val (.int p1), .val (.int (1 : Int32)), .val (.int p3), .val (.int (3 : Int32)), .val (.ref w6), .unset] [(.int (1 : Int32))])) _
                refine XS.goto X164.here hx rfl (pc0 := 114) (pc' := 118) rfl (hb hby at_114) (by decide) (by decide) ?_
                show Steps p.tables e below (T164.setTop (mkF m 118 #[.val (.int p1), .val (.int (1 : Int32)), .val (.int p3), .val (.int (3 : Int32)), .val (.ref w6), .unset] [(.int (1 : Int32))])) _
                refine XS.istore X164.here hx rfl (hb hby at_118) rfl (l' := #[.val (.int p1), .val (.int (1 : Int32)), .val (.int p3), .val (.int (3 : Int32)), .val (.ref w6), .val (.int (1 : Int32))]) rfl ?_
                show Steps p.tables e below (T164.setTop (mkF m 120 #[.val (.int p1), .val (.int (1 : Int32)), .val (.int p3), .val (.int (3 : Int32)), .val (.ref w6), .val (.int (1 : Int32))] [])) _
                refine XS.goto X164.here hx rfl (pc0 := 120) (pc' := 236) rfl (hb hby at_120) (by decide) (by decide) ?_
                show Steps p.tables e below (T164.setTop (mkF m 236 #[.val (.int p1), .val (.int (1 : Int32)), .val (.int p3), .val (.int (3 : Int32)), .val (.ref w6), .val (.int (1 : Int32))] [])) _
                refine XS.aload X164.here hx rfl (hb hby at_236) rfl rfl ?_
                show Steps p.tables e below (T164.setTop (mkF m 238 #[.val (.int p1), .val (.int (1 : Int32)), .val (.int p3), .val (.int (3 : Int32)), .val (.ref w6), .val (.int (1 : Int32))] [(.ref w6)])) _
                refine XS.iloadN X164.here hx rfl (hb hby at_238) rfl ?_
                show Steps p.tables e below (T164.setTop (mkF m 239 #[.val (.int p1), .val (.int (1 : Int32)), .val (.int p3), .val (.int (3 : Int32)), .val (.ref w6), .val (.int (1 : Int32))] [(.int (1 : Int32)), (.ref w6)])) _
                refine XS.iloadN X164.here hx rfl (hb hby at_239) rfl ?_
                exact k
              have X180 : Stand p l e room_1 s m #[(.int p1), (.int p2), (.int p3)] below meth c T180 _ 0 0 := X180
              rcases hQ180 with ⟨hc182, rfl, Nq183, e184⟩ | ⟨hc185, rfl, Nq186, e187⟩
              ·
                exact absurd hc182 hc169
              ·
                have N180 := Fr.app N0 Nq186
                obtain ⟨fs, hr, hrun, hended, hW, hsame⟩ := X180.leave (v := some (.int (1 : Int32))) (fun h => by rw [hret] at h; cases h)
                refine ⟨_, _, pre181 _ ?_, hrun, hended, _, _, rfl, ?_, ⟨_, rfl⟩, hW, hsame.mono (by decide) (by decide)⟩
                ·
                  show Steps p.tables e below (T164.setTop (mkF m 240 #[.val (.int p1), .val (.int (1 : Int32)), .val (.int p3), .val (.int (3 : Int32)), .val (.ref w6), .val (.int (1 : Int32))] [(.int p3), (.int (1 : Int32)), (.ref w6)])) _
                  refine st180.trans ?_
                  show Steps p.tables e below (T180.setTop (mkF m 243 #[.val (.int p1), .val (.int (1 : Int32)), .val (.int p3), .val (.int (3 : Int32)), .val (.ref w6), .val (.int (1 : Int32))] [(.int (1 : Int32))])) _
                  refine XS.iload X180.here hx rfl (hb hby at_243) rfl ?_
                  show Steps p.tables e below (T180.setTop (mkF m 245 #[.val (.int p1), .val (.int (1 : Int32)), .val (.int p3), .val (.int (3 : Int32)), .val (.ref w6), .val (.int (1 : Int32))] [(.int (1 : Int32)), (.int (1 : Int32))])) _
                  refine XS.icmpNo X180.here hx rfl (hb hby at_245) rfl (teq (by decide : (1 : Int32) = (1 : Int32))).2 ?_
                  show Steps p.tables e below (T180.setTop (mkF m 248 #[.val (.int p1), .val (.int (1 : Int32)), .val (.int p3), .val (.int (3 : Int32)), .val (.ref w6), .val (.int (1 : Int32))] [])) _
                  refine XS.iconst X180.here hx rfl (hb hby at_248) ?_
                  show Steps p.tables e below (T180.setTop (mkF m 249 #[.val (.int p1), .val (.int (1 : Int32)), .val (.int p3), .val (.int (3 : Int32)), .val (.ref w6), .val (.int (1 : Int32))] [(.int (1 : Int32))])) _
                  refine XS.goto X180.here hx rfl (pc0 := 249) (pc' := 253) rfl (hb hby at_249) (by decide) (by decide) ?_
                  show Steps p.tables e below (T180.setTop (mkF m 253 #[.val (.int p1), .val (.int (1 : Int32)), .val (.int p3), .val (.int (3 : Int32)), .val (.ref w6), .val (.int (1 : Int32))] [(.int (1 : Int32))])) _
                  exact retN X180 hx (t := .boolean) hret (by simp) (hb hby at_253) hr
                ·
                  show Q0 n0 _ T180.heap _
                  rw [e187]
                  exact ⟨rfl, N180⟩
          ·
            obtain ⟨cq188, kq188, q188a, q188b, q188c⟩ := isOf hZ e164 (E_w6.ext O0.2)
            obtain ⟨_, _, ⟨T189, L189, c189, n189⟩, -, X189, ⟨Lc189, hQ189, l189, y189, z189⟩, st189⟩ := X164.virtualBack hx (y := (⟨"com/example/vipo/vipo/flow/PatternType", "admitsDegree", "(II)Z"⟩ : MethodName)) (z := (⟨"com/example/vipo/vipo/flow/PatternType", "admitsDegree", "(II)Z"⟩ : MethodName)) hown (mvT hZ (hw _ (List.mem_of_getElem? (i := 4) rfl))) (mvT hZ (hw _ (List.mem_of_getElem? (i := 5) rfl))) (notFace_of_selects (args := #[]) (mvT hZ (hw _ (List.mem_of_getElem? (i := 7) rfl)))) (mvT hZ (hw _ (List.mem_of_getElem? (i := 7) rfl))) (mvT hZ (hw _ (List.mem_of_getElem? (i := 6) rfl))) (by decide) (backOf (W := 0) (rm9 l Z a0 hw w1 w2 w3 w4 w5 w6 w7 w8 G [] p2 p3 h0 n0 O0 ) hZ (hw _ (List.mem_of_getElem? (i := 8) rfl)) (hw _ (List.mem_of_getElem? (i := 2) rfl)) (by decide) (by decide)) q188a q188c (g := (mkF m 240 #[.val (.int p1), .val (.int p2), .val (.int p3), .val (.int (3 : Int32)), .val (.ref w6), .val (.int (0 : Int32))] [(.int p3), (.int p2), (.ref w6)])) rfl (by rw [hml]; rfl) (Steps.refl _) (argsL := [(.int p2), (.int p3)]) (rest := []) (lenOf pd0 rfl) rfl (by show 2 * 0 + _ ≤ _; exact Nat.le_of_eq rfl) (hb hby at_240) (fun _ _ => ⟨rfl, e164, (by decide : 0 + 0 ≤ _), (by decide : 0 + 0 ≤ _)⟩)
            dsimp only [Pt.U, Pt.locs, Pt.cells, Pt.slots] at X189 l189 y189 z189 st189 hQ189
            subst l189 y189 z189
            have pre190 : ∀ t, Steps p.tables e below (T164.setTop (mkF m 240 #[.val (.int p1), .val (.int p2), .val (.int p3), .val (.int (3 : Int32)), .val (.ref w6), .val (.int (0 : Int32))] [(.int p3), (.int p2), (.ref w6)])) t → Steps p.tables e below (s₁.setTop (entryFrame m #[(.int p1), (.int p2), (.int p3)] maxLocals)) t := fun t k => by
              refine pre165 _ ?_
              show Steps p.tables e below (T164.setTop (mkF m 105 #[.val (.int p1), .val (.int p2), .val (.int p3), .val (.int (3 : Int32)), .val (.ref w6), .unset] [(.int (1 : Int32)), (.int p2)])) _
              refine XS.icmpYes X164.here hx rfl (pc0 := 105) (pc' := 117) rfl (hb hby at_105) rfl (feq hc166).2 (by decide) (by decide) ?_
              show Steps p.tables e below (T164.setTop (mkF m 117 #[.val (.int p1), .val (.int p2), .val (.int p3), .val (.int (3 : Int32)), .val (.ref w6), .unset] [])) _
              refine XS.iconst X164.here hx rfl (hb hby at_117) ?_
              show Steps p.tables e below (T164.setTop (mkF m 118 #[.val (.int p1), .val (.int p2), .val (.int p3), .val (.int (3 : Int32)), .val (.ref w6), .unset] [(.int (0 : Int32))])) _
              refine XS.istore X164.here hx rfl (hb hby at_118) rfl (l' := #[.val (.int p1), .val (.int p2), .val (.int p3), .val (.int (3 : Int32)), .val (.ref w6), .val (.int (0 : Int32))]) rfl ?_
              show Steps p.tables e below (T164.setTop (mkF m 120 #[.val (.int p1), .val (.int p2), .val (.int p3), .val (.int (3 : Int32)), .val (.ref w6), .val (.int (0 : Int32))] [])) _
              refine XS.goto X164.here hx rfl (pc0 := 120) (pc' := 236) rfl (hb hby at_120) (by decide) (by decide) ?_
              show Steps p.tables e below (T164.setTop (mkF m 236 #[.val (.int p1), .val (.int p2), .val (.int p3), .val (.int (3 : Int32)), .val (.ref w6), .val (.int (0 : Int32))] [])) _
              refine XS.aload X164.here hx rfl (hb hby at_236) rfl rfl ?_
              show Steps p.tables e below (T164.setTop (mkF m 238 #[.val (.int p1), .val (.int p2), .val (.int p3), .val (.int (3 : Int32)), .val (.ref w6), .val (.int (0 : Int32))] [(.ref w6)])) _
              refine XS.iloadN X164.here hx rfl (hb hby at_238) rfl ?_
              show Steps p.tables e below (T164.setTop (mkF m 239 #[.val (.int p1), .val (.int p2), .val (.int p3), .val (.int (3 : Int32)), .val (.ref w6), .val (.int (0 : Int32))] [(.int p2), (.ref w6)])) _
              refine XS.iloadN X164.here hx rfl (hb hby at_239) rfl ?_
              exact k
            have X189 : Stand p l e room_1 s m #[(.int p1), (.int p2), (.int p3)] below meth c T189 _ 0 0 := X189
            rcases hQ189 with ⟨hc191, rfl, Nq192, e193⟩ | ⟨hc194, hc195, rfl, Nq196, e197⟩ | ⟨hc198, hc199, hc200, rfl, Nq201, e202⟩ | ⟨hc203, hc204, hc205, rfl, Nq206, e207⟩
            ·
              have N189 := Fr.app N0 Nq192
              obtain ⟨fs, hr, hrun, hended, hW, hsame⟩ := X189.leave (v := some (.int (1 : Int32))) (fun h => by rw [hret] at h; cases h)
              refine ⟨_, _, pre190 _ ?_, hrun, hended, _, _, rfl, ?_, ⟨_, rfl⟩, hW, hsame.mono (by decide) (by decide)⟩
              ·
                show Steps p.tables e below (T164.setTop (mkF m 240 #[.val (.int p1), .val (.int p2), .val (.int p3), .val (.int (3 : Int32)), .val (.ref w6), .val (.int (0 : Int32))] [(.int p3), (.int p2), (.ref w6)])) _
                refine st189.trans ?_
                show Steps p.tables e below (T189.setTop (mkF m 243 #[.val (.int p1), .val (.int p2), .val (.int p3), .val (.int (3 : Int32)), .val (.ref w6), .val (.int (0 : Int32))] [(.int (0 : Int32))])) _
                refine XS.iload X189.here hx rfl (hb hby at_243) rfl ?_
                show Steps p.tables e below (T189.setTop (mkF m 245 #[.val (.int p1), .val (.int p2), .val (.int p3), .val (.int (3 : Int32)), .val (.ref w6), .val (.int (0 : Int32))] [(.int (0 : Int32)), (.int (0 : Int32))])) _
                refine XS.icmpNo X189.here hx rfl (hb hby at_245) rfl (teq (by decide : (0 : Int32) = (0 : Int32))).2 ?_
                show Steps p.tables e below (T189.setTop (mkF m 248 #[.val (.int p1), .val (.int p2), .val (.int p3), .val (.int (3 : Int32)), .val (.ref w6), .val (.int (0 : Int32))] [])) _
                refine XS.iconst X189.here hx rfl (hb hby at_248) ?_
                show Steps p.tables e below (T189.setTop (mkF m 249 #[.val (.int p1), .val (.int p2), .val (.int p3), .val (.int (3 : Int32)), .val (.ref w6), .val (.int (0 : Int32))] [(.int (1 : Int32))])) _
                refine XS.goto X189.here hx rfl (pc0 := 249) (pc' := 253) rfl (hb hby at_249) (by decide) (by decide) ?_
                show Steps p.tables e below (T189.setTop (mkF m 253 #[.val (.int p1), .val (.int p2), .val (.int p3), .val (.int (3 : Int32)), .val (.ref w6), .val (.int (0 : Int32))] [(.int (1 : Int32))])) _
                exact retN X189 hx (t := .boolean) hret (by simp) (hb hby at_253) hr
              ·
                show Q0 n0 _ T189.heap _
                rw [e193]
                exact ⟨rfl, N189⟩
            ·
              have N189 := Fr.app N0 Nq196
              obtain ⟨fs, hr, hrun, hended, hW, hsame⟩ := X189.leave (v := some (.int (1 : Int32))) (fun h => by rw [hret] at h; cases h)
              refine ⟨_, _, pre190 _ ?_, hrun, hended, _, _, rfl, ?_, ⟨_, rfl⟩, hW, hsame.mono (by decide) (by decide)⟩
              ·
                show Steps p.tables e below (T164.setTop (mkF m 240 #[.val (.int p1), .val (.int p2), .val (.int p3), .val (.int (3 : Int32)), .val (.ref w6), .val (.int (0 : Int32))] [(.int p3), (.int p2), (.ref w6)])) _
                refine st189.trans ?_
                show Steps p.tables e below (T189.setTop (mkF m 243 #[.val (.int p1), .val (.int p2), .val (.int p3), .val (.int (3 : Int32)), .val (.ref w6), .val (.int (0 : Int32))] [(.int (0 : Int32))])) _
                refine XS.iload X189.here hx rfl (hb hby at_243) rfl ?_
                show Steps p.tables e below (T189.setTop (mkF m 245 #[.val (.int p1), .val (.int p2), .val (.int p3), .val (.int (3 : Int32)), .val (.ref w6), .val (.int (0 : Int32))] [(.int (0 : Int32)), (.int (0 : Int32))])) _
                refine XS.icmpNo X189.here hx rfl (hb hby at_245) rfl (teq (by decide : (0 : Int32) = (0 : Int32))).2 ?_
                show Steps p.tables e below (T189.setTop (mkF m 248 #[.val (.int p1), .val (.int p2), .val (.int p3), .val (.int (3 : Int32)), .val (.ref w6), .val (.int (0 : Int32))] [])) _
                refine XS.iconst X189.here hx rfl (hb hby at_248) ?_
                show Steps p.tables e below (T189.setTop (mkF m 249 #[.val (.int p1), .val (.int p2), .val (.int p3), .val (.int (3 : Int32)), .val (.ref w6), .val (.int (0 : Int32))] [(.int (1 : Int32))])) _
                refine XS.goto X189.here hx rfl (pc0 := 249) (pc' := 253) rfl (hb hby at_249) (by decide) (by decide) ?_
                show Steps p.tables e below (T189.setTop (mkF m 253 #[.val (.int p1), .val (.int p2), .val (.int p3), .val (.int (3 : Int32)), .val (.ref w6), .val (.int (0 : Int32))] [(.int (1 : Int32))])) _
                exact retN X189 hx (t := .boolean) hret (by simp) (hb hby at_253) hr
              ·
                show Q0 n0 _ T189.heap _
                rw [e197]
                exact ⟨rfl, N189⟩
            ·
              exact absurd (own_glt2 (n := 1) (k := (1 : Int32)) (by decide) (by have q0 := rng32 p2; have q1 := own_neq (n := 1) (k := (1 : Int32)) (by decide) hc166; have q2 := own_nlt1 (n := 1) (k := (1 : Int32)) (by decide) hc198; omega)) hc199
            ·
              exact absurd (own_glt2 (n := 1) (k := (1 : Int32)) (by decide) (by have q0 := rng32 p2; have q1 := own_neq (n := 1) (k := (1 : Int32)) (by decide) hc166; have q2 := own_nlt1 (n := 1) (k := (1 : Int32)) (by decide) hc203; omega)) hc204
        ·
          have pre208 : ∀ t, Steps p.tables e below (s₁.setTop (mkF m 125 #[.val (.int p1), .val (.int p2), .val (.int p3), .val (.int ((p1 &&& (2147483647 : Int32)) % (8 : Int32))), .unset, .unset] [(.int (4 : Int32)), (.int ((p1 &&& (2147483647 : Int32)) % (8 : Int32)))])) t → Steps p.tables e below (s₁.setTop (entryFrame m #[(.int p1), (.int p2), (.int p3)] maxLocals)) t := fun t k => by
            refine pre161 _ ?_
            show Steps p.tables e below (s₁.setTop (mkF m 95 #[.val (.int p1), .val (.int p2), .val (.int p3), .val (.int ((p1 &&& (2147483647 : Int32)) % (8 : Int32))), .unset, .unset] [(.int (3 : Int32)), (.int ((p1 &&& (2147483647 : Int32)) % (8 : Int32)))])) _
            refine XS.icmpYes X0.here hx rfl (pc0 := 95) (pc' := 123) rfl (hb hby at_95) rfl (feq hc162).2 (by decide) (by decide) ?_
            show Steps p.tables e below (s₁.setTop (mkF m 123 #[.val (.int p1), .val (.int p2), .val (.int p3), .val (.int ((p1 &&& (2147483647 : Int32)) % (8 : Int32))), .unset, .unset] [])) _
            refine XS.iloadN X0.here hx rfl (hb hby at_123) rfl ?_
            show Steps p.tables e below (s₁.setTop (mkF m 124 #[.val (.int p1), .val (.int p2), .val (.int p3), .val (.int ((p1 &&& (2147483647 : Int32)) % (8 : Int32))), .unset, .unset] [(.int ((p1 &&& (2147483647 : Int32)) % (8 : Int32)))])) _
            refine XS.iconst X0.here hx rfl (hb hby at_124) ?_
            exact k
          by_cases hc209 : ((p1 &&& (2147483647 : Int32)) % (8 : Int32)) = (4 : Int32)
          ·
            have pre210 : ∀ t, Steps p.tables e below (s₁.setTop (mkF m 125 #[.val (.int p1), .val (.int p2), .val (.int p3), .val (.int (4 : Int32)), .unset, .unset] [(.int (4 : Int32)), (.int (4 : Int32))])) t → Steps p.tables e below (s₁.setTop (entryFrame m #[(.int p1), (.int p2), (.int p3)] maxLocals)) t := fun t k => pre208 t (by rw [hc209]; exact k)
            obtain ⟨T211, X211, e211, st211⟩ := getS2 X0 hx hZ hown (host := "") (Or.inl (hw _ (List.mem_of_getElem? (i := 19) rfl))) Via.refl e0 (S_w3.ext O0.2) (g := (mkF m 128 #[.val (.int p1), .val (.int p2), .val (.int p3), .val (.int (4 : Int32)), .unset, .unset] [])) rfl (hb hby at_128)
            have pre212 : ∀ t, Steps p.tables e below (T211.setTop (mkF m 135 #[.val (.int p1), .val (.int p2), .val (.int p3), .val (.int (4 : Int32)), .val (.ref w3), .unset] [(.int (1 : Int32)), (.int p2)])) t → Steps p.tables e below (s₁.setTop (entryFrame m #[(.int p1), (.int p2), (.int p3)] maxLocals)) t := fun t k => by
              refine pre210 _ ?_
              show Steps p.tables e below (s₁.setTop (mkF m 125 #[.val (.int p1), .val (.int p2), .val (.int p3), .val (.int (4 : Int32)), .unset, .unset] [(.int (4 : Int32)), (.int (4 : Int32))])) _
              refine XS.icmpNo X0.here hx rfl (hb hby at_125) rfl (teq (by decide : (4 : Int32) = (4 : Int32))).2 ?_
              show Steps p.tables e below (s₁.setTop (mkF m 128 #[.val (.int p1), .val (.int p2), .val (.int p3), .val (.int (4 : Int32)), .unset, .unset] [])) _
              refine st211 _ ?_
              show Steps p.tables e below (T211.setTop (mkF m 131 #[.val (.int p1), .val (.int p2), .val (.int p3), .val (.int (4 : Int32)), .unset, .unset] [(.ref w3)])) _
              refine XS.astore X211.here hx rfl (hb hby at_131) rfl rfl (l' := #[.val (.int p1), .val (.int p2), .val (.int p3), .val (.int (4 : Int32)), .val (.ref w3), .unset]) rfl ?_
              show Steps p.tables e below (T211.setTop (mkF m 133 #[.val (.int p1), .val (.int p2), .val (.int p3), .val (.int (4 : Int32)), .val (.ref w3), .unset] [])) _
              refine XS.iloadN X211.here hx rfl (hb hby at_133) rfl ?_
              show Steps p.tables e below (T211.setTop (mkF m 134 #[.val (.int p1), .val (.int p2), .val (.int p3), .val (.int (4 : Int32)), .val (.ref w3), .unset] [(.int p2)])) _
              refine XS.iconst X211.here hx rfl (hb hby at_134) ?_
              exact k
            by_cases hc213 : p2 = (1 : Int32)
            ·
              have pre214 : ∀ t, Steps p.tables e below (T211.setTop (mkF m 135 #[.val (.int p1), .val (.int (1 : Int32)), .val (.int p3), .val (.int (4 : Int32)), .val (.ref w3), .unset] [(.int (1 : Int32)), (.int (1 : Int32))])) t → Steps p.tables e below (s₁.setTop (entryFrame m #[(.int p1), (.int p2), (.int p3)] maxLocals)) t := fun t k => pre212 t (by rw [hc213]; exact k)
              have pre215 : ∀ t, Steps p.tables e below (T211.setTop (mkF m 140 #[.val (.int p1), .val (.int (1 : Int32)), .val (.int p3), .val (.int (4 : Int32)), .val (.ref w3), .unset] [(.int (2 : Int32)), (.int p3)])) t → Steps p.tables e below (s₁.setTop (entryFrame m #[(.int p1), (.int p2), (.int p3)] maxLocals)) t := fun t k => by
                refine pre214 _ ?_
                show Steps p.tables e below (T211.setTop (mkF m 135 #[.val (.int p1), .val (.int (1 : Int32)), .val (.int p3), .val (.int (4 : Int32)), .val (.ref w3), .unset] [(.int (1 : Int32)), (.int (1 : Int32))])) _
                refine XS.icmpNo X211.here hx rfl (hb hby at_135) rfl (teq (by decide : (1 : Int32) = (1 : Int32))).2 ?_
                show Steps p.tables e below (T211.setTop (mkF m 138 #[.val (.int p1), .val (.int (1 : Int32)), .val (.int p3), .val (.int (4 : Int32)), .val (.ref w3), .unset] [])) _
                refine XS.iloadN X211.here hx rfl (hb hby at_138) rfl ?_
                show Steps p.tables e below (T211.setTop (mkF m 139 #[.val (.int p1), .val (.int (1 : Int32)), .val (.int p3), .val (.int (4 : Int32)), .val (.ref w3), .unset] [(.int p3)])) _
                refine XS.iconst X211.here hx rfl (hb hby at_139) ?_
                exact k
              by_cases hc216 : p3 < (2 : Int32)
              ·
                obtain ⟨cq217, kq217, q217a, q217b, q217c⟩ := isOf hZ e211 (E_w3.ext O0.2)
                obtain ⟨_, _, ⟨T218, L218, c218, n218⟩, -, X218, ⟨Lc218, hQ218, l218, y218, z218⟩, st218⟩ := X211.virtualBack hx (y := (⟨"com/example/vipo/vipo/flow/PatternType", "admitsDegree", "(II)Z"⟩ : MethodName)) (z := (⟨"com/example/vipo/vipo/flow/PatternType", "admitsDegree", "(II)Z"⟩ : MethodName)) hown (mvT hZ (hw _ (List.mem_of_getElem? (i := 4) rfl))) (mvT hZ (hw _ (List.mem_of_getElem? (i := 5) rfl))) (notFace_of_selects (args := #[]) (mvT hZ (hw _ (List.mem_of_getElem? (i := 7) rfl)))) (mvT hZ (hw _ (List.mem_of_getElem? (i := 7) rfl))) (mvT hZ (hw _ (List.mem_of_getElem? (i := 6) rfl))) (by decide) (backOf (W := 0) (rm10 l Z a0 hw w1 w2 w3 w4 w5 w6 w7 w8 G [] p3 h0 n0 O0 ) hZ (hw _ (List.mem_of_getElem? (i := 8) rfl)) (hw _ (List.mem_of_getElem? (i := 2) rfl)) (by decide) (by decide)) q217a q217c (g := (mkF m 240 #[.val (.int p1), .val (.int (1 : Int32)), .val (.int p3), .val (.int (4 : Int32)), .val (.ref w3), .val (.int (0 : Int32))] [(.int p3), (.int (1 : Int32)), (.ref w3)])) rfl (by rw [hml]; rfl) (Steps.refl _) (argsL := [(.int (1 : Int32)), (.int p3)]) (rest := []) (lenOf pd0 rfl) rfl (by show 2 * 0 + _ ≤ _; exact Nat.le_of_eq rfl) (hb hby at_240) (fun _ _ => ⟨rfl, e211, (by decide : 0 + 0 ≤ _), (by decide : 0 + 0 ≤ _)⟩)
                dsimp only [Pt.U, Pt.locs, Pt.cells, Pt.slots] at X218 l218 y218 z218 st218 hQ218
                subst l218 y218 z218
                have pre219 : ∀ t, Steps p.tables e below (T211.setTop (mkF m 240 #[.val (.int p1), .val (.int (1 : Int32)), .val (.int p3), .val (.int (4 : Int32)), .val (.ref w3), .val (.int (0 : Int32))] [(.int p3), (.int (1 : Int32)), (.ref w3)])) t → Steps p.tables e below (s₁.setTop (entryFrame m #[(.int p1), (.int p2), (.int p3)] maxLocals)) t := fun t k => by
                  refine pre215 _ ?_
                  show Steps p.tables e below (T211.setTop (mkF m 140 #[.val (.int p1), .val (.int (1 : Int32)), .val (.int p3), .val (.int (4 : Int32)), .val (.ref w3), .unset] [(.int (2 : Int32)), (.int p3)])) _
                  refine XS.icmpYes X211.here hx rfl (pc0 := 140) (pc' := 147) rfl (hb hby at_140) rfl (tlt hc216).1 (by decide) (by decide) ?_
                  show Steps p.tables e below (T211.setTop (mkF m 147 #[.val (.int p1), .val (.int (1 : Int32)), .val (.int p3), .val (.int (4 : Int32)), .val (.ref w3), .unset] [])) _
                  refine XS.iconst X211.here hx rfl (hb hby at_147) ?_
                  show Steps p.tables e below (T211.setTop (mkF m 148 #[.val (.int p1), .val (.int (1 : Int32)), .val (.int p3), .val (.int (4 : Int32)), .val (.ref w3), .unset] [(.int (0 : Int32))])) _
                  refine XS.istore X211.here hx rfl (hb hby at_148) rfl (l' := #[.val (.int p1), .val (.int (1 : Int32)), .val (.int p3), .val (.int (4 : Int32)), .val (.ref w3), .val (.int (0 : Int32))]) rfl ?_
                  show Steps p.tables e below (T211.setTop (mkF m 150 #[.val (.int p1), .val (.int (1 : Int32)), .val (.int p3), .val (.int (4 : Int32)), .val (.ref w3), .val (.int (0 : Int32))] [])) _
                  refine XS.goto X211.here hx rfl (pc0 := 150) (pc' := 236) rfl (hb hby at_150) (by decide) (by decide) ?_
                  show Steps p.tables e below (T211.setTop (mkF m 236 #[.val (.int p1), .val (.int (1 : Int32)), .val (.int p3), .val (.int (4 : Int32)), .val (.ref w3), .val (.int (0 : Int32))] [])) _
                  refine XS.aload X211.here hx rfl (hb hby at_236) rfl rfl ?_
                  show Steps p.tables e below (T211.setTop (mkF m 238 #[.val (.int p1), .val (.int (1 : Int32)), .val (.int p3), .val (.int (4 : Int32)), .val (.ref w3), .val (.int (0 : Int32))] [(.ref w3)])) _
                  refine XS.iloadN X211.here hx rfl (hb hby at_238) rfl ?_
                  show Steps p.tables e below (T211.setTop (mkF m 239 #[.val (.int p1), .val (.int (1 : Int32)), .val (.int p3), .val (.int (4 : Int32)), .val (.ref w3), .val (.int (0 : Int32))] [(.int (1 : Int32)), (.ref w3)])) _
                  refine XS.iloadN X211.here hx rfl (hb hby at_239) rfl ?_
                  exact k
                have X218 : Stand p l e room_1 s m #[(.int p1), (.int p2), (.int p3)] below meth c T218 _ 0 0 := X218
                rcases hQ218 with ⟨hc220, rfl, Nq221, e222⟩ | ⟨hc223, rfl, Nq224, e225⟩
                ·
                  have N218 := Fr.app N0 Nq221
                  obtain ⟨fs, hr, hrun, hended, hW, hsame⟩ := X218.leave (v := some (.int (1 : Int32))) (fun h => by rw [hret] at h; cases h)
                  refine ⟨_, _, pre219 _ ?_, hrun, hended, _, _, rfl, ?_, ⟨_, rfl⟩, hW, hsame.mono (by decide) (by decide)⟩
                  ·
                    show Steps p.tables e below (T211.setTop (mkF m 240 #[.val (.int p1), .val (.int (1 : Int32)), .val (.int p3), .val (.int (4 : Int32)), .val (.ref w3), .val (.int (0 : Int32))] [(.int p3), (.int (1 : Int32)), (.ref w3)])) _
                    refine st218.trans ?_
                    show Steps p.tables e below (T218.setTop (mkF m 243 #[.val (.int p1), .val (.int (1 : Int32)), .val (.int p3), .val (.int (4 : Int32)), .val (.ref w3), .val (.int (0 : Int32))] [(.int (0 : Int32))])) _
                    refine XS.iload X218.here hx rfl (hb hby at_243) rfl ?_
                    show Steps p.tables e below (T218.setTop (mkF m 245 #[.val (.int p1), .val (.int (1 : Int32)), .val (.int p3), .val (.int (4 : Int32)), .val (.ref w3), .val (.int (0 : Int32))] [(.int (0 : Int32)), (.int (0 : Int32))])) _
                    refine XS.icmpNo X218.here hx rfl (hb hby at_245) rfl (teq (by decide : (0 : Int32) = (0 : Int32))).2 ?_
                    show Steps p.tables e below (T218.setTop (mkF m 248 #[.val (.int p1), .val (.int (1 : Int32)), .val (.int p3), .val (.int (4 : Int32)), .val (.ref w3), .val (.int (0 : Int32))] [])) _
                    refine XS.iconst X218.here hx rfl (hb hby at_248) ?_
                    show Steps p.tables e below (T218.setTop (mkF m 249 #[.val (.int p1), .val (.int (1 : Int32)), .val (.int p3), .val (.int (4 : Int32)), .val (.ref w3), .val (.int (0 : Int32))] [(.int (1 : Int32))])) _
                    refine XS.goto X218.here hx rfl (pc0 := 249) (pc' := 253) rfl (hb hby at_249) (by decide) (by decide) ?_
                    show Steps p.tables e below (T218.setTop (mkF m 253 #[.val (.int p1), .val (.int (1 : Int32)), .val (.int p3), .val (.int (4 : Int32)), .val (.ref w3), .val (.int (0 : Int32))] [(.int (1 : Int32))])) _
                    exact retN X218 hx (t := .boolean) hret (by simp) (hb hby at_253) hr
                  ·
                    show Q0 n0 _ T218.heap _
                    rw [e222]
                    exact ⟨rfl, N218⟩
                ·
                  exact absurd hc216 hc223
              ·
                obtain ⟨cq226, kq226, q226a, q226b, q226c⟩ := isOf hZ e211 (E_w3.ext O0.2)
                obtain ⟨_, _, ⟨T227, L227, c227, n227⟩, -, X227, ⟨Lc227, hQ227, l227, y227, z227⟩, st227⟩ := X211.virtualBack hx (y := (⟨"com/example/vipo/vipo/flow/PatternType", "admitsDegree", "(II)Z"⟩ : MethodName)) (z := (⟨"com/example/vipo/vipo/flow/PatternType", "admitsDegree", "(II)Z"⟩ : MethodName)) hown (mvT hZ (hw _ (List.mem_of_getElem? (i := 4) rfl))) (mvT hZ (hw _ (List.mem_of_getElem? (i := 5) rfl))) (notFace_of_selects (args := #[]) (mvT hZ (hw _ (List.mem_of_getElem? (i := 7) rfl)))) (mvT hZ (hw _ (List.mem_of_getElem? (i := 7) rfl))) (mvT hZ (hw _ (List.mem_of_getElem? (i := 6) rfl))) (by decide) (backOf (W := 0) (rm10 l Z a0 hw w1 w2 w3 w4 w5 w6 w7 w8 G [] p3 h0 n0 O0 ) hZ (hw _ (List.mem_of_getElem? (i := 8) rfl)) (hw _ (List.mem_of_getElem? (i := 2) rfl)) (by decide) (by decide)) q226a q226c (g := (mkF m 240 #[.val (.int p1), .val (.int (1 : Int32)), .val (.int p3), .val (.int (4 : Int32)), .val (.ref w3), .val (.int (1 : Int32))] [(.int p3), (.int (1 : Int32)), (.ref w3)])) rfl (by rw [hml]; rfl) (Steps.refl _) (argsL := [(.int (1 : Int32)), (.int p3)]) (rest := []) (lenOf pd0 rfl) rfl (by show 2 * 0 + _ ≤ _; exact Nat.le_of_eq rfl) (hb hby at_240) (fun _ _ => ⟨rfl, e211, (by decide : 0 + 0 ≤ _), (by decide : 0 + 0 ≤ _)⟩)
                dsimp only [Pt.U, Pt.locs, Pt.cells, Pt.slots] at X227 l227 y227 z227 st227 hQ227
                subst l227 y227 z227
                have pre228 : ∀ t, Steps p.tables e below (T211.setTop (mkF m 240 #[.val (.int p1), .val (.int (1 : Int32)), .val (.int p3), .val (.int (4 : Int32)), .val (.ref w3), .val (.int (1 : Int32))] [(.int p3), (.int (1 : Int32)), (.ref w3)])) t → Steps p.tables e below (s₁.setTop (entryFrame m #[(.int p1), (.int p2), (.int p3)] maxLocals)) t := fun t k => by
                  refine pre215 _ ?_
                  show Steps p.tables e below (T211.setTop (mkF m 140 #[.val (.int p1), .val (.int (1 : Int32)), .val (.int p3), .val (.int (4 : Int32)), .val (.ref w3), .unset] [(.int (2 : Int32)), (.int p3)])) _
                  refine XS.icmpNo X211.here hx rfl (hb hby at_140) rfl (flt hc216).1 ?_
                  show Steps p.tables e below (T211.setTop (mkF m 143 #[.val (.int p1), .val (.int (1 : Int32)), .val (.int p3), .val (.int (4 : Int32)), .val (.ref w3), .unset] [])) _
                  refine XS.iconst X211.here hx rfl (hb hby at_143) ?_
                  show Steps p.tables e below (T211.setTop (mkF m 144 #[.val (.int p1), .val (.int (1 : Int32)), .val (.int p3), .val (.int (4 : Int32)), .val (.ref w3), .unset] [(.int (1 : Int32))])) _
                  refine XS.goto X211.here hx rfl (pc0 := 144) (pc' := 148) rfl (hb hby at_144) (by decide) (by decide) ?_
                  show Steps p.tables e below (T211.setTop (mkF m 148 #[.val (.int p1), .val (.int (1 : Int32)), .val (.int p3), .val (.int (4 : Int32)), .val (.ref w3), .unset] [(.int (1 : Int32))])) _
                  refine XS.istore X211.here hx rfl (hb hby at_148) rfl (l' := #[.val (.int p1), .val (.int (1 : Int32)), .val (.int p3), .val (.int (4 : Int32)), .val (.ref w3), .val (.int (1 : Int32))]) rfl ?_
                  show Steps p.tables e below (T211.setTop (mkF m 150 #[.val (.int p1), .val (.int (1 : Int32)), .val (.int p3), .val (.int (4 : Int32)), .val (.ref w3), .val (.int (1 : Int32))] [])) _
                  refine XS.goto X211.here hx rfl (pc0 := 150) (pc' := 236) rfl (hb hby at_150) (by decide) (by decide) ?_
                  show Steps p.tables e below (T211.setTop (mkF m 236 #[.val (.int p1), .val (.int (1 : Int32)), .val (.int p3), .val (.int (4 : Int32)), .val (.ref w3), .val (.int (1 : Int32))] [])) _
                  refine XS.aload X211.here hx rfl (hb hby at_236) rfl rfl ?_
                  show Steps p.tables e below (T211.setTop (mkF m 238 #[.val (.int p1), .val (.int (1 : Int32)), .val (.int p3), .val (.int (4 : Int32)), .val (.ref w3), .val (.int (1 : Int32))] [(.ref w3)])) _
                  refine XS.iloadN X211.here hx rfl (hb hby at_238) rfl ?_
                  show Steps p.tables e below (T211.setTop (mkF m 239 #[.val (.int p1), .val (.int (1 : Int32)), .val (.int p3), .val (.int (4 : Int32)), .val (.ref w3), .val (.int (1 : Int32))] [(.int (1 : Int32)), (.ref w3)])) _
                  refine XS.iloadN X211.here hx rfl (hb hby at_239) rfl ?_
                  exact k
                have X227 : Stand p l e room_1 s m #[(.int p1), (.int p2), (.int p3)] below meth c T227 _ 0 0 := X227
                rcases hQ227 with ⟨hc229, rfl, Nq230, e231⟩ | ⟨hc232, rfl, Nq233, e234⟩
                ·
                  exact absurd hc229 hc216
                ·
                  have N227 := Fr.app N0 Nq233
                  obtain ⟨fs, hr, hrun, hended, hW, hsame⟩ := X227.leave (v := some (.int (1 : Int32))) (fun h => by rw [hret] at h; cases h)
                  refine ⟨_, _, pre228 _ ?_, hrun, hended, _, _, rfl, ?_, ⟨_, rfl⟩, hW, hsame.mono (by decide) (by decide)⟩
                  ·
                    show Steps p.tables e below (T211.setTop (mkF m 240 #[.val (.int p1), .val (.int (1 : Int32)), .val (.int p3), .val (.int (4 : Int32)), .val (.ref w3), .val (.int (1 : Int32))] [(.int p3), (.int (1 : Int32)), (.ref w3)])) _
                    refine st227.trans ?_
                    show Steps p.tables e below (T227.setTop (mkF m 243 #[.val (.int p1), .val (.int (1 : Int32)), .val (.int p3), .val (.int (4 : Int32)), .val (.ref w3), .val (.int (1 : Int32))] [(.int (1 : Int32))])) _
                    refine XS.iload X227.here hx rfl (hb hby at_243) rfl ?_
                    show Steps p.tables e below (T227.setTop (mkF m 245 #[.val (.int p1), .val (.int (1 : Int32)), .val (.int p3), .val (.int (4 : Int32)), .val (.ref w3), .val (.int (1 : Int32))] [(.int (1 : Int32)), (.int (1 : Int32))])) _
                    refine XS.icmpNo X227.here hx rfl (hb hby at_245) rfl (teq (by decide : (1 : Int32) = (1 : Int32))).2 ?_
                    show Steps p.tables e below (T227.setTop (mkF m 248 #[.val (.int p1), .val (.int (1 : Int32)), .val (.int p3), .val (.int (4 : Int32)), .val (.ref w3), .val (.int (1 : Int32))] [])) _
                    refine XS.iconst X227.here hx rfl (hb hby at_248) ?_
                    show Steps p.tables e below (T227.setTop (mkF m 249 #[.val (.int p1), .val (.int (1 : Int32)), .val (.int p3), .val (.int (4 : Int32)), .val (.ref w3), .val (.int (1 : Int32))] [(.int (1 : Int32))])) _
                    refine XS.goto X227.here hx rfl (pc0 := 249) (pc' := 253) rfl (hb hby at_249) (by decide) (by decide) ?_
                    show Steps p.tables e below (T227.setTop (mkF m 253 #[.val (.int p1), .val (.int (1 : Int32)), .val (.int p3), .val (.int (4 : Int32)), .val (.ref w3), .val (.int (1 : Int32))] [(.int (1 : Int32))])) _
                    exact retN X227 hx (t := .boolean) hret (by simp) (hb hby at_253) hr
                  ·
                    show Q0 n0 _ T227.heap _
                    rw [e234]
                    exact ⟨rfl, N227⟩
            ·
              obtain ⟨cq235, kq235, q235a, q235b, q235c⟩ := isOf hZ e211 (E_w3.ext O0.2)
              obtain ⟨_, _, ⟨T236, L236, c236, n236⟩, -, X236, ⟨Lc236, hQ236, l236, y236, z236⟩, st236⟩ := X211.virtualBack hx (y := (⟨"com/example/vipo/vipo/flow/PatternType", "admitsDegree", "(II)Z"⟩ : MethodName)) (z := (⟨"com/example/vipo/vipo/flow/PatternType", "admitsDegree", "(II)Z"⟩ : MethodName)) hown (mvT hZ (hw _ (List.mem_of_getElem? (i := 4) rfl))) (mvT hZ (hw _ (List.mem_of_getElem? (i := 5) rfl))) (notFace_of_selects (args := #[]) (mvT hZ (hw _ (List.mem_of_getElem? (i := 7) rfl)))) (mvT hZ (hw _ (List.mem_of_getElem? (i := 7) rfl))) (mvT hZ (hw _ (List.mem_of_getElem? (i := 6) rfl))) (by decide) (backOf (W := 0) (rm11 l Z a0 hw w1 w2 w3 w4 w5 w6 w7 w8 G [] p2 p3 h0 n0 O0 ) hZ (hw _ (List.mem_of_getElem? (i := 8) rfl)) (hw _ (List.mem_of_getElem? (i := 2) rfl)) (by decide) (by decide)) q235a q235c (g := (mkF m 240 #[.val (.int p1), .val (.int p2), .val (.int p3), .val (.int (4 : Int32)), .val (.ref w3), .val (.int (0 : Int32))] [(.int p3), (.int p2), (.ref w3)])) rfl (by rw [hml]; rfl) (Steps.refl _) (argsL := [(.int p2), (.int p3)]) (rest := []) (lenOf pd0 rfl) rfl (by show 2 * 0 + _ ≤ _; exact Nat.le_of_eq rfl) (hb hby at_240) (fun _ _ => ⟨rfl, e211, (by decide : 0 + 0 ≤ _), (by decide : 0 + 0 ≤ _)⟩)
              dsimp only [Pt.U, Pt.locs, Pt.cells, Pt.slots] at X236 l236 y236 z236 st236 hQ236
              subst l236 y236 z236
              have pre237 : ∀ t, Steps p.tables e below (T211.setTop (mkF m 240 #[.val (.int p1), .val (.int p2), .val (.int p3), .val (.int (4 : Int32)), .val (.ref w3), .val (.int (0 : Int32))] [(.int p3), (.int p2), (.ref w3)])) t → Steps p.tables e below (s₁.setTop (entryFrame m #[(.int p1), (.int p2), (.int p3)] maxLocals)) t := fun t k => by
                refine pre212 _ ?_
                show Steps p.tables e below (T211.setTop (mkF m 135 #[.val (.int p1), .val (.int p2), .val (.int p3), .val (.int (4 : Int32)), .val (.ref w3), .unset] [(.int (1 : Int32)), (.int p2)])) _
                refine XS.icmpYes X211.here hx rfl (pc0 := 135) (pc' := 147) rfl (hb hby at_135) rfl (feq hc213).2 (by decide) (by decide) ?_
                show Steps p.tables e below (T211.setTop (mkF m 147 #[.val (.int p1), .val (.int p2), .val (.int p3), .val (.int (4 : Int32)), .val (.ref w3), .unset] [])) _
                refine XS.iconst X211.here hx rfl (hb hby at_147) ?_
                show Steps p.tables e below (T211.setTop (mkF m 148 #[.val (.int p1), .val (.int p2), .val (.int p3), .val (.int (4 : Int32)), .val (.ref w3), .unset] [(.int (0 : Int32))])) _
                refine XS.istore X211.here hx rfl (hb hby at_148) rfl (l' := #[.val (.int p1), .val (.int p2), .val (.int p3), .val (.int (4 : Int32)), .val (.ref w3), .val (.int (0 : Int32))]) rfl ?_
                show Steps p.tables e below (T211.setTop (mkF m 150 #[.val (.int p1), .val (.int p2), .val (.int p3), .val (.int (4 : Int32)), .val (.ref w3), .val (.int (0 : Int32))] [])) _
                refine XS.goto X211.here hx rfl (pc0 := 150) (pc' := 236) rfl (hb hby at_150) (by decide) (by decide) ?_
                show Steps p.tables e below (T211.setTop (mkF m 236 #[.val (.int p1), .val (.int p2), .val (.int p3), .val (.int (4 : Int32)), .val (.ref w3), .val (.int (0 : Int32))] [])) _
                refine XS.aload X211.here hx rfl (hb hby at_236) rfl rfl ?_
                show Steps p.tables e below (T211.setTop (mkF m 238 #[.val (.int p1), .val (.int p2), .val (.int p3), .val (.int (4 : Int32)), .val (.ref w3), .val (.int (0 : Int32))] [(.ref w3)])) _
                refine XS.iloadN X211.here hx rfl (hb hby at_238) rfl ?_
                show Steps p.tables e below (T211.setTop (mkF m 239 #[.val (.int p1), .val (.int p2), .val (.int p3), .val (.int (4 : Int32)), .val (.ref w3), .val (.int (0 : Int32))] [(.int p2), (.ref w3)])) _
                refine XS.iloadN X211.here hx rfl (hb hby at_239) rfl ?_
                exact k
              have X236 : Stand p l e room_1 s m #[(.int p1), (.int p2), (.int p3)] below meth c T236 _ 0 0 := X236
              rcases hQ236 with ⟨hc238, rfl, Nq239, e240⟩ | ⟨hc241, hc242, rfl, Nq243, e244⟩ | ⟨hc245, hc246, hc247, rfl, Nq248, e249⟩ | ⟨hc250, hc251, hc252, rfl, Nq253, e254⟩
              ·
                have N236 := Fr.app N0 Nq239
                obtain ⟨fs, hr, hrun, hended, hW, hsame⟩ := X236.leave (v := some (.int (1 : Int32))) (fun h => by rw [hret] at h; cases h)
                refine ⟨_, _, pre237 _ ?_, hrun, hended, _, _, rfl, ?_, ⟨_, rfl⟩, hW, hsame.mono (by decide) (by decide)⟩
                ·
                  show Steps p.tables e below (T211.setTop (mkF m 240 #[.val (.int p1), .val (.int p2), .val (.int p3), .val (.int (4 : Int32)), .val (.ref w3), .val (.int (0 : Int32))] [(.int p3), (.int p2), (.ref w3)])) _
                  refine st236.trans ?_
                  show Steps p.tables e below (T236.setTop (mkF m 243 #[.val (.int p1), .val (.int p2), .val (.int p3), .val (.int (4 : Int32)), .val (.ref w3), .val (.int (0 : Int32))] [(.int (0 : Int32))])) _
                  refine XS.iload X236.here hx rfl (hb hby at_243) rfl ?_
                  show Steps p.tables e below (T236.setTop (mkF m 245 #[.val (.int p1), .val (.int p2), .val (.int p3), .val (.int (4 : Int32)), .val (.ref w3), .val (.int (0 : Int32))] [(.int (0 : Int32)), (.int (0 : Int32))])) _
                  refine XS.icmpNo X236.here hx rfl (hb hby at_245) rfl (teq (by decide : (0 : Int32) = (0 : Int32))).2 ?_
                  show Steps p.tables e below (T236.setTop (mkF m 248 #[.val (.int p1), .val (.int p2), .val (.int p3), .val (.int (4 : Int32)), .val (.ref w3), .val (.int (0 : Int32))] [])) _
                  refine XS.iconst X236.here hx rfl (hb hby at_248) ?_
                  show Steps p.tables e below (T236.setTop (mkF m 249 #[.val (.int p1), .val (.int p2), .val (.int p3), .val (.int (4 : Int32)), .val (.ref w3), .val (.int (0 : Int32))] [(.int (1 : Int32))])) _
                  refine XS.goto X236.here hx rfl (pc0 := 249) (pc' := 253) rfl (hb hby at_249) (by decide) (by decide) ?_
                  show Steps p.tables e below (T236.setTop (mkF m 253 #[.val (.int p1), .val (.int p2), .val (.int p3), .val (.int (4 : Int32)), .val (.ref w3), .val (.int (0 : Int32))] [(.int (1 : Int32))])) _
                  exact retN X236 hx (t := .boolean) hret (by simp) (hb hby at_253) hr
                ·
                  show Q0 n0 _ T236.heap _
                  rw [e240]
                  exact ⟨rfl, N236⟩
              ·
                have N236 := Fr.app N0 Nq243
                obtain ⟨fs, hr, hrun, hended, hW, hsame⟩ := X236.leave (v := some (.int (1 : Int32))) (fun h => by rw [hret] at h; cases h)
                refine ⟨_, _, pre237 _ ?_, hrun, hended, _, _, rfl, ?_, ⟨_, rfl⟩, hW, hsame.mono (by decide) (by decide)⟩
                ·
                  show Steps p.tables e below (T211.setTop (mkF m 240 #[.val (.int p1), .val (.int p2), .val (.int p3), .val (.int (4 : Int32)), .val (.ref w3), .val (.int (0 : Int32))] [(.int p3), (.int p2), (.ref w3)])) _
                  refine st236.trans ?_
                  show Steps p.tables e below (T236.setTop (mkF m 243 #[.val (.int p1), .val (.int p2), .val (.int p3), .val (.int (4 : Int32)), .val (.ref w3), .val (.int (0 : Int32))] [(.int (0 : Int32))])) _
                  refine XS.iload X236.here hx rfl (hb hby at_243) rfl ?_
                  show Steps p.tables e below (T236.setTop (mkF m 245 #[.val (.int p1), .val (.int p2), .val (.int p3), .val (.int (4 : Int32)), .val (.ref w3), .val (.int (0 : Int32))] [(.int (0 : Int32)), (.int (0 : Int32))])) _
                  refine XS.icmpNo X236.here hx rfl (hb hby at_245) rfl (teq (by decide : (0 : Int32) = (0 : Int32))).2 ?_
                  show Steps p.tables e below (T236.setTop (mkF m 248 #[.val (.int p1), .val (.int p2), .val (.int p3), .val (.int (4 : Int32)), .val (.ref w3), .val (.int (0 : Int32))] [])) _
                  refine XS.iconst X236.here hx rfl (hb hby at_248) ?_
                  show Steps p.tables e below (T236.setTop (mkF m 249 #[.val (.int p1), .val (.int p2), .val (.int p3), .val (.int (4 : Int32)), .val (.ref w3), .val (.int (0 : Int32))] [(.int (1 : Int32))])) _
                  refine XS.goto X236.here hx rfl (pc0 := 249) (pc' := 253) rfl (hb hby at_249) (by decide) (by decide) ?_
                  show Steps p.tables e below (T236.setTop (mkF m 253 #[.val (.int p1), .val (.int p2), .val (.int p3), .val (.int (4 : Int32)), .val (.ref w3), .val (.int (0 : Int32))] [(.int (1 : Int32))])) _
                  exact retN X236 hx (t := .boolean) hret (by simp) (hb hby at_253) hr
                ·
                  show Q0 n0 _ T236.heap _
                  rw [e244]
                  exact ⟨rfl, N236⟩
              ·
                exact absurd (own_glt2 (n := 1) (k := (1 : Int32)) (by decide) (by have q0 := rng32 p2; have q1 := own_neq (n := 1) (k := (1 : Int32)) (by decide) hc213; have q2 := own_nlt1 (n := 1) (k := (1 : Int32)) (by decide) hc245; omega)) hc246
              ·
                exact absurd (own_glt2 (n := 1) (k := (1 : Int32)) (by decide) (by have q0 := rng32 p2; have q1 := own_neq (n := 1) (k := (1 : Int32)) (by decide) hc213; have q2 := own_nlt1 (n := 1) (k := (1 : Int32)) (by decide) hc250; omega)) hc251
          ·
            have pre255 : ∀ t, Steps p.tables e below (s₁.setTop (mkF m 155 #[.val (.int p1), .val (.int p2), .val (.int p3), .val (.int ((p1 &&& (2147483647 : Int32)) % (8 : Int32))), .unset, .unset] [(.int (5 : Int32)), (.int ((p1 &&& (2147483647 : Int32)) % (8 : Int32)))])) t → Steps p.tables e below (s₁.setTop (entryFrame m #[(.int p1), (.int p2), (.int p3)] maxLocals)) t := fun t k => by
              refine pre208 _ ?_
              show Steps p.tables e below (s₁.setTop (mkF m 125 #[.val (.int p1), .val (.int p2), .val (.int p3), .val (.int ((p1 &&& (2147483647 : Int32)) % (8 : Int32))), .unset, .unset] [(.int (4 : Int32)), (.int ((p1 &&& (2147483647 : Int32)) % (8 : Int32)))])) _
              refine XS.icmpYes X0.here hx rfl (pc0 := 125) (pc' := 153) rfl (hb hby at_125) rfl (feq hc209).2 (by decide) (by decide) ?_
              show Steps p.tables e below (s₁.setTop (mkF m 153 #[.val (.int p1), .val (.int p2), .val (.int p3), .val (.int ((p1 &&& (2147483647 : Int32)) % (8 : Int32))), .unset, .unset] [])) _
              refine XS.iloadN X0.here hx rfl (hb hby at_153) rfl ?_
              show Steps p.tables e below (s₁.setTop (mkF m 154 #[.val (.int p1), .val (.int p2), .val (.int p3), .val (.int ((p1 &&& (2147483647 : Int32)) % (8 : Int32))), .unset, .unset] [(.int ((p1 &&& (2147483647 : Int32)) % (8 : Int32)))])) _
              refine XS.iconst X0.here hx rfl (hb hby at_154) ?_
              exact k
            by_cases hc256 : ((p1 &&& (2147483647 : Int32)) % (8 : Int32)) = (5 : Int32)
            ·
              have pre257 : ∀ t, Steps p.tables e below (s₁.setTop (mkF m 155 #[.val (.int p1), .val (.int p2), .val (.int p3), .val (.int (5 : Int32)), .unset, .unset] [(.int (5 : Int32)), (.int (5 : Int32))])) t → Steps p.tables e below (s₁.setTop (entryFrame m #[(.int p1), (.int p2), (.int p3)] maxLocals)) t := fun t k => pre255 t (by rw [hc256]; exact k)
              obtain ⟨T258, X258, e258, st258⟩ := getS2 X0 hx hZ hown (host := "") (Or.inl (hw _ (List.mem_of_getElem? (i := 27) rfl))) Via.refl e0 (S_w7.ext O0.2) (g := (mkF m 158 #[.val (.int p1), .val (.int p2), .val (.int p3), .val (.int (5 : Int32)), .unset, .unset] [])) rfl (hb hby at_158)
              have pre259 : ∀ t, Steps p.tables e below (T258.setTop (mkF m 165 #[.val (.int p1), .val (.int p2), .val (.int p3), .val (.int (5 : Int32)), .val (.ref w7), .unset] [(.int (2 : Int32)), (.int p2)])) t → Steps p.tables e below (s₁.setTop (entryFrame m #[(.int p1), (.int p2), (.int p3)] maxLocals)) t := fun t k => by
                refine pre257 _ ?_
                show Steps p.tables e below (s₁.setTop (mkF m 155 #[.val (.int p1), .val (.int p2), .val (.int p3), .val (.int (5 : Int32)), .unset, .unset] [(.int (5 : Int32)), (.int (5 : Int32))])) _
                refine XS.icmpNo X0.here hx rfl (hb hby at_155) rfl (teq (by decide : (5 : Int32) = (5 : Int32))).2 ?_
                show Steps p.tables e below (s₁.setTop (mkF m 158 #[.val (.int p1), .val (.int p2), .val (.int p3), .val (.int (5 : Int32)), .unset, .unset] [])) _
                refine st258 _ ?_
                show Steps p.tables e below (T258.setTop (mkF m 161 #[.val (.int p1), .val (.int p2), .val (.int p3), .val (.int (5 : Int32)), .unset, .unset] [(.ref w7)])) _
                refine XS.astore X258.here hx rfl (hb hby at_161) rfl rfl (l' := #[.val (.int p1), .val (.int p2), .val (.int p3), .val (.int (5 : Int32)), .val (.ref w7), .unset]) rfl ?_
                show Steps p.tables e below (T258.setTop (mkF m 163 #[.val (.int p1), .val (.int p2), .val (.int p3), .val (.int (5 : Int32)), .val (.ref w7), .unset] [])) _
                refine XS.iloadN X258.here hx rfl (hb hby at_163) rfl ?_
                show Steps p.tables e below (T258.setTop (mkF m 164 #[.val (.int p1), .val (.int p2), .val (.int p3), .val (.int (5 : Int32)), .val (.ref w7), .unset] [(.int p2)])) _
                refine XS.iconst X258.here hx rfl (hb hby at_164) ?_
                exact k
              by_cases hc260 : p2 < (2 : Int32)
              ·
                obtain ⟨cq261, kq261, q261a, q261b, q261c⟩ := isOf hZ e258 (E_w7.ext O0.2)
                obtain ⟨_, _, ⟨T262, L262, c262, n262⟩, -, X262, ⟨Lc262, hQ262, l262, y262, z262⟩, st262⟩ := X258.virtualBack hx (y := (⟨"com/example/vipo/vipo/flow/PatternType", "admitsDegree", "(II)Z"⟩ : MethodName)) (z := (⟨"com/example/vipo/vipo/flow/PatternType", "admitsDegree", "(II)Z"⟩ : MethodName)) hown (mvT hZ (hw _ (List.mem_of_getElem? (i := 4) rfl))) (mvT hZ (hw _ (List.mem_of_getElem? (i := 5) rfl))) (notFace_of_selects (args := #[]) (mvT hZ (hw _ (List.mem_of_getElem? (i := 7) rfl)))) (mvT hZ (hw _ (List.mem_of_getElem? (i := 7) rfl))) (mvT hZ (hw _ (List.mem_of_getElem? (i := 6) rfl))) (by decide) (backOf (W := 0) (rm12 l Z a0 hw w1 w2 w3 w4 w5 w6 w7 w8 G [] p2 p3 h0 n0 O0 ) hZ (hw _ (List.mem_of_getElem? (i := 8) rfl)) (hw _ (List.mem_of_getElem? (i := 2) rfl)) (by decide) (by decide)) q261a q261c (g := (mkF m 240 #[.val (.int p1), .val (.int p2), .val (.int p3), .val (.int (5 : Int32)), .val (.ref w7), .val (.int (0 : Int32))] [(.int p3), (.int p2), (.ref w7)])) rfl (by rw [hml]; rfl) (Steps.refl _) (argsL := [(.int p2), (.int p3)]) (rest := []) (lenOf pd0 rfl) rfl (by show 2 * 0 + _ ≤ _; exact Nat.le_of_eq rfl) (hb hby at_240) (fun _ _ => ⟨rfl, e258, (by decide : 0 + 0 ≤ _), (by decide : 0 + 0 ≤ _)⟩)
                dsimp only [Pt.U, Pt.locs, Pt.cells, Pt.slots] at X262 l262 y262 z262 st262 hQ262
                subst l262 y262 z262
                have pre263 : ∀ t, Steps p.tables e below (T258.setTop (mkF m 240 #[.val (.int p1), .val (.int p2), .val (.int p3), .val (.int (5 : Int32)), .val (.ref w7), .val (.int (0 : Int32))] [(.int p3), (.int p2), (.ref w7)])) t → Steps p.tables e below (s₁.setTop (entryFrame m #[(.int p1), (.int p2), (.int p3)] maxLocals)) t := fun t k => by
                  refine pre259 _ ?_
                  show Steps p.tables e below (T258.setTop (mkF m 165 #[.val (.int p1), .val (.int p2), .val (.int p3), .val (.int (5 : Int32)), .val (.ref w7), .unset] [(.int (2 : Int32)), (.int p2)])) _
                  refine XS.icmpYes X258.here hx rfl (pc0 := 165) (pc' := 177) rfl (hb hby at_165) rfl (tlt hc260).1 (by decide) (by decide) ?_
                  show Steps p.tables e below (T258.setTop (mkF m 177 #[.val (.int p1), .val (.int p2), .val (.int p3), .val (.int (5 : Int32)), .val (.ref w7), .unset] [])) _
                  refine XS.iconst X258.here hx rfl (hb hby at_177) ?_
                  show Steps p.tables e below (T258.setTop (mkF m 178 #[.val (.int p1), .val (.int p2), .val (.int p3), .val (.int (5 : Int32)), .val (.ref w7), .unset] [(.int (0 : Int32))])) _
                  refine XS.istore X258.here hx rfl (hb hby at_178) rfl (l' := #[.val (.int p1), .val (.int p2), .val (.int p3), .val (.int (5 : Int32)), .val (.ref w7), .val (.int (0 : Int32))]) rfl ?_
                  show Steps p.tables e below (T258.setTop (mkF m 180 #[.val (.int p1), .val (.int p2), .val (.int p3), .val (.int (5 : Int32)), .val (.ref w7), .val (.int (0 : Int32))] [])) _
                  refine XS.goto X258.here hx rfl (pc0 := 180) (pc' := 236) rfl (hb hby at_180) (by decide) (by decide) ?_
                  show Steps p.tables e below (T258.setTop (mkF m 236 #[.val (.int p1), .val (.int p2), .val (.int p3), .val (.int (5 : Int32)), .val (.ref w7), .val (.int (0 : Int32))] [])) _
                  refine XS.aload X258.here hx rfl (hb hby at_236) rfl rfl ?_
                  show Steps p.tables e below (T258.setTop (mkF m 238 #[.val (.int p1), .val (.int p2), .val (.int p3), .val (.int (5 : Int32)), .val (.ref w7), .val (.int (0 : Int32))] [(.ref w7)])) _
                  refine XS.iloadN X258.here hx rfl (hb hby at_238) rfl ?_
                  show Steps p.tables e below (T258.setTop (mkF m 239 #[.val (.int p1), .val (.int p2), .val (.int p3), .val (.int (5 : Int32)), .val (.ref w7), .val (.int (0 : Int32))] [(.int p2), (.ref w7)])) _
                  refine XS.iloadN X258.here hx rfl (hb hby at_239) rfl ?_
                  exact k
                have X262 : Stand p l e room_1 s m #[(.int p1), (.int p2), (.int p3)] below meth c T262 _ 0 0 := X262
                rcases hQ262 with ⟨hc264, rfl, Nq265, e266⟩ | ⟨hc267, hc268, rfl, Nq269, e270⟩ | ⟨hc271, hc272, hc273, rfl, Nq274, e275⟩ | ⟨hc276, hc277, hc278, rfl, Nq279, e280⟩
                ·
                  have N262 := Fr.app N0 Nq265
                  obtain ⟨fs, hr, hrun, hended, hW, hsame⟩ := X262.leave (v := some (.int (1 : Int32))) (fun h => by rw [hret] at h; cases h)
                  refine ⟨_, _, pre263 _ ?_, hrun, hended, _, _, rfl, ?_, ⟨_, rfl⟩, hW, hsame.mono (by decide) (by decide)⟩
                  ·
                    show Steps p.tables e below (T258.setTop (mkF m 240 #[.val (.int p1), .val (.int p2), .val (.int p3), .val (.int (5 : Int32)), .val (.ref w7), .val (.int (0 : Int32))] [(.int p3), (.int p2), (.ref w7)])) _
                    refine st262.trans ?_
                    show Steps p.tables e below (T262.setTop (mkF m 243 #[.val (.int p1), .val (.int p2), .val (.int p3), .val (.int (5 : Int32)), .val (.ref w7), .val (.int (0 : Int32))] [(.int (0 : Int32))])) _
                    refine XS.iload X262.here hx rfl (hb hby at_243) rfl ?_
                    show Steps p.tables e below (T262.setTop (mkF m 245 #[.val (.int p1), .val (.int p2), .val (.int p3), .val (.int (5 : Int32)), .val (.ref w7), .val (.int (0 : Int32))] [(.int (0 : Int32)), (.int (0 : Int32))])) _
                    refine XS.icmpNo X262.here hx rfl (hb hby at_245) rfl (teq (by decide : (0 : Int32) = (0 : Int32))).2 ?_
                    show Steps p.tables e below (T262.setTop (mkF m 248 #[.val (.int p1), .val (.int p2), .val (.int p3), .val (.int (5 : Int32)), .val (.ref w7), .val (.int (0 : Int32))] [])) _
                    refine XS.iconst X262.here hx rfl (hb hby at_248) ?_
                    show Steps p.tables e below (T262.setTop (mkF m 249 #[.val (.int p1), .val (.int p2), .val (.int p3), .val (.int (5 : Int32)), .val (.ref w7), .val (.int (0 : Int32))] [(.int (1 : Int32))])) _
                    refine XS.goto X262.here hx rfl (pc0 := 249) (pc' := 253) rfl (hb hby at_249) (by decide) (by decide) ?_
                    show Steps p.tables e below (T262.setTop (mkF m 253 #[.val (.int p1), .val (.int p2), .val (.int p3), .val (.int (5 : Int32)), .val (.ref w7), .val (.int (0 : Int32))] [(.int (1 : Int32))])) _
                    exact retN X262 hx (t := .boolean) hret (by simp) (hb hby at_253) hr
                  ·
                    show Q0 n0 _ T262.heap _
                    rw [e266]
                    exact ⟨rfl, N262⟩
                ·
                  exact absurd hc260 hc267
                ·
                  exact absurd hc260 hc271
                ·
                  exact absurd hc260 hc276
              ·
                have pre281 : ∀ t, Steps p.tables e below (T258.setTop (mkF m 170 #[.val (.int p1), .val (.int p2), .val (.int p3), .val (.int (5 : Int32)), .val (.ref w7), .unset] [(.int (1 : Int32)), (.int p3)])) t → Steps p.tables e below (s₁.setTop (entryFrame m #[(.int p1), (.int p2), (.int p3)] maxLocals)) t := fun t k => by
                  refine pre259 _ ?_
                  show Steps p.tables e below (T258.setTop (mkF m 165 #[.val (.int p1), .val (.int p2), .val (.int p3), .val (.int (5 : Int32)), .val (.ref w7), .unset] [(.int (2 : Int32)), (.int p2)])) _
                  refine XS.icmpNo X258.here hx rfl (hb hby at_165) rfl (flt hc260).1 ?_
                  show Steps p.tables e below (T258.setTop (mkF m 168 #[.val (.int p1), .val (.int p2), .val (.int p3), .val (.int (5 : Int32)), .val (.ref w7), .unset] [])) _
                  refine XS.iloadN X258.here hx rfl (hb hby at_168) rfl ?_
                  show Steps p.tables e below (T258.setTop (mkF m 169 #[.val (.int p1), .val (.int p2), .val (.int p3), .val (.int (5 : Int32)), .val (.ref w7), .unset] [(.int p3)])) _
                  refine XS.iconst X258.here hx rfl (hb hby at_169) ?_
                  exact k
                by_cases hc282 : p3 = (1 : Int32)
                ·
                  have pre283 : ∀ t, Steps p.tables e below (T258.setTop (mkF m 170 #[.val (.int p1), .val (.int p2), .val (.int (1 : Int32)), .val (.int (5 : Int32)), .val (.ref w7), .unset] [(.int (1 : Int32)), (.int (1 : Int32))])) t → Steps p.tables e below (s₁.setTop (entryFrame m #[(.int p1), (.int p2), (.int p3)] maxLocals)) t := fun t k => pre281 t (by rw [hc282]; exact k)
                  obtain ⟨cq284, kq284, q284a, q284b, q284c⟩ := isOf hZ e258 (E_w7.ext O0.2)
                  obtain ⟨_, _, ⟨T285, L285, c285, n285⟩, -, X285, ⟨Lc285, hQ285, l285, y285, z285⟩, st285⟩ := X258.virtualBack hx (y := (⟨"com/example/vipo/vipo/flow/PatternType", "admitsDegree", "(II)Z"⟩ : MethodName)) (z := (⟨"com/example/vipo/vipo/flow/PatternType", "admitsDegree", "(II)Z"⟩ : MethodName)) hown (mvT hZ (hw _ (List.mem_of_getElem? (i := 4) rfl))) (mvT hZ (hw _ (List.mem_of_getElem? (i := 5) rfl))) (notFace_of_selects (args := #[]) (mvT hZ (hw _ (List.mem_of_getElem? (i := 7) rfl)))) (mvT hZ (hw _ (List.mem_of_getElem? (i := 7) rfl))) (mvT hZ (hw _ (List.mem_of_getElem? (i := 6) rfl))) (by decide) (backOf (W := 0) (rm13 l Z a0 hw w1 w2 w3 w4 w5 w6 w7 w8 G [] p2 h0 n0 O0 ) hZ (hw _ (List.mem_of_getElem? (i := 8) rfl)) (hw _ (List.mem_of_getElem? (i := 2) rfl)) (by decide) (by decide)) q284a q284c (g := (mkF m 240 #[.val (.int p1), .val (.int p2), .val (.int (1 : Int32)), .val (.int (5 : Int32)), .val (.ref w7), .val (.int (1 : Int32))] [(.int (1 : Int32)), (.int p2), (.ref w7)])) rfl (by rw [hml]; rfl) (Steps.refl _) (argsL := [(.int p2), (.int (1 : Int32))]) (rest := []) (lenOf pd0 rfl) rfl (by show 2 * 0 + _ ≤ _; exact Nat.le_of_eq rfl) (hb hby at_240) (fun _ _ => ⟨rfl, e258, (by decide : 0 + 0 ≤ _), (by decide : 0 + 0 ≤ _)⟩)
                  dsimp only [Pt.U, Pt.locs, Pt.cells, Pt.slots] at X285 l285 y285 z285 st285 hQ285
                  subst l285 y285 z285
                  have pre286 : ∀ t, Steps p.tables e below (T258.setTop (mkF m 240 #[.val (.int p1), .val (.int p2), .val (.int (1 : Int32)), .val (.int (5 : Int32)), .val (.ref w7), .val (.int (1 : Int32))] [(.int (1 : Int32)), (.int p2), (.ref w7)])) t → Steps p.tables e below (s₁.setTop (entryFrame m #[(.int p1), (.int p2), (.int p3)] maxLocals)) t := fun t k => by
                    refine pre283 _ ?_
                    show Steps p.tables e below (T258.setTop (mkF m 170 #[.val (.int p1), .val (.int p2), .val (.int (1 : Int32)), .val (.int (5 : Int32)), .val (.ref w7), .unset] [(.int (1 : Int32)), (.int (1 : Int32))])) _
                    refine XS.icmpNo X258.here hx rfl (hb hby at_170) rfl (teq (by decide : (1 : Int32) = (1 : Int32))).2 ?_
                    show Steps p.tables e below (T258.setTop (mkF m 173 #[.val (.int p1), .val (.int p2), .val (.int (1 : Int32)), .val (.int (5 : Int32)), .val (.ref w7), .unset] [])) _
                    refine XS.iconst X258.here hx rfl (hb hby at_173) ?_
                    show Steps p.tables e below (T258.setTop (mkF m 174 #[.val (.int p1), .val (.int p2), .val (.int (1 : Int32)), .val (.int (5 : Int32)), .val (.ref w7), .unset] [(.int (1 : Int32))])) _
                    refine XS.goto X258.here hx rfl (pc0 := 174) (pc' := 178) rfl (hb hby at_174) (by decide) (by decide) ?_
                    show Steps p.tables e below (T258.setTop (mkF m 178 #[.val (.int p1), .val (.int p2), .val (.int (1 : Int32)), .val (.int (5 : Int32)), .val (.ref w7), .unset] [(.int (1 : Int32))])) _
                    refine XS.istore X258.here hx rfl (hb hby at_178) rfl (l' := #[.val (.int p1), .val (.int p2), .val (.int (1 : Int32)), .val (.int (5 : Int32)), .val (.ref w7), .val (.int (1 : Int32))]) rfl ?_
                    show Steps p.tables e below (T258.setTop (mkF m 180 #[.val (.int p1), .val (.int p2), .val (.int (1 : Int32)), .val (.int (5 : Int32)), .val (.ref w7), .val (.int (1 : Int32))] [])) _
                    refine XS.goto X258.here hx rfl (pc0 := 180) (pc' := 236) rfl (hb hby at_180) (by decide) (by decide) ?_
                    show Steps p.tables e below (T258.setTop (mkF m 236 #[.val (.int p1), .val (.int p2), .val (.int (1 : Int32)), .val (.int (5 : Int32)), .val (.ref w7), .val (.int (1 : Int32))] [])) _
                    refine XS.aload X258.here hx rfl (hb hby at_236) rfl rfl ?_
                    show Steps p.tables e below (T258.setTop (mkF m 238 #[.val (.int p1), .val (.int p2), .val (.int (1 : Int32)), .val (.int (5 : Int32)), .val (.ref w7), .val (.int (1 : Int32))] [(.ref w7)])) _
                    refine XS.iloadN X258.here hx rfl (hb hby at_238) rfl ?_
                    show Steps p.tables e below (T258.setTop (mkF m 239 #[.val (.int p1), .val (.int p2), .val (.int (1 : Int32)), .val (.int (5 : Int32)), .val (.ref w7), .val (.int (1 : Int32))] [(.int p2), (.ref w7)])) _
                    refine XS.iloadN X258.here hx rfl (hb hby at_239) rfl ?_
                    exact k
                  have X285 : Stand p l e room_1 s m #[(.int p1), (.int p2), (.int p3)] below meth c T285 _ 0 0 := X285
                  rcases hQ285 with ⟨hc287, rfl, Nq288, e289⟩ | ⟨hc290, rfl, Nq291, e292⟩
                  ·
                    exact absurd hc287 hc260
                  ·
                    have N285 := Fr.app N0 Nq291
                    obtain ⟨fs, hr, hrun, hended, hW, hsame⟩ := X285.leave (v := some (.int (1 : Int32))) (fun h => by rw [hret] at h; cases h)
                    refine ⟨_, _, pre286 _ ?_, hrun, hended, _, _, rfl, ?_, ⟨_, rfl⟩, hW, hsame.mono (by decide) (by decide)⟩
                    ·
                      show Steps p.tables e below (T258.setTop (mkF m 240 #[.val (.int p1), .val (.int p2), .val (.int (1 : Int32)), .val (.int (5 : Int32)), .val (.ref w7), .val (.int (1 : Int32))] [(.int (1 : Int32)), (.int p2), (.ref w7)])) _
                      refine st285.trans ?_
                      show Steps p.tables e below (T285.setTop (mkF m 243 #[.val (.int p1), .val (.int p2), .val (.int (1 : Int32)), .val (.int (5 : Int32)), .val (.ref w7), .val (.int (1 : Int32))] [(.int (1 : Int32))])) _
                      refine XS.iload X285.here hx rfl (hb hby at_243) rfl ?_
                      show Steps p.tables e below (T285.setTop (mkF m 245 #[.val (.int p1), .val (.int p2), .val (.int (1 : Int32)), .val (.int (5 : Int32)), .val (.ref w7), .val (.int (1 : Int32))] [(.int (1 : Int32)), (.int (1 : Int32))])) _
                      refine XS.icmpNo X285.here hx rfl (hb hby at_245) rfl (teq (by decide : (1 : Int32) = (1 : Int32))).2 ?_
                      show Steps p.tables e below (T285.setTop (mkF m 248 #[.val (.int p1), .val (.int p2), .val (.int (1 : Int32)), .val (.int (5 : Int32)), .val (.ref w7), .val (.int (1 : Int32))] [])) _
                      refine XS.iconst X285.here hx rfl (hb hby at_248) ?_
                      show Steps p.tables e below (T285.setTop (mkF m 249 #[.val (.int p1), .val (.int p2), .val (.int (1 : Int32)), .val (.int (5 : Int32)), .val (.ref w7), .val (.int (1 : Int32))] [(.int (1 : Int32))])) _
                      refine XS.goto X285.here hx rfl (pc0 := 249) (pc' := 253) rfl (hb hby at_249) (by decide) (by decide) ?_
                      show Steps p.tables e below (T285.setTop (mkF m 253 #[.val (.int p1), .val (.int p2), .val (.int (1 : Int32)), .val (.int (5 : Int32)), .val (.ref w7), .val (.int (1 : Int32))] [(.int (1 : Int32))])) _
                      exact retN X285 hx (t := .boolean) hret (by simp) (hb hby at_253) hr
                    ·
                      show Q0 n0 _ T285.heap _
                      rw [e292]
                      exact ⟨rfl, N285⟩
                ·
                  obtain ⟨cq293, kq293, q293a, q293b, q293c⟩ := isOf hZ e258 (E_w7.ext O0.2)
                  obtain ⟨_, _, ⟨T294, L294, c294, n294⟩, -, X294, ⟨Lc294, hQ294, l294, y294, z294⟩, st294⟩ := X258.virtualBack hx (y := (⟨"com/example/vipo/vipo/flow/PatternType", "admitsDegree", "(II)Z"⟩ : MethodName)) (z := (⟨"com/example/vipo/vipo/flow/PatternType", "admitsDegree", "(II)Z"⟩ : MethodName)) hown (mvT hZ (hw _ (List.mem_of_getElem? (i := 4) rfl))) (mvT hZ (hw _ (List.mem_of_getElem? (i := 5) rfl))) (notFace_of_selects (args := #[]) (mvT hZ (hw _ (List.mem_of_getElem? (i := 7) rfl)))) (mvT hZ (hw _ (List.mem_of_getElem? (i := 7) rfl))) (mvT hZ (hw _ (List.mem_of_getElem? (i := 6) rfl))) (by decide) (backOf (W := 0) (rm12 l Z a0 hw w1 w2 w3 w4 w5 w6 w7 w8 G [] p2 p3 h0 n0 O0 ) hZ (hw _ (List.mem_of_getElem? (i := 8) rfl)) (hw _ (List.mem_of_getElem? (i := 2) rfl)) (by decide) (by decide)) q293a q293c (g := (mkF m 240 #[.val (.int p1), .val (.int p2), .val (.int p3), .val (.int (5 : Int32)), .val (.ref w7), .val (.int (0 : Int32))] [(.int p3), (.int p2), (.ref w7)])) rfl (by rw [hml]; rfl) (Steps.refl _) (argsL := [(.int p2), (.int p3)]) (rest := []) (lenOf pd0 rfl) rfl (by show 2 * 0 + _ ≤ _; exact Nat.le_of_eq rfl) (hb hby at_240) (fun _ _ => ⟨rfl, e258, (by decide : 0 + 0 ≤ _), (by decide : 0 + 0 ≤ _)⟩)
                  dsimp only [Pt.U, Pt.locs, Pt.cells, Pt.slots] at X294 l294 y294 z294 st294 hQ294
                  subst l294 y294 z294
                  have pre295 : ∀ t, Steps p.tables e below (T258.setTop (mkF m 240 #[.val (.int p1), .val (.int p2), .val (.int p3), .val (.int (5 : Int32)), .val (.ref w7), .val (.int (0 : Int32))] [(.int p3), (.int p2), (.ref w7)])) t → Steps p.tables e below (s₁.setTop (entryFrame m #[(.int p1), (.int p2), (.int p3)] maxLocals)) t := fun t k => by
                    refine pre281 _ ?_
                    show Steps p.tables e below (T258.setTop (mkF m 170 #[.val (.int p1), .val (.int p2), .val (.int p3), .val (.int (5 : Int32)), .val (.ref w7), .unset] [(.int (1 : Int32)), (.int p3)])) _
                    refine XS.icmpYes X258.here hx rfl (pc0 := 170) (pc' := 177) rfl (hb hby at_170) rfl (feq hc282).2 (by decide) (by decide) ?_
                    show Steps p.tables e below (T258.setTop (mkF m 177 #[.val (.int p1), .val (.int p2), .val (.int p3), .val (.int (5 : Int32)), .val (.ref w7), .unset] [])) _
                    refine XS.iconst X258.here hx rfl (hb hby at_177) ?_
                    show Steps p.tables e below (T258.setTop (mkF m 178 #[.val (.int p1), .val (.int p2), .val (.int p3), .val (.int (5 : Int32)), .val (.ref w7), .unset] [(.int (0 : Int32))])) _
                    refine XS.istore X258.here hx rfl (hb hby at_178) rfl (l' := #[.val (.int p1), .val (.int p2), .val (.int p3), .val (.int (5 : Int32)), .val (.ref w7), .val (.int (0 : Int32))]) rfl ?_
                    show Steps p.tables e below (T258.setTop (mkF m 180 #[.val (.int p1), .val (.int p2), .val (.int p3), .val (.int (5 : Int32)), .val (.ref w7), .val (.int (0 : Int32))] [])) _
                    refine XS.goto X258.here hx rfl (pc0 := 180) (pc' := 236) rfl (hb hby at_180) (by decide) (by decide) ?_
                    show Steps p.tables e below (T258.setTop (mkF m 236 #[.val (.int p1), .val (.int p2), .val (.int p3), .val (.int (5 : Int32)), .val (.ref w7), .val (.int (0 : Int32))] [])) _
                    refine XS.aload X258.here hx rfl (hb hby at_236) rfl rfl ?_
                    show Steps p.tables e below (T258.setTop (mkF m 238 #[.val (.int p1), .val (.int p2), .val (.int p3), .val (.int (5 : Int32)), .val (.ref w7), .val (.int (0 : Int32))] [(.ref w7)])) _
                    refine XS.iloadN X258.here hx rfl (hb hby at_238) rfl ?_
                    show Steps p.tables e below (T258.setTop (mkF m 239 #[.val (.int p1), .val (.int p2), .val (.int p3), .val (.int (5 : Int32)), .val (.ref w7), .val (.int (0 : Int32))] [(.int p2), (.ref w7)])) _
                    refine XS.iloadN X258.here hx rfl (hb hby at_239) rfl ?_
                    exact k
                  have X294 : Stand p l e room_1 s m #[(.int p1), (.int p2), (.int p3)] below meth c T294 _ 0 0 := X294
                  rcases hQ294 with ⟨hc296, rfl, Nq297, e298⟩ | ⟨hc299, hc300, rfl, Nq301, e302⟩ | ⟨hc303, hc304, hc305, rfl, Nq306, e307⟩ | ⟨hc308, hc309, hc310, rfl, Nq311, e312⟩
                  ·
                    exact absurd hc296 hc260
                  ·
                    have N294 := Fr.app N0 Nq301
                    obtain ⟨fs, hr, hrun, hended, hW, hsame⟩ := X294.leave (v := some (.int (1 : Int32))) (fun h => by rw [hret] at h; cases h)
                    refine ⟨_, _, pre295 _ ?_, hrun, hended, _, _, rfl, ?_, ⟨_, rfl⟩, hW, hsame.mono (by decide) (by decide)⟩
                    ·
                      show Steps p.tables e below (T258.setTop (mkF m 240 #[.val (.int p1), .val (.int p2), .val (.int p3), .val (.int (5 : Int32)), .val (.ref w7), .val (.int (0 : Int32))] [(.int p3), (.int p2), (.ref w7)])) _
                      refine st294.trans ?_
                      show Steps p.tables e below (T294.setTop (mkF m 243 #[.val (.int p1), .val (.int p2), .val (.int p3), .val (.int (5 : Int32)), .val (.ref w7), .val (.int (0 : Int32))] [(.int (0 : Int32))])) _
                      refine XS.iload X294.here hx rfl (hb hby at_243) rfl ?_
                      show Steps p.tables e below (T294.setTop (mkF m 245 #[.val (.int p1), .val (.int p2), .val (.int p3), .val (.int (5 : Int32)), .val (.ref w7), .val (.int (0 : Int32))] [(.int (0 : Int32)), (.int (0 : Int32))])) _
                      refine XS.icmpNo X294.here hx rfl (hb hby at_245) rfl (teq (by decide : (0 : Int32) = (0 : Int32))).2 ?_
                      show Steps p.tables e below (T294.setTop (mkF m 248 #[.val (.int p1), .val (.int p2), .val (.int p3), .val (.int (5 : Int32)), .val (.ref w7), .val (.int (0 : Int32))] [])) _
                      refine XS.iconst X294.here hx rfl (hb hby at_248) ?_
                      show Steps p.tables e below (T294.setTop (mkF m 249 #[.val (.int p1), .val (.int p2), .val (.int p3), .val (.int (5 : Int32)), .val (.ref w7), .val (.int (0 : Int32))] [(.int (1 : Int32))])) _
                      refine XS.goto X294.here hx rfl (pc0 := 249) (pc' := 253) rfl (hb hby at_249) (by decide) (by decide) ?_
                      show Steps p.tables e below (T294.setTop (mkF m 253 #[.val (.int p1), .val (.int p2), .val (.int p3), .val (.int (5 : Int32)), .val (.ref w7), .val (.int (0 : Int32))] [(.int (1 : Int32))])) _
                      exact retN X294 hx (t := .boolean) hret (by simp) (hb hby at_253) hr
                    ·
                      show Q0 n0 _ T294.heap _
                      rw [e302]
                      exact ⟨rfl, N294⟩
                  ·
                    have N294 := Fr.app N0 Nq306
                    obtain ⟨fs, hr, hrun, hended, hW, hsame⟩ := X294.leave (v := some (.int (1 : Int32))) (fun h => by rw [hret] at h; cases h)
                    refine ⟨_, _, pre295 _ ?_, hrun, hended, _, _, rfl, ?_, ⟨_, rfl⟩, hW, hsame.mono (by decide) (by decide)⟩
                    ·
                      show Steps p.tables e below (T258.setTop (mkF m 240 #[.val (.int p1), .val (.int p2), .val (.int p3), .val (.int (5 : Int32)), .val (.ref w7), .val (.int (0 : Int32))] [(.int p3), (.int p2), (.ref w7)])) _
                      refine st294.trans ?_
                      show Steps p.tables e below (T294.setTop (mkF m 243 #[.val (.int p1), .val (.int p2), .val (.int p3), .val (.int (5 : Int32)), .val (.ref w7), .val (.int (0 : Int32))] [(.int (0 : Int32))])) _
                      refine XS.iload X294.here hx rfl (hb hby at_243) rfl ?_
                      show Steps p.tables e below (T294.setTop (mkF m 245 #[.val (.int p1), .val (.int p2), .val (.int p3), .val (.int (5 : Int32)), .val (.ref w7), .val (.int (0 : Int32))] [(.int (0 : Int32)), (.int (0 : Int32))])) _
                      refine XS.icmpNo X294.here hx rfl (hb hby at_245) rfl (teq (by decide : (0 : Int32) = (0 : Int32))).2 ?_
                      show Steps p.tables e below (T294.setTop (mkF m 248 #[.val (.int p1), .val (.int p2), .val (.int p3), .val (.int (5 : Int32)), .val (.ref w7), .val (.int (0 : Int32))] [])) _
                      refine XS.iconst X294.here hx rfl (hb hby at_248) ?_
                      show Steps p.tables e below (T294.setTop (mkF m 249 #[.val (.int p1), .val (.int p2), .val (.int p3), .val (.int (5 : Int32)), .val (.ref w7), .val (.int (0 : Int32))] [(.int (1 : Int32))])) _
                      refine XS.goto X294.here hx rfl (pc0 := 249) (pc' := 253) rfl (hb hby at_249) (by decide) (by decide) ?_
                      show Steps p.tables e below (T294.setTop (mkF m 253 #[.val (.int p1), .val (.int p2), .val (.int p3), .val (.int (5 : Int32)), .val (.ref w7), .val (.int (0 : Int32))] [(.int (1 : Int32))])) _
                      exact retN X294 hx (t := .boolean) hret (by simp) (hb hby at_253) hr
                    ·
                      show Q0 n0 _ T294.heap _
                      rw [e307]
                      exact ⟨rfl, N294⟩
                  ·
                    exact absurd (own_glt2 (n := 1) (k := (1 : Int32)) (by decide) (by have q0 := rng32 p3; have q1 := own_neq (n := 1) (k := (1 : Int32)) (by decide) hc282; have q2 := own_nlt1 (n := 1) (k := (1 : Int32)) (by decide) hc309; omega)) hc310
            ·
              have pre313 : ∀ t, Steps p.tables e below (s₁.setTop (mkF m 186 #[.val (.int p1), .val (.int p2), .val (.int p3), .val (.int ((p1 &&& (2147483647 : Int32)) % (8 : Int32))), .unset, .unset] [(.int (6 : Int32)), (.int ((p1 &&& (2147483647 : Int32)) % (8 : Int32)))])) t → Steps p.tables e below (s₁.setTop (entryFrame m #[(.int p1), (.int p2), (.int p3)] maxLocals)) t := fun t k => by
                refine pre255 _ ?_
                show Steps p.tables e below (s₁.setTop (mkF m 155 #[.val (.int p1), .val (.int p2), .val (.int p3), .val (.int ((p1 &&& (2147483647 : Int32)) % (8 : Int32))), .unset, .unset] [(.int (5 : Int32)), (.int ((p1 &&& (2147483647 : Int32)) % (8 : Int32)))])) _
                refine XS.icmpYes X0.here hx rfl (pc0 := 155) (pc' := 183) rfl (hb hby at_155) rfl (feq hc256).2 (by decide) (by decide) ?_
                show Steps p.tables e below (s₁.setTop (mkF m 183 #[.val (.int p1), .val (.int p2), .val (.int p3), .val (.int ((p1 &&& (2147483647 : Int32)) % (8 : Int32))), .unset, .unset] [])) _
                refine XS.iloadN X0.here hx rfl (hb hby at_183) rfl ?_
                show Steps p.tables e below (s₁.setTop (mkF m 184 #[.val (.int p1), .val (.int p2), .val (.int p3), .val (.int ((p1 &&& (2147483647 : Int32)) % (8 : Int32))), .unset, .unset] [(.int ((p1 &&& (2147483647 : Int32)) % (8 : Int32)))])) _
                refine XS.bipush X0.here hx rfl (hb hby at_184) ?_
                exact k
              by_cases hc314 : ((p1 &&& (2147483647 : Int32)) % (8 : Int32)) = (6 : Int32)
              ·
                have pre315 : ∀ t, Steps p.tables e below (s₁.setTop (mkF m 186 #[.val (.int p1), .val (.int p2), .val (.int p3), .val (.int (6 : Int32)), .unset, .unset] [(.int (6 : Int32)), (.int (6 : Int32))])) t → Steps p.tables e below (s₁.setTop (entryFrame m #[(.int p1), (.int p2), (.int p3)] maxLocals)) t := fun t k => pre313 t (by rw [hc314]; exact k)
                obtain ⟨T316, X316, e316, st316⟩ := getS2 X0 hx hZ hown (host := "") (Or.inl (hw _ (List.mem_of_getElem? (i := 29) rfl))) Via.refl e0 (S_w8.ext O0.2) (g := (mkF m 189 #[.val (.int p1), .val (.int p2), .val (.int p3), .val (.int (6 : Int32)), .unset, .unset] [])) rfl (hb hby at_189)
                have pre317 : ∀ t, Steps p.tables e below (T316.setTop (mkF m 196 #[.val (.int p1), .val (.int p2), .val (.int p3), .val (.int (6 : Int32)), .val (.ref w8), .unset] [(.int (1 : Int32)), (.int p2)])) t → Steps p.tables e below (s₁.setTop (entryFrame m #[(.int p1), (.int p2), (.int p3)] maxLocals)) t := fun t k => by
                  refine pre315 _ ?_
                  show Steps p.tables e below (s₁.setTop (mkF m 186 #[.val (.int p1), .val (.int p2), .val (.int p3), .val (.int (6 : Int32)), .unset, .unset] [(.int (6 : Int32)), (.int (6 : Int32))])) _
                  refine XS.icmpNo X0.here hx rfl (hb hby at_186) rfl (teq (by decide : (6 : Int32) = (6 : Int32))).2 ?_
                  show Steps p.tables e below (s₁.setTop (mkF m 189 #[.val (.int p1), .val (.int p2), .val (.int p3), .val (.int (6 : Int32)), .unset, .unset] [])) _
                  refine st316 _ ?_
                  show Steps p.tables e below (T316.setTop (mkF m 192 #[.val (.int p1), .val (.int p2), .val (.int p3), .val (.int (6 : Int32)), .unset, .unset] [(.ref w8)])) _
                  refine XS.astore X316.here hx rfl (hb hby at_192) rfl rfl (l' := #[.val (.int p1), .val (.int p2), .val (.int p3), .val (.int (6 : Int32)), .val (.ref w8), .unset]) rfl ?_
                  show Steps p.tables e below (T316.setTop (mkF m 194 #[.val (.int p1), .val (.int p2), .val (.int p3), .val (.int (6 : Int32)), .val (.ref w8), .unset] [])) _
                  refine XS.iloadN X316.here hx rfl (hb hby at_194) rfl ?_
                  show Steps p.tables e below (T316.setTop (mkF m 195 #[.val (.int p1), .val (.int p2), .val (.int p3), .val (.int (6 : Int32)), .val (.ref w8), .unset] [(.int p2)])) _
                  refine XS.iconst X316.here hx rfl (hb hby at_195) ?_
                  exact k
                by_cases hc318 : p2 = (1 : Int32)
                ·
                  have pre319 : ∀ t, Steps p.tables e below (T316.setTop (mkF m 196 #[.val (.int p1), .val (.int (1 : Int32)), .val (.int p3), .val (.int (6 : Int32)), .val (.ref w8), .unset] [(.int (1 : Int32)), (.int (1 : Int32))])) t → Steps p.tables e below (s₁.setTop (entryFrame m #[(.int p1), (.int p2), (.int p3)] maxLocals)) t := fun t k => pre317 t (by rw [hc318]; exact k)
                  have pre320 : ∀ t, Steps p.tables e below (T316.setTop (mkF m 201 #[.val (.int p1), .val (.int (1 : Int32)), .val (.int p3), .val (.int (6 : Int32)), .val (.ref w8), .unset] [(.int (1 : Int32)), (.int p3)])) t → Steps p.tables e below (s₁.setTop (entryFrame m #[(.int p1), (.int p2), (.int p3)] maxLocals)) t := fun t k => by
                    refine pre319 _ ?_
                    show Steps p.tables e below (T316.setTop (mkF m 196 #[.val (.int p1), .val (.int (1 : Int32)), .val (.int p3), .val (.int (6 : Int32)), .val (.ref w8), .unset] [(.int (1 : Int32)), (.int (1 : Int32))])) _
                    refine XS.icmpNo X316.here hx rfl (hb hby at_196) rfl (teq (by decide : (1 : Int32) = (1 : Int32))).2 ?_
                    show Steps p.tables e below (T316.setTop (mkF m 199 #[.val (.int p1), .val (.int (1 : Int32)), .val (.int p3), .val (.int (6 : Int32)), .val (.ref w8), .unset] [])) _
                    refine XS.iloadN X316.here hx rfl (hb hby at_199) rfl ?_
                    show Steps p.tables e below (T316.setTop (mkF m 200 #[.val (.int p1), .val (.int (1 : Int32)), .val (.int p3), .val (.int (6 : Int32)), .val (.ref w8), .unset] [(.int p3)])) _
                    refine XS.iconst X316.here hx rfl (hb hby at_200) ?_
                    exact k
                  by_cases hc321 : p3 = (1 : Int32)
                  ·
                    have pre322 : ∀ t, Steps p.tables e below (T316.setTop (mkF m 201 #[.val (.int p1), .val (.int (1 : Int32)), .val (.int (1 : Int32)), .val (.int (6 : Int32)), .val (.ref w8), .unset] [(.int (1 : Int32)), (.int (1 : Int32))])) t → Steps p.tables e below (s₁.setTop (entryFrame m #[(.int p1), (.int p2), (.int p3)] maxLocals)) t := fun t k => pre320 t (by rw [hc321]; exact k)
                    obtain ⟨cq323, kq323, q323a, q323b, q323c⟩ := isOf hZ e316 (E_w8.ext O0.2)
                    obtain ⟨_, _, ⟨T324, L324, c324, n324⟩, -, X324, ⟨Lc324, hQ324, l324, y324, z324⟩, st324⟩ := X316.virtualBack hx (y := (⟨"com/example/vipo/vipo/flow/PatternType", "admitsDegree", "(II)Z"⟩ : MethodName)) (z := (⟨"com/example/vipo/vipo/flow/PatternType", "admitsDegree", "(II)Z"⟩ : MethodName)) hown (mvT hZ (hw _ (List.mem_of_getElem? (i := 4) rfl))) (mvT hZ (hw _ (List.mem_of_getElem? (i := 5) rfl))) (notFace_of_selects (args := #[]) (mvT hZ (hw _ (List.mem_of_getElem? (i := 7) rfl)))) (mvT hZ (hw _ (List.mem_of_getElem? (i := 7) rfl))) (mvT hZ (hw _ (List.mem_of_getElem? (i := 6) rfl))) (by decide) (backOf (W := 0) (rm14 l Z a0 hw w1 w2 w3 w4 w5 w6 w7 w8 G []  h0 n0 O0 ) hZ (hw _ (List.mem_of_getElem? (i := 8) rfl)) (hw _ (List.mem_of_getElem? (i := 2) rfl)) (by decide) (by decide)) q323a q323c (g := (mkF m 240 #[.val (.int p1), .val (.int (1 : Int32)), .val (.int (1 : Int32)), .val (.int (6 : Int32)), .val (.ref w8), .val (.int (1 : Int32))] [(.int (1 : Int32)), (.int (1 : Int32)), (.ref w8)])) rfl (by rw [hml]; rfl) (Steps.refl _) (argsL := [(.int (1 : Int32)), (.int (1 : Int32))]) (rest := []) (lenOf pd0 rfl) rfl (by show 2 * 0 + _ ≤ _; exact Nat.le_of_eq rfl) (hb hby at_240) (fun _ _ => ⟨rfl, e316, (by decide : 0 + 0 ≤ _), (by decide : 0 + 0 ≤ _)⟩)
                    dsimp only [Pt.U, Pt.locs, Pt.cells, Pt.slots] at X324 l324 y324 z324 st324 hQ324
                    subst l324 y324 z324
                    have X324 : Stand p l e room_1 s m #[(.int p1), (.int p2), (.int p3)] below meth c T324 _ 0 0 := X324
                    obtain ⟨rfl, Nq325, e326⟩ := hQ324
                    have N324 := Fr.app N0 Nq325
                    obtain ⟨fs, hr, hrun, hended, hW, hsame⟩ := X324.leave (v := some (.int (1 : Int32))) (fun h => by rw [hret] at h; cases h)
                    refine ⟨_, _, pre322 _ ?_, hrun, hended, _, _, rfl, ?_, ⟨_, rfl⟩, hW, hsame.mono (by decide) (by decide)⟩
                    ·
                      show Steps p.tables e below (T316.setTop (mkF m 201 #[.val (.int p1), .val (.int (1 : Int32)), .val (.int (1 : Int32)), .val (.int (6 : Int32)), .val (.ref w8), .unset] [(.int (1 : Int32)), (.int (1 : Int32))])) _
                      refine XS.icmpNo X316.here hx rfl (hb hby at_201) rfl (teq (by decide : (1 : Int32) = (1 : Int32))).2 ?_
                      show Steps p.tables e below (T316.setTop (mkF m 204 #[.val (.int p1), .val (.int (1 : Int32)), .val (.int (1 : Int32)), .val (.int (6 : Int32)), .val (.ref w8), .unset] [])) _
                      refine XS.iconst X316.here hx rfl (hb hby at_204) ?_
                      show Steps p.tables e below (T316.setTop (mkF m 205 #[.val (.int p1), .val (.int (1 : Int32)), .val (.int (1 : Int32)), .val (.int (6 : Int32)), .val (.ref w8), .unset] [(.int (1 : Int32))])) _
                      refine XS.goto X316.here hx rfl (pc0 := 205) (pc' := 209) rfl (hb hby at_205) (by decide) (by decide) ?_
                      show Steps p.tables e below (T316.setTop (mkF m 209 #[.val (.int p1), .val (.int (1 : Int32)), .val (.int (1 : Int32)), .val (.int (6 : Int32)), .val (.ref w8), .unset] [(.int (1 : Int32))])) _
                      refine XS.istore X316.here hx rfl (hb hby at_209) rfl (l' := #[.val (.int p1), .val (.int (1 : Int32)), .val (.int (1 : Int32)), .val (.int (6 : Int32)), .val (.ref w8), .val (.int (1 : Int32))]) rfl ?_
                      show Steps p.tables e below (T316.setTop (mkF m 211 #[.val (.int p1), .val (.int (1 : Int32)), .val (.int (1 : Int32)), .val (.int (6 : Int32)), .val (.ref w8), .val (.int (1 : Int32))] [])) _
                      refine XS.goto X316.here hx rfl (pc0 := 211) (pc' := 236) rfl (hb hby at_211) (by decide) (by decide) ?_
                      show Steps p.tables e below (T316.setTop (mkF m 236 #[.val (.int p1), .val (.int (1 : Int32)), .val (.int (1 : Int32)), .val (.int (6 : Int32)), .val (.ref w8), .val (.int (1 : Int32))] [])) _
                      refine XS.aload X316.here hx rfl (hb hby at_236) rfl rfl ?_
                      show Steps p.tables e below (T316.setTop (mkF m 238 #[.val (.int p1), .val (.int (1 : Int32)), .val (.int (1 : Int32)), .val (.int (6 : Int32)), .val (.ref w8), .val (.int (1 : Int32))] [(.ref w8)])) _
                      refine XS.iloadN X316.here hx rfl (hb hby at_238) rfl ?_
                      show Steps p.tables e below (T316.setTop (mkF m 239 #[.val (.int p1), .val (.int (1 : Int32)), .val (.int (1 : Int32)), .val (.int (6 : Int32)), .val (.ref w8), .val (.int (1 : Int32))] [(.int (1 : Int32)), (.ref w8)])) _
                      refine XS.iloadN X316.here hx rfl (hb hby at_239) rfl ?_
                      show Steps p.tables e below (T316.setTop (mkF m 240 #[.val (.int p1), .val (.int (1 : Int32)), .val (.int (1 : Int32)), .val (.int (6 : Int32)), .val (.ref w8), .val (.int (1 : Int32))] [(.int (1 : Int32)), (.int (1 : Int32)), (.ref w8)])) _
                      refine st324.trans ?_
                      show Steps p.tables e below (T324.setTop (mkF m 243 #[.val (.int p1), .val (.int (1 : Int32)), .val (.int (1 : Int32)), .val (.int (6 : Int32)), .val (.ref w8), .val (.int (1 : Int32))] [(.int (1 : Int32))])) _
                      refine XS.iload X324.here hx rfl (hb hby at_243) rfl ?_
                      show Steps p.tables e below (T324.setTop (mkF m 245 #[.val (.int p1), .val (.int (1 : Int32)), .val (.int (1 : Int32)), .val (.int (6 : Int32)), .val (.ref w8), .val (.int (1 : Int32))] [(.int (1 : Int32)), (.int (1 : Int32))])) _
                      refine XS.icmpNo X324.here hx rfl (hb hby at_245) rfl (teq (by decide : (1 : Int32) = (1 : Int32))).2 ?_
                      show Steps p.tables e below (T324.setTop (mkF m 248 #[.val (.int p1), .val (.int (1 : Int32)), .val (.int (1 : Int32)), .val (.int (6 : Int32)), .val (.ref w8), .val (.int (1 : Int32))] [])) _
                      refine XS.iconst X324.here hx rfl (hb hby at_248) ?_
                      show Steps p.tables e below (T324.setTop (mkF m 249 #[.val (.int p1), .val (.int (1 : Int32)), .val (.int (1 : Int32)), .val (.int (6 : Int32)), .val (.ref w8), .val (.int (1 : Int32))] [(.int (1 : Int32))])) _
                      refine XS.goto X324.here hx rfl (pc0 := 249) (pc' := 253) rfl (hb hby at_249) (by decide) (by decide) ?_
                      show Steps p.tables e below (T324.setTop (mkF m 253 #[.val (.int p1), .val (.int (1 : Int32)), .val (.int (1 : Int32)), .val (.int (6 : Int32)), .val (.ref w8), .val (.int (1 : Int32))] [(.int (1 : Int32))])) _
                      exact retN X324 hx (t := .boolean) hret (by simp) (hb hby at_253) hr
                    ·
                      show Q0 n0 _ T324.heap _
                      rw [e326]
                      exact ⟨rfl, N324⟩
                  ·
                    obtain ⟨cq327, kq327, q327a, q327b, q327c⟩ := isOf hZ e316 (E_w8.ext O0.2)
                    obtain ⟨_, _, ⟨T328, L328, c328, n328⟩, -, X328, ⟨Lc328, hQ328, l328, y328, z328⟩, st328⟩ := X316.virtualBack hx (y := (⟨"com/example/vipo/vipo/flow/PatternType", "admitsDegree", "(II)Z"⟩ : MethodName)) (z := (⟨"com/example/vipo/vipo/flow/PatternType", "admitsDegree", "(II)Z"⟩ : MethodName)) hown (mvT hZ (hw _ (List.mem_of_getElem? (i := 4) rfl))) (mvT hZ (hw _ (List.mem_of_getElem? (i := 5) rfl))) (notFace_of_selects (args := #[]) (mvT hZ (hw _ (List.mem_of_getElem? (i := 7) rfl)))) (mvT hZ (hw _ (List.mem_of_getElem? (i := 7) rfl))) (mvT hZ (hw _ (List.mem_of_getElem? (i := 6) rfl))) (by decide) (backOf (W := 0) (rm15 l Z a0 hw w1 w2 w3 w4 w5 w6 w7 w8 G [] p3 h0 n0 O0 ) hZ (hw _ (List.mem_of_getElem? (i := 8) rfl)) (hw _ (List.mem_of_getElem? (i := 2) rfl)) (by decide) (by decide)) q327a q327c (g := (mkF m 240 #[.val (.int p1), .val (.int (1 : Int32)), .val (.int p3), .val (.int (6 : Int32)), .val (.ref w8), .val (.int (0 : Int32))] [(.int p3), (.int (1 : Int32)), (.ref w8)])) rfl (by rw [hml]; rfl) (Steps.refl _) (argsL := [(.int (1 : Int32)), (.int p3)]) (rest := []) (lenOf pd0 rfl) rfl (by show 2 * 0 + _ ≤ _; exact Nat.le_of_eq rfl) (hb hby at_240) (fun _ _ => ⟨rfl, e316, (by decide : 0 + 0 ≤ _), (by decide : 0 + 0 ≤ _)⟩)
                    dsimp only [Pt.U, Pt.locs, Pt.cells, Pt.slots] at X328 l328 y328 z328 st328 hQ328
                    subst l328 y328 z328
                    have pre329 : ∀ t, Steps p.tables e below (T316.setTop (mkF m 240 #[.val (.int p1), .val (.int (1 : Int32)), .val (.int p3), .val (.int (6 : Int32)), .val (.ref w8), .val (.int (0 : Int32))] [(.int p3), (.int (1 : Int32)), (.ref w8)])) t → Steps p.tables e below (s₁.setTop (entryFrame m #[(.int p1), (.int p2), (.int p3)] maxLocals)) t := fun t k => by
                      refine pre320 _ ?_
                      show Steps p.tables e below (T316.setTop (mkF m 201 #[.val (.int p1), .val (.int (1 : Int32)), .val (.int p3), .val (.int (6 : Int32)), .val (.ref w8), .unset] [(.int (1 : Int32)), (.int p3)])) _
                      refine XS.icmpYes X316.here hx rfl (pc0 := 201) (pc' := 208) rfl (hb hby at_201) rfl (feq hc321).2 (by decide) (by decide) ?_
                      show Steps p.tables e below (T316.setTop (mkF m 208 #[.val (.int p1), .val (.int (1 : Int32)), .val (.int p3), .val (.int (6 : Int32)), .val (.ref w8), .unset] [])) _
                      refine XS.iconst X316.here hx rfl (hb hby at_208) ?_
                      show Steps p.tables e below (T316.setTop (mkF m 209 #[.val (.int p1), .val (.int (1 : Int32)), .val (.int p3), .val (.int (6 : Int32)), .val (.ref w8), .unset] [(.int (0 : Int32))])) _
                      refine XS.istore X316.here hx rfl (hb hby at_209) rfl (l' := #[.val (.int p1), .val (.int (1 : Int32)), .val (.int p3), .val (.int (6 : Int32)), .val (.ref w8), .val (.int (0 : Int32))]) rfl ?_
                      show Steps p.tables e below (T316.setTop (mkF m 211 #[.val (.int p1), .val (.int (1 : Int32)), .val (.int p3), .val (.int (6 : Int32)), .val (.ref w8), .val (.int (0 : Int32))] [])) _
                      refine XS.goto X316.here hx rfl (pc0 := 211) (pc' := 236) rfl (hb hby at_211) (by decide) (by decide) ?_
                      show Steps p.tables e below (T316.setTop (mkF m 236 #[.val (.int p1), .val (.int (1 : Int32)), .val (.int p3), .val (.int (6 : Int32)), .val (.ref w8), .val (.int (0 : Int32))] [])) _
                      refine XS.aload X316.here hx rfl (hb hby at_236) rfl rfl ?_
                      show Steps p.tables e below (T316.setTop (mkF m 238 #[.val (.int p1), .val (.int (1 : Int32)), .val (.int p3), .val (.int (6 : Int32)), .val (.ref w8), .val (.int (0 : Int32))] [(.ref w8)])) _
                      refine XS.iloadN X316.here hx rfl (hb hby at_238) rfl ?_
                      show Steps p.tables e below (T316.setTop (mkF m 239 #[.val (.int p1), .val (.int (1 : Int32)), .val (.int p3), .val (.int (6 : Int32)), .val (.ref w8), .val (.int (0 : Int32))] [(.int (1 : Int32)), (.ref w8)])) _
                      refine XS.iloadN X316.here hx rfl (hb hby at_239) rfl ?_
                      exact k
                    have X328 : Stand p l e room_1 s m #[(.int p1), (.int p2), (.int p3)] below meth c T328 _ 0 0 := X328
                    rcases hQ328 with ⟨hc330, rfl, Nq331, e332⟩ | ⟨hc333, hc334, rfl, Nq335, e336⟩ | ⟨hc337, hc338, rfl, Nq339, e340⟩
                    ·
                      have N328 := Fr.app N0 Nq331
                      obtain ⟨fs, hr, hrun, hended, hW, hsame⟩ := X328.leave (v := some (.int (1 : Int32))) (fun h => by rw [hret] at h; cases h)
                      refine ⟨_, _, pre329 _ ?_, hrun, hended, _, _, rfl, ?_, ⟨_, rfl⟩, hW, hsame.mono (by decide) (by decide)⟩
                      ·
                        show Steps p.tables e below (T316.setTop (mkF m 240 #[.val (.int p1), .val (.int (1 : Int32)), .val (.int p3), .val (.int (6 : Int32)), .val (.ref w8), .val (.int (0 : Int32))] [(.int p3), (.int (1 : Int32)), (.ref w8)])) _
                        refine st328.trans ?_
                        show Steps p.tables e below (T328.setTop (mkF m 243 #[.val (.int p1), .val (.int (1 : Int32)), .val (.int p3), .val (.int (6 : Int32)), .val (.ref w8), .val (.int (0 : Int32))] [(.int (0 : Int32))])) _
                        refine XS.iload X328.here hx rfl (hb hby at_243) rfl ?_
                        show Steps p.tables e below (T328.setTop (mkF m 245 #[.val (.int p1), .val (.int (1 : Int32)), .val (.int p3), .val (.int (6 : Int32)), .val (.ref w8), .val (.int (0 : Int32))] [(.int (0 : Int32)), (.int (0 : Int32))])) _
                        refine XS.icmpNo X328.here hx rfl (hb hby at_245) rfl (teq (by decide : (0 : Int32) = (0 : Int32))).2 ?_
                        show Steps p.tables e below (T328.setTop (mkF m 248 #[.val (.int p1), .val (.int (1 : Int32)), .val (.int p3), .val (.int (6 : Int32)), .val (.ref w8), .val (.int (0 : Int32))] [])) _
                        refine XS.iconst X328.here hx rfl (hb hby at_248) ?_
                        show Steps p.tables e below (T328.setTop (mkF m 249 #[.val (.int p1), .val (.int (1 : Int32)), .val (.int p3), .val (.int (6 : Int32)), .val (.ref w8), .val (.int (0 : Int32))] [(.int (1 : Int32))])) _
                        refine XS.goto X328.here hx rfl (pc0 := 249) (pc' := 253) rfl (hb hby at_249) (by decide) (by decide) ?_
                        show Steps p.tables e below (T328.setTop (mkF m 253 #[.val (.int p1), .val (.int (1 : Int32)), .val (.int p3), .val (.int (6 : Int32)), .val (.ref w8), .val (.int (0 : Int32))] [(.int (1 : Int32))])) _
                        exact retN X328 hx (t := .boolean) hret (by simp) (hb hby at_253) hr
                      ·
                        show Q0 n0 _ T328.heap _
                        rw [e332]
                        exact ⟨rfl, N328⟩
                    ·
                      have N328 := Fr.app N0 Nq335
                      obtain ⟨fs, hr, hrun, hended, hW, hsame⟩ := X328.leave (v := some (.int (1 : Int32))) (fun h => by rw [hret] at h; cases h)
                      refine ⟨_, _, pre329 _ ?_, hrun, hended, _, _, rfl, ?_, ⟨_, rfl⟩, hW, hsame.mono (by decide) (by decide)⟩
                      ·
                        show Steps p.tables e below (T316.setTop (mkF m 240 #[.val (.int p1), .val (.int (1 : Int32)), .val (.int p3), .val (.int (6 : Int32)), .val (.ref w8), .val (.int (0 : Int32))] [(.int p3), (.int (1 : Int32)), (.ref w8)])) _
                        refine st328.trans ?_
                        show Steps p.tables e below (T328.setTop (mkF m 243 #[.val (.int p1), .val (.int (1 : Int32)), .val (.int p3), .val (.int (6 : Int32)), .val (.ref w8), .val (.int (0 : Int32))] [(.int (0 : Int32))])) _
                        refine XS.iload X328.here hx rfl (hb hby at_243) rfl ?_
                        show Steps p.tables e below (T328.setTop (mkF m 245 #[.val (.int p1), .val (.int (1 : Int32)), .val (.int p3), .val (.int (6 : Int32)), .val (.ref w8), .val (.int (0 : Int32))] [(.int (0 : Int32)), (.int (0 : Int32))])) _
                        refine XS.icmpNo X328.here hx rfl (hb hby at_245) rfl (teq (by decide : (0 : Int32) = (0 : Int32))).2 ?_
                        show Steps p.tables e below (T328.setTop (mkF m 248 #[.val (.int p1), .val (.int (1 : Int32)), .val (.int p3), .val (.int (6 : Int32)), .val (.ref w8), .val (.int (0 : Int32))] [])) _
                        refine XS.iconst X328.here hx rfl (hb hby at_248) ?_
                        show Steps p.tables e below (T328.setTop (mkF m 249 #[.val (.int p1), .val (.int (1 : Int32)), .val (.int p3), .val (.int (6 : Int32)), .val (.ref w8), .val (.int (0 : Int32))] [(.int (1 : Int32))])) _
                        refine XS.goto X328.here hx rfl (pc0 := 249) (pc' := 253) rfl (hb hby at_249) (by decide) (by decide) ?_
                        show Steps p.tables e below (T328.setTop (mkF m 253 #[.val (.int p1), .val (.int (1 : Int32)), .val (.int p3), .val (.int (6 : Int32)), .val (.ref w8), .val (.int (0 : Int32))] [(.int (1 : Int32))])) _
                        exact retN X328 hx (t := .boolean) hret (by simp) (hb hby at_253) hr
                      ·
                        show Q0 n0 _ T328.heap _
                        rw [e336]
                        exact ⟨rfl, N328⟩
                    ·
                      exact absurd (own_glt2 (n := 1) (k := (1 : Int32)) (by decide) (by have q0 := rng32 p3; have q1 := own_neq (n := 1) (k := (1 : Int32)) (by decide) hc321; have q2 := own_nlt1 (n := 1) (k := (1 : Int32)) (by decide) hc337; omega)) hc338
                ·
                  obtain ⟨cq341, kq341, q341a, q341b, q341c⟩ := isOf hZ e316 (E_w8.ext O0.2)
                  obtain ⟨_, _, ⟨T342, L342, c342, n342⟩, -, X342, ⟨Lc342, hQ342, l342, y342, z342⟩, st342⟩ := X316.virtualBack hx (y := (⟨"com/example/vipo/vipo/flow/PatternType", "admitsDegree", "(II)Z"⟩ : MethodName)) (z := (⟨"com/example/vipo/vipo/flow/PatternType", "admitsDegree", "(II)Z"⟩ : MethodName)) hown (mvT hZ (hw _ (List.mem_of_getElem? (i := 4) rfl))) (mvT hZ (hw _ (List.mem_of_getElem? (i := 5) rfl))) (notFace_of_selects (args := #[]) (mvT hZ (hw _ (List.mem_of_getElem? (i := 7) rfl)))) (mvT hZ (hw _ (List.mem_of_getElem? (i := 7) rfl))) (mvT hZ (hw _ (List.mem_of_getElem? (i := 6) rfl))) (by decide) (backOf (W := 0) (rm16 l Z a0 hw w1 w2 w3 w4 w5 w6 w7 w8 G [] p2 p3 h0 n0 O0 ) hZ (hw _ (List.mem_of_getElem? (i := 8) rfl)) (hw _ (List.mem_of_getElem? (i := 2) rfl)) (by decide) (by decide)) q341a q341c (g := (mkF m 240 #[.val (.int p1), .val (.int p2), .val (.int p3), .val (.int (6 : Int32)), .val (.ref w8), .val (.int (0 : Int32))] [(.int p3), (.int p2), (.ref w8)])) rfl (by rw [hml]; rfl) (Steps.refl _) (argsL := [(.int p2), (.int p3)]) (rest := []) (lenOf pd0 rfl) rfl (by show 2 * 0 + _ ≤ _; exact Nat.le_of_eq rfl) (hb hby at_240) (fun _ _ => ⟨rfl, e316, (by decide : 0 + 0 ≤ _), (by decide : 0 + 0 ≤ _)⟩)
                  dsimp only [Pt.U, Pt.locs, Pt.cells, Pt.slots] at X342 l342 y342 z342 st342 hQ342
                  subst l342 y342 z342
                  have pre343 : ∀ t, Steps p.tables e below (T316.setTop (mkF m 240 #[.val (.int p1), .val (.int p2), .val (.int p3), .val (.int (6 : Int32)), .val (.ref w8), .val (.int (0 : Int32))] [(.int p3), (.int p2), (.ref w8)])) t → Steps p.tables e below (s₁.setTop (entryFrame m #[(.int p1), (.int p2), (.int p3)] maxLocals)) t := fun t k => by
                    refine pre317 _ ?_
                    show Steps p.tables e below (T316.setTop (mkF m 196 #[.val (.int p1), .val (.int p2), .val (.int p3), .val (.int (6 : Int32)), .val (.ref w8), .unset] [(.int (1 : Int32)), (.int p2)])) _
                    refine XS.icmpYes X316.here hx rfl (pc0 := 196) (pc' := 208) rfl (hb hby at_196) rfl (feq hc318).2 (by decide) (by decide) ?_
                    show Steps p.tables e below (T316.setTop (mkF m 208 #[.val (.int p1), .val (.int p2), .val (.int p3), .val (.int (6 : Int32)), .val (.ref w8), .unset] [])) _
                    refine XS.iconst X316.here hx rfl (hb hby at_208) ?_
                    show Steps p.tables e below (T316.setTop (mkF m 209 #[.val (.int p1), .val (.int p2), .val (.int p3), .val (.int (6 : Int32)), .val (.ref w8), .unset] [(.int (0 : Int32))])) _
                    refine XS.istore X316.here hx rfl (hb hby at_209) rfl (l' := #[.val (.int p1), .val (.int p2), .val (.int p3), .val (.int (6 : Int32)), .val (.ref w8), .val (.int (0 : Int32))]) rfl ?_
                    show Steps p.tables e below (T316.setTop (mkF m 211 #[.val (.int p1), .val (.int p2), .val (.int p3), .val (.int (6 : Int32)), .val (.ref w8), .val (.int (0 : Int32))] [])) _
                    refine XS.goto X316.here hx rfl (pc0 := 211) (pc' := 236) rfl (hb hby at_211) (by decide) (by decide) ?_
                    show Steps p.tables e below (T316.setTop (mkF m 236 #[.val (.int p1), .val (.int p2), .val (.int p3), .val (.int (6 : Int32)), .val (.ref w8), .val (.int (0 : Int32))] [])) _
                    refine XS.aload X316.here hx rfl (hb hby at_236) rfl rfl ?_
                    show Steps p.tables e below (T316.setTop (mkF m 238 #[.val (.int p1), .val (.int p2), .val (.int p3), .val (.int (6 : Int32)), .val (.ref w8), .val (.int (0 : Int32))] [(.ref w8)])) _
                    refine XS.iloadN X316.here hx rfl (hb hby at_238) rfl ?_
                    show Steps p.tables e below (T316.setTop (mkF m 239 #[.val (.int p1), .val (.int p2), .val (.int p3), .val (.int (6 : Int32)), .val (.ref w8), .val (.int (0 : Int32))] [(.int p2), (.ref w8)])) _
                    refine XS.iloadN X316.here hx rfl (hb hby at_239) rfl ?_
                    exact k
                  have X342 : Stand p l e room_1 s m #[(.int p1), (.int p2), (.int p3)] below meth c T342 _ 0 0 := X342
                  rcases hQ342 with ⟨hc344, rfl, Nq345, e346⟩ | ⟨hc347, hc348, rfl, Nq349, e350⟩ | ⟨hc351, hc352, hc353, rfl, Nq354, e355⟩ | ⟨hc356, hc357, hc358, hc359, rfl, Nq360, e361⟩ | ⟨hc362, hc363, hc364, hc365, rfl, Nq366, e367⟩
                  ·
                    have N342 := Fr.app N0 Nq345
                    obtain ⟨fs, hr, hrun, hended, hW, hsame⟩ := X342.leave (v := some (.int (1 : Int32))) (fun h => by rw [hret] at h; cases h)
                    refine ⟨_, _, pre343 _ ?_, hrun, hended, _, _, rfl, ?_, ⟨_, rfl⟩, hW, hsame.mono (by decide) (by decide)⟩
                    ·
                      show Steps p.tables e below (T316.setTop (mkF m 240 #[.val (.int p1), .val (.int p2), .val (.int p3), .val (.int (6 : Int32)), .val (.ref w8), .val (.int (0 : Int32))] [(.int p3), (.int p2), (.ref w8)])) _
                      refine st342.trans ?_
                      show Steps p.tables e below (T342.setTop (mkF m 243 #[.val (.int p1), .val (.int p2), .val (.int p3), .val (.int (6 : Int32)), .val (.ref w8), .val (.int (0 : Int32))] [(.int (0 : Int32))])) _
                      refine XS.iload X342.here hx rfl (hb hby at_243) rfl ?_
                      show Steps p.tables e below (T342.setTop (mkF m 245 #[.val (.int p1), .val (.int p2), .val (.int p3), .val (.int (6 : Int32)), .val (.ref w8), .val (.int (0 : Int32))] [(.int (0 : Int32)), (.int (0 : Int32))])) _
                      refine XS.icmpNo X342.here hx rfl (hb hby at_245) rfl (teq (by decide : (0 : Int32) = (0 : Int32))).2 ?_
                      show Steps p.tables e below (T342.setTop (mkF m 248 #[.val (.int p1), .val (.int p2), .val (.int p3), .val (.int (6 : Int32)), .val (.ref w8), .val (.int (0 : Int32))] [])) _
                      refine XS.iconst X342.here hx rfl (hb hby at_248) ?_
                      show Steps p.tables e below (T342.setTop (mkF m 249 #[.val (.int p1), .val (.int p2), .val (.int p3), .val (.int (6 : Int32)), .val (.ref w8), .val (.int (0 : Int32))] [(.int (1 : Int32))])) _
                      refine XS.goto X342.here hx rfl (pc0 := 249) (pc' := 253) rfl (hb hby at_249) (by decide) (by decide) ?_
                      show Steps p.tables e below (T342.setTop (mkF m 253 #[.val (.int p1), .val (.int p2), .val (.int p3), .val (.int (6 : Int32)), .val (.ref w8), .val (.int (0 : Int32))] [(.int (1 : Int32))])) _
                      exact retN X342 hx (t := .boolean) hret (by simp) (hb hby at_253) hr
                    ·
                      show Q0 n0 _ T342.heap _
                      rw [e346]
                      exact ⟨rfl, N342⟩
                  ·
                    have N342 := Fr.app N0 Nq349
                    obtain ⟨fs, hr, hrun, hended, hW, hsame⟩ := X342.leave (v := some (.int (1 : Int32))) (fun h => by rw [hret] at h; cases h)
                    refine ⟨_, _, pre343 _ ?_, hrun, hended, _, _, rfl, ?_, ⟨_, rfl⟩, hW, hsame.mono (by decide) (by decide)⟩
                    ·
                      show Steps p.tables e below (T316.setTop (mkF m 240 #[.val (.int p1), .val (.int p2), .val (.int p3), .val (.int (6 : Int32)), .val (.ref w8), .val (.int (0 : Int32))] [(.int p3), (.int p2), (.ref w8)])) _
                      refine st342.trans ?_
                      show Steps p.tables e below (T342.setTop (mkF m 243 #[.val (.int p1), .val (.int p2), .val (.int p3), .val (.int (6 : Int32)), .val (.ref w8), .val (.int (0 : Int32))] [(.int (0 : Int32))])) _
                      refine XS.iload X342.here hx rfl (hb hby at_243) rfl ?_
                      show Steps p.tables e below (T342.setTop (mkF m 245 #[.val (.int p1), .val (.int p2), .val (.int p3), .val (.int (6 : Int32)), .val (.ref w8), .val (.int (0 : Int32))] [(.int (0 : Int32)), (.int (0 : Int32))])) _
                      refine XS.icmpNo X342.here hx rfl (hb hby at_245) rfl (teq (by decide : (0 : Int32) = (0 : Int32))).2 ?_
                      show Steps p.tables e below (T342.setTop (mkF m 248 #[.val (.int p1), .val (.int p2), .val (.int p3), .val (.int (6 : Int32)), .val (.ref w8), .val (.int (0 : Int32))] [])) _
                      refine XS.iconst X342.here hx rfl (hb hby at_248) ?_
                      show Steps p.tables e below (T342.setTop (mkF m 249 #[.val (.int p1), .val (.int p2), .val (.int p3), .val (.int (6 : Int32)), .val (.ref w8), .val (.int (0 : Int32))] [(.int (1 : Int32))])) _
                      refine XS.goto X342.here hx rfl (pc0 := 249) (pc' := 253) rfl (hb hby at_249) (by decide) (by decide) ?_
                      show Steps p.tables e below (T342.setTop (mkF m 253 #[.val (.int p1), .val (.int p2), .val (.int p3), .val (.int (6 : Int32)), .val (.ref w8), .val (.int (0 : Int32))] [(.int (1 : Int32))])) _
                      exact retN X342 hx (t := .boolean) hret (by simp) (hb hby at_253) hr
                    ·
                      show Q0 n0 _ T342.heap _
                      rw [e350]
                      exact ⟨rfl, N342⟩
                  ·
                    exact absurd (own_glt2 (n := 1) (k := (1 : Int32)) (by decide) (by have q0 := rng32 p2; have q1 := own_neq (n := 1) (k := (1 : Int32)) (by decide) hc318; have q2 := own_nlt1 (n := 1) (k := (1 : Int32)) (by decide) hc351; omega)) hc352
                  ·
                    exact absurd (own_glt2 (n := 1) (k := (1 : Int32)) (by decide) (by have q0 := rng32 p2; have q1 := own_neq (n := 1) (k := (1 : Int32)) (by decide) hc318; have q2 := own_nlt1 (n := 1) (k := (1 : Int32)) (by decide) hc356; omega)) hc357
                  ·
                    exact absurd (own_glt2 (n := 1) (k := (1 : Int32)) (by decide) (by have q0 := rng32 p2; have q1 := own_neq (n := 1) (k := (1 : Int32)) (by decide) hc318; have q2 := own_nlt1 (n := 1) (k := (1 : Int32)) (by decide) hc362; omega)) hc363
              ·
                have hq368 : ((p1 &&& (2147483647 : Int32)) % (8 : Int32)) = (7 : Int32) := (own_geq (n := 7) (k := (7 : Int32)) (by decide) (by have q0 := own_rem (x := (p1 &&& (2147483647 : Int32))) (k := (8 : Int32)) (n := 8) (by decide) (by decide) (by have q := own_and (x := p1) (k := (2147483647 : Int32)) (n := 2147483647) (by decide) (by decide); omega); have q1 := own_neq (n := 0) (k := (0 : Int32)) (by decide) hc2; have q2 := own_neq (n := 1) (k := (1 : Int32)) (by decide) hc49; have q3 := own_neq (n := 2) (k := (2 : Int32)) (by decide) hc107; have q4 := own_neq (n := 3) (k := (3 : Int32)) (by decide) hc162; have q5 := own_neq (n := 4) (k := (4 : Int32)) (by decide) hc209; have q6 := own_neq (n := 5) (k := (5 : Int32)) (by decide) hc256; have q7 := own_neq (n := 6) (k := (6 : Int32)) (by decide) hc314; omega))
                have pre369 : ∀ t, Steps p.tables e below (s₁.setTop (mkF m 186 #[.val (.int p1), .val (.int p2), .val (.int p3), .val (.int (7 : Int32)), .unset, .unset] [(.int (6 : Int32)), (.int (7 : Int32))])) t → Steps p.tables e below (s₁.setTop (entryFrame m #[(.int p1), (.int p2), (.int p3)] maxLocals)) t := fun t k => pre313 t (by rw [hq368]; exact k)
                obtain ⟨T370, X370, e370, st370⟩ := getS2 X0 hx hZ hown (host := "") (Or.inl (hw _ (List.mem_of_getElem? (i := 21) rfl))) Via.refl e0 (S_w4.ext O0.2) (g := (mkF m 214 #[.val (.int p1), .val (.int p2), .val (.int p3), .val (.int (7 : Int32)), .unset, .unset] [])) rfl (hb hby at_214)
                have pre371 : ∀ t, Steps p.tables e below (T370.setTop (mkF m 221 #[.val (.int p1), .val (.int p2), .val (.int p3), .val (.int (7 : Int32)), .val (.ref w4), .unset] [(.int (2 : Int32)), (.int p2)])) t → Steps p.tables e below (s₁.setTop (entryFrame m #[(.int p1), (.int p2), (.int p3)] maxLocals)) t := fun t k => by
                  refine pre369 _ ?_
                  show Steps p.tables e below (s₁.setTop (mkF m 186 #[.val (.int p1), .val (.int p2), .val (.int p3), .val (.int (7 : Int32)), .unset, .unset] [(.int (6 : Int32)), (.int (7 : Int32))])) _
                  refine XS.icmpYes X0.here hx rfl (pc0 := 186) (pc' := 214) rfl (hb hby at_186) rfl (feq (by decide : ¬ ((7 : Int32) = (6 : Int32)))).2 (by decide) (by decide) ?_
                  show Steps p.tables e below (s₁.setTop (mkF m 214 #[.val (.int p1), .val (.int p2), .val (.int p3), .val (.int (7 : Int32)), .unset, .unset] [])) _
                  refine st370 _ ?_
                  show Steps p.tables e below (T370.setTop (mkF m 217 #[.val (.int p1), .val (.int p2), .val (.int p3), .val (.int (7 : Int32)), .unset, .unset] [(.ref w4)])) _
                  refine XS.astore X370.here hx rfl (hb hby at_217) rfl rfl (l' := #[.val (.int p1), .val (.int p2), .val (.int p3), .val (.int (7 : Int32)), .val (.ref w4), .unset]) rfl ?_
                  show Steps p.tables e below (T370.setTop (mkF m 219 #[.val (.int p1), .val (.int p2), .val (.int p3), .val (.int (7 : Int32)), .val (.ref w4), .unset] [])) _
                  refine XS.iloadN X370.here hx rfl (hb hby at_219) rfl ?_
                  show Steps p.tables e below (T370.setTop (mkF m 220 #[.val (.int p1), .val (.int p2), .val (.int p3), .val (.int (7 : Int32)), .val (.ref w4), .unset] [(.int p2)])) _
                  refine XS.iconst X370.here hx rfl (hb hby at_220) ?_
                  exact k
                by_cases hc372 : p2 = (2 : Int32)
                ·
                  have pre373 : ∀ t, Steps p.tables e below (T370.setTop (mkF m 221 #[.val (.int p1), .val (.int (2 : Int32)), .val (.int p3), .val (.int (7 : Int32)), .val (.ref w4), .unset] [(.int (2 : Int32)), (.int (2 : Int32))])) t → Steps p.tables e below (s₁.setTop (entryFrame m #[(.int p1), (.int p2), (.int p3)] maxLocals)) t := fun t k => pre371 t (by rw [hc372]; exact k)
                  have pre374 : ∀ t, Steps p.tables e below (T370.setTop (mkF m 226 #[.val (.int p1), .val (.int (2 : Int32)), .val (.int p3), .val (.int (7 : Int32)), .val (.ref w4), .unset] [(.int (2 : Int32)), (.int p3)])) t → Steps p.tables e below (s₁.setTop (entryFrame m #[(.int p1), (.int p2), (.int p3)] maxLocals)) t := fun t k => by
                    refine pre373 _ ?_
                    show Steps p.tables e below (T370.setTop (mkF m 221 #[.val (.int p1), .val (.int (2 : Int32)), .val (.int p3), .val (.int (7 : Int32)), .val (.ref w4), .unset] [(.int (2 : Int32)), (.int (2 : Int32))])) _
                    refine XS.icmpNo X370.here hx rfl (hb hby at_221) rfl (teq (by decide : (2 : Int32) = (2 : Int32))).2 ?_
                    show Steps p.tables e below (T370.setTop (mkF m 224 #[.val (.int p1), .val (.int (2 : Int32)), .val (.int p3), .val (.int (7 : Int32)), .val (.ref w4), .unset] [])) _
                    refine XS.iloadN X370.here hx rfl (hb hby at_224) rfl ?_
                    show Steps p.tables e below (T370.setTop (mkF m 225 #[.val (.int p1), .val (.int (2 : Int32)), .val (.int p3), .val (.int (7 : Int32)), .val (.ref w4), .unset] [(.int p3)])) _
                    refine XS.iconst X370.here hx rfl (hb hby at_225) ?_
                    exact k
                  by_cases hc375 : p3 = (2 : Int32)
                  ·
                    have pre376 : ∀ t, Steps p.tables e below (T370.setTop (mkF m 226 #[.val (.int p1), .val (.int (2 : Int32)), .val (.int (2 : Int32)), .val (.int (7 : Int32)), .val (.ref w4), .unset] [(.int (2 : Int32)), (.int (2 : Int32))])) t → Steps p.tables e below (s₁.setTop (entryFrame m #[(.int p1), (.int p2), (.int p3)] maxLocals)) t := fun t k => pre374 t (by rw [hc375]; exact k)
                    obtain ⟨cq377, kq377, q377a, q377b, q377c⟩ := isOf hZ e370 (E_w4.ext O0.2)
                    obtain ⟨_, _, ⟨T378, L378, c378, n378⟩, -, X378, ⟨Lc378, hQ378, l378, y378, z378⟩, st378⟩ := X370.virtualBack hx (y := (⟨"com/example/vipo/vipo/flow/PatternType", "admitsDegree", "(II)Z"⟩ : MethodName)) (z := (⟨"com/example/vipo/vipo/flow/PatternType", "admitsDegree", "(II)Z"⟩ : MethodName)) hown (mvT hZ (hw _ (List.mem_of_getElem? (i := 4) rfl))) (mvT hZ (hw _ (List.mem_of_getElem? (i := 5) rfl))) (notFace_of_selects (args := #[]) (mvT hZ (hw _ (List.mem_of_getElem? (i := 7) rfl)))) (mvT hZ (hw _ (List.mem_of_getElem? (i := 7) rfl))) (mvT hZ (hw _ (List.mem_of_getElem? (i := 6) rfl))) (by decide) (backOf (W := 0) (rm17 l Z a0 hw w1 w2 w3 w4 w5 w6 w7 w8 G []  h0 n0 O0 ) hZ (hw _ (List.mem_of_getElem? (i := 8) rfl)) (hw _ (List.mem_of_getElem? (i := 2) rfl)) (by decide) (by decide)) q377a q377c (g := (mkF m 240 #[.val (.int p1), .val (.int (2 : Int32)), .val (.int (2 : Int32)), .val (.int (7 : Int32)), .val (.ref w4), .val (.int (1 : Int32))] [(.int (2 : Int32)), (.int (2 : Int32)), (.ref w4)])) rfl (by rw [hml]; rfl) (Steps.refl _) (argsL := [(.int (2 : Int32)), (.int (2 : Int32))]) (rest := []) (lenOf pd0 rfl) rfl (by show 2 * 0 + _ ≤ _; exact Nat.le_of_eq rfl) (hb hby at_240) (fun _ _ => ⟨rfl, e370, (by decide : 0 + 0 ≤ _), (by decide : 0 + 0 ≤ _)⟩)
                    dsimp only [Pt.U, Pt.locs, Pt.cells, Pt.slots] at X378 l378 y378 z378 st378 hQ378
                    subst l378 y378 z378
                    have X378 : Stand p l e room_1 s m #[(.int p1), (.int p2), (.int p3)] below meth c T378 _ 0 0 := X378
                    obtain ⟨rfl, Nq379, e380⟩ := hQ378
                    have N378 := Fr.app N0 Nq379
                    obtain ⟨fs, hr, hrun, hended, hW, hsame⟩ := X378.leave (v := some (.int (1 : Int32))) (fun h => by rw [hret] at h; cases h)
                    refine ⟨_, _, pre376 _ ?_, hrun, hended, _, _, rfl, ?_, ⟨_, rfl⟩, hW, hsame.mono (by decide) (by decide)⟩
                    ·
                      show Steps p.tables e below (T370.setTop (mkF m 226 #[.val (.int p1), .val (.int (2 : Int32)), .val (.int (2 : Int32)), .val (.int (7 : Int32)), .val (.ref w4), .unset] [(.int (2 : Int32)), (.int (2 : Int32))])) _
                      refine XS.icmpNo X370.here hx rfl (hb hby at_226) rfl (teq (by decide : (2 : Int32) = (2 : Int32))).2 ?_
                      show Steps p.tables e below (T370.setTop (mkF m 229 #[.val (.int p1), .val (.int (2 : Int32)), .val (.int (2 : Int32)), .val (.int (7 : Int32)), .val (.ref w4), .unset] [])) _
                      refine XS.iconst X370.here hx rfl (hb hby at_229) ?_
                      show Steps p.tables e below (T370.setTop (mkF m 230 #[.val (.int p1), .val (.int (2 : Int32)), .val (.int (2 : Int32)), .val (.int (7 : Int32)), .val (.ref w4), .unset] [(.int (1 : Int32))])) _
                      refine XS.goto X370.here hx rfl (pc0 := 230) (pc' := 234) rfl (hb hby at_230) (by decide) (by decide) ?_
                      show Steps p.tables e below (T370.setTop (mkF m 234 #[.val (.int p1), .val (.int (2 : Int32)), .val (.int (2 : Int32)), .val (.int (7 : Int32)), .val (.ref w4), .unset] [(.int (1 : Int32))])) _
                      refine XS.istore X370.here hx rfl (hb hby at_234) rfl (l' := #[.val (.int p1), .val (.int (2 : Int32)), .val (.int (2 : Int32)), .val (.int (7 : Int32)), .val (.ref w4), .val (.int (1 : Int32))]) rfl ?_
                      show Steps p.tables e below (T370.setTop (mkF m 236 #[.val (.int p1), .val (.int (2 : Int32)), .val (.int (2 : Int32)), .val (.int (7 : Int32)), .val (.ref w4), .val (.int (1 : Int32))] [])) _
                      refine XS.aload X370.here hx rfl (hb hby at_236) rfl rfl ?_
                      show Steps p.tables e below (T370.setTop (mkF m 238 #[.val (.int p1), .val (.int (2 : Int32)), .val (.int (2 : Int32)), .val (.int (7 : Int32)), .val (.ref w4), .val (.int (1 : Int32))] [(.ref w4)])) _
                      refine XS.iloadN X370.here hx rfl (hb hby at_238) rfl ?_
                      show Steps p.tables e below (T370.setTop (mkF m 239 #[.val (.int p1), .val (.int (2 : Int32)), .val (.int (2 : Int32)), .val (.int (7 : Int32)), .val (.ref w4), .val (.int (1 : Int32))] [(.int (2 : Int32)), (.ref w4)])) _
                      refine XS.iloadN X370.here hx rfl (hb hby at_239) rfl ?_
                      show Steps p.tables e below (T370.setTop (mkF m 240 #[.val (.int p1), .val (.int (2 : Int32)), .val (.int (2 : Int32)), .val (.int (7 : Int32)), .val (.ref w4), .val (.int (1 : Int32))] [(.int (2 : Int32)), (.int (2 : Int32)), (.ref w4)])) _
                      refine st378.trans ?_
                      show Steps p.tables e below (T378.setTop (mkF m 243 #[.val (.int p1), .val (.int (2 : Int32)), .val (.int (2 : Int32)), .val (.int (7 : Int32)), .val (.ref w4), .val (.int (1 : Int32))] [(.int (1 : Int32))])) _
                      refine XS.iload X378.here hx rfl (hb hby at_243) rfl ?_
                      show Steps p.tables e below (T378.setTop (mkF m 245 #[.val (.int p1), .val (.int (2 : Int32)), .val (.int (2 : Int32)), .val (.int (7 : Int32)), .val (.ref w4), .val (.int (1 : Int32))] [(.int (1 : Int32)), (.int (1 : Int32))])) _
                      refine XS.icmpNo X378.here hx rfl (hb hby at_245) rfl (teq (by decide : (1 : Int32) = (1 : Int32))).2 ?_
                      show Steps p.tables e below (T378.setTop (mkF m 248 #[.val (.int p1), .val (.int (2 : Int32)), .val (.int (2 : Int32)), .val (.int (7 : Int32)), .val (.ref w4), .val (.int (1 : Int32))] [])) _
                      refine XS.iconst X378.here hx rfl (hb hby at_248) ?_
                      show Steps p.tables e below (T378.setTop (mkF m 249 #[.val (.int p1), .val (.int (2 : Int32)), .val (.int (2 : Int32)), .val (.int (7 : Int32)), .val (.ref w4), .val (.int (1 : Int32))] [(.int (1 : Int32))])) _
                      refine XS.goto X378.here hx rfl (pc0 := 249) (pc' := 253) rfl (hb hby at_249) (by decide) (by decide) ?_
                      show Steps p.tables e below (T378.setTop (mkF m 253 #[.val (.int p1), .val (.int (2 : Int32)), .val (.int (2 : Int32)), .val (.int (7 : Int32)), .val (.ref w4), .val (.int (1 : Int32))] [(.int (1 : Int32))])) _
                      exact retN X378 hx (t := .boolean) hret (by simp) (hb hby at_253) hr
                    ·
                      show Q0 n0 _ T378.heap _
                      rw [e380]
                      exact ⟨rfl, N378⟩
                  ·
                    obtain ⟨cq381, kq381, q381a, q381b, q381c⟩ := isOf hZ e370 (E_w4.ext O0.2)
                    obtain ⟨_, _, ⟨T382, L382, c382, n382⟩, -, X382, ⟨Lc382, hQ382, l382, y382, z382⟩, st382⟩ := X370.virtualBack hx (y := (⟨"com/example/vipo/vipo/flow/PatternType", "admitsDegree", "(II)Z"⟩ : MethodName)) (z := (⟨"com/example/vipo/vipo/flow/PatternType", "admitsDegree", "(II)Z"⟩ : MethodName)) hown (mvT hZ (hw _ (List.mem_of_getElem? (i := 4) rfl))) (mvT hZ (hw _ (List.mem_of_getElem? (i := 5) rfl))) (notFace_of_selects (args := #[]) (mvT hZ (hw _ (List.mem_of_getElem? (i := 7) rfl)))) (mvT hZ (hw _ (List.mem_of_getElem? (i := 7) rfl))) (mvT hZ (hw _ (List.mem_of_getElem? (i := 6) rfl))) (by decide) (backOf (W := 0) (rm18 l Z a0 hw w1 w2 w3 w4 w5 w6 w7 w8 G [] p3 h0 n0 O0 ) hZ (hw _ (List.mem_of_getElem? (i := 8) rfl)) (hw _ (List.mem_of_getElem? (i := 2) rfl)) (by decide) (by decide)) q381a q381c (g := (mkF m 240 #[.val (.int p1), .val (.int (2 : Int32)), .val (.int p3), .val (.int (7 : Int32)), .val (.ref w4), .val (.int (0 : Int32))] [(.int p3), (.int (2 : Int32)), (.ref w4)])) rfl (by rw [hml]; rfl) (Steps.refl _) (argsL := [(.int (2 : Int32)), (.int p3)]) (rest := []) (lenOf pd0 rfl) rfl (by show 2 * 0 + _ ≤ _; exact Nat.le_of_eq rfl) (hb hby at_240) (fun _ _ => ⟨rfl, e370, (by decide : 0 + 0 ≤ _), (by decide : 0 + 0 ≤ _)⟩)
                    dsimp only [Pt.U, Pt.locs, Pt.cells, Pt.slots] at X382 l382 y382 z382 st382 hQ382
                    subst l382 y382 z382
                    have pre383 : ∀ t, Steps p.tables e below (T370.setTop (mkF m 240 #[.val (.int p1), .val (.int (2 : Int32)), .val (.int p3), .val (.int (7 : Int32)), .val (.ref w4), .val (.int (0 : Int32))] [(.int p3), (.int (2 : Int32)), (.ref w4)])) t → Steps p.tables e below (s₁.setTop (entryFrame m #[(.int p1), (.int p2), (.int p3)] maxLocals)) t := fun t k => by
                      refine pre374 _ ?_
                      show Steps p.tables e below (T370.setTop (mkF m 226 #[.val (.int p1), .val (.int (2 : Int32)), .val (.int p3), .val (.int (7 : Int32)), .val (.ref w4), .unset] [(.int (2 : Int32)), (.int p3)])) _
                      refine XS.icmpYes X370.here hx rfl (pc0 := 226) (pc' := 233) rfl (hb hby at_226) rfl (feq hc375).2 (by decide) (by decide) ?_
                      show Steps p.tables e below (T370.setTop (mkF m 233 #[.val (.int p1), .val (.int (2 : Int32)), .val (.int p3), .val (.int (7 : Int32)), .val (.ref w4), .unset] [])) _
                      refine XS.iconst X370.here hx rfl (hb hby at_233) ?_
                      show Steps p.tables e below (T370.setTop (mkF m 234 #[.val (.int p1), .val (.int (2 : Int32)), .val (.int p3), .val (.int (7 : Int32)), .val (.ref w4), .unset] [(.int (0 : Int32))])) _
                      refine XS.istore X370.here hx rfl (hb hby at_234) rfl (l' := #[.val (.int p1), .val (.int (2 : Int32)), .val (.int p3), .val (.int (7 : Int32)), .val (.ref w4), .val (.int (0 : Int32))]) rfl ?_
                      show Steps p.tables e below (T370.setTop (mkF m 236 #[.val (.int p1), .val (.int (2 : Int32)), .val (.int p3), .val (.int (7 : Int32)), .val (.ref w4), .val (.int (0 : Int32))] [])) _
                      refine XS.aload X370.here hx rfl (hb hby at_236) rfl rfl ?_
                      show Steps p.tables e below (T370.setTop (mkF m 238 #[.val (.int p1), .val (.int (2 : Int32)), .val (.int p3), .val (.int (7 : Int32)), .val (.ref w4), .val (.int (0 : Int32))] [(.ref w4)])) _
                      refine XS.iloadN X370.here hx rfl (hb hby at_238) rfl ?_
                      show Steps p.tables e below (T370.setTop (mkF m 239 #[.val (.int p1), .val (.int (2 : Int32)), .val (.int p3), .val (.int (7 : Int32)), .val (.ref w4), .val (.int (0 : Int32))] [(.int (2 : Int32)), (.ref w4)])) _
                      refine XS.iloadN X370.here hx rfl (hb hby at_239) rfl ?_
                      exact k
                    have X382 : Stand p l e room_1 s m #[(.int p1), (.int p2), (.int p3)] below meth c T382 _ 0 0 := X382
                    rcases hQ382 with ⟨hc384, rfl, Nq385, e386⟩ | ⟨hc387, hc388, rfl, Nq389, e390⟩ | ⟨hc391, hc392, rfl, Nq393, e394⟩
                    ·
                      have N382 := Fr.app N0 Nq385
                      obtain ⟨fs, hr, hrun, hended, hW, hsame⟩ := X382.leave (v := some (.int (1 : Int32))) (fun h => by rw [hret] at h; cases h)
                      refine ⟨_, _, pre383 _ ?_, hrun, hended, _, _, rfl, ?_, ⟨_, rfl⟩, hW, hsame.mono (by decide) (by decide)⟩
                      ·
                        show Steps p.tables e below (T370.setTop (mkF m 240 #[.val (.int p1), .val (.int (2 : Int32)), .val (.int p3), .val (.int (7 : Int32)), .val (.ref w4), .val (.int (0 : Int32))] [(.int p3), (.int (2 : Int32)), (.ref w4)])) _
                        refine st382.trans ?_
                        show Steps p.tables e below (T382.setTop (mkF m 243 #[.val (.int p1), .val (.int (2 : Int32)), .val (.int p3), .val (.int (7 : Int32)), .val (.ref w4), .val (.int (0 : Int32))] [(.int (0 : Int32))])) _
                        refine XS.iload X382.here hx rfl (hb hby at_243) rfl ?_
                        show Steps p.tables e below (T382.setTop (mkF m 245 #[.val (.int p1), .val (.int (2 : Int32)), .val (.int p3), .val (.int (7 : Int32)), .val (.ref w4), .val (.int (0 : Int32))] [(.int (0 : Int32)), (.int (0 : Int32))])) _
                        refine XS.icmpNo X382.here hx rfl (hb hby at_245) rfl (teq (by decide : (0 : Int32) = (0 : Int32))).2 ?_
                        show Steps p.tables e below (T382.setTop (mkF m 248 #[.val (.int p1), .val (.int (2 : Int32)), .val (.int p3), .val (.int (7 : Int32)), .val (.ref w4), .val (.int (0 : Int32))] [])) _
                        refine XS.iconst X382.here hx rfl (hb hby at_248) ?_
                        show Steps p.tables e below (T382.setTop (mkF m 249 #[.val (.int p1), .val (.int (2 : Int32)), .val (.int p3), .val (.int (7 : Int32)), .val (.ref w4), .val (.int (0 : Int32))] [(.int (1 : Int32))])) _
                        refine XS.goto X382.here hx rfl (pc0 := 249) (pc' := 253) rfl (hb hby at_249) (by decide) (by decide) ?_
                        show Steps p.tables e below (T382.setTop (mkF m 253 #[.val (.int p1), .val (.int (2 : Int32)), .val (.int p3), .val (.int (7 : Int32)), .val (.ref w4), .val (.int (0 : Int32))] [(.int (1 : Int32))])) _
                        exact retN X382 hx (t := .boolean) hret (by simp) (hb hby at_253) hr
                      ·
                        show Q0 n0 _ T382.heap _
                        rw [e386]
                        exact ⟨rfl, N382⟩
                    ·
                      have N382 := Fr.app N0 Nq389
                      obtain ⟨fs, hr, hrun, hended, hW, hsame⟩ := X382.leave (v := some (.int (1 : Int32))) (fun h => by rw [hret] at h; cases h)
                      refine ⟨_, _, pre383 _ ?_, hrun, hended, _, _, rfl, ?_, ⟨_, rfl⟩, hW, hsame.mono (by decide) (by decide)⟩
                      ·
                        show Steps p.tables e below (T370.setTop (mkF m 240 #[.val (.int p1), .val (.int (2 : Int32)), .val (.int p3), .val (.int (7 : Int32)), .val (.ref w4), .val (.int (0 : Int32))] [(.int p3), (.int (2 : Int32)), (.ref w4)])) _
                        refine st382.trans ?_
                        show Steps p.tables e below (T382.setTop (mkF m 243 #[.val (.int p1), .val (.int (2 : Int32)), .val (.int p3), .val (.int (7 : Int32)), .val (.ref w4), .val (.int (0 : Int32))] [(.int (0 : Int32))])) _
                        refine XS.iload X382.here hx rfl (hb hby at_243) rfl ?_
                        show Steps p.tables e below (T382.setTop (mkF m 245 #[.val (.int p1), .val (.int (2 : Int32)), .val (.int p3), .val (.int (7 : Int32)), .val (.ref w4), .val (.int (0 : Int32))] [(.int (0 : Int32)), (.int (0 : Int32))])) _
                        refine XS.icmpNo X382.here hx rfl (hb hby at_245) rfl (teq (by decide : (0 : Int32) = (0 : Int32))).2 ?_
                        show Steps p.tables e below (T382.setTop (mkF m 248 #[.val (.int p1), .val (.int (2 : Int32)), .val (.int p3), .val (.int (7 : Int32)), .val (.ref w4), .val (.int (0 : Int32))] [])) _
                        refine XS.iconst X382.here hx rfl (hb hby at_248) ?_
                        show Steps p.tables e below (T382.setTop (mkF m 249 #[.val (.int p1), .val (.int (2 : Int32)), .val (.int p3), .val (.int (7 : Int32)), .val (.ref w4), .val (.int (0 : Int32))] [(.int (1 : Int32))])) _
                        refine XS.goto X382.here hx rfl (pc0 := 249) (pc' := 253) rfl (hb hby at_249) (by decide) (by decide) ?_
                        show Steps p.tables e below (T382.setTop (mkF m 253 #[.val (.int p1), .val (.int (2 : Int32)), .val (.int p3), .val (.int (7 : Int32)), .val (.ref w4), .val (.int (0 : Int32))] [(.int (1 : Int32))])) _
                        exact retN X382 hx (t := .boolean) hret (by simp) (hb hby at_253) hr
                      ·
                        show Q0 n0 _ T382.heap _
                        rw [e390]
                        exact ⟨rfl, N382⟩
                    ·
                      exact absurd (own_glt2 (n := 2) (k := (2 : Int32)) (by decide) (by have q0 := rng32 p3; have q1 := own_neq (n := 2) (k := (2 : Int32)) (by decide) hc375; have q2 := own_nlt1 (n := 2) (k := (2 : Int32)) (by decide) hc391; omega)) hc392
                ·
                  obtain ⟨cq395, kq395, q395a, q395b, q395c⟩ := isOf hZ e370 (E_w4.ext O0.2)
                  obtain ⟨_, _, ⟨T396, L396, c396, n396⟩, -, X396, ⟨Lc396, hQ396, l396, y396, z396⟩, st396⟩ := X370.virtualBack hx (y := (⟨"com/example/vipo/vipo/flow/PatternType", "admitsDegree", "(II)Z"⟩ : MethodName)) (z := (⟨"com/example/vipo/vipo/flow/PatternType", "admitsDegree", "(II)Z"⟩ : MethodName)) hown (mvT hZ (hw _ (List.mem_of_getElem? (i := 4) rfl))) (mvT hZ (hw _ (List.mem_of_getElem? (i := 5) rfl))) (notFace_of_selects (args := #[]) (mvT hZ (hw _ (List.mem_of_getElem? (i := 7) rfl)))) (mvT hZ (hw _ (List.mem_of_getElem? (i := 7) rfl))) (mvT hZ (hw _ (List.mem_of_getElem? (i := 6) rfl))) (by decide) (backOf (W := 0) (rm19 l Z a0 hw w1 w2 w3 w4 w5 w6 w7 w8 G [] p2 p3 h0 n0 O0 ) hZ (hw _ (List.mem_of_getElem? (i := 8) rfl)) (hw _ (List.mem_of_getElem? (i := 2) rfl)) (by decide) (by decide)) q395a q395c (g := (mkF m 240 #[.val (.int p1), .val (.int p2), .val (.int p3), .val (.int (7 : Int32)), .val (.ref w4), .val (.int (0 : Int32))] [(.int p3), (.int p2), (.ref w4)])) rfl (by rw [hml]; rfl) (Steps.refl _) (argsL := [(.int p2), (.int p3)]) (rest := []) (lenOf pd0 rfl) rfl (by show 2 * 0 + _ ≤ _; exact Nat.le_of_eq rfl) (hb hby at_240) (fun _ _ => ⟨rfl, e370, (by decide : 0 + 0 ≤ _), (by decide : 0 + 0 ≤ _)⟩)
                  dsimp only [Pt.U, Pt.locs, Pt.cells, Pt.slots] at X396 l396 y396 z396 st396 hQ396
                  subst l396 y396 z396
                  have pre397 : ∀ t, Steps p.tables e below (T370.setTop (mkF m 240 #[.val (.int p1), .val (.int p2), .val (.int p3), .val (.int (7 : Int32)), .val (.ref w4), .val (.int (0 : Int32))] [(.int p3), (.int p2), (.ref w4)])) t → Steps p.tables e below (s₁.setTop (entryFrame m #[(.int p1), (.int p2), (.int p3)] maxLocals)) t := fun t k => by
                    refine pre371 _ ?_
                    show Steps p.tables e below (T370.setTop (mkF m 221 #[.val (.int p1), .val (.int p2), .val (.int p3), .val (.int (7 : Int32)), .val (.ref w4), .unset] [(.int (2 : Int32)), (.int p2)])) _
                    refine XS.icmpYes X370.here hx rfl (pc0 := 221) (pc' := 233) rfl (hb hby at_221) rfl (feq hc372).2 (by decide) (by decide) ?_
                    show Steps p.tables e below (T370.setTop (mkF m 233 #[.val (.int p1), .val (.int p2), .val (.int p3), .val (.int (7 : Int32)), .val (.ref w4), .unset] [])) _
                    refine XS.iconst X370.here hx rfl (hb hby at_233) ?_
                    show Steps p.tables e below (T370.setTop (mkF m 234 #[.val (.int p1), .val (.int p2), .val (.int p3), .val (.int (7 : Int32)), .val (.ref w4), .unset] [(.int (0 : Int32))])) _
                    refine XS.istore X370.here hx rfl (hb hby at_234) rfl (l' := #[.val (.int p1), .val (.int p2), .val (.int p3), .val (.int (7 : Int32)), .val (.ref w4), .val (.int (0 : Int32))]) rfl ?_
                    show Steps p.tables e below (T370.setTop (mkF m 236 #[.val (.int p1), .val (.int p2), .val (.int p3), .val (.int (7 : Int32)), .val (.ref w4), .val (.int (0 : Int32))] [])) _
                    refine XS.aload X370.here hx rfl (hb hby at_236) rfl rfl ?_
                    show Steps p.tables e below (T370.setTop (mkF m 238 #[.val (.int p1), .val (.int p2), .val (.int p3), .val (.int (7 : Int32)), .val (.ref w4), .val (.int (0 : Int32))] [(.ref w4)])) _
                    refine XS.iloadN X370.here hx rfl (hb hby at_238) rfl ?_
                    show Steps p.tables e below (T370.setTop (mkF m 239 #[.val (.int p1), .val (.int p2), .val (.int p3), .val (.int (7 : Int32)), .val (.ref w4), .val (.int (0 : Int32))] [(.int p2), (.ref w4)])) _
                    refine XS.iloadN X370.here hx rfl (hb hby at_239) rfl ?_
                    exact k
                  have X396 : Stand p l e room_1 s m #[(.int p1), (.int p2), (.int p3)] below meth c T396 _ 0 0 := X396
                  rcases hQ396 with ⟨hc398, rfl, Nq399, e400⟩ | ⟨hc401, hc402, rfl, Nq403, e404⟩ | ⟨hc405, hc406, hc407, rfl, Nq408, e409⟩ | ⟨hc410, hc411, hc412, hc413, rfl, Nq414, e415⟩ | ⟨hc416, hc417, hc418, hc419, rfl, Nq420, e421⟩
                  ·
                    have N396 := Fr.app N0 Nq399
                    obtain ⟨fs, hr, hrun, hended, hW, hsame⟩ := X396.leave (v := some (.int (1 : Int32))) (fun h => by rw [hret] at h; cases h)
                    refine ⟨_, _, pre397 _ ?_, hrun, hended, _, _, rfl, ?_, ⟨_, rfl⟩, hW, hsame.mono (by decide) (by decide)⟩
                    ·
                      show Steps p.tables e below (T370.setTop (mkF m 240 #[.val (.int p1), .val (.int p2), .val (.int p3), .val (.int (7 : Int32)), .val (.ref w4), .val (.int (0 : Int32))] [(.int p3), (.int p2), (.ref w4)])) _
                      refine st396.trans ?_
                      show Steps p.tables e below (T396.setTop (mkF m 243 #[.val (.int p1), .val (.int p2), .val (.int p3), .val (.int (7 : Int32)), .val (.ref w4), .val (.int (0 : Int32))] [(.int (0 : Int32))])) _
                      refine XS.iload X396.here hx rfl (hb hby at_243) rfl ?_
                      show Steps p.tables e below (T396.setTop (mkF m 245 #[.val (.int p1), .val (.int p2), .val (.int p3), .val (.int (7 : Int32)), .val (.ref w4), .val (.int (0 : Int32))] [(.int (0 : Int32)), (.int (0 : Int32))])) _
                      refine XS.icmpNo X396.here hx rfl (hb hby at_245) rfl (teq (by decide : (0 : Int32) = (0 : Int32))).2 ?_
                      show Steps p.tables e below (T396.setTop (mkF m 248 #[.val (.int p1), .val (.int p2), .val (.int p3), .val (.int (7 : Int32)), .val (.ref w4), .val (.int (0 : Int32))] [])) _
                      refine XS.iconst X396.here hx rfl (hb hby at_248) ?_
                      show Steps p.tables e below (T396.setTop (mkF m 249 #[.val (.int p1), .val (.int p2), .val (.int p3), .val (.int (7 : Int32)), .val (.ref w4), .val (.int (0 : Int32))] [(.int (1 : Int32))])) _
                      refine XS.goto X396.here hx rfl (pc0 := 249) (pc' := 253) rfl (hb hby at_249) (by decide) (by decide) ?_
                      show Steps p.tables e below (T396.setTop (mkF m 253 #[.val (.int p1), .val (.int p2), .val (.int p3), .val (.int (7 : Int32)), .val (.ref w4), .val (.int (0 : Int32))] [(.int (1 : Int32))])) _
                      exact retN X396 hx (t := .boolean) hret (by simp) (hb hby at_253) hr
                    ·
                      show Q0 n0 _ T396.heap _
                      rw [e400]
                      exact ⟨rfl, N396⟩
                  ·
                    have N396 := Fr.app N0 Nq403
                    obtain ⟨fs, hr, hrun, hended, hW, hsame⟩ := X396.leave (v := some (.int (1 : Int32))) (fun h => by rw [hret] at h; cases h)
                    refine ⟨_, _, pre397 _ ?_, hrun, hended, _, _, rfl, ?_, ⟨_, rfl⟩, hW, hsame.mono (by decide) (by decide)⟩
                    ·
                      show Steps p.tables e below (T370.setTop (mkF m 240 #[.val (.int p1), .val (.int p2), .val (.int p3), .val (.int (7 : Int32)), .val (.ref w4), .val (.int (0 : Int32))] [(.int p3), (.int p2), (.ref w4)])) _
                      refine st396.trans ?_
                      show Steps p.tables e below (T396.setTop (mkF m 243 #[.val (.int p1), .val (.int p2), .val (.int p3), .val (.int (7 : Int32)), .val (.ref w4), .val (.int (0 : Int32))] [(.int (0 : Int32))])) _
                      refine XS.iload X396.here hx rfl (hb hby at_243) rfl ?_
                      show Steps p.tables e below (T396.setTop (mkF m 245 #[.val (.int p1), .val (.int p2), .val (.int p3), .val (.int (7 : Int32)), .val (.ref w4), .val (.int (0 : Int32))] [(.int (0 : Int32)), (.int (0 : Int32))])) _
                      refine XS.icmpNo X396.here hx rfl (hb hby at_245) rfl (teq (by decide : (0 : Int32) = (0 : Int32))).2 ?_
                      show Steps p.tables e below (T396.setTop (mkF m 248 #[.val (.int p1), .val (.int p2), .val (.int p3), .val (.int (7 : Int32)), .val (.ref w4), .val (.int (0 : Int32))] [])) _
                      refine XS.iconst X396.here hx rfl (hb hby at_248) ?_
                      show Steps p.tables e below (T396.setTop (mkF m 249 #[.val (.int p1), .val (.int p2), .val (.int p3), .val (.int (7 : Int32)), .val (.ref w4), .val (.int (0 : Int32))] [(.int (1 : Int32))])) _
                      refine XS.goto X396.here hx rfl (pc0 := 249) (pc' := 253) rfl (hb hby at_249) (by decide) (by decide) ?_
                      show Steps p.tables e below (T396.setTop (mkF m 253 #[.val (.int p1), .val (.int p2), .val (.int p3), .val (.int (7 : Int32)), .val (.ref w4), .val (.int (0 : Int32))] [(.int (1 : Int32))])) _
                      exact retN X396 hx (t := .boolean) hret (by simp) (hb hby at_253) hr
                    ·
                      show Q0 n0 _ T396.heap _
                      rw [e404]
                      exact ⟨rfl, N396⟩
                  ·
                    exact absurd (own_glt2 (n := 2) (k := (2 : Int32)) (by decide) (by have q0 := rng32 p2; have q1 := own_neq (n := 2) (k := (2 : Int32)) (by decide) hc372; have q2 := own_nlt1 (n := 2) (k := (2 : Int32)) (by decide) hc405; omega)) hc406
                  ·
                    exact absurd (own_glt2 (n := 2) (k := (2 : Int32)) (by decide) (by have q0 := rng32 p2; have q1 := own_neq (n := 2) (k := (2 : Int32)) (by decide) hc372; have q2 := own_nlt1 (n := 2) (k := (2 : Int32)) (by decide) hc410; omega)) hc411
                  ·
                    exact absurd (own_glt2 (n := 2) (k := (2 : Int32)) (by decide) (by have q0 := rng32 p2; have q1 := own_neq (n := 2) (k := (2 : Int32)) (by decide) hc372; have q2 := own_nlt1 (n := 2) (k := (2 : Int32)) (by decide) hc416; omega)) hc417
set_option maxRecDepth 65536 in
set_option maxHeartbeats 40000000 in
theorem comes_1 {Post : Tables → Env → Array Value → State → Outcome → State → Prop} (hpost : ∀ tb e args s v u, (limb_1_1.after args s (.returned v) u = true ∧ limb_1_2.after args s (.returned v) u = true ∧ True) → FrameEnd s (.returned v) u (Jvm.fieldLocs frame_1_writes args s ++ Jvm.arrayLocs frame_1_arrays args s ++ Jvm.staticLocs frame_1_statics s) 0 0 → Post tb e args s (.returned v) u) :
    ArmFor flags0 classFile x code maxLocals ret World_1 tables_1 room_1 Calls_1 rest_1 Pre_1 Post := by
  intro l hfl _ _ p e ha hc hk s m args below hf hA hF happ hP
  obtain ⟨hcalls, hrest, hpre⟩ := hP
  obtain ⟨-, -, -, hnamed, -, -, -, hat⟩ := (Spec.applies_iff hf).mp happ
  obtain ⟨hg, hn⟩ := and_e (Cond.before_iff.mp (show (Jvm.Cond.and given_1 narrow_1).before args s = true from hpre))
  obtain ⟨hcount, hk0⟩ := and_e hg
  obtain ⟨hi0, hk1⟩ := and_e hk0
  obtain ⟨hi1, hk2⟩ := and_e hk1
  have hi2 := hk2
  obtain ⟨w_a0, w_a1, w_a2, rfl⟩ : ∃ w_a0 w_a1 w_a2 : Value, args = #[w_a0, w_a1, w_a2] := by
    have hs : args.size = 3 := by simpa [Cond.value, given_1] using hcount
    obtain ⟨L⟩ := args
    match L, hs with
    | [w_a0, w_a1, w_a2], _ => exact ⟨w_a0, w_a1, w_a2, rfl⟩
  have hw := fun d (hd : d ∈ tables_1) => atoms_spec (ws := Jvm.Cond.code x code maxLocals ret :: tables_1) hat d (List.mem_cons_of_mem _ hd)
  have hfit : Fit s := fun {y c} hc i hi => by
    obtain ⟨ha, rfl⟩ := Array.getElem?_eq_some_iff.mp hc
    have q := List.all_eq_true.mp ((Array.all_eq_true_iff_forall_mem.mp hF) _ (Array.getElem_mem ha)) i (List.mem_range.mpr hi)
    simpa [Array.getElem?_eq_getElem hi] using q
  obtain ⟨i0, ei0⟩ := is_v hi0
  obtain rfl : w_a0 = (.int i0) := Option.some.inj ei0
  obtain ⟨i1, ei1⟩ := is_v hi1
  obtain rfl : w_a1 = (.int i1) := Option.some.inj ei1
  obtain ⟨i2, ei2⟩ := is_v hi2
  obtain rfl : w_a2 = (.int i2) := Option.some.inj ei2
  obtain ⟨gl0, gr0⟩ := and_e hn
  obtain ⟨gl1, gr1⟩ := and_e gr0
  obtain ⟨gl2, gr2⟩ := and_e gr1
  obtain ⟨gl3, gr3⟩ := and_e gr2
  obtain ⟨gl4, gr4⟩ := and_e gr3
  obtain ⟨gl5, gr5⟩ := and_e gr4
  obtain ⟨gl6, gr6⟩ := and_e gr5
  obtain ⟨gl7, gr7⟩ := and_e gr6
  obtain ⟨gl8, gr8⟩ := and_e gr7
  obtain ⟨gl9, gr9⟩ := and_e gr8
  obtain ⟨gl10, gr10⟩ := and_e gr9
  obtain ⟨gl11, gr11⟩ := and_e gr10
  obtain ⟨gl12, gr12⟩ := and_e gr11
  obtain ⟨gl13, gr13⟩ := and_e gr12
  obtain ⟨gl14, gr14⟩ := and_e gr13
  obtain ⟨gl15, gr15⟩ := and_e gr14
  obtain ⟨gl16, gr16⟩ := and_e gr15
  obtain ⟨gl17, gr17⟩ := and_e gr16
  obtain ⟨gl18, gr18⟩ := and_e gr17
  obtain ⟨gl19, gr19⟩ := and_e gr18
  obtain ⟨gl20, gr20⟩ := and_e gr19
  obtain ⟨gl21, gr21⟩ := and_e gr20
  obtain ⟨gl22, gr22⟩ := and_e gr21
  obtain ⟨gl23, gr23⟩ := and_e gr22
  obtain ⟨gl24, gr24⟩ := and_e gr23
  obtain ⟨gl25, gr25⟩ := and_e gr24
  obtain ⟨gl26, gr26⟩ := and_e gr25
  obtain ⟨gl27, gr27⟩ := and_e gr26
  obtain ⟨gl28, gr28⟩ := and_e gr27
  obtain ⟨gl29, gr29⟩ := and_e gr28
  obtain ⟨gl30, gr30⟩ := and_e gr29
  obtain ⟨gl31, gr31⟩ := and_e gr30
  obtain ⟨gl32, gr32⟩ := and_e gr31
  obtain ⟨gl33, gr33⟩ := and_e gr32
  obtain ⟨gl34, gr34⟩ := and_e gr33
  obtain ⟨gl35, gr35⟩ := and_e gr34
  obtain ⟨gl36, gr36⟩ := and_e gr35
  obtain ⟨gl37, gr37⟩ := and_e gr36
  obtain ⟨gl38, gr38⟩ := and_e gr37
  obtain ⟨w1, ev_w1⟩ := exa_v gl0
  have S_w1 : Sta s s.heap "com/example/vipo/vipo/flow/PatternType" "START" "Lcom/example/vipo/vipo/flow/PatternType;" (.ref w1) := Sta.start ev_w1 (Or.inr ⟨(hw _ (List.mem_of_getElem? (i := 2) rfl)), (hw _ (List.mem_of_getElem? (i := 3) rfl))⟩)
  have E_w1 : Exa s s.heap w1 "com/example/vipo/vipo/flow/PatternType" := Exa.start ev_w1 gl0
  obtain ⟨w2, ev_w2⟩ := exa_v gl3
  have S_w2 : Sta s s.heap "com/example/vipo/vipo/flow/PatternType" "END" "Lcom/example/vipo/vipo/flow/PatternType;" (.ref w2) := Sta.start ev_w2 (Or.inr ⟨(hw _ (List.mem_of_getElem? (i := 2) rfl)), (hw _ (List.mem_of_getElem? (i := 14) rfl))⟩)
  have E_w2 : Exa s s.heap w2 "com/example/vipo/vipo/flow/PatternType" := Exa.start ev_w2 gl3
  obtain ⟨w3, ev_w3⟩ := exa_v gl8
  have S_w3 : Sta s s.heap "com/example/vipo/vipo/flow/PatternType" "CONDITION" "Lcom/example/vipo/vipo/flow/PatternType;" (.ref w3) := Sta.start ev_w3 (Or.inr ⟨(hw _ (List.mem_of_getElem? (i := 2) rfl)), (hw _ (List.mem_of_getElem? (i := 20) rfl))⟩)
  have E_w3 : Exa s s.heap w3 "com/example/vipo/vipo/flow/PatternType" := Exa.start ev_w3 gl8
  obtain ⟨w4, ev_w4⟩ := exa_v gl11
  have S_w4 : Sta s s.heap "com/example/vipo/vipo/flow/PatternType" "EXTERNAL_CALL" "Lcom/example/vipo/vipo/flow/PatternType;" (.ref w4) := Sta.start ev_w4 (Or.inr ⟨(hw _ (List.mem_of_getElem? (i := 2) rfl)), (hw _ (List.mem_of_getElem? (i := 22) rfl))⟩)
  have E_w4 : Exa s s.heap w4 "com/example/vipo/vipo/flow/PatternType" := Exa.start ev_w4 gl11
  obtain ⟨w5, ev_w5⟩ := exa_v gl13
  have S_w5 : Sta s s.heap "com/example/vipo/vipo/flow/PatternType" "MESSAGE_PROCESSOR" "Lcom/example/vipo/vipo/flow/PatternType;" (.ref w5) := Sta.start ev_w5 (Or.inr ⟨(hw _ (List.mem_of_getElem? (i := 2) rfl)), (hw _ (List.mem_of_getElem? (i := 24) rfl))⟩)
  have E_w5 : Exa s s.heap w5 "com/example/vipo/vipo/flow/PatternType" := Exa.start ev_w5 gl13
  obtain ⟨w6, ev_w6⟩ := exa_v gl15
  have S_w6 : Sta s s.heap "com/example/vipo/vipo/flow/PatternType" "FORK" "Lcom/example/vipo/vipo/flow/PatternType;" (.ref w6) := Sta.start ev_w6 (Or.inr ⟨(hw _ (List.mem_of_getElem? (i := 2) rfl)), (hw _ (List.mem_of_getElem? (i := 26) rfl))⟩)
  have E_w6 : Exa s s.heap w6 "com/example/vipo/vipo/flow/PatternType" := Exa.start ev_w6 gl15
  obtain ⟨w7, ev_w7⟩ := exa_v gl19
  have S_w7 : Sta s s.heap "com/example/vipo/vipo/flow/PatternType" "JOIN" "Lcom/example/vipo/vipo/flow/PatternType;" (.ref w7) := Sta.start ev_w7 (Or.inr ⟨(hw _ (List.mem_of_getElem? (i := 2) rfl)), (hw _ (List.mem_of_getElem? (i := 28) rfl))⟩)
  have E_w7 : Exa s s.heap w7 "com/example/vipo/vipo/flow/PatternType" := Exa.start ev_w7 gl19
  obtain ⟨w8, ev_w8⟩ := exa_v gl24
  have S_w8 : Sta s s.heap "com/example/vipo/vipo/flow/PatternType" "MERGE" "Lcom/example/vipo/vipo/flow/PatternType;" (.ref w8) := Sta.start ev_w8 (Or.inr ⟨(hw _ (List.mem_of_getElem? (i := 2) rfl)), (hw _ (List.mem_of_getElem? (i := 30) rfl))⟩)
  have E_w8 : Exa s s.heap w8 "com/example/vipo/vipo/flow/PatternType" := Exa.start ev_w8 gl24
  have F_w1_minIn : Fld s s.heap w1 "com/example/vipo/vipo/flow/PatternType" "minIn" "I" (.int (0 : Int32)) := Fld.start ((fld_at ev_w1).symm.trans (eqv_i rfl gl1))
  have F_w1_maxIn : Fld s s.heap w1 "com/example/vipo/vipo/flow/PatternType" "maxIn" "I" (.int (0 : Int32)) := Fld.start ((fld_at ev_w1).symm.trans (eqv_i rfl gl2))
  have F_w2_minIn : Fld s s.heap w2 "com/example/vipo/vipo/flow/PatternType" "minIn" "I" (.int (0 : Int32)) := Fld.start ((fld_at ev_w2).symm.trans (eqv_i rfl gl4))
  have F_w2_maxIn : Fld s s.heap w2 "com/example/vipo/vipo/flow/PatternType" "maxIn" "I" (.int (2147483647 : Int32)) := Fld.start ((fld_at ev_w2).symm.trans (eqv_i rfl gl5))
  have F_w2_minOut : Fld s s.heap w2 "com/example/vipo/vipo/flow/PatternType" "minOut" "I" (.int (0 : Int32)) := Fld.start ((fld_at ev_w2).symm.trans (eqv_i rfl gl6))
  have F_w2_maxOut : Fld s s.heap w2 "com/example/vipo/vipo/flow/PatternType" "maxOut" "I" (.int (0 : Int32)) := Fld.start ((fld_at ev_w2).symm.trans (eqv_i rfl gl7))
  have F_w3_minIn : Fld s s.heap w3 "com/example/vipo/vipo/flow/PatternType" "minIn" "I" (.int (1 : Int32)) := Fld.start ((fld_at ev_w3).symm.trans (eqv_i rfl gl9))
  have F_w3_maxIn : Fld s s.heap w3 "com/example/vipo/vipo/flow/PatternType" "maxIn" "I" (.int (1 : Int32)) := Fld.start ((fld_at ev_w3).symm.trans (eqv_i rfl gl10))
  have F_w4_minIn : Fld s s.heap w4 "com/example/vipo/vipo/flow/PatternType" "minIn" "I" (.int (2 : Int32)) := Fld.start ((fld_at ev_w4).symm.trans (eqv_i rfl gl12))
  have F_w5_minIn : Fld s s.heap w5 "com/example/vipo/vipo/flow/PatternType" "minIn" "I" (.int (1 : Int32)) := Fld.start ((fld_at ev_w5).symm.trans (eqv_i rfl gl14))
  have F_w6_minIn : Fld s s.heap w6 "com/example/vipo/vipo/flow/PatternType" "minIn" "I" (.int (1 : Int32)) := Fld.start ((fld_at ev_w6).symm.trans (eqv_i rfl gl16))
  have F_w6_maxIn : Fld s s.heap w6 "com/example/vipo/vipo/flow/PatternType" "maxIn" "I" (.int (1 : Int32)) := Fld.start ((fld_at ev_w6).symm.trans (eqv_i rfl gl17))
  have F_w5_maxIn : Fld s s.heap w5 "com/example/vipo/vipo/flow/PatternType" "maxIn" "I" (.int (1 : Int32)) := Fld.start ((fld_at ev_w5).symm.trans (eqv_i rfl gl18))
  have F_w7_minIn : Fld s s.heap w7 "com/example/vipo/vipo/flow/PatternType" "minIn" "I" (.int (2 : Int32)) := Fld.start ((fld_at ev_w7).symm.trans (eqv_i rfl gl20))
  have F_w7_maxIn : Fld s s.heap w7 "com/example/vipo/vipo/flow/PatternType" "maxIn" "I" (.int (2147483647 : Int32)) := Fld.start ((fld_at ev_w7).symm.trans (eqv_i rfl gl21))
  have F_w7_minOut : Fld s s.heap w7 "com/example/vipo/vipo/flow/PatternType" "minOut" "I" (.int (1 : Int32)) := Fld.start ((fld_at ev_w7).symm.trans (eqv_i rfl gl22))
  have F_w7_maxOut : Fld s s.heap w7 "com/example/vipo/vipo/flow/PatternType" "maxOut" "I" (.int (1 : Int32)) := Fld.start ((fld_at ev_w7).symm.trans (eqv_i rfl gl23))
  have F_w8_minIn : Fld s s.heap w8 "com/example/vipo/vipo/flow/PatternType" "minIn" "I" (.int (1 : Int32)) := Fld.start ((fld_at ev_w8).symm.trans (eqv_i rfl gl25))
  have F_w8_maxIn : Fld s s.heap w8 "com/example/vipo/vipo/flow/PatternType" "maxIn" "I" (.int (1 : Int32)) := Fld.start ((fld_at ev_w8).symm.trans (eqv_i rfl gl26))
  have F_w1_minOut : Fld s s.heap w1 "com/example/vipo/vipo/flow/PatternType" "minOut" "I" (.int (0 : Int32)) := Fld.start ((fld_at ev_w1).symm.trans (eqv_i rfl gl27))
  have F_w1_maxOut : Fld s s.heap w1 "com/example/vipo/vipo/flow/PatternType" "maxOut" "I" (.int (2147483647 : Int32)) := Fld.start ((fld_at ev_w1).symm.trans (eqv_i rfl gl28))
  have F_w4_maxIn : Fld s s.heap w4 "com/example/vipo/vipo/flow/PatternType" "maxIn" "I" (.int (2 : Int32)) := Fld.start ((fld_at ev_w4).symm.trans (eqv_i rfl gl29))
  have F_w5_minOut : Fld s s.heap w5 "com/example/vipo/vipo/flow/PatternType" "minOut" "I" (.int (1 : Int32)) := Fld.start ((fld_at ev_w5).symm.trans (eqv_i rfl gl30))
  have F_w5_maxOut : Fld s s.heap w5 "com/example/vipo/vipo/flow/PatternType" "maxOut" "I" (.int (1 : Int32)) := Fld.start ((fld_at ev_w5).symm.trans (eqv_i rfl gl31))
  have F_w6_minOut : Fld s s.heap w6 "com/example/vipo/vipo/flow/PatternType" "minOut" "I" (.int (2 : Int32)) := Fld.start ((fld_at ev_w6).symm.trans (eqv_i rfl gl32))
  have F_w4_minOut : Fld s s.heap w4 "com/example/vipo/vipo/flow/PatternType" "minOut" "I" (.int (2 : Int32)) := Fld.start ((fld_at ev_w4).symm.trans (eqv_i rfl gl33))
  have F_w6_maxOut : Fld s s.heap w6 "com/example/vipo/vipo/flow/PatternType" "maxOut" "I" (.int (2147483647 : Int32)) := Fld.start ((fld_at ev_w6).symm.trans (eqv_i rfl gl34))
  have F_w4_maxOut : Fld s s.heap w4 "com/example/vipo/vipo/flow/PatternType" "maxOut" "I" (.int (2 : Int32)) := Fld.start ((fld_at ev_w4).symm.trans (eqv_i rfl gl35))
  have F_w8_minOut : Fld s s.heap w8 "com/example/vipo/vipo/flow/PatternType" "minOut" "I" (.int (1 : Int32)) := Fld.start ((fld_at ev_w8).symm.trans (eqv_i rfl gl36))
  have F_w8_maxOut : Fld s s.heap w8 "com/example/vipo/vipo/flow/PatternType" "maxOut" "I" (.int (1 : Int32)) := Fld.start ((fld_at ev_w8).symm.trans (eqv_i rfl gl37))
  have F_w3_minOut : Fld s s.heap w3 "com/example/vipo/vipo/flow/PatternType" "minOut" "I" (.int (2 : Int32)) := Fld.start ((fld_at ev_w3).symm.trans (eqv_i rfl gl38))
  have F_w3_maxOut : Fld s s.heap w3 "com/example/vipo/vipo/flow/PatternType" "maxOut" "I" (.int (2147483647 : Int32)) := Fld.start ((fld_at ev_w3).symm.trans (eqv_i rfl gr38))
  have G : GW s w1 w2 w3 w4 w5 w6 w7 w8 := ⟨S_w1, E_w1, S_w2, E_w2, S_w3, E_w3, S_w4, E_w4, S_w5, E_w5, S_w6, E_w6, S_w7, E_w7, S_w8, E_w8, F_w1_minIn, F_w1_maxIn, F_w2_minIn, F_w2_maxIn, F_w2_minOut, F_w2_maxOut, F_w3_minIn, F_w3_maxIn, F_w4_minIn, F_w5_minIn, F_w6_minIn, F_w6_maxIn, F_w5_maxIn, F_w7_minIn, F_w7_maxIn, F_w7_minOut, F_w7_maxOut, F_w8_minIn, F_w8_maxIn, F_w1_minOut, F_w1_maxOut, F_w4_maxIn, F_w5_minOut, F_w5_maxOut, F_w6_minOut, F_w4_minOut, F_w6_maxOut, F_w4_maxOut, F_w8_minOut, F_w8_maxOut, F_w3_minOut, F_w3_maxOut⟩
  obtain ⟨n, o, h1, h2, h3, _, L, rfl, ⟨rfl, N⟩, hq⟩ := rm0 l s _ hw w1 w2 w3 w4 w5 w6 w7 w8 G tables_1 i0 i1 i2 s.heap s.heap.size (Old.start s) p e ha hc hk s m _ below hf ((Spec.applies_iff_loose hf).mp happ).1 ⟨rfl, State.Warmed39.refl s, rfl⟩ trivial
  refine ⟨n, _, h1, h2, h3, hpost _ _ _ _ _ _ ⟨Cond.after_iff.mpr rfl, Cond.after_iff.mpr (eq_i res_at (Term.int_eval (1)) rfl), trivial⟩ ⟨hq.1, hq.2.1, (hq.2.2.sift fun y hy => Or.inr (N y hy)).mono (by decide) (by decide)⟩⟩
theorem main_1_1 : Claimed_1_1 := comes_1 fun _ _ _ _ _ _ h hF => ⟨h.1, hF⟩
theorem main_1_2 : Claimed_1_2 := comes_1 fun _ _ _ _ _ _ h hF => ⟨h.2.1, hF⟩
end Jvm.Pilot.@@N@@
namespace Jvm.Pilot.@@N@@
open Jvm Jvm.ClassFile Sem Op Lib Jvm.Free Jvm.Stand Jvm.Pilot.@@N@@.Jvm.D
/-! MADE BY PROGRAM (witnessworld.py) out of the Statement's table words and the real class files: 13 classes; the members and pool entries that the words name. The judged class is class 1, her method 1. -/
namespace start1
open Jvm.ClassFile
def u (s : String) : CpInfo := .utf8 (stringToUtf16 s)
/-- a pool by its gaps: so many unusable entries, then the entry; so many at the end -/
def gap : Nat → List CpInfo → List CpInfo
  | 0, r => r
  | n + 1, r => .unusable :: gap n r
def poolList (es : List (Nat × CpInfo)) (last : Nat) : List CpInfo := es.foldr (fun e r => gap e.1 (e.2 :: r)) (gap last [])
def pool (es : List (Nat × CpInfo)) (last : Nat) : Array CpInfo := ⟨poolList es last⟩
def fileOf (pool : Array CpInfo) (this : Nat) (attrs : Array Attribute := #[]) (ms : Array MethodInfo := #[]) (fl : Nat := 33) (sup : Nat := 0) (ifs : Array Nat := #[]) (fds : Array FieldInfo := #[]) : ClassFile where
  minorVersion := 0
  majorVersion := 65
  constantPool := pool
  accessFlags := fl
  thisClass := this
  superClass := sup
  interfaces := ifs
  fields := fds
  methods := ms
  attributes := attrs
def plain (name : String) (sup : Option ClassId) : Class where
  name := name
  kind := .ordinary
  loader := none
  accessFlags := 33
  super := sup
  interfaces := #[]
  cf := none
  fields := #[]
  methods := #[]
  instanceTypes := #[]
  staticTypes := #[]
  resolved := #[]
  callSites := []
  init := .initialized
  statics := none
  mirror := none

def pool0 : Array CpInfo := pool [(5, u "<init>"), (0, u "()V"), (1, .class_ 10), (1, u "java/lang/Object")] 113

def k0m0 : Method := { name := "<init>", desc := "()V", sig := { parameters := [], returnType := none }, accessFlags := 1, code := none }
/-- java/lang/Object -/
def k0 : Class := { plain "java/lang/Object" none with
  accessFlags := 33
  interfaces := #[]
  cf := some (fileOf pool0 8 #[] #[{ accessFlags := 1, nameIndex := 5, descriptorIndex := 6, attributes := #[] }] 33 0 #[] #[])
  fields := #[]
  methods := #[k0m0]
  instanceTypes := #[]
  staticTypes := #[]
  resolved := Array.replicate 124 none
  statics := none }

def pool1 : Array CpInfo := pool [(2, .class_ 4), (1, u "java/lang/Object"), (0, u "<init>"), (0, u "()V"), (0, .integer 2147483647), (0, .fieldref 9 10), (0, .class_ 11), (0, .nameAndType 12 13), (0, u "com/example/vipo/vipo/flow/PatternType"), (0, u "START"), (0, u "Lcom/example/vipo/vipo/flow/PatternType;"), (0, .fieldref 9 15), (0, .nameAndType 16 13), (0, u "END"), (0, .fieldref 9 18), (0, .nameAndType 19 13), (0, u "MESSAGE_PROCESSOR"), (0, .fieldref 9 21), (0, .nameAndType 22 13), (0, u "FORK"), (0, .fieldref 9 24), (0, .nameAndType 25 13), (0, u "CONDITION"), (0, .fieldref 9 27), (0, .nameAndType 28 13), (0, u "JOIN"), (0, .fieldref 9 30), (0, .nameAndType 31 13), (0, u "MERGE"), (0, .fieldref 9 33), (0, .nameAndType 34 13), (0, u "EXTERNAL_CALL"), (0, .methodref 9 36), (0, .nameAndType 37 38), (0, u "admitsDegree"), (0, u "(II)Z"), (0, .class_ 40), (0, u "com/example/vipo/vipo/flow/PatternTypeAdmitsDegreePinLaw"), (2, u "law"), (0, u "(III)Z")] 3

def k1m0 : Method := { name := "<init>", desc := "()V", sig := { parameters := [], returnType := none }, accessFlags := 1, code := none }
def k1c1 : Code := { maxStack := 3, maxLocals := 6, code := code, exceptionTable := #[], attributes := #[] }
def k1m1 : Method := { name := "law", desc := "(III)Z", sig := { parameters := [.int, .int, .int], returnType := some .boolean }, accessFlags := 9, code := some k1c1 }
/-- com/example/vipo/vipo/flow/PatternTypeAdmitsDegreePinLaw -/
def k1 : Class := { plain "com/example/vipo/vipo/flow/PatternTypeAdmitsDegreePinLaw" (some 0) with
  accessFlags := 49
  interfaces := #[]
  cf := some (fileOf pool1 39 #[] #[{ accessFlags := 1, nameIndex := 5, descriptorIndex := 6, attributes := #[] }, { accessFlags := 9, nameIndex := 43, descriptorIndex := 44, attributes := #[] }] 49 2 #[] #[])
  fields := #[]
  methods := #[k1m0, k1m1]
  instanceTypes := #[]
  staticTypes := #[]
  resolved := Array.replicate 48 none
  statics := none }

def pool2 : Array CpInfo := pool [(1, .class_ 2), (0, u "java/lang/constant/Constable"), (0, .class_ 4), (0, u "java/lang/Object")] 6

/-- java/lang/constant/Constable -/
def k2 : Class := { plain "java/lang/constant/Constable" (some 0) with
  accessFlags := 1537
  interfaces := #[]
  cf := some (fileOf pool2 1 #[] #[] 1537 3 #[] #[])
  fields := #[]
  methods := #[]
  instanceTypes := #[]
  staticTypes := #[]
  resolved := Array.replicate 11 none
  statics := none }

def pool3 : Array CpInfo := pool [(1, .class_ 2), (0, u "java/lang/Comparable"), (0, .class_ 4), (0, u "java/lang/Object")] 7

/-- java/lang/Comparable -/
def k3 : Class := { plain "java/lang/Comparable" (some 0) with
  accessFlags := 1537
  interfaces := #[]
  cf := some (fileOf pool3 1 #[] #[] 1537 3 #[] #[])
  fields := #[]
  methods := #[]
  instanceTypes := #[]
  staticTypes := #[]
  resolved := Array.replicate 12 none
  statics := none }

def pool4 : Array CpInfo := pool [(1, .class_ 2), (0, u "java/io/Serializable"), (0, .class_ 4), (0, u "java/lang/Object")] 2

/-- java/io/Serializable -/
def k4 : Class := { plain "java/io/Serializable" (some 0) with
  accessFlags := 1537
  interfaces := #[]
  cf := some (fileOf pool4 1 #[] #[] 1537 3 #[] #[])
  fields := #[]
  methods := #[]
  instanceTypes := #[]
  staticTypes := #[]
  resolved := Array.replicate 7 none
  statics := none }

def pool5 : Array CpInfo := pool [(2, .class_ 4), (1, u "java/lang/Enum"), (0, u "name"), (0, u "Ljava/lang/String;"), (2, u "ordinal"), (0, u "I"), (1, .class_ 14), (1, u "java/lang/Object"), (4, u "hash"), (86, .class_ 108), (1, u "java/lang/Enum$EnumDesc"), (2, .class_ 112), (0, u "java/lang/constant/Constable"), (0, .class_ 114), (0, u "java/lang/Comparable"), (0, .class_ 116), (0, u "java/io/Serializable")] 87

/-- java/lang/Enum -/
def k5 : Class := { plain "java/lang/Enum" (some 0) with
  accessFlags := 1057
  interfaces := #[2, 3, 4]
  cf := some (fileOf pool5 2 #[.nestMembers #[106]] #[] 1057 12 #[111, 113, 115] #[{ accessFlags := 18, nameIndex := 5, descriptorIndex := 6, attributes := #[] }, { accessFlags := 18, nameIndex := 9, descriptorIndex := 10, attributes := #[] }, { accessFlags := 2, nameIndex := 19, descriptorIndex := 10, attributes := #[] }])
  fields := #[{ name := "name", type := (.object "java/lang/String"), accessFlags := 18, slot := 0, constantValue := 0 }, { name := "ordinal", type := .int, accessFlags := 18, slot := 1, constantValue := 0 }, { name := "hash", type := .int, accessFlags := 2, slot := 2, constantValue := 0 }]
  methods := #[]
  instanceTypes := #[(.object "java/lang/String"), .int, .int]
  staticTypes := #[]
  resolved := Array.replicate 204 none
  statics := none }

def pool6 : Array CpInfo := pool [(9, .class_ 10), (0, u "com/example/vipo/vipo/json/Labelled"), (57, .class_ 69), (0, u "java/lang/Object")] 13

/-- com/example/vipo/vipo/json/Labelled -/
def k6 : Class := { plain "com/example/vipo/vipo/json/Labelled" (some 0) with
  accessFlags := 1537
  interfaces := #[]
  cf := some (fileOf pool6 9 #[] #[] 1537 68 #[] #[])
  fields := #[]
  methods := #[]
  instanceTypes := #[]
  staticTypes := #[]
  resolved := Array.replicate 83 none
  statics := none }

def pool7 : Array CpInfo := pool [(1, .class_ 2), (0, u "com/example/vipo/vipo/flow/PatternType"), (2, u "START"), (0, u "Lcom/example/vipo/vipo/flow/PatternType;"), (2, u "END"), (2, u "MESSAGE_PROCESSOR"), (2, u "FORK"), (2, u "CONDITION"), (2, u "JOIN"), (2, u "MERGE"), (2, u "EXTERNAL_CALL"), (2, u "$VALUES"), (0, u "[Lcom/example/vipo/vipo/flow/PatternType;"), (6, .class_ 40), (1, u "java/lang/Enum"), (8, u "label"), (0, u "Ljava/lang/String;"), (0, .fieldref 1 52), (0, .nameAndType 53 54), (0, u "minIn"), (0, u "I"), (0, .fieldref 1 56), (0, .nameAndType 57 54), (0, u "maxIn"), (0, .fieldref 1 59), (0, .nameAndType 60 54), (0, u "minOut"), (0, .fieldref 1 62), (0, .nameAndType 63 54), (0, u "maxOut"), (1, .class_ 67), (1, u "com/example/vipo/vipo/json/Labelled"), (46, u "admitsDegree"), (0, u "(II)Z")] 6

def k7c0 : Code := { maxStack := 2, maxLocals := 3, code := prog_18_method_6_code, exceptionTable := #[], attributes := #[] }
def k7m0 : Method := { name := "admitsDegree", desc := "(II)Z", sig := { parameters := [.int, .int], returnType := some .boolean }, accessFlags := 1, code := some k7c0 }
/-- com/example/vipo/vipo/flow/PatternType -/
def k7 : Class := { plain "com/example/vipo/vipo/flow/PatternType" (some 5) with
  accessFlags := 16433
  interfaces := #[6]
  cf := some (fileOf pool7 1 #[] #[{ accessFlags := 1, nameIndex := 114, descriptorIndex := 115, attributes := #[] }] 16433 38 #[65] #[{ accessFlags := 16409, nameIndex := 5, descriptorIndex := 6, attributes := #[] }, { accessFlags := 16409, nameIndex := 9, descriptorIndex := 6, attributes := #[] }, { accessFlags := 16409, nameIndex := 12, descriptorIndex := 6, attributes := #[] }, { accessFlags := 16409, nameIndex := 15, descriptorIndex := 6, attributes := #[] }, { accessFlags := 16409, nameIndex := 18, descriptorIndex := 6, attributes := #[] }, { accessFlags := 16409, nameIndex := 21, descriptorIndex := 6, attributes := #[] }, { accessFlags := 16409, nameIndex := 24, descriptorIndex := 6, attributes := #[] }, { accessFlags := 16409, nameIndex := 27, descriptorIndex := 6, attributes := #[] }, { accessFlags := 18, nameIndex := 49, descriptorIndex := 50, attributes := #[] }, { accessFlags := 18, nameIndex := 53, descriptorIndex := 54, attributes := #[] }, { accessFlags := 18, nameIndex := 57, descriptorIndex := 54, attributes := #[] }, { accessFlags := 18, nameIndex := 60, descriptorIndex := 54, attributes := #[] }, { accessFlags := 18, nameIndex := 63, descriptorIndex := 54, attributes := #[] }, { accessFlags := 4122, nameIndex := 30, descriptorIndex := 31, attributes := #[] }])
  fields := #[{ name := "START", type := (.object "com/example/vipo/vipo/flow/PatternType"), accessFlags := 16409, slot := 0, constantValue := 0 }, { name := "END", type := (.object "com/example/vipo/vipo/flow/PatternType"), accessFlags := 16409, slot := 1, constantValue := 0 }, { name := "MESSAGE_PROCESSOR", type := (.object "com/example/vipo/vipo/flow/PatternType"), accessFlags := 16409, slot := 2, constantValue := 0 }, { name := "FORK", type := (.object "com/example/vipo/vipo/flow/PatternType"), accessFlags := 16409, slot := 3, constantValue := 0 }, { name := "CONDITION", type := (.object "com/example/vipo/vipo/flow/PatternType"), accessFlags := 16409, slot := 4, constantValue := 0 }, { name := "JOIN", type := (.object "com/example/vipo/vipo/flow/PatternType"), accessFlags := 16409, slot := 5, constantValue := 0 }, { name := "MERGE", type := (.object "com/example/vipo/vipo/flow/PatternType"), accessFlags := 16409, slot := 6, constantValue := 0 }, { name := "EXTERNAL_CALL", type := (.object "com/example/vipo/vipo/flow/PatternType"), accessFlags := 16409, slot := 7, constantValue := 0 }, { name := "label", type := (.object "java/lang/String"), accessFlags := 18, slot := 3, constantValue := 0 }, { name := "minIn", type := .int, accessFlags := 18, slot := 4, constantValue := 0 }, { name := "maxIn", type := .int, accessFlags := 18, slot := 5, constantValue := 0 }, { name := "minOut", type := .int, accessFlags := 18, slot := 6, constantValue := 0 }, { name := "maxOut", type := .int, accessFlags := 18, slot := 7, constantValue := 0 }, { name := "$VALUES", type := (.array (.object "com/example/vipo/vipo/flow/PatternType")), accessFlags := 4122, slot := 8, constantValue := 0 }]
  methods := #[k7m0]
  instanceTypes := #[(.object "java/lang/String"), .int, .int, (.object "java/lang/String"), .int, .int, .int, .int]
  staticTypes := #[(.object "com/example/vipo/vipo/flow/PatternType"), (.object "com/example/vipo/vipo/flow/PatternType"), (.object "com/example/vipo/vipo/flow/PatternType"), (.object "com/example/vipo/vipo/flow/PatternType"), (.object "com/example/vipo/vipo/flow/PatternType"), (.object "com/example/vipo/vipo/flow/PatternType"), (.object "com/example/vipo/vipo/flow/PatternType"), (.object "com/example/vipo/vipo/flow/PatternType"), (.array (.object "com/example/vipo/vipo/flow/PatternType"))]
  resolved := Array.replicate 122 none
  statics := some 0 }

def pool8 : Array CpInfo := pool [(1, u "java/lang/Cloneable"), (0, .class_ 1), (0, u "java/lang/Object"), (0, .class_ 3)] 3

/-- java/lang/Cloneable -/
def k8 : Class := { plain "java/lang/Cloneable" (some 0) with
  accessFlags := 1537
  interfaces := #[]
  cf := some (fileOf pool8 2 #[] #[] 1537 4 #[] #[])
  fields := #[]
  methods := #[]
  instanceTypes := #[]
  staticTypes := #[]
  resolved := Array.replicate 8 none
  statics := none }

/-- the primitive byte -/
def k9 : Class := { plain "byte" none with kind := .primitive 'B', accessFlags := 0x411 }
/-- [B -/
def k10 : Class := { plain "[B" (some 0) with kind := .array 9 .byte, interfaces := #[8, 4], accessFlags := 1041 }

/-- the primitive int -/
def k11 : Class := { plain "int" none with kind := .primitive 'I', accessFlags := 0x411 }
/-- [I -/
def k12 : Class := { plain "[I" (some 0) with kind := .array 11 .int, interfaces := #[8, 4], accessFlags := 1041 }

def heap : Heap := #[{ cls := 7, slots := #[.ref 1, .ref 2, .ref 5, .ref 6, .ref 3, .ref 7, .ref 8, .ref 4, .null], vm := .statics 7 },
  { cls := 7, slots := #[.null, .int 0, .int 0, .null, .int 0, .int 0, .int 0, .int 2147483647], vm := .none },
  { cls := 7, slots := #[.null, .int 0, .int 0, .null, .int 0, .int 2147483647, .int 0, .int 0], vm := .none },
  { cls := 7, slots := #[.null, .int 0, .int 0, .null, .int 1, .int 1, .int 2, .int 2147483647], vm := .none },
  { cls := 7, slots := #[.null, .int 0, .int 0, .null, .int 2, .int 2, .int 2, .int 2], vm := .none },
  { cls := 7, slots := #[.null, .int 0, .int 0, .null, .int 1, .int 1, .int 1, .int 1], vm := .none },
  { cls := 7, slots := #[.null, .int 0, .int 0, .null, .int 1, .int 1, .int 2, .int 2147483647], vm := .none },
  { cls := 7, slots := #[.null, .int 0, .int 0, .null, .int 2, .int 2147483647, .int 1, .int 1], vm := .none },
  { cls := 7, slots := #[.null, .int 0, .int 0, .null, .int 1, .int 1, .int 1, .int 1], vm := .none }]
def classes : Array Class := #[k0, k1, k2, k3, k4, k5, k6, k7, k8, k9, k10, k11, k12]
def interned : List (Array UInt16 × Addr) := []
def slotsUsed : Nat := 73
def theMethod : MethodId := ⟨1, 1⟩
def args0 : Array Value := #[.int 5, .int 5, .int 5]
def aboutOver (below : List Frame) : State where
  vm := { classes := classes, interned := interned.toArray }
  heap := heap
  slotsUsed := slotsUsed
  threads := #[{ frames := .invoking theMethod args0 :: below }]
def below0 : List Frame := [.native { method := ⟨0, 0⟩, args := #[] }]
def about1 : State := aboutOver below0
def p0 : Program := .bare "" "" ""
def e0 : Env := launch0.env 0 0 0
theorem w_frames : about1.frames = Frame.invoking theMethod args0 :: below0 := rfl
set_option maxRecDepth 65536 in
theorem w_args : argsFit about1.vm theMethod args0 = true := by decide +kernel
set_option maxRecDepth 65536 in
theorem w_heap : heapFits about1 = true := by decide +kernel
set_option maxRecDepth 65536 in
theorem w_runnable : about1.curStatus? = some .runnable := by decide +kernel
set_option maxRecDepth 65536 in
theorem w_alone : about1.alone = true := by decide +kernel
set_option maxRecDepth 65536 in
theorem w_named : about1.methodNamed? x = some theMethod := by decide +kernel
set_option maxRecDepth 65536 in
theorem w_hears : about1.hears theMethod below0 = true := by decide +kernel
set_option maxRecDepth 65536 in
theorem w_ripe : about1.ripe theMethod args0 below0 = true := by decide +kernel
theorem w_running : about1.status = .running := rfl
set_option maxRecDepth 65536 in
theorem w_room : about1.hasRoom e0.platform room_1 = true :=
  launch0.hasRoom_least _ room_1 (by decide +kernel) (by decide +kernel) (by decide +kernel) (by decide +kernel) (by decide +kernel) (by decide +kernel)
theorem allAtoms_all (ts : List Jvm.Cond) (a : Array Jvm.Value) (st : Jvm.State) : (allAtoms ts).before a st = ts.all (fun c => c.before a st) := by
  induction ts with
  | nil => rfl
  | cons c t ih =>
    show (Jvm.Cond.and c (allAtoms t)).before a st = _
    rw [Jvm.Cond.before_and, ih, List.all_cons]
def words1 : List Jvm.Cond := Jvm.Cond.code x code maxLocals ret :: tables_1
/-- a 'code' word, met by the world's own term for the bytes: nothing is compared byte by byte -/
theorem code_word {y : MethodName} {bytes : ByteArray} {mx : Nat} {rt : Option FieldType} {a : Array Value} {s : State} {m : MethodId} {meth : Method} {c : Code} (h1 : s.methodNamed? y = some m) (h2 : s.vm.method? m = some meth) (h3 : meth.code = some c) (h4 : c.code = bytes)
    (h5 : (c.maxLocals == mx && c.exceptionTable.isEmpty && decide (c.maxStack ≤ mostOperands) && decide (meth.sig.returnType = rt) && !meth.locks && decide (parseMethodDescriptor y.desc = some meth.sig)) = true) : (Jvm.Cond.code y bytes mx rt).before a s = true := by
  simp only [Bool.and_eq_true, beq_iff_eq, Bool.not_eq_true', decide_eq_true_eq] at h5
  obtain ⟨⟨⟨⟨⟨g1, g2⟩, g3⟩, g4⟩, g5⟩, g6⟩ := h5
  simp [Cond.before, Cond.holds, Cond.value, h1, h2, h3, h4, g1, g2, g3, g4, g5, g6]
def isCode : Jvm.Cond → Bool
  | .code _ _ _ _ => true
  | _ => false
theorem all_split {L : List Jvm.Cond} {P : Jvm.Cond → Bool} (h1 : L.all (fun c => isCode c || P c) = true) (h2 : ∀ c ∈ L.filter isCode, P c = true) : L.all P = true := by
  refine List.all_eq_true.mpr fun c hc => ?_
  have h := List.all_eq_true.mp h1 c hc
  rcases Bool.eq_false_or_eq_true (isCode c) with hi | hi
  · exact h2 c (List.mem_filter.mpr ⟨hc, hi⟩)
  · simpa [hi] using h
set_option maxRecDepth 65536 in
theorem w_c0 : (Jvm.Cond.code x code maxLocals ret).before args0 about1 = true := code_word (m := ⟨1, 1⟩) (meth := k1m1) (c := k1c1) (by decide +kernel) rfl rfl rfl (by decide +kernel)
set_option maxRecDepth 65536 in
theorem w_c1 : (Jvm.Cond.code ({ cls := "com/example/vipo/vipo/flow/PatternType", name := "admitsDegree", desc := "(II)Z" } : Jvm.MethodName) prog_18_method_6_code (3 : Nat) (Option.some Jvm.ClassFile.FieldType.boolean)).before args0 about1 = true := code_word (m := ⟨7, 0⟩) (meth := k7m0) (c := k7c0) (by decide +kernel) rfl rfl rfl (by decide +kernel)
def codes1 : List Jvm.Cond := [Jvm.Cond.code x code maxLocals ret, Jvm.Cond.code ({ cls := "com/example/vipo/vipo/flow/PatternType", name := "admitsDegree", desc := "(II)Z" } : Jvm.MethodName) prog_18_method_6_code (3 : Nat) (Option.some Jvm.ClassFile.FieldType.boolean)]
set_option maxRecDepth 65536 in
theorem codes_eq : words1.filter isCode = codes1 := rfl
theorem w_codes : ∀ c ∈ words1.filter isCode, c.before args0 about1 = true := by
  rw [codes_eq]
  intro c hc
  simp only [codes1, List.mem_cons, List.not_mem_nil, or_false] at hc
  rcases hc with rfl | rfl
  · exact w_c0
  · exact w_c1
set_option maxRecDepth 65536 in
theorem w_t1 : (words1.take 24).all (fun c => isCode c || c.before args0 about1) = true := by decide +kernel
set_option maxRecDepth 65536 in
theorem w_t2 : (words1.drop 24).all (fun c => isCode c || c.before args0 about1) = true := by decide +kernel
theorem w_tables : (allAtoms (Jvm.Cond.code x code maxLocals ret :: tables_1)).before args0 about1 = true := by
  rw [allAtoms_all]
  show words1.all (fun c => c.before args0 about1) = true
  refine all_split ?_ w_codes
  rw [← List.take_append_drop 24 words1, List.all_append, w_t1, w_t2]
  rfl
set_option maxRecDepth 65536 in
theorem w_case : (Jvm.Cond.and given_1 narrow_1).before args0 about1 = true := by decide +kernel
theorem w_applies : (headSpec (Jvm.Cond.code x code maxLocals ret :: tables_1) room_1).applies x e0.platform about1 = true :=
  (Spec.applies_iff w_frames).mpr ⟨w_running, w_runnable, w_alone, w_named, w_hears, w_ripe, w_room, w_tables⟩
theorem atStart : AtStart classFile x code maxLocals ret World_1 tables_1 room_1 Calls_1 rest_1 Pre_1 launch0 p0 e0 about1 theMethod args0 below0 :=
  ⟨lists_1, trivial, launch0.admits_env _ _ _, launch0.least_env, fairChoices_fair.cas, fairChoices_fair.clock, w_frames, w_args, w_heap, w_applies, trivial, trivial, w_case⟩
end start1
theorem witness_1 : WitnessClaimed_1 := ⟨start1.p0, start1.e0, start1.about1, start1.theMethod, start1.args0, start1.below0, start1.atStart⟩
end Jvm.Pilot.@@N@@
