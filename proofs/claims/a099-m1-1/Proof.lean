import JvmDerived
import JvmDerived.Pilot.@@N@@Statement
import JvmDerived.Pilot.@@N@@Code
set_option linter.unusedVariables false
set_option linter.unusedSimpArgs false
namespace Jvm.RoadKit
open Sem ClassFile Op Lib Jvm.Stand Jvm.Free Jvm.LawKit
section New
variable {p : Program} {l : Launch} {e : Env} {R : Room} {s : State} {m : MethodId} {args : Array Value} {below : List Frame} {meth : Method} {c : Code} {T : State} {locs : List Loc} {cells slots : Nat}
theorem retI (X : Stand p l e R s m args below meth c T locs cells slots) (hx : p.tables.exec = Jvm.exec) {pc : Nat} {Ls : Array Slot} {z : Int32} {rest : List Value} (hret : meth.sig.returnType = some .int) (hd : decode c.code pc = .ok (.ireturn, 1)) {fs : List Frame}
    (hl : ∀ (f : JFrame) (acts : List Action), f.method = m → f.locked = none → f.entered = [] → (doReturn e (T.setTop f) acts (some (.int z))).1 = T.setFrames fs) : Steps p.tables e below (T.setTop (mkF m pc Ls (.int z :: rest))) (T.setFrames fs) := by
  have hm' : T.vm.method? m = some meth := X.method'
  have hn : narrow .int (.int z) = .int z := rfl
  show Steps p.tables e below (T.setTop { method := m, pc := pc, locals := Ls, stack := _ :: rest, locked := none }) _
  jvm_step X.here [X.here.top, hx, hd, hm', hret, hn]
  first | (intro acts; rw [hl _ acts rfl rfl rfl]) | rw [hl _ _ rfl rfl rfl]
  exact Steps.refl _
end New
end Jvm.RoadKit
namespace Jvm.Pilot.@@N@@
open Jvm Jvm.ClassFile Sem Op Lib Jvm.Free Jvm.Stand Jvm.LawKit Jvm.RoadKit Bundle Jvm.Pilot.@@N@@.Jvm.D
theorem own_oz {Z : State} {n0 : Nat} {h : Heap} (O : Old Z n0 h) : n0 ≤ h.size := by
  rw [← O.1]; exact O.2.1
theorem own_lsw {tb : Tables} [Ours tb] {e : Env} {below : List Frame} {T target : State} {m : MethodId} {c : Code} {g : JFrame} (h : At T m c below) (hx : tb.exec = Jvm.exec) (hg : g.method = m) {dflt : Int} {prs : Array (Int × Int)} {len : Nat} {o : Int} {pc0 pc' : Nat} (hpc : g.pc = pc0) (hd : decode c.code g.pc = .ok (.lookupswitch dflt prs, len)) {i : Int32} {rest : List Value} (hs : g.stack = .int i :: rest)
    (hsort : (prs.toList.zip (prs.toList.drop 1)).all (fun (a, next) => a.1 < next.1) = true) (hoff : lookupswitch.offset prs.toList dflt i.toInt = o) (ho : 0 ≤ (pc0 : Int) + o) (hp : ((pc0 : Int) + o).toNat = pc')
    (hr : Steps tb e below (T.setTop { g with pc := pc', stack := rest }) target) : Steps tb e below (T.setTop g) target := by
  subst hg hpc hp
  jvm_step h [h.top, hx, hd, hs, hoff, ho, lookupswitch.wp_chain]
  exact ⟨by simpa using hsort, hr⟩
section Nums
variable {x k : Int32} {n : Int}
theorem own_lt1 (hk : k.toInt = n) (h : x < k) : x.toInt < n := by rw [← hk]; exact Int32.lt_iff_toInt_lt.mp h
theorem own_lt2 (hk : k.toInt = n) (h : k < x) : n < x.toInt := by rw [← hk]; exact Int32.lt_iff_toInt_lt.mp h
theorem own_nlt1 (hk : k.toInt = n) (h : ¬ x < k) : n ≤ x.toInt := by rw [Int32.lt_iff_toInt_lt, hk] at h; omega
theorem own_nlt2 (hk : k.toInt = n) (h : ¬ k < x) : x.toInt ≤ n := by rw [Int32.lt_iff_toInt_lt, hk] at h; omega
theorem own_eq (hk : k.toInt = n) (h : x = k) : x.toInt = n := by rw [← hk, h]
theorem own_neq (hk : k.toInt = n) (h : ¬ x = k) : x.toInt ≠ n := fun q => h (Int32.toInt_inj.mp (by rw [hk, q]))
theorem own_glt1 (hk : k.toInt = n) (h : x.toInt < n) : x < k := Int32.lt_iff_toInt_lt.mpr (by rw [hk]; exact h)
theorem own_glt2 (hk : k.toInt = n) (h : n < x.toInt) : k < x := Int32.lt_iff_toInt_lt.mpr (by rw [hk]; exact h)
theorem own_gnlt1 (hk : k.toInt = n) (h : n ≤ x.toInt) : ¬ x < k := fun q => by have := own_lt1 hk q; omega
theorem own_gnlt2 (hk : k.toInt = n) (h : x.toInt ≤ n) : ¬ k < x := fun q => by have := own_lt2 hk q; omega
theorem own_geq (hk : k.toInt = n) (h : x.toInt = n) : x = k := Int32.toInt_inj.mp (by rw [hk, h])
theorem own_gneq (hk : k.toInt = n) (h : x.toInt ≠ n) : ¬ x = k := fun q => h (own_eq hk q)
theorem own_and (hk : k.toInt = n) (h0 : 0 ≤ n) : 0 ≤ (x &&& k).toInt ∧ (x &&& k).toInt ≤ n := by have := c_and x k (by rw [hk]; exact h0); rw [hk] at this; exact this
theorem own_and2 (hk : k.toInt = n) (h0 : 0 ≤ n) : 0 ≤ (k &&& x).toInt ∧ (k &&& x).toInt ≤ n := by have := c_and' k x (by rw [hk]; exact h0); rw [hk] at this; exact this
theorem own_rem (hk : k.toInt = n) (h0 : 0 < n) (hx : 0 ≤ x.toInt) : 0 ≤ (x % k).toInt ∧ (x % k).toInt < n ∧ (x % k).toInt ≤ x.toInt := by
  have := (c_iremV x k).1 hx (by rw [hk]; exact h0); rw [hk] at this; exact ⟨this.1, this.2.1, this.2.2.1⟩
theorem own_add {lo hi : Int} (hk : k.toInt = n) (hx : lo ≤ x.toInt ∧ x.toInt ≤ hi) (h1 : -2147483648 ≤ lo + n) (h2 : hi + n < 2147483648) : lo + n ≤ (x + k).toInt ∧ (x + k).toInt ≤ hi + n := by
  have := c_iadd x k; have := rng32 (x + k); rw [hk] at *; omega
theorem own_add2 {lo hi : Int} (hk : k.toInt = n) (hx : lo ≤ x.toInt ∧ x.toInt ≤ hi) (h1 : -2147483648 ≤ lo + n) (h2 : hi + n < 2147483648) : lo + n ≤ (k + x).toInt ∧ (k + x).toInt ≤ hi + n := by
  have := c_iadd k x; have := rng32 (k + x); rw [hk] at *; omega
end Nums
theorem own_len {Z : State} {args : Array Value} {t : Term} {a : Addr} {c : Cell} {ty : FieldType} {n : Int32} (A : Arr Z Z.heap a c ty) (ev : t.eval args Z none [] Z = some (.ref a)) (h : (Term.length t).eval args Z none [] Z = some (.int n)) : c.slots.size < 2 ^ 31 ∧ c.slots.size.toInt32 = n := by
  have q := A.fin (Vm.Alike.refl _)
  by_cases z : c.slots.size < 2 ^ 31
  · rw [len_f ev q z] at h; exact ⟨z, Value.int.inj (Option.some.inj h)⟩
  · simp [Term.eval, ev, q, z] at h
theorem own_selp {s : State} {args : Array Value} {y z : MethodName} {C : String} (w : (Cond.selects C z z).before args s = true) (hc : z.cls = y.cls) (hp : s.PrivateAt y) (hi : (Cond.instanceMethod y).before args s = true) (hy : y.cls ≠ "java/lang/invoke/MethodHandle" ∧ y.cls ≠ "java/lang/invoke/VarHandle") : (Cond.selects y.cls y y).before args s = true := by
  obtain ⟨c2, r2, m2, -, -, q3, -, kP, hkP, hkPi⟩ := Cond.selects_spec w
  exact selects_self_of_private (by rw [← hc]; exact findClass_of_methodNamed q3) hkP hkPi hp hi hy
theorem own_max64 (x : Int64) : ¬ (9223372036854775807 : Int64) < x := fun h => by have := rng64 x; rw [Int64.lt_iff_toInt_lt, show (9223372036854775807 : Int64).toInt = 9223372036854775807 by decide] at h; omega
theorem own_min64 (x : Int64) : ¬ x < (-9223372036854775808 : Int64) := fun h => by have := rng64 x; rw [Int64.lt_iff_toInt_lt, show (-9223372036854775808 : Int64).toInt = -9223372036854775808 by decide] at h; omega
theorem own_root {Z : State} {a0 : Array Value} {O K : String} {n : Nat} (w : (Cond.noSuperclass O).before a0 Z = true) (wk : (Cond.instantiable K n).before a0 Z = true) (hn : O ≠ K) : NS Z O K := by
  obtain ⟨c, k, h1, h2, h3, -, -⟩ := Cond.noSuperclass_spec w
  obtain ⟨t, kt, g1, -⟩ := Cond.instantiable_spec wk
  have ne := ids_ne h1 g1 hn
  refine ⟨c, t, h1, g1, fun fuel => ?_⟩
  cases fuel with
  | zero => rfl
  | succ f => simp [Vm.isSubclassAux, ne, h2, h3]
theorem own_no {Z : State} {a0 : Array Value} {C S K : String} {n : Nat} (w : (Cond.superclass C S).before a0 Z = true) (wk : (Cond.instantiable K n).before a0 Z = true) (q : NS Z C K) (hn : C ≠ K) : ∃ c t, Z.vm.findClass C = some c ∧ Z.vm.findClass K = some t ∧ Z.vm.assignable c t = false := by
  obtain ⟨c, t, h0, g0, n3⟩ := q
  obtain ⟨p, k, kp, h1, h2, h3, h4, h5, -, h7⟩ := Cond.superclass_spec h0 w
  obtain ⟨t', k', g1, g2, g3, g4, -⟩ := Cond.instantiable_spec wk
  cases g0.symm.trans g1
  have ne := ids_ne h0 g0 hn
  have g5 : k'.isInterface = false := by simp only [Bool.or_eq_false_iff] at g4; exact g4.1
  refine ⟨c, t, h0, g0, ?_⟩
  show Z.vm.assignableAux (255 + 1) c t = false
  simp [Vm.assignableAux, ne, h2, g2, h5, g3, g5, Vm.isSubclass, n3]
theorem own_eqR {Z : State} {args : Array Value} {a b : Term} {idx : List Nat} {w : Addr} (hb : b.eval args Z none idx Z = some (.ref w)) (h : (Cond.eq a b).value args Z none Z idx = some true) : a.eval args Z none idx Z = some (.ref w) := by
  simp only [Cond.value, hb] at h
  cases ht : a.eval args Z none idx Z with
  | none => simp [ht] at h
  | some x => cases x <;> simp [ht] at h ⊢; exact h
def GW (Z : State) (w1 : Addr) (w2 : Addr) (w3 : Addr) (w4 : Addr) (w5 : Addr) (w6 : Addr) (w7 : Addr) (w8 : Addr) (w9 : Addr) (w10 : Addr) : Prop :=
  (Sta Z Z.heap "com/example/swallow/swallow/engine/automation/Filter" "GEOGRAPHIC_ORIGIN" "Lcom/example/swallow/swallow/engine/automation/Filter;" (.ref w1))
  ∧ (Exa Z Z.heap w1 "com/example/swallow/swallow/engine/automation/Filter")
  ∧ (Sta Z Z.heap "com/example/swallow/swallow/engine/automation/PlaceRole" "ORIGIN" "Lcom/example/swallow/swallow/engine/automation/PlaceRole;" (.ref w2))
  ∧ (Exa Z Z.heap w2 "com/example/swallow/swallow/engine/automation/PlaceRole")
  ∧ (Sta Z Z.heap "com/example/swallow/swallow/engine/automation/Filter" "ORIGINS" "Lcom/example/swallow/swallow/engine/automation/Filter;" (.ref w3))
  ∧ (Exa Z Z.heap w3 "com/example/swallow/swallow/engine/automation/Filter")
  ∧ (Sta Z Z.heap "com/example/swallow/swallow/engine/automation/Filter" "VEHICLES" "Lcom/example/swallow/swallow/engine/automation/Filter;" (.ref w4))
  ∧ (Exa Z Z.heap w4 "com/example/swallow/swallow/engine/automation/Filter")
  ∧ (Sta Z Z.heap "com/example/swallow/swallow/engine/automation/Filter" "PERSONAL" "Lcom/example/swallow/swallow/engine/automation/Filter;" (.ref w5))
  ∧ (Exa Z Z.heap w5 "com/example/swallow/swallow/engine/automation/Filter")
  ∧ (Sta Z Z.heap "com/example/swallow/swallow/engine/automation/Filter" "PROVIDERS" "Lcom/example/swallow/swallow/engine/automation/Filter;" (.ref w6))
  ∧ (Exa Z Z.heap w6 "com/example/swallow/swallow/engine/automation/Filter")
  ∧ (Sta Z Z.heap "com/example/swallow/swallow/engine/automation/Filter" "GEOGRAPHIC_DESTINATION" "Lcom/example/swallow/swallow/engine/automation/Filter;" (.ref w7))
  ∧ (Exa Z Z.heap w7 "com/example/swallow/swallow/engine/automation/Filter")
  ∧ (Sta Z Z.heap "com/example/swallow/swallow/engine/automation/PlaceRole" "DESTINATION" "Lcom/example/swallow/swallow/engine/automation/PlaceRole;" (.ref w8))
  ∧ (Exa Z Z.heap w8 "com/example/swallow/swallow/engine/automation/PlaceRole")
  ∧ (Sta Z Z.heap "com/example/swallow/swallow/engine/automation/Filter" "PRESTATIONS" "Lcom/example/swallow/swallow/engine/automation/Filter;" (.ref w9))
  ∧ (Exa Z Z.heap w9 "com/example/swallow/swallow/engine/automation/Filter")
  ∧ (Sta Z Z.heap "com/example/swallow/swallow/engine/automation/Filter" "MOTIVES" "Lcom/example/swallow/swallow/engine/automation/Filter;" (.ref w10))
  ∧ (Exa Z Z.heap w10 "com/example/swallow/swallow/engine/automation/Filter")
  ∧ (Fld Z Z.heap w1 "com/example/swallow/swallow/engine/automation/Filter" "role" "Lcom/example/swallow/swallow/engine/automation/PlaceRole;" (.ref w2))
  ∧ (Fld Z Z.heap w3 "com/example/swallow/swallow/engine/automation/Filter" "role" "Lcom/example/swallow/swallow/engine/automation/PlaceRole;" .null)
  ∧ (Fld Z Z.heap w4 "com/example/swallow/swallow/engine/automation/Filter" "role" "Lcom/example/swallow/swallow/engine/automation/PlaceRole;" .null)
  ∧ (Fld Z Z.heap w5 "com/example/swallow/swallow/engine/automation/Filter" "role" "Lcom/example/swallow/swallow/engine/automation/PlaceRole;" .null)
  ∧ (Fld Z Z.heap w6 "com/example/swallow/swallow/engine/automation/Filter" "role" "Lcom/example/swallow/swallow/engine/automation/PlaceRole;" .null)
  ∧ (Fld Z Z.heap w7 "com/example/swallow/swallow/engine/automation/Filter" "role" "Lcom/example/swallow/swallow/engine/automation/PlaceRole;" (.ref w8))
  ∧ (Fld Z Z.heap w9 "com/example/swallow/swallow/engine/automation/Filter" "role" "Lcom/example/swallow/swallow/engine/automation/PlaceRole;" .null)
  ∧ (Fld Z Z.heap w10 "com/example/swallow/swallow/engine/automation/Filter" "role" "Lcom/example/swallow/swallow/engine/automation/PlaceRole;" .null)
def Q0 (n0 : Nat) (v : Option Value) (h : Heap) (L : List Loc) : Prop := v = some (.int (1 : Int32)) ∧ Fr n0 L
theorem d0_0 : decode method_2_code 0 = .ok (.iload_n 0, 1) := by decide +kernel
theorem d0_1 : decode method_2_code 1 = .ok (.ifCond .ne 7, 3) := by decide +kernel
theorem d0_4 : decode method_2_code 4 = .ok (.getstatic 7, 3) := by decide +kernel
theorem d0_7 : decode method_2_code 7 = .ok (.areturn, 1) := by decide +kernel
theorem d0_8 : decode method_2_code 8 = .ok (.iload_n 0, 1) := by decide +kernel
theorem d0_9 : decode method_2_code 9 = .ok (.iconst 1, 1) := by decide +kernel
theorem d0_10 : decode method_2_code 10 = .ok (.if_icmp .ne 7, 3) := by decide +kernel
theorem d0_13 : decode method_2_code 13 = .ok (.getstatic 13, 3) := by decide +kernel
theorem d0_16 : decode method_2_code 16 = .ok (.areturn, 1) := by decide +kernel
theorem d0_17 : decode method_2_code 17 = .ok (.iload_n 0, 1) := by decide +kernel
theorem d0_18 : decode method_2_code 18 = .ok (.iconst 2, 1) := by decide +kernel
theorem d0_19 : decode method_2_code 19 = .ok (.if_icmp .ne 7, 3) := by decide +kernel
theorem d0_22 : decode method_2_code 22 = .ok (.getstatic 16, 3) := by decide +kernel
theorem d0_25 : decode method_2_code 25 = .ok (.areturn, 1) := by decide +kernel
theorem d0_26 : decode method_2_code 26 = .ok (.iload_n 0, 1) := by decide +kernel
theorem d0_27 : decode method_2_code 27 = .ok (.iconst 3, 1) := by decide +kernel
theorem d0_28 : decode method_2_code 28 = .ok (.if_icmp .ne 7, 3) := by decide +kernel
theorem d0_31 : decode method_2_code 31 = .ok (.getstatic 19, 3) := by decide +kernel
theorem d0_34 : decode method_2_code 34 = .ok (.areturn, 1) := by decide +kernel
theorem d0_35 : decode method_2_code 35 = .ok (.iload_n 0, 1) := by decide +kernel
theorem d0_36 : decode method_2_code 36 = .ok (.iconst 4, 1) := by decide +kernel
theorem d0_37 : decode method_2_code 37 = .ok (.if_icmp .ne 7, 3) := by decide +kernel
theorem d0_40 : decode method_2_code 40 = .ok (.getstatic 22, 3) := by decide +kernel
theorem d0_43 : decode method_2_code 43 = .ok (.areturn, 1) := by decide +kernel
theorem d0_44 : decode method_2_code 44 = .ok (.iload_n 0, 1) := by decide +kernel
theorem d0_45 : decode method_2_code 45 = .ok (.iconst 5, 1) := by decide +kernel
theorem d0_46 : decode method_2_code 46 = .ok (.if_icmp .ne 7, 3) := by decide +kernel
theorem d0_49 : decode method_2_code 49 = .ok (.getstatic 25, 3) := by decide +kernel
theorem d0_52 : decode method_2_code 52 = .ok (.areturn, 1) := by decide +kernel
theorem d0_53 : decode method_2_code 53 = .ok (.iload_n 0, 1) := by decide +kernel
theorem d0_54 : decode method_2_code 54 = .ok (.bipush 6, 2) := by decide +kernel
theorem d0_56 : decode method_2_code 56 = .ok (.if_icmp .ne 7, 3) := by decide +kernel
theorem d0_59 : decode method_2_code 59 = .ok (.getstatic 28, 3) := by decide +kernel
theorem d0_62 : decode method_2_code 62 = .ok (.areturn, 1) := by decide +kernel
theorem d0_63 : decode method_2_code 63 = .ok (.getstatic 31, 3) := by decide +kernel
theorem d0_66 : decode method_2_code 66 = .ok (.areturn, 1) := by decide +kernel
theorem pn0 : plainName "com/example/swallow/swallow/engine/automation/FilterIsGeographicPinLaw" = true := by first | (simp [plainName, overriddenIn]; done) | decide +kernel
theorem ef1 (m : MethodId) (x0 : Int32) : entryFrame m #[(.int x0)] 1 = mkF m 0 #[.val (.int x0)] [] := by first | (simp [entryFrame, mkF, argsToLocals, Value.category]; done) | rfl
def Q1 (Z : State) (w1 : Addr) (w2 : Addr) (w3 : Addr) (w4 : Addr) (w5 : Addr) (w6 : Addr) (w7 : Addr) (w8 : Addr) (w9 : Addr) (w10 : Addr) (p1 : Int32) (h0 : Heap) (n0 : Nat) (v : Option Value) (h : Heap) (L : List Loc) : Prop :=
  ((p1 = (0 : Int32)) ∧ v = some (.ref w1) ∧ Fr n0 L ∧ h = h0)
  ∨ ((¬ (p1 = (0 : Int32))) ∧ (p1 = (1 : Int32)) ∧ v = some (.ref w7) ∧ Fr n0 L ∧ h = h0)
  ∨ ((¬ (p1 = (0 : Int32))) ∧ (¬ (p1 = (1 : Int32))) ∧ (p1 = (2 : Int32)) ∧ v = some (.ref w6) ∧ Fr n0 L ∧ h = h0)
  ∨ ((¬ (p1 = (0 : Int32))) ∧ (¬ (p1 = (1 : Int32))) ∧ (¬ (p1 = (2 : Int32))) ∧ (p1 = (3 : Int32)) ∧ v = some (.ref w3) ∧ Fr n0 L ∧ h = h0)
  ∨ ((¬ (p1 = (0 : Int32))) ∧ (¬ (p1 = (1 : Int32))) ∧ (¬ (p1 = (2 : Int32))) ∧ (¬ (p1 = (3 : Int32))) ∧ (p1 = (4 : Int32)) ∧ v = some (.ref w9) ∧ Fr n0 L ∧ h = h0)
  ∨ ((¬ (p1 = (0 : Int32))) ∧ (¬ (p1 = (1 : Int32))) ∧ (¬ (p1 = (2 : Int32))) ∧ (¬ (p1 = (3 : Int32))) ∧ (¬ (p1 = (4 : Int32))) ∧ (p1 = (5 : Int32)) ∧ v = some (.ref w10) ∧ Fr n0 L ∧ h = h0)
  ∨ ((¬ (p1 = (0 : Int32))) ∧ (¬ (p1 = (1 : Int32))) ∧ (¬ (p1 = (2 : Int32))) ∧ (¬ (p1 = (3 : Int32))) ∧ (¬ (p1 = (4 : Int32))) ∧ (¬ (p1 = (5 : Int32))) ∧ (p1 = (6 : Int32)) ∧ v = some (.ref w4) ∧ Fr n0 L ∧ h = h0)
  ∨ ((¬ (p1 = (0 : Int32))) ∧ (¬ (p1 = (1 : Int32))) ∧ (¬ (p1 = (2 : Int32))) ∧ (¬ (p1 = (3 : Int32))) ∧ (¬ (p1 = (4 : Int32))) ∧ (¬ (p1 = (5 : Int32))) ∧ (¬ (p1 = (6 : Int32))) ∧ v = some (.ref w5) ∧ Fr n0 L ∧ h = h0)
set_option maxRecDepth 65536 in
set_option maxHeartbeats 40000000 in
theorem rm1 (l : Launch) (Z : State) (a0 : Array Value) (hw : ∀ d ∈ tables_1, d.before a0 Z = true) (w1 : Addr) (w2 : Addr) (w3 : Addr) (w4 : Addr) (w5 : Addr) (w6 : Addr) (w7 : Addr) (w8 : Addr) (w9 : Addr) (w10 : Addr) (G : GW Z w1 w2 w3 w4 w5 w6 w7 w8 w9 w10) (ws : List Jvm.Cond) (p1 : Int32) (h0 : Heap) (n0 : Nat) (O0 : Old Z n0 h0) :
    MetFree l (⟨"com/example/swallow/swallow/engine/automation/FilterIsGeographicPinLaw", "pick", "(I)Lcom/example/swallow/swallow/engine/automation/Filter;"⟩ : MethodName) (head1 (Jvm.Cond.code (⟨"com/example/swallow/swallow/engine/automation/FilterIsGeographicPinLaw", "pick", "(I)Lcom/example/swallow/swallow/engine/automation/Filter;"⟩ : MethodName) method_2_code 1 (some (.object "com/example/swallow/swallow/engine/automation/Filter")) :: ws) ({ frames := 0, cells := 0, slots := 0, locals := 0 } : Room)) (fun a U => a = #[(.int p1)] ∧ Z.Warmed39 U.vm ∧ U.heap = h0) (fun _ _ _ _ _ => True) (fun _ U o U' => ∃ v L, o = .returned v ∧ Q1 Z w1 w2 w3 w4 w5 w6 w7 w8 w9 w10 p1 h0 n0 v U'.heap L ∧ FrameEnd U o U' L ({ frames := 0, cells := 0, slots := 0, locals := 0 } : Room).cells ({ frames := 0, cells := 0, slots := 0, locals := 0 } : Room).slots) := by
  obtain ⟨S_w1, E_w1, S_w2, E_w2, S_w3, E_w3, S_w4, E_w4, S_w5, E_w5, S_w6, E_w6, S_w7, E_w7, S_w8, E_w8, S_w9, E_w9, S_w10, E_w10, F_w1_role, F_w3_role, F_w4_role, F_w5_role, F_w6_role, F_w7_role, F_w9_role, F_w10_role⟩ := id G
  refine MetFree.of_bodySF (plainFor_of_name pn0) hisR ?_
  intro p e s m args below meth c s₁ Bd hml0 hP hK
  obtain ⟨rfl, hZ, hh⟩ := hP
  have hx := Bd.exec
  have hby := Bd.bytes
  have hml : c.maxLocals = 1 := hml0
  have hown : s.vm.findClass "com/example/swallow/swallow/engine/automation/FilterIsGeographicPinLaw" = some m.cls := findClass_of_methodNamed Bd.named
  have hnm := (name_of_methodNamed Bd.named Bd.method).1
  have hret := Bd.returns
  have hlk : meth.locks = false := BodyLoose.notSynchronized Bd
  have X0 : Stand p l e ({ frames := 0, cells := 0, slots := 0, locals := 0 } : Room) s m #[(.int p1)] below meth c s₁ [] 0 0 := Stand.of_body Bd
  have e0 : s₁.heap = h0 := by rw [← hh, Bd.state]; rfl
  have N0 := Fr.nil n0
  have pre0 : ∀ t, Steps p.tables e below (s₁.setTop (mkF m 0 #[.val (.int p1)] [])) t → Steps p.tables e below (s₁.setTop (entryFrame m #[(.int p1)] 1)) t := fun t k => castTop (ef1 m p1) k
  have pre1 : ∀ t, Steps p.tables e below (s₁.setTop (mkF m 1 #[.val (.int p1)] [(.int p1)])) t → Steps p.tables e below (s₁.setTop (entryFrame m #[(.int p1)] 1)) t := fun t k => by
    refine pre0 _ ?_
    show Steps p.tables e below (s₁.setTop (mkF m 0 #[.val (.int p1)] [])) _
    refine XS.iloadN X0.here hx rfl (hb hby d0_0) rfl ?_
    exact k
  by_cases hc2 : p1 = (0 : Int32)
  ·
    have pre3 : ∀ t, Steps p.tables e below (s₁.setTop (mkF m 1 #[.val (.int (0 : Int32))] [(.int (0 : Int32))])) t → Steps p.tables e below (s₁.setTop (entryFrame m #[(.int p1)] 1)) t := fun t k => pre1 t (by rw [hc2]; exact k)
    obtain ⟨T4, X4, e4, st4⟩ := getS2 X0 hx hZ hown (host := "") (Or.inl (hw _ (List.mem_of_getElem? (i := 4) rfl))) Via.refl e0 (S_w1.ext O0.2) (g := (mkF m 4 #[.val (.int (0 : Int32))] [])) rfl (hb hby d0_4)
    obtain ⟨fs, hr, hrun, hended, hW, hsame⟩ := X4.leave (v := some (.ref w1)) (fun h => by rw [hret] at h; cases h)
    refine ⟨_, _, pre3 _ ?_, hrun, hended, _, _, rfl, ?_, ⟨_, rfl⟩, hW, hsame.mono (by decide) (by decide)⟩
    ·
      show Steps p.tables e below (s₁.setTop (mkF m 1 #[.val (.int (0 : Int32))] [(.int (0 : Int32))])) _
      refine XS.ifNo X0.here hx rfl (hb hby d0_1) rfl ((if0 _ _).trans (teq (by decide : (0 : Int32) = (0 : Int32))).2) ?_
      show Steps p.tables e below (s₁.setTop (mkF m 4 #[.val (.int (0 : Int32))] [])) _
      refine st4 _ ?_
      show Steps p.tables e below (T4.setTop (mkF m 7 #[.val (.int (0 : Int32))] [(.ref w1)])) _
      exact retOut X4 hx hret rfl (Or.inr (Or.inr (Or.inr (Or.inr ⟨rfl, rfl, rfl⟩)))) (hb hby d0_7) hr
    ·
      show Q1 Z w1 w2 w3 w4 w5 w6 w7 w8 w9 w10 p1 h0 n0 _ T4.heap _
      rw [e4]
      exact (Or.inl ⟨hc2, rfl, N0, rfl⟩)
  ·
    have pre5 : ∀ t, Steps p.tables e below (s₁.setTop (mkF m 10 #[.val (.int p1)] [(.int (1 : Int32)), (.int p1)])) t → Steps p.tables e below (s₁.setTop (entryFrame m #[(.int p1)] 1)) t := fun t k => by
      refine pre1 _ ?_
      show Steps p.tables e below (s₁.setTop (mkF m 1 #[.val (.int p1)] [(.int p1)])) _
      refine XS.ifYes X0.here hx rfl (pc0 := 1) (pc' := 8) rfl (hb hby d0_1) rfl ((if0 _ _).trans (feq hc2).2) (by decide) (by decide) ?_
      show Steps p.tables e below (s₁.setTop (mkF m 8 #[.val (.int p1)] [])) _
      refine XS.iloadN X0.here hx rfl (hb hby d0_8) rfl ?_
      show Steps p.tables e below (s₁.setTop (mkF m 9 #[.val (.int p1)] [(.int p1)])) _
      refine XS.iconst X0.here hx rfl (hb hby d0_9) ?_
      exact k
    by_cases hc6 : p1 = (1 : Int32)
    ·
      have pre7 : ∀ t, Steps p.tables e below (s₁.setTop (mkF m 10 #[.val (.int (1 : Int32))] [(.int (1 : Int32)), (.int (1 : Int32))])) t → Steps p.tables e below (s₁.setTop (entryFrame m #[(.int p1)] 1)) t := fun t k => pre5 t (by rw [hc6]; exact k)
      obtain ⟨T8, X8, e8, st8⟩ := getS2 X0 hx hZ hown (host := "") (Or.inl (hw _ (List.mem_of_getElem? (i := 30) rfl))) Via.refl e0 (S_w7.ext O0.2) (g := (mkF m 13 #[.val (.int (1 : Int32))] [])) rfl (hb hby d0_13)
      obtain ⟨fs, hr, hrun, hended, hW, hsame⟩ := X8.leave (v := some (.ref w7)) (fun h => by rw [hret] at h; cases h)
      refine ⟨_, _, pre7 _ ?_, hrun, hended, _, _, rfl, ?_, ⟨_, rfl⟩, hW, hsame.mono (by decide) (by decide)⟩
      ·
        show Steps p.tables e below (s₁.setTop (mkF m 10 #[.val (.int (1 : Int32))] [(.int (1 : Int32)), (.int (1 : Int32))])) _
        refine XS.icmpNo X0.here hx rfl (hb hby d0_10) rfl (teq (by decide : (1 : Int32) = (1 : Int32))).2 ?_
        show Steps p.tables e below (s₁.setTop (mkF m 13 #[.val (.int (1 : Int32))] [])) _
        refine st8 _ ?_
        show Steps p.tables e below (T8.setTop (mkF m 16 #[.val (.int (1 : Int32))] [(.ref w7)])) _
        exact retOut X8 hx hret rfl (Or.inr (Or.inr (Or.inr (Or.inr ⟨rfl, rfl, rfl⟩)))) (hb hby d0_16) hr
      ·
        show Q1 Z w1 w2 w3 w4 w5 w6 w7 w8 w9 w10 p1 h0 n0 _ T8.heap _
        rw [e8]
        exact (Or.inr (Or.inl ⟨hc2, hc6, rfl, N0, rfl⟩))
    ·
      have pre9 : ∀ t, Steps p.tables e below (s₁.setTop (mkF m 19 #[.val (.int p1)] [(.int (2 : Int32)), (.int p1)])) t → Steps p.tables e below (s₁.setTop (entryFrame m #[(.int p1)] 1)) t := fun t k => by
        refine pre5 _ ?_
        show Steps p.tables e below (s₁.setTop (mkF m 10 #[.val (.int p1)] [(.int (1 : Int32)), (.int p1)])) _
        refine XS.icmpYes X0.here hx rfl (pc0 := 10) (pc' := 17) rfl (hb hby d0_10) rfl (feq hc6).2 (by decide) (by decide) ?_
        show Steps p.tables e below (s₁.setTop (mkF m 17 #[.val (.int p1)] [])) _
        refine XS.iloadN X0.here hx rfl (hb hby d0_17) rfl ?_
        show Steps p.tables e below (s₁.setTop (mkF m 18 #[.val (.int p1)] [(.int p1)])) _
        refine XS.iconst X0.here hx rfl (hb hby d0_18) ?_
        exact k
      by_cases hc10 : p1 = (2 : Int32)
      ·
        have pre11 : ∀ t, Steps p.tables e below (s₁.setTop (mkF m 19 #[.val (.int (2 : Int32))] [(.int (2 : Int32)), (.int (2 : Int32))])) t → Steps p.tables e below (s₁.setTop (entryFrame m #[(.int p1)] 1)) t := fun t k => pre9 t (by rw [hc10]; exact k)
        obtain ⟨T12, X12, e12, st12⟩ := getS2 X0 hx hZ hown (host := "") (Or.inl (hw _ (List.mem_of_getElem? (i := 28) rfl))) Via.refl e0 (S_w6.ext O0.2) (g := (mkF m 22 #[.val (.int (2 : Int32))] [])) rfl (hb hby d0_22)
        obtain ⟨fs, hr, hrun, hended, hW, hsame⟩ := X12.leave (v := some (.ref w6)) (fun h => by rw [hret] at h; cases h)
        refine ⟨_, _, pre11 _ ?_, hrun, hended, _, _, rfl, ?_, ⟨_, rfl⟩, hW, hsame.mono (by decide) (by decide)⟩
        ·
          show Steps p.tables e below (s₁.setTop (mkF m 19 #[.val (.int (2 : Int32))] [(.int (2 : Int32)), (.int (2 : Int32))])) _
          refine XS.icmpNo X0.here hx rfl (hb hby d0_19) rfl (teq (by decide : (2 : Int32) = (2 : Int32))).2 ?_
          show Steps p.tables e below (s₁.setTop (mkF m 22 #[.val (.int (2 : Int32))] [])) _
          refine st12 _ ?_
          show Steps p.tables e below (T12.setTop (mkF m 25 #[.val (.int (2 : Int32))] [(.ref w6)])) _
          exact retOut X12 hx hret rfl (Or.inr (Or.inr (Or.inr (Or.inr ⟨rfl, rfl, rfl⟩)))) (hb hby d0_25) hr
        ·
          show Q1 Z w1 w2 w3 w4 w5 w6 w7 w8 w9 w10 p1 h0 n0 _ T12.heap _
          rw [e12]
          exact (Or.inr (Or.inr (Or.inl ⟨hc2, hc6, hc10, rfl, N0, rfl⟩)))
      ·
        have pre13 : ∀ t, Steps p.tables e below (s₁.setTop (mkF m 28 #[.val (.int p1)] [(.int (3 : Int32)), (.int p1)])) t → Steps p.tables e below (s₁.setTop (entryFrame m #[(.int p1)] 1)) t := fun t k => by
          refine pre9 _ ?_
          show Steps p.tables e below (s₁.setTop (mkF m 19 #[.val (.int p1)] [(.int (2 : Int32)), (.int p1)])) _
          refine XS.icmpYes X0.here hx rfl (pc0 := 19) (pc' := 26) rfl (hb hby d0_19) rfl (feq hc10).2 (by decide) (by decide) ?_
          show Steps p.tables e below (s₁.setTop (mkF m 26 #[.val (.int p1)] [])) _
          refine XS.iloadN X0.here hx rfl (hb hby d0_26) rfl ?_
          show Steps p.tables e below (s₁.setTop (mkF m 27 #[.val (.int p1)] [(.int p1)])) _
          refine XS.iconst X0.here hx rfl (hb hby d0_27) ?_
          exact k
        by_cases hc14 : p1 = (3 : Int32)
        ·
          have pre15 : ∀ t, Steps p.tables e below (s₁.setTop (mkF m 28 #[.val (.int (3 : Int32))] [(.int (3 : Int32)), (.int (3 : Int32))])) t → Steps p.tables e below (s₁.setTop (entryFrame m #[(.int p1)] 1)) t := fun t k => pre13 t (by rw [hc14]; exact k)
          obtain ⟨T16, X16, e16, st16⟩ := getS2 X0 hx hZ hown (host := "") (Or.inl (hw _ (List.mem_of_getElem? (i := 22) rfl))) Via.refl e0 (S_w3.ext O0.2) (g := (mkF m 31 #[.val (.int (3 : Int32))] [])) rfl (hb hby d0_31)
          obtain ⟨fs, hr, hrun, hended, hW, hsame⟩ := X16.leave (v := some (.ref w3)) (fun h => by rw [hret] at h; cases h)
          refine ⟨_, _, pre15 _ ?_, hrun, hended, _, _, rfl, ?_, ⟨_, rfl⟩, hW, hsame.mono (by decide) (by decide)⟩
          ·
            show Steps p.tables e below (s₁.setTop (mkF m 28 #[.val (.int (3 : Int32))] [(.int (3 : Int32)), (.int (3 : Int32))])) _
            refine XS.icmpNo X0.here hx rfl (hb hby d0_28) rfl (teq (by decide : (3 : Int32) = (3 : Int32))).2 ?_
            show Steps p.tables e below (s₁.setTop (mkF m 31 #[.val (.int (3 : Int32))] [])) _
            refine st16 _ ?_
            show Steps p.tables e below (T16.setTop (mkF m 34 #[.val (.int (3 : Int32))] [(.ref w3)])) _
            exact retOut X16 hx hret rfl (Or.inr (Or.inr (Or.inr (Or.inr ⟨rfl, rfl, rfl⟩)))) (hb hby d0_34) hr
          ·
            show Q1 Z w1 w2 w3 w4 w5 w6 w7 w8 w9 w10 p1 h0 n0 _ T16.heap _
            rw [e16]
            exact (Or.inr (Or.inr (Or.inr (Or.inl ⟨hc2, hc6, hc10, hc14, rfl, N0, rfl⟩))))
        ·
          have pre17 : ∀ t, Steps p.tables e below (s₁.setTop (mkF m 37 #[.val (.int p1)] [(.int (4 : Int32)), (.int p1)])) t → Steps p.tables e below (s₁.setTop (entryFrame m #[(.int p1)] 1)) t := fun t k => by
            refine pre13 _ ?_
            show Steps p.tables e below (s₁.setTop (mkF m 28 #[.val (.int p1)] [(.int (3 : Int32)), (.int p1)])) _
            refine XS.icmpYes X0.here hx rfl (pc0 := 28) (pc' := 35) rfl (hb hby d0_28) rfl (feq hc14).2 (by decide) (by decide) ?_
            show Steps p.tables e below (s₁.setTop (mkF m 35 #[.val (.int p1)] [])) _
            refine XS.iloadN X0.here hx rfl (hb hby d0_35) rfl ?_
            show Steps p.tables e below (s₁.setTop (mkF m 36 #[.val (.int p1)] [(.int p1)])) _
            refine XS.iconst X0.here hx rfl (hb hby d0_36) ?_
            exact k
          by_cases hc18 : p1 = (4 : Int32)
          ·
            have pre19 : ∀ t, Steps p.tables e below (s₁.setTop (mkF m 37 #[.val (.int (4 : Int32))] [(.int (4 : Int32)), (.int (4 : Int32))])) t → Steps p.tables e below (s₁.setTop (entryFrame m #[(.int p1)] 1)) t := fun t k => pre17 t (by rw [hc18]; exact k)
            obtain ⟨T20, X20, e20, st20⟩ := getS2 X0 hx hZ hown (host := "") (Or.inl (hw _ (List.mem_of_getElem? (i := 34) rfl))) Via.refl e0 (S_w9.ext O0.2) (g := (mkF m 40 #[.val (.int (4 : Int32))] [])) rfl (hb hby d0_40)
            obtain ⟨fs, hr, hrun, hended, hW, hsame⟩ := X20.leave (v := some (.ref w9)) (fun h => by rw [hret] at h; cases h)
            refine ⟨_, _, pre19 _ ?_, hrun, hended, _, _, rfl, ?_, ⟨_, rfl⟩, hW, hsame.mono (by decide) (by decide)⟩
            ·
              show Steps p.tables e below (s₁.setTop (mkF m 37 #[.val (.int (4 : Int32))] [(.int (4 : Int32)), (.int (4 : Int32))])) _
              refine XS.icmpNo X0.here hx rfl (hb hby d0_37) rfl (teq (by decide : (4 : Int32) = (4 : Int32))).2 ?_
              show Steps p.tables e below (s₁.setTop (mkF m 40 #[.val (.int (4 : Int32))] [])) _
              refine st20 _ ?_
              show Steps p.tables e below (T20.setTop (mkF m 43 #[.val (.int (4 : Int32))] [(.ref w9)])) _
              exact retOut X20 hx hret rfl (Or.inr (Or.inr (Or.inr (Or.inr ⟨rfl, rfl, rfl⟩)))) (hb hby d0_43) hr
            ·
              show Q1 Z w1 w2 w3 w4 w5 w6 w7 w8 w9 w10 p1 h0 n0 _ T20.heap _
              rw [e20]
              exact (Or.inr (Or.inr (Or.inr (Or.inr (Or.inl ⟨hc2, hc6, hc10, hc14, hc18, rfl, N0, rfl⟩)))))
          ·
            have pre21 : ∀ t, Steps p.tables e below (s₁.setTop (mkF m 46 #[.val (.int p1)] [(.int (5 : Int32)), (.int p1)])) t → Steps p.tables e below (s₁.setTop (entryFrame m #[(.int p1)] 1)) t := fun t k => by
              refine pre17 _ ?_
              show Steps p.tables e below (s₁.setTop (mkF m 37 #[.val (.int p1)] [(.int (4 : Int32)), (.int p1)])) _
              refine XS.icmpYes X0.here hx rfl (pc0 := 37) (pc' := 44) rfl (hb hby d0_37) rfl (feq hc18).2 (by decide) (by decide) ?_
              show Steps p.tables e below (s₁.setTop (mkF m 44 #[.val (.int p1)] [])) _
              refine XS.iloadN X0.here hx rfl (hb hby d0_44) rfl ?_
              show Steps p.tables e below (s₁.setTop (mkF m 45 #[.val (.int p1)] [(.int p1)])) _
              refine XS.iconst X0.here hx rfl (hb hby d0_45) ?_
              exact k
            by_cases hc22 : p1 = (5 : Int32)
            ·
              have pre23 : ∀ t, Steps p.tables e below (s₁.setTop (mkF m 46 #[.val (.int (5 : Int32))] [(.int (5 : Int32)), (.int (5 : Int32))])) t → Steps p.tables e below (s₁.setTop (entryFrame m #[(.int p1)] 1)) t := fun t k => pre21 t (by rw [hc22]; exact k)
              obtain ⟨T24, X24, e24, st24⟩ := getS2 X0 hx hZ hown (host := "") (Or.inl (hw _ (List.mem_of_getElem? (i := 36) rfl))) Via.refl e0 (S_w10.ext O0.2) (g := (mkF m 49 #[.val (.int (5 : Int32))] [])) rfl (hb hby d0_49)
              obtain ⟨fs, hr, hrun, hended, hW, hsame⟩ := X24.leave (v := some (.ref w10)) (fun h => by rw [hret] at h; cases h)
              refine ⟨_, _, pre23 _ ?_, hrun, hended, _, _, rfl, ?_, ⟨_, rfl⟩, hW, hsame.mono (by decide) (by decide)⟩
              ·
                show Steps p.tables e below (s₁.setTop (mkF m 46 #[.val (.int (5 : Int32))] [(.int (5 : Int32)), (.int (5 : Int32))])) _
                refine XS.icmpNo X0.here hx rfl (hb hby d0_46) rfl (teq (by decide : (5 : Int32) = (5 : Int32))).2 ?_
                show Steps p.tables e below (s₁.setTop (mkF m 49 #[.val (.int (5 : Int32))] [])) _
                refine st24 _ ?_
                show Steps p.tables e below (T24.setTop (mkF m 52 #[.val (.int (5 : Int32))] [(.ref w10)])) _
                exact retOut X24 hx hret rfl (Or.inr (Or.inr (Or.inr (Or.inr ⟨rfl, rfl, rfl⟩)))) (hb hby d0_52) hr
              ·
                show Q1 Z w1 w2 w3 w4 w5 w6 w7 w8 w9 w10 p1 h0 n0 _ T24.heap _
                rw [e24]
                exact (Or.inr (Or.inr (Or.inr (Or.inr (Or.inr (Or.inl ⟨hc2, hc6, hc10, hc14, hc18, hc22, rfl, N0, rfl⟩))))))
            ·
              have pre25 : ∀ t, Steps p.tables e below (s₁.setTop (mkF m 56 #[.val (.int p1)] [(.int (6 : Int32)), (.int p1)])) t → Steps p.tables e below (s₁.setTop (entryFrame m #[(.int p1)] 1)) t := fun t k => by
                refine pre21 _ ?_
                show Steps p.tables e below (s₁.setTop (mkF m 46 #[.val (.int p1)] [(.int (5 : Int32)), (.int p1)])) _
                refine XS.icmpYes X0.here hx rfl (pc0 := 46) (pc' := 53) rfl (hb hby d0_46) rfl (feq hc22).2 (by decide) (by decide) ?_
                show Steps p.tables e below (s₁.setTop (mkF m 53 #[.val (.int p1)] [])) _
                refine XS.iloadN X0.here hx rfl (hb hby d0_53) rfl ?_
                show Steps p.tables e below (s₁.setTop (mkF m 54 #[.val (.int p1)] [(.int p1)])) _
                refine XS.bipush X0.here hx rfl (hb hby d0_54) ?_
                exact k
              by_cases hc26 : p1 = (6 : Int32)
              ·
                have pre27 : ∀ t, Steps p.tables e below (s₁.setTop (mkF m 56 #[.val (.int (6 : Int32))] [(.int (6 : Int32)), (.int (6 : Int32))])) t → Steps p.tables e below (s₁.setTop (entryFrame m #[(.int p1)] 1)) t := fun t k => pre25 t (by rw [hc26]; exact k)
                obtain ⟨T28, X28, e28, st28⟩ := getS2 X0 hx hZ hown (host := "") (Or.inl (hw _ (List.mem_of_getElem? (i := 24) rfl))) Via.refl e0 (S_w4.ext O0.2) (g := (mkF m 59 #[.val (.int (6 : Int32))] [])) rfl (hb hby d0_59)
                obtain ⟨fs, hr, hrun, hended, hW, hsame⟩ := X28.leave (v := some (.ref w4)) (fun h => by rw [hret] at h; cases h)
                refine ⟨_, _, pre27 _ ?_, hrun, hended, _, _, rfl, ?_, ⟨_, rfl⟩, hW, hsame.mono (by decide) (by decide)⟩
                ·
                  show Steps p.tables e below (s₁.setTop (mkF m 56 #[.val (.int (6 : Int32))] [(.int (6 : Int32)), (.int (6 : Int32))])) _
                  refine XS.icmpNo X0.here hx rfl (hb hby d0_56) rfl (teq (by decide : (6 : Int32) = (6 : Int32))).2 ?_
                  show Steps p.tables e below (s₁.setTop (mkF m 59 #[.val (.int (6 : Int32))] [])) _
                  refine st28 _ ?_
                  show Steps p.tables e below (T28.setTop (mkF m 62 #[.val (.int (6 : Int32))] [(.ref w4)])) _
                  exact retOut X28 hx hret rfl (Or.inr (Or.inr (Or.inr (Or.inr ⟨rfl, rfl, rfl⟩)))) (hb hby d0_62) hr
                ·
                  show Q1 Z w1 w2 w3 w4 w5 w6 w7 w8 w9 w10 p1 h0 n0 _ T28.heap _
                  rw [e28]
                  exact (Or.inr (Or.inr (Or.inr (Or.inr (Or.inr (Or.inr (Or.inl ⟨hc2, hc6, hc10, hc14, hc18, hc22, hc26, rfl, N0, rfl⟩)))))))
              ·
                obtain ⟨T29, X29, e29, st29⟩ := getS2 X0 hx hZ hown (host := "") (Or.inl (hw _ (List.mem_of_getElem? (i := 26) rfl))) Via.refl e0 (S_w5.ext O0.2) (g := (mkF m 63 #[.val (.int p1)] [])) rfl (hb hby d0_63)
                obtain ⟨fs, hr, hrun, hended, hW, hsame⟩ := X29.leave (v := some (.ref w5)) (fun h => by rw [hret] at h; cases h)
                refine ⟨_, _, pre25 _ ?_, hrun, hended, _, _, rfl, ?_, ⟨_, rfl⟩, hW, hsame.mono (by decide) (by decide)⟩
                ·
                  show Steps p.tables e below (s₁.setTop (mkF m 56 #[.val (.int p1)] [(.int (6 : Int32)), (.int p1)])) _
                  refine XS.icmpYes X0.here hx rfl (pc0 := 56) (pc' := 63) rfl (hb hby d0_56) rfl (feq hc26).2 (by decide) (by decide) ?_
                  show Steps p.tables e below (s₁.setTop (mkF m 63 #[.val (.int p1)] [])) _
                  refine st29 _ ?_
                  show Steps p.tables e below (T29.setTop (mkF m 66 #[.val (.int p1)] [(.ref w5)])) _
                  exact retOut X29 hx hret rfl (Or.inr (Or.inr (Or.inr (Or.inr ⟨rfl, rfl, rfl⟩)))) (hb hby d0_66) hr
                ·
                  show Q1 Z w1 w2 w3 w4 w5 w6 w7 w8 w9 w10 p1 h0 n0 _ T29.heap _
                  rw [e29]
                  exact (Or.inr (Or.inr (Or.inr (Or.inr (Or.inr (Or.inr (Or.inr ⟨hc2, hc6, hc10, hc14, hc18, hc22, hc26, rfl, N0, rfl⟩)))))))
theorem pd0 : parseMethodDescriptor "(I)Lcom/example/swallow/swallow/engine/automation/Filter;" = some ⟨[.int], some (.object "com/example/swallow/swallow/engine/automation/Filter")⟩ := by decide +kernel
theorem d1_0 : decode prog_1_method_9_code 0 = .ok (.aload_n 0, 1) := by decide +kernel
theorem d1_1 : decode prog_1_method_9_code 1 = .ok (.getfield 68, 3) := by decide +kernel
theorem d1_4 : decode prog_1_method_9_code 4 = .ok (.ifnull 7, 3) := by decide +kernel
theorem d1_7 : decode prog_1_method_9_code 7 = .ok (.iconst 1, 1) := by decide +kernel
theorem d1_8 : decode prog_1_method_9_code 8 = .ok (.goto 4, 3) := by decide +kernel
theorem d1_12 : decode prog_1_method_9_code 12 = .ok (.ireturn, 1) := by decide +kernel
theorem pn1 : plainName "com/example/swallow/swallow/engine/automation/Filter" = true := by first | (simp [plainName, overriddenIn]; done) | decide +kernel
theorem ef2 (m : MethodId) (x0 : Addr) : entryFrame m #[(.ref x0)] 1 = mkF m 0 #[.val (.ref x0)] [] := by first | (simp [entryFrame, mkF, argsToLocals, Value.category]; done) | rfl
def Q2 (Z : State) (w1 : Addr) (w2 : Addr) (w3 : Addr) (w4 : Addr) (w5 : Addr) (w6 : Addr) (w7 : Addr) (w8 : Addr) (w9 : Addr) (w10 : Addr) (h0 : Heap) (n0 : Nat) (v : Option Value) (h : Heap) (L : List Loc) : Prop :=
  (v = some (.int (1 : Int32)) ∧ Fr n0 L ∧ h = h0)
set_option maxRecDepth 65536 in
set_option maxHeartbeats 40000000 in
theorem rm2 (l : Launch) (Z : State) (a0 : Array Value) (hw : ∀ d ∈ tables_1, d.before a0 Z = true) (w1 : Addr) (w2 : Addr) (w3 : Addr) (w4 : Addr) (w5 : Addr) (w6 : Addr) (w7 : Addr) (w8 : Addr) (w9 : Addr) (w10 : Addr) (G : GW Z w1 w2 w3 w4 w5 w6 w7 w8 w9 w10) (ws : List Jvm.Cond) (h0 : Heap) (n0 : Nat) (O0 : Old Z n0 h0) :
    MetFree l (⟨"com/example/swallow/swallow/engine/automation/Filter", "isGeographic", "()Z"⟩ : MethodName) (head1 (Jvm.Cond.code (⟨"com/example/swallow/swallow/engine/automation/Filter", "isGeographic", "()Z"⟩ : MethodName) prog_1_method_9_code 1 (some .boolean) :: ws) ({ frames := 0, cells := 0, slots := 0, locals := 0 } : Room)) (fun a U => a = #[(.ref w1)] ∧ Z.Warmed39 U.vm ∧ U.heap = h0) (fun _ _ _ _ _ => True) (fun _ U o U' => ∃ v L, o = .returned v ∧ Q2 Z w1 w2 w3 w4 w5 w6 w7 w8 w9 w10 h0 n0 v U'.heap L ∧ FrameEnd U o U' L ({ frames := 0, cells := 0, slots := 0, locals := 0 } : Room).cells ({ frames := 0, cells := 0, slots := 0, locals := 0 } : Room).slots) := by
  obtain ⟨S_w1, E_w1, S_w2, E_w2, S_w3, E_w3, S_w4, E_w4, S_w5, E_w5, S_w6, E_w6, S_w7, E_w7, S_w8, E_w8, S_w9, E_w9, S_w10, E_w10, F_w1_role, F_w3_role, F_w4_role, F_w5_role, F_w6_role, F_w7_role, F_w9_role, F_w10_role⟩ := id G
  refine MetFree.of_bodySF (plainFor_of_name pn1) hisR ?_
  intro p e s m args below meth c s₁ Bd hml0 hP hK
  obtain ⟨rfl, hZ, hh⟩ := hP
  have hx := Bd.exec
  have hby := Bd.bytes
  have hml : c.maxLocals = 1 := hml0
  have hown : s.vm.findClass "com/example/swallow/swallow/engine/automation/Filter" = some m.cls := findClass_of_methodNamed Bd.named
  have hnm := (name_of_methodNamed Bd.named Bd.method).1
  have hret := Bd.returns
  have hlk : meth.locks = false := BodyLoose.notSynchronized Bd
  have X0 : Stand p l e ({ frames := 0, cells := 0, slots := 0, locals := 0 } : Room) s m #[(.ref w1)] below meth c s₁ [] 0 0 := Stand.of_body Bd
  have e0 : s₁.heap = h0 := by rw [← hh, Bd.state]; rfl
  have N0 := Fr.nil n0
  have pre0 : ∀ t, Steps p.tables e below (s₁.setTop (mkF m 0 #[.val (.ref w1)] [])) t → Steps p.tables e below (s₁.setTop (entryFrame m #[(.ref w1)] 1)) t := fun t k => castTop (ef2 m w1) k
  obtain ⟨T1, X1, e1, st1⟩ := getF X0 hx hZ hown (host := "") (Or.inl (hw _ (List.mem_of_getElem? (i := 12) rfl))) Via.refl e0 (F_w1_role.ext O0.2) (g := (mkF m 1 #[.val (.ref w1)] [(.ref w1)])) rfl rfl (hb hby d1_1)
  obtain ⟨fs, hr, hrun, hended, hW, hsame⟩ := X1.leave (v := some (.int (1 : Int32))) (fun h => by rw [hret] at h; cases h)
  refine ⟨_, _, pre0 _ ?_, hrun, hended, _, _, rfl, ?_, ⟨_, rfl⟩, hW, hsame.mono (by decide) (by decide)⟩
  ·
    show Steps p.tables e below (s₁.setTop (mkF m 0 #[.val (.ref w1)] [])) _
    refine XS.aloadN X0.here hx rfl (hb hby d1_0) rfl rfl ?_
    show Steps p.tables e below (s₁.setTop (mkF m 1 #[.val (.ref w1)] [(.ref w1)])) _
    refine st1 _ ?_
    show Steps p.tables e below (T1.setTop (mkF m 4 #[.val (.ref w1)] [(.ref w2)])) _
    refine XS.ifnullNo X1.here hx rfl (hb hby d1_4) rfl ?_
    show Steps p.tables e below (T1.setTop (mkF m 7 #[.val (.ref w1)] [])) _
    refine XS.iconst X1.here hx rfl (hb hby d1_7) ?_
    show Steps p.tables e below (T1.setTop (mkF m 8 #[.val (.ref w1)] [(.int (1 : Int32))])) _
    refine XS.goto X1.here hx rfl (pc0 := 8) (pc' := 12) rfl (hb hby d1_8) (by decide) (by decide) ?_
    show Steps p.tables e below (T1.setTop (mkF m 12 #[.val (.ref w1)] [(.int (1 : Int32))])) _
    exact retN X1 hx (t := .boolean) hret (by simp) (hb hby d1_12) hr
  ·
    show Q2 Z w1 w2 w3 w4 w5 w6 w7 w8 w9 w10 h0 n0 _ T1.heap _
    rw [e1]
    exact ⟨rfl, N0, rfl⟩
theorem pd1 : parseMethodDescriptor "()Z" = some ⟨[], some .boolean⟩ := by decide +kernel
theorem d2_0 : decode prog_1_method_10_code 0 = .ok (.aload_n 0, 1) := by decide +kernel
theorem d2_1 : decode prog_1_method_10_code 1 = .ok (.getfield 68, 3) := by decide +kernel
theorem d2_4 : decode prog_1_method_10_code 4 = .ok (.areturn, 1) := by decide +kernel
theorem ef3 (m : MethodId) (x0 : Addr) : entryFrame m #[(.ref x0)] 1 = mkF m 0 #[.val (.ref x0)] [] := by first | (simp [entryFrame, mkF, argsToLocals, Value.category]; done) | rfl
def Q3 (Z : State) (w1 : Addr) (w2 : Addr) (w3 : Addr) (w4 : Addr) (w5 : Addr) (w6 : Addr) (w7 : Addr) (w8 : Addr) (w9 : Addr) (w10 : Addr) (h0 : Heap) (n0 : Nat) (v : Option Value) (h : Heap) (L : List Loc) : Prop :=
  (v = some (.ref w2) ∧ Fr n0 L ∧ h = h0)
set_option maxRecDepth 65536 in
set_option maxHeartbeats 40000000 in
theorem rm3 (l : Launch) (Z : State) (a0 : Array Value) (hw : ∀ d ∈ tables_1, d.before a0 Z = true) (w1 : Addr) (w2 : Addr) (w3 : Addr) (w4 : Addr) (w5 : Addr) (w6 : Addr) (w7 : Addr) (w8 : Addr) (w9 : Addr) (w10 : Addr) (G : GW Z w1 w2 w3 w4 w5 w6 w7 w8 w9 w10) (ws : List Jvm.Cond) (h0 : Heap) (n0 : Nat) (O0 : Old Z n0 h0) :
    MetFree l (⟨"com/example/swallow/swallow/engine/automation/Filter", "getRole", "()Lcom/example/swallow/swallow/engine/automation/PlaceRole;"⟩ : MethodName) (head1 (Jvm.Cond.code (⟨"com/example/swallow/swallow/engine/automation/Filter", "getRole", "()Lcom/example/swallow/swallow/engine/automation/PlaceRole;"⟩ : MethodName) prog_1_method_10_code 1 (some (.object "com/example/swallow/swallow/engine/automation/PlaceRole")) :: ws) ({ frames := 0, cells := 0, slots := 0, locals := 0 } : Room)) (fun a U => a = #[(.ref w1)] ∧ Z.Warmed39 U.vm ∧ U.heap = h0) (fun _ _ _ _ _ => True) (fun _ U o U' => ∃ v L, o = .returned v ∧ Q3 Z w1 w2 w3 w4 w5 w6 w7 w8 w9 w10 h0 n0 v U'.heap L ∧ FrameEnd U o U' L ({ frames := 0, cells := 0, slots := 0, locals := 0 } : Room).cells ({ frames := 0, cells := 0, slots := 0, locals := 0 } : Room).slots) := by
  obtain ⟨S_w1, E_w1, S_w2, E_w2, S_w3, E_w3, S_w4, E_w4, S_w5, E_w5, S_w6, E_w6, S_w7, E_w7, S_w8, E_w8, S_w9, E_w9, S_w10, E_w10, F_w1_role, F_w3_role, F_w4_role, F_w5_role, F_w6_role, F_w7_role, F_w9_role, F_w10_role⟩ := id G
  refine MetFree.of_bodySF (plainFor_of_name pn1) hisR ?_
  intro p e s m args below meth c s₁ Bd hml0 hP hK
  obtain ⟨rfl, hZ, hh⟩ := hP
  have hx := Bd.exec
  have hby := Bd.bytes
  have hml : c.maxLocals = 1 := hml0
  have hown : s.vm.findClass "com/example/swallow/swallow/engine/automation/Filter" = some m.cls := findClass_of_methodNamed Bd.named
  have hnm := (name_of_methodNamed Bd.named Bd.method).1
  have hret := Bd.returns
  have hlk : meth.locks = false := BodyLoose.notSynchronized Bd
  have X0 : Stand p l e ({ frames := 0, cells := 0, slots := 0, locals := 0 } : Room) s m #[(.ref w1)] below meth c s₁ [] 0 0 := Stand.of_body Bd
  have e0 : s₁.heap = h0 := by rw [← hh, Bd.state]; rfl
  have N0 := Fr.nil n0
  have pre0 : ∀ t, Steps p.tables e below (s₁.setTop (mkF m 0 #[.val (.ref w1)] [])) t → Steps p.tables e below (s₁.setTop (entryFrame m #[(.ref w1)] 1)) t := fun t k => castTop (ef3 m w1) k
  obtain ⟨T1, X1, e1, st1⟩ := getF X0 hx hZ hown (host := "") (Or.inl (hw _ (List.mem_of_getElem? (i := 12) rfl))) Via.refl e0 (F_w1_role.ext O0.2) (g := (mkF m 1 #[.val (.ref w1)] [(.ref w1)])) rfl rfl (hb hby d2_1)
  obtain ⟨fs, hr, hrun, hended, hW, hsame⟩ := X1.leave (v := some (.ref w2)) (fun h => by rw [hret] at h; cases h)
  refine ⟨_, _, pre0 _ ?_, hrun, hended, _, _, rfl, ?_, ⟨_, rfl⟩, hW, hsame.mono (by decide) (by decide)⟩
  ·
    show Steps p.tables e below (s₁.setTop (mkF m 0 #[.val (.ref w1)] [])) _
    refine XS.aloadN X0.here hx rfl (hb hby d2_0) rfl rfl ?_
    show Steps p.tables e below (s₁.setTop (mkF m 1 #[.val (.ref w1)] [(.ref w1)])) _
    refine st1 _ ?_
    show Steps p.tables e below (T1.setTop (mkF m 4 #[.val (.ref w1)] [(.ref w2)])) _
    exact retOut X1 hx hret rfl (Or.inr (Or.inr (Or.inr (Or.inr ⟨rfl, rfl, rfl⟩)))) (hb hby d2_4) hr
  ·
    show Q3 Z w1 w2 w3 w4 w5 w6 w7 w8 w9 w10 h0 n0 _ T1.heap _
    rw [e1]
    exact ⟨rfl, N0, rfl⟩
theorem pd2 : parseMethodDescriptor "()Lcom/example/swallow/swallow/engine/automation/PlaceRole;" = some ⟨[], some (.object "com/example/swallow/swallow/engine/automation/PlaceRole")⟩ := by decide +kernel
theorem ef4 (m : MethodId) (x0 : Addr) : entryFrame m #[(.ref x0)] 1 = mkF m 0 #[.val (.ref x0)] [] := by first | (simp [entryFrame, mkF, argsToLocals, Value.category]; done) | rfl
def Q4 (Z : State) (w1 : Addr) (w2 : Addr) (w3 : Addr) (w4 : Addr) (w5 : Addr) (w6 : Addr) (w7 : Addr) (w8 : Addr) (w9 : Addr) (w10 : Addr) (h0 : Heap) (n0 : Nat) (v : Option Value) (h : Heap) (L : List Loc) : Prop :=
  (v = some (.int (1 : Int32)) ∧ Fr n0 L ∧ h = h0)
set_option maxRecDepth 65536 in
set_option maxHeartbeats 40000000 in
theorem rm4 (l : Launch) (Z : State) (a0 : Array Value) (hw : ∀ d ∈ tables_1, d.before a0 Z = true) (w1 : Addr) (w2 : Addr) (w3 : Addr) (w4 : Addr) (w5 : Addr) (w6 : Addr) (w7 : Addr) (w8 : Addr) (w9 : Addr) (w10 : Addr) (G : GW Z w1 w2 w3 w4 w5 w6 w7 w8 w9 w10) (ws : List Jvm.Cond) (h0 : Heap) (n0 : Nat) (O0 : Old Z n0 h0) :
    MetFree l (⟨"com/example/swallow/swallow/engine/automation/Filter", "isGeographic", "()Z"⟩ : MethodName) (head1 (Jvm.Cond.code (⟨"com/example/swallow/swallow/engine/automation/Filter", "isGeographic", "()Z"⟩ : MethodName) prog_1_method_9_code 1 (some .boolean) :: ws) ({ frames := 0, cells := 0, slots := 0, locals := 0 } : Room)) (fun a U => a = #[(.ref w7)] ∧ Z.Warmed39 U.vm ∧ U.heap = h0) (fun _ _ _ _ _ => True) (fun _ U o U' => ∃ v L, o = .returned v ∧ Q4 Z w1 w2 w3 w4 w5 w6 w7 w8 w9 w10 h0 n0 v U'.heap L ∧ FrameEnd U o U' L ({ frames := 0, cells := 0, slots := 0, locals := 0 } : Room).cells ({ frames := 0, cells := 0, slots := 0, locals := 0 } : Room).slots) := by
  obtain ⟨S_w1, E_w1, S_w2, E_w2, S_w3, E_w3, S_w4, E_w4, S_w5, E_w5, S_w6, E_w6, S_w7, E_w7, S_w8, E_w8, S_w9, E_w9, S_w10, E_w10, F_w1_role, F_w3_role, F_w4_role, F_w5_role, F_w6_role, F_w7_role, F_w9_role, F_w10_role⟩ := id G
  refine MetFree.of_bodySF (plainFor_of_name pn1) hisR ?_
  intro p e s m args below meth c s₁ Bd hml0 hP hK
  obtain ⟨rfl, hZ, hh⟩ := hP
  have hx := Bd.exec
  have hby := Bd.bytes
  have hml : c.maxLocals = 1 := hml0
  have hown : s.vm.findClass "com/example/swallow/swallow/engine/automation/Filter" = some m.cls := findClass_of_methodNamed Bd.named
  have hnm := (name_of_methodNamed Bd.named Bd.method).1
  have hret := Bd.returns
  have hlk : meth.locks = false := BodyLoose.notSynchronized Bd
  have X0 : Stand p l e ({ frames := 0, cells := 0, slots := 0, locals := 0 } : Room) s m #[(.ref w7)] below meth c s₁ [] 0 0 := Stand.of_body Bd
  have e0 : s₁.heap = h0 := by rw [← hh, Bd.state]; rfl
  have N0 := Fr.nil n0
  have pre0 : ∀ t, Steps p.tables e below (s₁.setTop (mkF m 0 #[.val (.ref w7)] [])) t → Steps p.tables e below (s₁.setTop (entryFrame m #[(.ref w7)] 1)) t := fun t k => castTop (ef4 m w7) k
  obtain ⟨T1, X1, e1, st1⟩ := getF X0 hx hZ hown (host := "") (Or.inl (hw _ (List.mem_of_getElem? (i := 12) rfl))) Via.refl e0 (F_w7_role.ext O0.2) (g := (mkF m 1 #[.val (.ref w7)] [(.ref w7)])) rfl rfl (hb hby d1_1)
  obtain ⟨fs, hr, hrun, hended, hW, hsame⟩ := X1.leave (v := some (.int (1 : Int32))) (fun h => by rw [hret] at h; cases h)
  refine ⟨_, _, pre0 _ ?_, hrun, hended, _, _, rfl, ?_, ⟨_, rfl⟩, hW, hsame.mono (by decide) (by decide)⟩
  ·
    show Steps p.tables e below (s₁.setTop (mkF m 0 #[.val (.ref w7)] [])) _
    refine XS.aloadN X0.here hx rfl (hb hby d1_0) rfl rfl ?_
    show Steps p.tables e below (s₁.setTop (mkF m 1 #[.val (.ref w7)] [(.ref w7)])) _
    refine st1 _ ?_
    show Steps p.tables e below (T1.setTop (mkF m 4 #[.val (.ref w7)] [(.ref w8)])) _
    refine XS.ifnullNo X1.here hx rfl (hb hby d1_4) rfl ?_
    show Steps p.tables e below (T1.setTop (mkF m 7 #[.val (.ref w7)] [])) _
    refine XS.iconst X1.here hx rfl (hb hby d1_7) ?_
    show Steps p.tables e below (T1.setTop (mkF m 8 #[.val (.ref w7)] [(.int (1 : Int32))])) _
    refine XS.goto X1.here hx rfl (pc0 := 8) (pc' := 12) rfl (hb hby d1_8) (by decide) (by decide) ?_
    show Steps p.tables e below (T1.setTop (mkF m 12 #[.val (.ref w7)] [(.int (1 : Int32))])) _
    exact retN X1 hx (t := .boolean) hret (by simp) (hb hby d1_12) hr
  ·
    show Q4 Z w1 w2 w3 w4 w5 w6 w7 w8 w9 w10 h0 n0 _ T1.heap _
    rw [e1]
    exact ⟨rfl, N0, rfl⟩
theorem ef5 (m : MethodId) (x0 : Addr) : entryFrame m #[(.ref x0)] 1 = mkF m 0 #[.val (.ref x0)] [] := by first | (simp [entryFrame, mkF, argsToLocals, Value.category]; done) | rfl
def Q5 (Z : State) (w1 : Addr) (w2 : Addr) (w3 : Addr) (w4 : Addr) (w5 : Addr) (w6 : Addr) (w7 : Addr) (w8 : Addr) (w9 : Addr) (w10 : Addr) (h0 : Heap) (n0 : Nat) (v : Option Value) (h : Heap) (L : List Loc) : Prop :=
  (v = some (.ref w8) ∧ Fr n0 L ∧ h = h0)
set_option maxRecDepth 65536 in
set_option maxHeartbeats 40000000 in
theorem rm5 (l : Launch) (Z : State) (a0 : Array Value) (hw : ∀ d ∈ tables_1, d.before a0 Z = true) (w1 : Addr) (w2 : Addr) (w3 : Addr) (w4 : Addr) (w5 : Addr) (w6 : Addr) (w7 : Addr) (w8 : Addr) (w9 : Addr) (w10 : Addr) (G : GW Z w1 w2 w3 w4 w5 w6 w7 w8 w9 w10) (ws : List Jvm.Cond) (h0 : Heap) (n0 : Nat) (O0 : Old Z n0 h0) :
    MetFree l (⟨"com/example/swallow/swallow/engine/automation/Filter", "getRole", "()Lcom/example/swallow/swallow/engine/automation/PlaceRole;"⟩ : MethodName) (head1 (Jvm.Cond.code (⟨"com/example/swallow/swallow/engine/automation/Filter", "getRole", "()Lcom/example/swallow/swallow/engine/automation/PlaceRole;"⟩ : MethodName) prog_1_method_10_code 1 (some (.object "com/example/swallow/swallow/engine/automation/PlaceRole")) :: ws) ({ frames := 0, cells := 0, slots := 0, locals := 0 } : Room)) (fun a U => a = #[(.ref w7)] ∧ Z.Warmed39 U.vm ∧ U.heap = h0) (fun _ _ _ _ _ => True) (fun _ U o U' => ∃ v L, o = .returned v ∧ Q5 Z w1 w2 w3 w4 w5 w6 w7 w8 w9 w10 h0 n0 v U'.heap L ∧ FrameEnd U o U' L ({ frames := 0, cells := 0, slots := 0, locals := 0 } : Room).cells ({ frames := 0, cells := 0, slots := 0, locals := 0 } : Room).slots) := by
  obtain ⟨S_w1, E_w1, S_w2, E_w2, S_w3, E_w3, S_w4, E_w4, S_w5, E_w5, S_w6, E_w6, S_w7, E_w7, S_w8, E_w8, S_w9, E_w9, S_w10, E_w10, F_w1_role, F_w3_role, F_w4_role, F_w5_role, F_w6_role, F_w7_role, F_w9_role, F_w10_role⟩ := id G
  refine MetFree.of_bodySF (plainFor_of_name pn1) hisR ?_
  intro p e s m args below meth c s₁ Bd hml0 hP hK
  obtain ⟨rfl, hZ, hh⟩ := hP
  have hx := Bd.exec
  have hby := Bd.bytes
  have hml : c.maxLocals = 1 := hml0
  have hown : s.vm.findClass "com/example/swallow/swallow/engine/automation/Filter" = some m.cls := findClass_of_methodNamed Bd.named
  have hnm := (name_of_methodNamed Bd.named Bd.method).1
  have hret := Bd.returns
  have hlk : meth.locks = false := BodyLoose.notSynchronized Bd
  have X0 : Stand p l e ({ frames := 0, cells := 0, slots := 0, locals := 0 } : Room) s m #[(.ref w7)] below meth c s₁ [] 0 0 := Stand.of_body Bd
  have e0 : s₁.heap = h0 := by rw [← hh, Bd.state]; rfl
  have N0 := Fr.nil n0
  have pre0 : ∀ t, Steps p.tables e below (s₁.setTop (mkF m 0 #[.val (.ref w7)] [])) t → Steps p.tables e below (s₁.setTop (entryFrame m #[(.ref w7)] 1)) t := fun t k => castTop (ef5 m w7) k
  obtain ⟨T1, X1, e1, st1⟩ := getF X0 hx hZ hown (host := "") (Or.inl (hw _ (List.mem_of_getElem? (i := 12) rfl))) Via.refl e0 (F_w7_role.ext O0.2) (g := (mkF m 1 #[.val (.ref w7)] [(.ref w7)])) rfl rfl (hb hby d2_1)
  obtain ⟨fs, hr, hrun, hended, hW, hsame⟩ := X1.leave (v := some (.ref w8)) (fun h => by rw [hret] at h; cases h)
  refine ⟨_, _, pre0 _ ?_, hrun, hended, _, _, rfl, ?_, ⟨_, rfl⟩, hW, hsame.mono (by decide) (by decide)⟩
  ·
    show Steps p.tables e below (s₁.setTop (mkF m 0 #[.val (.ref w7)] [])) _
    refine XS.aloadN X0.here hx rfl (hb hby d2_0) rfl rfl ?_
    show Steps p.tables e below (s₁.setTop (mkF m 1 #[.val (.ref w7)] [(.ref w7)])) _
    refine st1 _ ?_
    show Steps p.tables e below (T1.setTop (mkF m 4 #[.val (.ref w7)] [(.ref w8)])) _
    exact retOut X1 hx hret rfl (Or.inr (Or.inr (Or.inr (Or.inr ⟨rfl, rfl, rfl⟩)))) (hb hby d2_4) hr
  ·
    show Q5 Z w1 w2 w3 w4 w5 w6 w7 w8 w9 w10 h0 n0 _ T1.heap _
    rw [e1]
    exact ⟨rfl, N0, rfl⟩
theorem d1_11 : decode prog_1_method_9_code 11 = .ok (.iconst 0, 1) := by decide +kernel
theorem ef6 (m : MethodId) (x0 : Addr) : entryFrame m #[(.ref x0)] 1 = mkF m 0 #[.val (.ref x0)] [] := by first | (simp [entryFrame, mkF, argsToLocals, Value.category]; done) | rfl
def Q6 (Z : State) (w1 : Addr) (w2 : Addr) (w3 : Addr) (w4 : Addr) (w5 : Addr) (w6 : Addr) (w7 : Addr) (w8 : Addr) (w9 : Addr) (w10 : Addr) (h0 : Heap) (n0 : Nat) (v : Option Value) (h : Heap) (L : List Loc) : Prop :=
  (v = some (.int (0 : Int32)) ∧ Fr n0 L ∧ h = h0)
set_option maxRecDepth 65536 in
set_option maxHeartbeats 40000000 in
theorem rm6 (l : Launch) (Z : State) (a0 : Array Value) (hw : ∀ d ∈ tables_1, d.before a0 Z = true) (w1 : Addr) (w2 : Addr) (w3 : Addr) (w4 : Addr) (w5 : Addr) (w6 : Addr) (w7 : Addr) (w8 : Addr) (w9 : Addr) (w10 : Addr) (G : GW Z w1 w2 w3 w4 w5 w6 w7 w8 w9 w10) (ws : List Jvm.Cond) (h0 : Heap) (n0 : Nat) (O0 : Old Z n0 h0) :
    MetFree l (⟨"com/example/swallow/swallow/engine/automation/Filter", "isGeographic", "()Z"⟩ : MethodName) (head1 (Jvm.Cond.code (⟨"com/example/swallow/swallow/engine/automation/Filter", "isGeographic", "()Z"⟩ : MethodName) prog_1_method_9_code 1 (some .boolean) :: ws) ({ frames := 0, cells := 0, slots := 0, locals := 0 } : Room)) (fun a U => a = #[(.ref w6)] ∧ Z.Warmed39 U.vm ∧ U.heap = h0) (fun _ _ _ _ _ => True) (fun _ U o U' => ∃ v L, o = .returned v ∧ Q6 Z w1 w2 w3 w4 w5 w6 w7 w8 w9 w10 h0 n0 v U'.heap L ∧ FrameEnd U o U' L ({ frames := 0, cells := 0, slots := 0, locals := 0 } : Room).cells ({ frames := 0, cells := 0, slots := 0, locals := 0 } : Room).slots) := by
  obtain ⟨S_w1, E_w1, S_w2, E_w2, S_w3, E_w3, S_w4, E_w4, S_w5, E_w5, S_w6, E_w6, S_w7, E_w7, S_w8, E_w8, S_w9, E_w9, S_w10, E_w10, F_w1_role, F_w3_role, F_w4_role, F_w5_role, F_w6_role, F_w7_role, F_w9_role, F_w10_role⟩ := id G
  refine MetFree.of_bodySF (plainFor_of_name pn1) hisR ?_
  intro p e s m args below meth c s₁ Bd hml0 hP hK
  obtain ⟨rfl, hZ, hh⟩ := hP
  have hx := Bd.exec
  have hby := Bd.bytes
  have hml : c.maxLocals = 1 := hml0
  have hown : s.vm.findClass "com/example/swallow/swallow/engine/automation/Filter" = some m.cls := findClass_of_methodNamed Bd.named
  have hnm := (name_of_methodNamed Bd.named Bd.method).1
  have hret := Bd.returns
  have hlk : meth.locks = false := BodyLoose.notSynchronized Bd
  have X0 : Stand p l e ({ frames := 0, cells := 0, slots := 0, locals := 0 } : Room) s m #[(.ref w6)] below meth c s₁ [] 0 0 := Stand.of_body Bd
  have e0 : s₁.heap = h0 := by rw [← hh, Bd.state]; rfl
  have N0 := Fr.nil n0
  have pre0 : ∀ t, Steps p.tables e below (s₁.setTop (mkF m 0 #[.val (.ref w6)] [])) t → Steps p.tables e below (s₁.setTop (entryFrame m #[(.ref w6)] 1)) t := fun t k => castTop (ef6 m w6) k
  obtain ⟨T1, X1, e1, st1⟩ := getF X0 hx hZ hown (host := "") (Or.inl (hw _ (List.mem_of_getElem? (i := 12) rfl))) Via.refl e0 (F_w6_role.ext O0.2) (g := (mkF m 1 #[.val (.ref w6)] [(.ref w6)])) rfl rfl (hb hby d1_1)
  obtain ⟨fs, hr, hrun, hended, hW, hsame⟩ := X1.leave (v := some (.int (0 : Int32))) (fun h => by rw [hret] at h; cases h)
  refine ⟨_, _, pre0 _ ?_, hrun, hended, _, _, rfl, ?_, ⟨_, rfl⟩, hW, hsame.mono (by decide) (by decide)⟩
  ·
    show Steps p.tables e below (s₁.setTop (mkF m 0 #[.val (.ref w6)] [])) _
    refine XS.aloadN X0.here hx rfl (hb hby d1_0) rfl rfl ?_
    show Steps p.tables e below (s₁.setTop (mkF m 1 #[.val (.ref w6)] [(.ref w6)])) _
    refine st1 _ ?_
    show Steps p.tables e below (T1.setTop (mkF m 4 #[.val (.ref w6)] [.null])) _
    refine XS.ifnullYes X1.here hx rfl (pc0 := 4) (pc' := 11) rfl (hb hby d1_4) rfl (by decide) (by decide) ?_
    show Steps p.tables e below (T1.setTop (mkF m 11 #[.val (.ref w6)] [])) _
    refine XS.iconst X1.here hx rfl (hb hby d1_11) ?_
    show Steps p.tables e below (T1.setTop (mkF m 12 #[.val (.ref w6)] [(.int (0 : Int32))])) _
    exact retN X1 hx (t := .boolean) hret (by simp) (hb hby d1_12) hr
  ·
    show Q6 Z w1 w2 w3 w4 w5 w6 w7 w8 w9 w10 h0 n0 _ T1.heap _
    rw [e1]
    exact ⟨rfl, N0, rfl⟩
theorem ef7 (m : MethodId) (x0 : Addr) : entryFrame m #[(.ref x0)] 1 = mkF m 0 #[.val (.ref x0)] [] := by first | (simp [entryFrame, mkF, argsToLocals, Value.category]; done) | rfl
def Q7 (Z : State) (w1 : Addr) (w2 : Addr) (w3 : Addr) (w4 : Addr) (w5 : Addr) (w6 : Addr) (w7 : Addr) (w8 : Addr) (w9 : Addr) (w10 : Addr) (h0 : Heap) (n0 : Nat) (v : Option Value) (h : Heap) (L : List Loc) : Prop :=
  (v = some .null ∧ Fr n0 L ∧ h = h0)
set_option maxRecDepth 65536 in
set_option maxHeartbeats 40000000 in
theorem rm7 (l : Launch) (Z : State) (a0 : Array Value) (hw : ∀ d ∈ tables_1, d.before a0 Z = true) (w1 : Addr) (w2 : Addr) (w3 : Addr) (w4 : Addr) (w5 : Addr) (w6 : Addr) (w7 : Addr) (w8 : Addr) (w9 : Addr) (w10 : Addr) (G : GW Z w1 w2 w3 w4 w5 w6 w7 w8 w9 w10) (ws : List Jvm.Cond) (h0 : Heap) (n0 : Nat) (O0 : Old Z n0 h0) :
    MetFree l (⟨"com/example/swallow/swallow/engine/automation/Filter", "getRole", "()Lcom/example/swallow/swallow/engine/automation/PlaceRole;"⟩ : MethodName) (head1 (Jvm.Cond.code (⟨"com/example/swallow/swallow/engine/automation/Filter", "getRole", "()Lcom/example/swallow/swallow/engine/automation/PlaceRole;"⟩ : MethodName) prog_1_method_10_code 1 (some (.object "com/example/swallow/swallow/engine/automation/PlaceRole")) :: ws) ({ frames := 0, cells := 0, slots := 0, locals := 0 } : Room)) (fun a U => a = #[(.ref w6)] ∧ Z.Warmed39 U.vm ∧ U.heap = h0) (fun _ _ _ _ _ => True) (fun _ U o U' => ∃ v L, o = .returned v ∧ Q7 Z w1 w2 w3 w4 w5 w6 w7 w8 w9 w10 h0 n0 v U'.heap L ∧ FrameEnd U o U' L ({ frames := 0, cells := 0, slots := 0, locals := 0 } : Room).cells ({ frames := 0, cells := 0, slots := 0, locals := 0 } : Room).slots) := by
  obtain ⟨S_w1, E_w1, S_w2, E_w2, S_w3, E_w3, S_w4, E_w4, S_w5, E_w5, S_w6, E_w6, S_w7, E_w7, S_w8, E_w8, S_w9, E_w9, S_w10, E_w10, F_w1_role, F_w3_role, F_w4_role, F_w5_role, F_w6_role, F_w7_role, F_w9_role, F_w10_role⟩ := id G
  refine MetFree.of_bodySF (plainFor_of_name pn1) hisR ?_
  intro p e s m args below meth c s₁ Bd hml0 hP hK
  obtain ⟨rfl, hZ, hh⟩ := hP
  have hx := Bd.exec
  have hby := Bd.bytes
  have hml : c.maxLocals = 1 := hml0
  have hown : s.vm.findClass "com/example/swallow/swallow/engine/automation/Filter" = some m.cls := findClass_of_methodNamed Bd.named
  have hnm := (name_of_methodNamed Bd.named Bd.method).1
  have hret := Bd.returns
  have hlk : meth.locks = false := BodyLoose.notSynchronized Bd
  have X0 : Stand p l e ({ frames := 0, cells := 0, slots := 0, locals := 0 } : Room) s m #[(.ref w6)] below meth c s₁ [] 0 0 := Stand.of_body Bd
  have e0 : s₁.heap = h0 := by rw [← hh, Bd.state]; rfl
  have N0 := Fr.nil n0
  have pre0 : ∀ t, Steps p.tables e below (s₁.setTop (mkF m 0 #[.val (.ref w6)] [])) t → Steps p.tables e below (s₁.setTop (entryFrame m #[(.ref w6)] 1)) t := fun t k => castTop (ef7 m w6) k
  obtain ⟨T1, X1, e1, st1⟩ := getF X0 hx hZ hown (host := "") (Or.inl (hw _ (List.mem_of_getElem? (i := 12) rfl))) Via.refl e0 (F_w6_role.ext O0.2) (g := (mkF m 1 #[.val (.ref w6)] [(.ref w6)])) rfl rfl (hb hby d2_1)
  obtain ⟨fs, hr, hrun, hended, hW, hsame⟩ := X1.leave (v := some .null) (fun h => by rw [hret] at h; cases h)
  refine ⟨_, _, pre0 _ ?_, hrun, hended, _, _, rfl, ?_, ⟨_, rfl⟩, hW, hsame.mono (by decide) (by decide)⟩
  ·
    show Steps p.tables e below (s₁.setTop (mkF m 0 #[.val (.ref w6)] [])) _
    refine XS.aloadN X0.here hx rfl (hb hby d2_0) rfl rfl ?_
    show Steps p.tables e below (s₁.setTop (mkF m 1 #[.val (.ref w6)] [(.ref w6)])) _
    refine st1 _ ?_
    show Steps p.tables e below (T1.setTop (mkF m 4 #[.val (.ref w6)] [.null])) _
    exact retOut X1 hx hret rfl (Or.inr (Or.inr (Or.inr (Or.inr ⟨rfl, rfl, rfl⟩)))) (hb hby d2_4) hr
  ·
    show Q7 Z w1 w2 w3 w4 w5 w6 w7 w8 w9 w10 h0 n0 _ T1.heap _
    rw [e1]
    exact ⟨rfl, N0, rfl⟩
theorem ef8 (m : MethodId) (x0 : Addr) : entryFrame m #[(.ref x0)] 1 = mkF m 0 #[.val (.ref x0)] [] := by first | (simp [entryFrame, mkF, argsToLocals, Value.category]; done) | rfl
def Q8 (Z : State) (w1 : Addr) (w2 : Addr) (w3 : Addr) (w4 : Addr) (w5 : Addr) (w6 : Addr) (w7 : Addr) (w8 : Addr) (w9 : Addr) (w10 : Addr) (h0 : Heap) (n0 : Nat) (v : Option Value) (h : Heap) (L : List Loc) : Prop :=
  (v = some (.int (0 : Int32)) ∧ Fr n0 L ∧ h = h0)
set_option maxRecDepth 65536 in
set_option maxHeartbeats 40000000 in
theorem rm8 (l : Launch) (Z : State) (a0 : Array Value) (hw : ∀ d ∈ tables_1, d.before a0 Z = true) (w1 : Addr) (w2 : Addr) (w3 : Addr) (w4 : Addr) (w5 : Addr) (w6 : Addr) (w7 : Addr) (w8 : Addr) (w9 : Addr) (w10 : Addr) (G : GW Z w1 w2 w3 w4 w5 w6 w7 w8 w9 w10) (ws : List Jvm.Cond) (h0 : Heap) (n0 : Nat) (O0 : Old Z n0 h0) :
    MetFree l (⟨"com/example/swallow/swallow/engine/automation/Filter", "isGeographic", "()Z"⟩ : MethodName) (head1 (Jvm.Cond.code (⟨"com/example/swallow/swallow/engine/automation/Filter", "isGeographic", "()Z"⟩ : MethodName) prog_1_method_9_code 1 (some .boolean) :: ws) ({ frames := 0, cells := 0, slots := 0, locals := 0 } : Room)) (fun a U => a = #[(.ref w3)] ∧ Z.Warmed39 U.vm ∧ U.heap = h0) (fun _ _ _ _ _ => True) (fun _ U o U' => ∃ v L, o = .returned v ∧ Q8 Z w1 w2 w3 w4 w5 w6 w7 w8 w9 w10 h0 n0 v U'.heap L ∧ FrameEnd U o U' L ({ frames := 0, cells := 0, slots := 0, locals := 0 } : Room).cells ({ frames := 0, cells := 0, slots := 0, locals := 0 } : Room).slots) := by
  obtain ⟨S_w1, E_w1, S_w2, E_w2, S_w3, E_w3, S_w4, E_w4, S_w5, E_w5, S_w6, E_w6, S_w7, E_w7, S_w8, E_w8, S_w9, E_w9, S_w10, E_w10, F_w1_role, F_w3_role, F_w4_role, F_w5_role, F_w6_role, F_w7_role, F_w9_role, F_w10_role⟩ := id G
  refine MetFree.of_bodySF (plainFor_of_name pn1) hisR ?_
  intro p e s m args below meth c s₁ Bd hml0 hP hK
  obtain ⟨rfl, hZ, hh⟩ := hP
  have hx := Bd.exec
  have hby := Bd.bytes
  have hml : c.maxLocals = 1 := hml0
  have hown : s.vm.findClass "com/example/swallow/swallow/engine/automation/Filter" = some m.cls := findClass_of_methodNamed Bd.named
  have hnm := (name_of_methodNamed Bd.named Bd.method).1
  have hret := Bd.returns
  have hlk : meth.locks = false := BodyLoose.notSynchronized Bd
  have X0 : Stand p l e ({ frames := 0, cells := 0, slots := 0, locals := 0 } : Room) s m #[(.ref w3)] below meth c s₁ [] 0 0 := Stand.of_body Bd
  have e0 : s₁.heap = h0 := by rw [← hh, Bd.state]; rfl
  have N0 := Fr.nil n0
  have pre0 : ∀ t, Steps p.tables e below (s₁.setTop (mkF m 0 #[.val (.ref w3)] [])) t → Steps p.tables e below (s₁.setTop (entryFrame m #[(.ref w3)] 1)) t := fun t k => castTop (ef8 m w3) k
  obtain ⟨T1, X1, e1, st1⟩ := getF X0 hx hZ hown (host := "") (Or.inl (hw _ (List.mem_of_getElem? (i := 12) rfl))) Via.refl e0 (F_w3_role.ext O0.2) (g := (mkF m 1 #[.val (.ref w3)] [(.ref w3)])) rfl rfl (hb hby d1_1)
  obtain ⟨fs, hr, hrun, hended, hW, hsame⟩ := X1.leave (v := some (.int (0 : Int32))) (fun h => by rw [hret] at h; cases h)
  refine ⟨_, _, pre0 _ ?_, hrun, hended, _, _, rfl, ?_, ⟨_, rfl⟩, hW, hsame.mono (by decide) (by decide)⟩
  ·
    show Steps p.tables e below (s₁.setTop (mkF m 0 #[.val (.ref w3)] [])) _
    refine XS.aloadN X0.here hx rfl (hb hby d1_0) rfl rfl ?_
    show Steps p.tables e below (s₁.setTop (mkF m 1 #[.val (.ref w3)] [(.ref w3)])) _
    refine st1 _ ?_
    show Steps p.tables e below (T1.setTop (mkF m 4 #[.val (.ref w3)] [.null])) _
    refine XS.ifnullYes X1.here hx rfl (pc0 := 4) (pc' := 11) rfl (hb hby d1_4) rfl (by decide) (by decide) ?_
    show Steps p.tables e below (T1.setTop (mkF m 11 #[.val (.ref w3)] [])) _
    refine XS.iconst X1.here hx rfl (hb hby d1_11) ?_
    show Steps p.tables e below (T1.setTop (mkF m 12 #[.val (.ref w3)] [(.int (0 : Int32))])) _
    exact retN X1 hx (t := .boolean) hret (by simp) (hb hby d1_12) hr
  ·
    show Q8 Z w1 w2 w3 w4 w5 w6 w7 w8 w9 w10 h0 n0 _ T1.heap _
    rw [e1]
    exact ⟨rfl, N0, rfl⟩
theorem ef9 (m : MethodId) (x0 : Addr) : entryFrame m #[(.ref x0)] 1 = mkF m 0 #[.val (.ref x0)] [] := by first | (simp [entryFrame, mkF, argsToLocals, Value.category]; done) | rfl
def Q9 (Z : State) (w1 : Addr) (w2 : Addr) (w3 : Addr) (w4 : Addr) (w5 : Addr) (w6 : Addr) (w7 : Addr) (w8 : Addr) (w9 : Addr) (w10 : Addr) (h0 : Heap) (n0 : Nat) (v : Option Value) (h : Heap) (L : List Loc) : Prop :=
  (v = some .null ∧ Fr n0 L ∧ h = h0)
set_option maxRecDepth 65536 in
set_option maxHeartbeats 40000000 in
theorem rm9 (l : Launch) (Z : State) (a0 : Array Value) (hw : ∀ d ∈ tables_1, d.before a0 Z = true) (w1 : Addr) (w2 : Addr) (w3 : Addr) (w4 : Addr) (w5 : Addr) (w6 : Addr) (w7 : Addr) (w8 : Addr) (w9 : Addr) (w10 : Addr) (G : GW Z w1 w2 w3 w4 w5 w6 w7 w8 w9 w10) (ws : List Jvm.Cond) (h0 : Heap) (n0 : Nat) (O0 : Old Z n0 h0) :
    MetFree l (⟨"com/example/swallow/swallow/engine/automation/Filter", "getRole", "()Lcom/example/swallow/swallow/engine/automation/PlaceRole;"⟩ : MethodName) (head1 (Jvm.Cond.code (⟨"com/example/swallow/swallow/engine/automation/Filter", "getRole", "()Lcom/example/swallow/swallow/engine/automation/PlaceRole;"⟩ : MethodName) prog_1_method_10_code 1 (some (.object "com/example/swallow/swallow/engine/automation/PlaceRole")) :: ws) ({ frames := 0, cells := 0, slots := 0, locals := 0 } : Room)) (fun a U => a = #[(.ref w3)] ∧ Z.Warmed39 U.vm ∧ U.heap = h0) (fun _ _ _ _ _ => True) (fun _ U o U' => ∃ v L, o = .returned v ∧ Q9 Z w1 w2 w3 w4 w5 w6 w7 w8 w9 w10 h0 n0 v U'.heap L ∧ FrameEnd U o U' L ({ frames := 0, cells := 0, slots := 0, locals := 0 } : Room).cells ({ frames := 0, cells := 0, slots := 0, locals := 0 } : Room).slots) := by
  obtain ⟨S_w1, E_w1, S_w2, E_w2, S_w3, E_w3, S_w4, E_w4, S_w5, E_w5, S_w6, E_w6, S_w7, E_w7, S_w8, E_w8, S_w9, E_w9, S_w10, E_w10, F_w1_role, F_w3_role, F_w4_role, F_w5_role, F_w6_role, F_w7_role, F_w9_role, F_w10_role⟩ := id G
  refine MetFree.of_bodySF (plainFor_of_name pn1) hisR ?_
  intro p e s m args below meth c s₁ Bd hml0 hP hK
  obtain ⟨rfl, hZ, hh⟩ := hP
  have hx := Bd.exec
  have hby := Bd.bytes
  have hml : c.maxLocals = 1 := hml0
  have hown : s.vm.findClass "com/example/swallow/swallow/engine/automation/Filter" = some m.cls := findClass_of_methodNamed Bd.named
  have hnm := (name_of_methodNamed Bd.named Bd.method).1
  have hret := Bd.returns
  have hlk : meth.locks = false := BodyLoose.notSynchronized Bd
  have X0 : Stand p l e ({ frames := 0, cells := 0, slots := 0, locals := 0 } : Room) s m #[(.ref w3)] below meth c s₁ [] 0 0 := Stand.of_body Bd
  have e0 : s₁.heap = h0 := by rw [← hh, Bd.state]; rfl
  have N0 := Fr.nil n0
  have pre0 : ∀ t, Steps p.tables e below (s₁.setTop (mkF m 0 #[.val (.ref w3)] [])) t → Steps p.tables e below (s₁.setTop (entryFrame m #[(.ref w3)] 1)) t := fun t k => castTop (ef9 m w3) k
  obtain ⟨T1, X1, e1, st1⟩ := getF X0 hx hZ hown (host := "") (Or.inl (hw _ (List.mem_of_getElem? (i := 12) rfl))) Via.refl e0 (F_w3_role.ext O0.2) (g := (mkF m 1 #[.val (.ref w3)] [(.ref w3)])) rfl rfl (hb hby d2_1)
  obtain ⟨fs, hr, hrun, hended, hW, hsame⟩ := X1.leave (v := some .null) (fun h => by rw [hret] at h; cases h)
  refine ⟨_, _, pre0 _ ?_, hrun, hended, _, _, rfl, ?_, ⟨_, rfl⟩, hW, hsame.mono (by decide) (by decide)⟩
  ·
    show Steps p.tables e below (s₁.setTop (mkF m 0 #[.val (.ref w3)] [])) _
    refine XS.aloadN X0.here hx rfl (hb hby d2_0) rfl rfl ?_
    show Steps p.tables e below (s₁.setTop (mkF m 1 #[.val (.ref w3)] [(.ref w3)])) _
    refine st1 _ ?_
    show Steps p.tables e below (T1.setTop (mkF m 4 #[.val (.ref w3)] [.null])) _
    exact retOut X1 hx hret rfl (Or.inr (Or.inr (Or.inr (Or.inr ⟨rfl, rfl, rfl⟩)))) (hb hby d2_4) hr
  ·
    show Q9 Z w1 w2 w3 w4 w5 w6 w7 w8 w9 w10 h0 n0 _ T1.heap _
    rw [e1]
    exact ⟨rfl, N0, rfl⟩
theorem ef10 (m : MethodId) (x0 : Addr) : entryFrame m #[(.ref x0)] 1 = mkF m 0 #[.val (.ref x0)] [] := by first | (simp [entryFrame, mkF, argsToLocals, Value.category]; done) | rfl
def Q10 (Z : State) (w1 : Addr) (w2 : Addr) (w3 : Addr) (w4 : Addr) (w5 : Addr) (w6 : Addr) (w7 : Addr) (w8 : Addr) (w9 : Addr) (w10 : Addr) (h0 : Heap) (n0 : Nat) (v : Option Value) (h : Heap) (L : List Loc) : Prop :=
  (v = some (.int (0 : Int32)) ∧ Fr n0 L ∧ h = h0)
set_option maxRecDepth 65536 in
set_option maxHeartbeats 40000000 in
theorem rm10 (l : Launch) (Z : State) (a0 : Array Value) (hw : ∀ d ∈ tables_1, d.before a0 Z = true) (w1 : Addr) (w2 : Addr) (w3 : Addr) (w4 : Addr) (w5 : Addr) (w6 : Addr) (w7 : Addr) (w8 : Addr) (w9 : Addr) (w10 : Addr) (G : GW Z w1 w2 w3 w4 w5 w6 w7 w8 w9 w10) (ws : List Jvm.Cond) (h0 : Heap) (n0 : Nat) (O0 : Old Z n0 h0) :
    MetFree l (⟨"com/example/swallow/swallow/engine/automation/Filter", "isGeographic", "()Z"⟩ : MethodName) (head1 (Jvm.Cond.code (⟨"com/example/swallow/swallow/engine/automation/Filter", "isGeographic", "()Z"⟩ : MethodName) prog_1_method_9_code 1 (some .boolean) :: ws) ({ frames := 0, cells := 0, slots := 0, locals := 0 } : Room)) (fun a U => a = #[(.ref w9)] ∧ Z.Warmed39 U.vm ∧ U.heap = h0) (fun _ _ _ _ _ => True) (fun _ U o U' => ∃ v L, o = .returned v ∧ Q10 Z w1 w2 w3 w4 w5 w6 w7 w8 w9 w10 h0 n0 v U'.heap L ∧ FrameEnd U o U' L ({ frames := 0, cells := 0, slots := 0, locals := 0 } : Room).cells ({ frames := 0, cells := 0, slots := 0, locals := 0 } : Room).slots) := by
  obtain ⟨S_w1, E_w1, S_w2, E_w2, S_w3, E_w3, S_w4, E_w4, S_w5, E_w5, S_w6, E_w6, S_w7, E_w7, S_w8, E_w8, S_w9, E_w9, S_w10, E_w10, F_w1_role, F_w3_role, F_w4_role, F_w5_role, F_w6_role, F_w7_role, F_w9_role, F_w10_role⟩ := id G
  refine MetFree.of_bodySF (plainFor_of_name pn1) hisR ?_
  intro p e s m args below meth c s₁ Bd hml0 hP hK
  obtain ⟨rfl, hZ, hh⟩ := hP
  have hx := Bd.exec
  have hby := Bd.bytes
  have hml : c.maxLocals = 1 := hml0
  have hown : s.vm.findClass "com/example/swallow/swallow/engine/automation/Filter" = some m.cls := findClass_of_methodNamed Bd.named
  have hnm := (name_of_methodNamed Bd.named Bd.method).1
  have hret := Bd.returns
  have hlk : meth.locks = false := BodyLoose.notSynchronized Bd
  have X0 : Stand p l e ({ frames := 0, cells := 0, slots := 0, locals := 0 } : Room) s m #[(.ref w9)] below meth c s₁ [] 0 0 := Stand.of_body Bd
  have e0 : s₁.heap = h0 := by rw [← hh, Bd.state]; rfl
  have N0 := Fr.nil n0
  have pre0 : ∀ t, Steps p.tables e below (s₁.setTop (mkF m 0 #[.val (.ref w9)] [])) t → Steps p.tables e below (s₁.setTop (entryFrame m #[(.ref w9)] 1)) t := fun t k => castTop (ef10 m w9) k
  obtain ⟨T1, X1, e1, st1⟩ := getF X0 hx hZ hown (host := "") (Or.inl (hw _ (List.mem_of_getElem? (i := 12) rfl))) Via.refl e0 (F_w9_role.ext O0.2) (g := (mkF m 1 #[.val (.ref w9)] [(.ref w9)])) rfl rfl (hb hby d1_1)
  obtain ⟨fs, hr, hrun, hended, hW, hsame⟩ := X1.leave (v := some (.int (0 : Int32))) (fun h => by rw [hret] at h; cases h)
  refine ⟨_, _, pre0 _ ?_, hrun, hended, _, _, rfl, ?_, ⟨_, rfl⟩, hW, hsame.mono (by decide) (by decide)⟩
  ·
    show Steps p.tables e below (s₁.setTop (mkF m 0 #[.val (.ref w9)] [])) _
    refine XS.aloadN X0.here hx rfl (hb hby d1_0) rfl rfl ?_
    show Steps p.tables e below (s₁.setTop (mkF m 1 #[.val (.ref w9)] [(.ref w9)])) _
    refine st1 _ ?_
    show Steps p.tables e below (T1.setTop (mkF m 4 #[.val (.ref w9)] [.null])) _
    refine XS.ifnullYes X1.here hx rfl (pc0 := 4) (pc' := 11) rfl (hb hby d1_4) rfl (by decide) (by decide) ?_
    show Steps p.tables e below (T1.setTop (mkF m 11 #[.val (.ref w9)] [])) _
    refine XS.iconst X1.here hx rfl (hb hby d1_11) ?_
    show Steps p.tables e below (T1.setTop (mkF m 12 #[.val (.ref w9)] [(.int (0 : Int32))])) _
    exact retN X1 hx (t := .boolean) hret (by simp) (hb hby d1_12) hr
  ·
    show Q10 Z w1 w2 w3 w4 w5 w6 w7 w8 w9 w10 h0 n0 _ T1.heap _
    rw [e1]
    exact ⟨rfl, N0, rfl⟩
theorem ef11 (m : MethodId) (x0 : Addr) : entryFrame m #[(.ref x0)] 1 = mkF m 0 #[.val (.ref x0)] [] := by first | (simp [entryFrame, mkF, argsToLocals, Value.category]; done) | rfl
def Q11 (Z : State) (w1 : Addr) (w2 : Addr) (w3 : Addr) (w4 : Addr) (w5 : Addr) (w6 : Addr) (w7 : Addr) (w8 : Addr) (w9 : Addr) (w10 : Addr) (h0 : Heap) (n0 : Nat) (v : Option Value) (h : Heap) (L : List Loc) : Prop :=
  (v = some .null ∧ Fr n0 L ∧ h = h0)
set_option maxRecDepth 65536 in
set_option maxHeartbeats 40000000 in
theorem rm11 (l : Launch) (Z : State) (a0 : Array Value) (hw : ∀ d ∈ tables_1, d.before a0 Z = true) (w1 : Addr) (w2 : Addr) (w3 : Addr) (w4 : Addr) (w5 : Addr) (w6 : Addr) (w7 : Addr) (w8 : Addr) (w9 : Addr) (w10 : Addr) (G : GW Z w1 w2 w3 w4 w5 w6 w7 w8 w9 w10) (ws : List Jvm.Cond) (h0 : Heap) (n0 : Nat) (O0 : Old Z n0 h0) :
    MetFree l (⟨"com/example/swallow/swallow/engine/automation/Filter", "getRole", "()Lcom/example/swallow/swallow/engine/automation/PlaceRole;"⟩ : MethodName) (head1 (Jvm.Cond.code (⟨"com/example/swallow/swallow/engine/automation/Filter", "getRole", "()Lcom/example/swallow/swallow/engine/automation/PlaceRole;"⟩ : MethodName) prog_1_method_10_code 1 (some (.object "com/example/swallow/swallow/engine/automation/PlaceRole")) :: ws) ({ frames := 0, cells := 0, slots := 0, locals := 0 } : Room)) (fun a U => a = #[(.ref w9)] ∧ Z.Warmed39 U.vm ∧ U.heap = h0) (fun _ _ _ _ _ => True) (fun _ U o U' => ∃ v L, o = .returned v ∧ Q11 Z w1 w2 w3 w4 w5 w6 w7 w8 w9 w10 h0 n0 v U'.heap L ∧ FrameEnd U o U' L ({ frames := 0, cells := 0, slots := 0, locals := 0 } : Room).cells ({ frames := 0, cells := 0, slots := 0, locals := 0 } : Room).slots) := by
  obtain ⟨S_w1, E_w1, S_w2, E_w2, S_w3, E_w3, S_w4, E_w4, S_w5, E_w5, S_w6, E_w6, S_w7, E_w7, S_w8, E_w8, S_w9, E_w9, S_w10, E_w10, F_w1_role, F_w3_role, F_w4_role, F_w5_role, F_w6_role, F_w7_role, F_w9_role, F_w10_role⟩ := id G
  refine MetFree.of_bodySF (plainFor_of_name pn1) hisR ?_
  intro p e s m args below meth c s₁ Bd hml0 hP hK
  obtain ⟨rfl, hZ, hh⟩ := hP
  have hx := Bd.exec
  have hby := Bd.bytes
  have hml : c.maxLocals = 1 := hml0
  have hown : s.vm.findClass "com/example/swallow/swallow/engine/automation/Filter" = some m.cls := findClass_of_methodNamed Bd.named
  have hnm := (name_of_methodNamed Bd.named Bd.method).1
  have hret := Bd.returns
  have hlk : meth.locks = false := BodyLoose.notSynchronized Bd
  have X0 : Stand p l e ({ frames := 0, cells := 0, slots := 0, locals := 0 } : Room) s m #[(.ref w9)] below meth c s₁ [] 0 0 := Stand.of_body Bd
  have e0 : s₁.heap = h0 := by rw [← hh, Bd.state]; rfl
  have N0 := Fr.nil n0
  have pre0 : ∀ t, Steps p.tables e below (s₁.setTop (mkF m 0 #[.val (.ref w9)] [])) t → Steps p.tables e below (s₁.setTop (entryFrame m #[(.ref w9)] 1)) t := fun t k => castTop (ef11 m w9) k
  obtain ⟨T1, X1, e1, st1⟩ := getF X0 hx hZ hown (host := "") (Or.inl (hw _ (List.mem_of_getElem? (i := 12) rfl))) Via.refl e0 (F_w9_role.ext O0.2) (g := (mkF m 1 #[.val (.ref w9)] [(.ref w9)])) rfl rfl (hb hby d2_1)
  obtain ⟨fs, hr, hrun, hended, hW, hsame⟩ := X1.leave (v := some .null) (fun h => by rw [hret] at h; cases h)
  refine ⟨_, _, pre0 _ ?_, hrun, hended, _, _, rfl, ?_, ⟨_, rfl⟩, hW, hsame.mono (by decide) (by decide)⟩
  ·
    show Steps p.tables e below (s₁.setTop (mkF m 0 #[.val (.ref w9)] [])) _
    refine XS.aloadN X0.here hx rfl (hb hby d2_0) rfl rfl ?_
    show Steps p.tables e below (s₁.setTop (mkF m 1 #[.val (.ref w9)] [(.ref w9)])) _
    refine st1 _ ?_
    show Steps p.tables e below (T1.setTop (mkF m 4 #[.val (.ref w9)] [.null])) _
    exact retOut X1 hx hret rfl (Or.inr (Or.inr (Or.inr (Or.inr ⟨rfl, rfl, rfl⟩)))) (hb hby d2_4) hr
  ·
    show Q11 Z w1 w2 w3 w4 w5 w6 w7 w8 w9 w10 h0 n0 _ T1.heap _
    rw [e1]
    exact ⟨rfl, N0, rfl⟩
theorem ef12 (m : MethodId) (x0 : Addr) : entryFrame m #[(.ref x0)] 1 = mkF m 0 #[.val (.ref x0)] [] := by first | (simp [entryFrame, mkF, argsToLocals, Value.category]; done) | rfl
def Q12 (Z : State) (w1 : Addr) (w2 : Addr) (w3 : Addr) (w4 : Addr) (w5 : Addr) (w6 : Addr) (w7 : Addr) (w8 : Addr) (w9 : Addr) (w10 : Addr) (h0 : Heap) (n0 : Nat) (v : Option Value) (h : Heap) (L : List Loc) : Prop :=
  (v = some (.int (0 : Int32)) ∧ Fr n0 L ∧ h = h0)
set_option maxRecDepth 65536 in
set_option maxHeartbeats 40000000 in
theorem rm12 (l : Launch) (Z : State) (a0 : Array Value) (hw : ∀ d ∈ tables_1, d.before a0 Z = true) (w1 : Addr) (w2 : Addr) (w3 : Addr) (w4 : Addr) (w5 : Addr) (w6 : Addr) (w7 : Addr) (w8 : Addr) (w9 : Addr) (w10 : Addr) (G : GW Z w1 w2 w3 w4 w5 w6 w7 w8 w9 w10) (ws : List Jvm.Cond) (h0 : Heap) (n0 : Nat) (O0 : Old Z n0 h0) :
    MetFree l (⟨"com/example/swallow/swallow/engine/automation/Filter", "isGeographic", "()Z"⟩ : MethodName) (head1 (Jvm.Cond.code (⟨"com/example/swallow/swallow/engine/automation/Filter", "isGeographic", "()Z"⟩ : MethodName) prog_1_method_9_code 1 (some .boolean) :: ws) ({ frames := 0, cells := 0, slots := 0, locals := 0 } : Room)) (fun a U => a = #[(.ref w10)] ∧ Z.Warmed39 U.vm ∧ U.heap = h0) (fun _ _ _ _ _ => True) (fun _ U o U' => ∃ v L, o = .returned v ∧ Q12 Z w1 w2 w3 w4 w5 w6 w7 w8 w9 w10 h0 n0 v U'.heap L ∧ FrameEnd U o U' L ({ frames := 0, cells := 0, slots := 0, locals := 0 } : Room).cells ({ frames := 0, cells := 0, slots := 0, locals := 0 } : Room).slots) := by
  obtain ⟨S_w1, E_w1, S_w2, E_w2, S_w3, E_w3, S_w4, E_w4, S_w5, E_w5, S_w6, E_w6, S_w7, E_w7, S_w8, E_w8, S_w9, E_w9, S_w10, E_w10, F_w1_role, F_w3_role, F_w4_role, F_w5_role, F_w6_role, F_w7_role, F_w9_role, F_w10_role⟩ := id G
  refine MetFree.of_bodySF (plainFor_of_name pn1) hisR ?_
  intro p e s m args below meth c s₁ Bd hml0 hP hK
  obtain ⟨rfl, hZ, hh⟩ := hP
  have hx := Bd.exec
  have hby := Bd.bytes
  have hml : c.maxLocals = 1 := hml0
  have hown : s.vm.findClass "com/example/swallow/swallow/engine/automation/Filter" = some m.cls := findClass_of_methodNamed Bd.named
  have hnm := (name_of_methodNamed Bd.named Bd.method).1
  have hret := Bd.returns
  have hlk : meth.locks = false := BodyLoose.notSynchronized Bd
  have X0 : Stand p l e ({ frames := 0, cells := 0, slots := 0, locals := 0 } : Room) s m #[(.ref w10)] below meth c s₁ [] 0 0 := Stand.of_body Bd
  have e0 : s₁.heap = h0 := by rw [← hh, Bd.state]; rfl
  have N0 := Fr.nil n0
  have pre0 : ∀ t, Steps p.tables e below (s₁.setTop (mkF m 0 #[.val (.ref w10)] [])) t → Steps p.tables e below (s₁.setTop (entryFrame m #[(.ref w10)] 1)) t := fun t k => castTop (ef12 m w10) k
  obtain ⟨T1, X1, e1, st1⟩ := getF X0 hx hZ hown (host := "") (Or.inl (hw _ (List.mem_of_getElem? (i := 12) rfl))) Via.refl e0 (F_w10_role.ext O0.2) (g := (mkF m 1 #[.val (.ref w10)] [(.ref w10)])) rfl rfl (hb hby d1_1)
  obtain ⟨fs, hr, hrun, hended, hW, hsame⟩ := X1.leave (v := some (.int (0 : Int32))) (fun h => by rw [hret] at h; cases h)
  refine ⟨_, _, pre0 _ ?_, hrun, hended, _, _, rfl, ?_, ⟨_, rfl⟩, hW, hsame.mono (by decide) (by decide)⟩
  ·
    show Steps p.tables e below (s₁.setTop (mkF m 0 #[.val (.ref w10)] [])) _
    refine XS.aloadN X0.here hx rfl (hb hby d1_0) rfl rfl ?_
    show Steps p.tables e below (s₁.setTop (mkF m 1 #[.val (.ref w10)] [(.ref w10)])) _
    refine st1 _ ?_
    show Steps p.tables e below (T1.setTop (mkF m 4 #[.val (.ref w10)] [.null])) _
    refine XS.ifnullYes X1.here hx rfl (pc0 := 4) (pc' := 11) rfl (hb hby d1_4) rfl (by decide) (by decide) ?_
    show Steps p.tables e below (T1.setTop (mkF m 11 #[.val (.ref w10)] [])) _
    refine XS.iconst X1.here hx rfl (hb hby d1_11) ?_
    show Steps p.tables e below (T1.setTop (mkF m 12 #[.val (.ref w10)] [(.int (0 : Int32))])) _
    exact retN X1 hx (t := .boolean) hret (by simp) (hb hby d1_12) hr
  ·
    show Q12 Z w1 w2 w3 w4 w5 w6 w7 w8 w9 w10 h0 n0 _ T1.heap _
    rw [e1]
    exact ⟨rfl, N0, rfl⟩
theorem ef13 (m : MethodId) (x0 : Addr) : entryFrame m #[(.ref x0)] 1 = mkF m 0 #[.val (.ref x0)] [] := by first | (simp [entryFrame, mkF, argsToLocals, Value.category]; done) | rfl
def Q13 (Z : State) (w1 : Addr) (w2 : Addr) (w3 : Addr) (w4 : Addr) (w5 : Addr) (w6 : Addr) (w7 : Addr) (w8 : Addr) (w9 : Addr) (w10 : Addr) (h0 : Heap) (n0 : Nat) (v : Option Value) (h : Heap) (L : List Loc) : Prop :=
  (v = some .null ∧ Fr n0 L ∧ h = h0)
set_option maxRecDepth 65536 in
set_option maxHeartbeats 40000000 in
theorem rm13 (l : Launch) (Z : State) (a0 : Array Value) (hw : ∀ d ∈ tables_1, d.before a0 Z = true) (w1 : Addr) (w2 : Addr) (w3 : Addr) (w4 : Addr) (w5 : Addr) (w6 : Addr) (w7 : Addr) (w8 : Addr) (w9 : Addr) (w10 : Addr) (G : GW Z w1 w2 w3 w4 w5 w6 w7 w8 w9 w10) (ws : List Jvm.Cond) (h0 : Heap) (n0 : Nat) (O0 : Old Z n0 h0) :
    MetFree l (⟨"com/example/swallow/swallow/engine/automation/Filter", "getRole", "()Lcom/example/swallow/swallow/engine/automation/PlaceRole;"⟩ : MethodName) (head1 (Jvm.Cond.code (⟨"com/example/swallow/swallow/engine/automation/Filter", "getRole", "()Lcom/example/swallow/swallow/engine/automation/PlaceRole;"⟩ : MethodName) prog_1_method_10_code 1 (some (.object "com/example/swallow/swallow/engine/automation/PlaceRole")) :: ws) ({ frames := 0, cells := 0, slots := 0, locals := 0 } : Room)) (fun a U => a = #[(.ref w10)] ∧ Z.Warmed39 U.vm ∧ U.heap = h0) (fun _ _ _ _ _ => True) (fun _ U o U' => ∃ v L, o = .returned v ∧ Q13 Z w1 w2 w3 w4 w5 w6 w7 w8 w9 w10 h0 n0 v U'.heap L ∧ FrameEnd U o U' L ({ frames := 0, cells := 0, slots := 0, locals := 0 } : Room).cells ({ frames := 0, cells := 0, slots := 0, locals := 0 } : Room).slots) := by
  obtain ⟨S_w1, E_w1, S_w2, E_w2, S_w3, E_w3, S_w4, E_w4, S_w5, E_w5, S_w6, E_w6, S_w7, E_w7, S_w8, E_w8, S_w9, E_w9, S_w10, E_w10, F_w1_role, F_w3_role, F_w4_role, F_w5_role, F_w6_role, F_w7_role, F_w9_role, F_w10_role⟩ := id G
  refine MetFree.of_bodySF (plainFor_of_name pn1) hisR ?_
  intro p e s m args below meth c s₁ Bd hml0 hP hK
  obtain ⟨rfl, hZ, hh⟩ := hP
  have hx := Bd.exec
  have hby := Bd.bytes
  have hml : c.maxLocals = 1 := hml0
  have hown : s.vm.findClass "com/example/swallow/swallow/engine/automation/Filter" = some m.cls := findClass_of_methodNamed Bd.named
  have hnm := (name_of_methodNamed Bd.named Bd.method).1
  have hret := Bd.returns
  have hlk : meth.locks = false := BodyLoose.notSynchronized Bd
  have X0 : Stand p l e ({ frames := 0, cells := 0, slots := 0, locals := 0 } : Room) s m #[(.ref w10)] below meth c s₁ [] 0 0 := Stand.of_body Bd
  have e0 : s₁.heap = h0 := by rw [← hh, Bd.state]; rfl
  have N0 := Fr.nil n0
  have pre0 : ∀ t, Steps p.tables e below (s₁.setTop (mkF m 0 #[.val (.ref w10)] [])) t → Steps p.tables e below (s₁.setTop (entryFrame m #[(.ref w10)] 1)) t := fun t k => castTop (ef13 m w10) k
  obtain ⟨T1, X1, e1, st1⟩ := getF X0 hx hZ hown (host := "") (Or.inl (hw _ (List.mem_of_getElem? (i := 12) rfl))) Via.refl e0 (F_w10_role.ext O0.2) (g := (mkF m 1 #[.val (.ref w10)] [(.ref w10)])) rfl rfl (hb hby d2_1)
  obtain ⟨fs, hr, hrun, hended, hW, hsame⟩ := X1.leave (v := some .null) (fun h => by rw [hret] at h; cases h)
  refine ⟨_, _, pre0 _ ?_, hrun, hended, _, _, rfl, ?_, ⟨_, rfl⟩, hW, hsame.mono (by decide) (by decide)⟩
  ·
    show Steps p.tables e below (s₁.setTop (mkF m 0 #[.val (.ref w10)] [])) _
    refine XS.aloadN X0.here hx rfl (hb hby d2_0) rfl rfl ?_
    show Steps p.tables e below (s₁.setTop (mkF m 1 #[.val (.ref w10)] [(.ref w10)])) _
    refine st1 _ ?_
    show Steps p.tables e below (T1.setTop (mkF m 4 #[.val (.ref w10)] [.null])) _
    exact retOut X1 hx hret rfl (Or.inr (Or.inr (Or.inr (Or.inr ⟨rfl, rfl, rfl⟩)))) (hb hby d2_4) hr
  ·
    show Q13 Z w1 w2 w3 w4 w5 w6 w7 w8 w9 w10 h0 n0 _ T1.heap _
    rw [e1]
    exact ⟨rfl, N0, rfl⟩
theorem ef14 (m : MethodId) (x0 : Addr) : entryFrame m #[(.ref x0)] 1 = mkF m 0 #[.val (.ref x0)] [] := by first | (simp [entryFrame, mkF, argsToLocals, Value.category]; done) | rfl
def Q14 (Z : State) (w1 : Addr) (w2 : Addr) (w3 : Addr) (w4 : Addr) (w5 : Addr) (w6 : Addr) (w7 : Addr) (w8 : Addr) (w9 : Addr) (w10 : Addr) (h0 : Heap) (n0 : Nat) (v : Option Value) (h : Heap) (L : List Loc) : Prop :=
  (v = some (.int (0 : Int32)) ∧ Fr n0 L ∧ h = h0)
set_option maxRecDepth 65536 in
set_option maxHeartbeats 40000000 in
theorem rm14 (l : Launch) (Z : State) (a0 : Array Value) (hw : ∀ d ∈ tables_1, d.before a0 Z = true) (w1 : Addr) (w2 : Addr) (w3 : Addr) (w4 : Addr) (w5 : Addr) (w6 : Addr) (w7 : Addr) (w8 : Addr) (w9 : Addr) (w10 : Addr) (G : GW Z w1 w2 w3 w4 w5 w6 w7 w8 w9 w10) (ws : List Jvm.Cond) (h0 : Heap) (n0 : Nat) (O0 : Old Z n0 h0) :
    MetFree l (⟨"com/example/swallow/swallow/engine/automation/Filter", "isGeographic", "()Z"⟩ : MethodName) (head1 (Jvm.Cond.code (⟨"com/example/swallow/swallow/engine/automation/Filter", "isGeographic", "()Z"⟩ : MethodName) prog_1_method_9_code 1 (some .boolean) :: ws) ({ frames := 0, cells := 0, slots := 0, locals := 0 } : Room)) (fun a U => a = #[(.ref w4)] ∧ Z.Warmed39 U.vm ∧ U.heap = h0) (fun _ _ _ _ _ => True) (fun _ U o U' => ∃ v L, o = .returned v ∧ Q14 Z w1 w2 w3 w4 w5 w6 w7 w8 w9 w10 h0 n0 v U'.heap L ∧ FrameEnd U o U' L ({ frames := 0, cells := 0, slots := 0, locals := 0 } : Room).cells ({ frames := 0, cells := 0, slots := 0, locals := 0 } : Room).slots) := by
  obtain ⟨S_w1, E_w1, S_w2, E_w2, S_w3, E_w3, S_w4, E_w4, S_w5, E_w5, S_w6, E_w6, S_w7, E_w7, S_w8, E_w8, S_w9, E_w9, S_w10, E_w10, F_w1_role, F_w3_role, F_w4_role, F_w5_role, F_w6_role, F_w7_role, F_w9_role, F_w10_role⟩ := id G
  refine MetFree.of_bodySF (plainFor_of_name pn1) hisR ?_
  intro p e s m args below meth c s₁ Bd hml0 hP hK
  obtain ⟨rfl, hZ, hh⟩ := hP
  have hx := Bd.exec
  have hby := Bd.bytes
  have hml : c.maxLocals = 1 := hml0
  have hown : s.vm.findClass "com/example/swallow/swallow/engine/automation/Filter" = some m.cls := findClass_of_methodNamed Bd.named
  have hnm := (name_of_methodNamed Bd.named Bd.method).1
  have hret := Bd.returns
  have hlk : meth.locks = false := BodyLoose.notSynchronized Bd
  have X0 : Stand p l e ({ frames := 0, cells := 0, slots := 0, locals := 0 } : Room) s m #[(.ref w4)] below meth c s₁ [] 0 0 := Stand.of_body Bd
  have e0 : s₁.heap = h0 := by rw [← hh, Bd.state]; rfl
  have N0 := Fr.nil n0
  have pre0 : ∀ t, Steps p.tables e below (s₁.setTop (mkF m 0 #[.val (.ref w4)] [])) t → Steps p.tables e below (s₁.setTop (entryFrame m #[(.ref w4)] 1)) t := fun t k => castTop (ef14 m w4) k
  obtain ⟨T1, X1, e1, st1⟩ := getF X0 hx hZ hown (host := "") (Or.inl (hw _ (List.mem_of_getElem? (i := 12) rfl))) Via.refl e0 (F_w4_role.ext O0.2) (g := (mkF m 1 #[.val (.ref w4)] [(.ref w4)])) rfl rfl (hb hby d1_1)
  obtain ⟨fs, hr, hrun, hended, hW, hsame⟩ := X1.leave (v := some (.int (0 : Int32))) (fun h => by rw [hret] at h; cases h)
  refine ⟨_, _, pre0 _ ?_, hrun, hended, _, _, rfl, ?_, ⟨_, rfl⟩, hW, hsame.mono (by decide) (by decide)⟩
  ·
    show Steps p.tables e below (s₁.setTop (mkF m 0 #[.val (.ref w4)] [])) _
    refine XS.aloadN X0.here hx rfl (hb hby d1_0) rfl rfl ?_
    show Steps p.tables e below (s₁.setTop (mkF m 1 #[.val (.ref w4)] [(.ref w4)])) _
    refine st1 _ ?_
    show Steps p.tables e below (T1.setTop (mkF m 4 #[.val (.ref w4)] [.null])) _
    refine XS.ifnullYes X1.here hx rfl (pc0 := 4) (pc' := 11) rfl (hb hby d1_4) rfl (by decide) (by decide) ?_
    show Steps p.tables e below (T1.setTop (mkF m 11 #[.val (.ref w4)] [])) _
    refine XS.iconst X1.here hx rfl (hb hby d1_11) ?_
    show Steps p.tables e below (T1.setTop (mkF m 12 #[.val (.ref w4)] [(.int (0 : Int32))])) _
    exact retN X1 hx (t := .boolean) hret (by simp) (hb hby d1_12) hr
  ·
    show Q14 Z w1 w2 w3 w4 w5 w6 w7 w8 w9 w10 h0 n0 _ T1.heap _
    rw [e1]
    exact ⟨rfl, N0, rfl⟩
theorem ef15 (m : MethodId) (x0 : Addr) : entryFrame m #[(.ref x0)] 1 = mkF m 0 #[.val (.ref x0)] [] := by first | (simp [entryFrame, mkF, argsToLocals, Value.category]; done) | rfl
def Q15 (Z : State) (w1 : Addr) (w2 : Addr) (w3 : Addr) (w4 : Addr) (w5 : Addr) (w6 : Addr) (w7 : Addr) (w8 : Addr) (w9 : Addr) (w10 : Addr) (h0 : Heap) (n0 : Nat) (v : Option Value) (h : Heap) (L : List Loc) : Prop :=
  (v = some .null ∧ Fr n0 L ∧ h = h0)
set_option maxRecDepth 65536 in
set_option maxHeartbeats 40000000 in
theorem rm15 (l : Launch) (Z : State) (a0 : Array Value) (hw : ∀ d ∈ tables_1, d.before a0 Z = true) (w1 : Addr) (w2 : Addr) (w3 : Addr) (w4 : Addr) (w5 : Addr) (w6 : Addr) (w7 : Addr) (w8 : Addr) (w9 : Addr) (w10 : Addr) (G : GW Z w1 w2 w3 w4 w5 w6 w7 w8 w9 w10) (ws : List Jvm.Cond) (h0 : Heap) (n0 : Nat) (O0 : Old Z n0 h0) :
    MetFree l (⟨"com/example/swallow/swallow/engine/automation/Filter", "getRole", "()Lcom/example/swallow/swallow/engine/automation/PlaceRole;"⟩ : MethodName) (head1 (Jvm.Cond.code (⟨"com/example/swallow/swallow/engine/automation/Filter", "getRole", "()Lcom/example/swallow/swallow/engine/automation/PlaceRole;"⟩ : MethodName) prog_1_method_10_code 1 (some (.object "com/example/swallow/swallow/engine/automation/PlaceRole")) :: ws) ({ frames := 0, cells := 0, slots := 0, locals := 0 } : Room)) (fun a U => a = #[(.ref w4)] ∧ Z.Warmed39 U.vm ∧ U.heap = h0) (fun _ _ _ _ _ => True) (fun _ U o U' => ∃ v L, o = .returned v ∧ Q15 Z w1 w2 w3 w4 w5 w6 w7 w8 w9 w10 h0 n0 v U'.heap L ∧ FrameEnd U o U' L ({ frames := 0, cells := 0, slots := 0, locals := 0 } : Room).cells ({ frames := 0, cells := 0, slots := 0, locals := 0 } : Room).slots) := by
  obtain ⟨S_w1, E_w1, S_w2, E_w2, S_w3, E_w3, S_w4, E_w4, S_w5, E_w5, S_w6, E_w6, S_w7, E_w7, S_w8, E_w8, S_w9, E_w9, S_w10, E_w10, F_w1_role, F_w3_role, F_w4_role, F_w5_role, F_w6_role, F_w7_role, F_w9_role, F_w10_role⟩ := id G
  refine MetFree.of_bodySF (plainFor_of_name pn1) hisR ?_
  intro p e s m args below meth c s₁ Bd hml0 hP hK
  obtain ⟨rfl, hZ, hh⟩ := hP
  have hx := Bd.exec
  have hby := Bd.bytes
  have hml : c.maxLocals = 1 := hml0
  have hown : s.vm.findClass "com/example/swallow/swallow/engine/automation/Filter" = some m.cls := findClass_of_methodNamed Bd.named
  have hnm := (name_of_methodNamed Bd.named Bd.method).1
  have hret := Bd.returns
  have hlk : meth.locks = false := BodyLoose.notSynchronized Bd
  have X0 : Stand p l e ({ frames := 0, cells := 0, slots := 0, locals := 0 } : Room) s m #[(.ref w4)] below meth c s₁ [] 0 0 := Stand.of_body Bd
  have e0 : s₁.heap = h0 := by rw [← hh, Bd.state]; rfl
  have N0 := Fr.nil n0
  have pre0 : ∀ t, Steps p.tables e below (s₁.setTop (mkF m 0 #[.val (.ref w4)] [])) t → Steps p.tables e below (s₁.setTop (entryFrame m #[(.ref w4)] 1)) t := fun t k => castTop (ef15 m w4) k
  obtain ⟨T1, X1, e1, st1⟩ := getF X0 hx hZ hown (host := "") (Or.inl (hw _ (List.mem_of_getElem? (i := 12) rfl))) Via.refl e0 (F_w4_role.ext O0.2) (g := (mkF m 1 #[.val (.ref w4)] [(.ref w4)])) rfl rfl (hb hby d2_1)
  obtain ⟨fs, hr, hrun, hended, hW, hsame⟩ := X1.leave (v := some .null) (fun h => by rw [hret] at h; cases h)
  refine ⟨_, _, pre0 _ ?_, hrun, hended, _, _, rfl, ?_, ⟨_, rfl⟩, hW, hsame.mono (by decide) (by decide)⟩
  ·
    show Steps p.tables e below (s₁.setTop (mkF m 0 #[.val (.ref w4)] [])) _
    refine XS.aloadN X0.here hx rfl (hb hby d2_0) rfl rfl ?_
    show Steps p.tables e below (s₁.setTop (mkF m 1 #[.val (.ref w4)] [(.ref w4)])) _
    refine st1 _ ?_
    show Steps p.tables e below (T1.setTop (mkF m 4 #[.val (.ref w4)] [.null])) _
    exact retOut X1 hx hret rfl (Or.inr (Or.inr (Or.inr (Or.inr ⟨rfl, rfl, rfl⟩)))) (hb hby d2_4) hr
  ·
    show Q15 Z w1 w2 w3 w4 w5 w6 w7 w8 w9 w10 h0 n0 _ T1.heap _
    rw [e1]
    exact ⟨rfl, N0, rfl⟩
theorem ef16 (m : MethodId) (x0 : Addr) : entryFrame m #[(.ref x0)] 1 = mkF m 0 #[.val (.ref x0)] [] := by first | (simp [entryFrame, mkF, argsToLocals, Value.category]; done) | rfl
def Q16 (Z : State) (w1 : Addr) (w2 : Addr) (w3 : Addr) (w4 : Addr) (w5 : Addr) (w6 : Addr) (w7 : Addr) (w8 : Addr) (w9 : Addr) (w10 : Addr) (h0 : Heap) (n0 : Nat) (v : Option Value) (h : Heap) (L : List Loc) : Prop :=
  (v = some (.int (0 : Int32)) ∧ Fr n0 L ∧ h = h0)
set_option maxRecDepth 65536 in
set_option maxHeartbeats 40000000 in
theorem rm16 (l : Launch) (Z : State) (a0 : Array Value) (hw : ∀ d ∈ tables_1, d.before a0 Z = true) (w1 : Addr) (w2 : Addr) (w3 : Addr) (w4 : Addr) (w5 : Addr) (w6 : Addr) (w7 : Addr) (w8 : Addr) (w9 : Addr) (w10 : Addr) (G : GW Z w1 w2 w3 w4 w5 w6 w7 w8 w9 w10) (ws : List Jvm.Cond) (h0 : Heap) (n0 : Nat) (O0 : Old Z n0 h0) :
    MetFree l (⟨"com/example/swallow/swallow/engine/automation/Filter", "isGeographic", "()Z"⟩ : MethodName) (head1 (Jvm.Cond.code (⟨"com/example/swallow/swallow/engine/automation/Filter", "isGeographic", "()Z"⟩ : MethodName) prog_1_method_9_code 1 (some .boolean) :: ws) ({ frames := 0, cells := 0, slots := 0, locals := 0 } : Room)) (fun a U => a = #[(.ref w5)] ∧ Z.Warmed39 U.vm ∧ U.heap = h0) (fun _ _ _ _ _ => True) (fun _ U o U' => ∃ v L, o = .returned v ∧ Q16 Z w1 w2 w3 w4 w5 w6 w7 w8 w9 w10 h0 n0 v U'.heap L ∧ FrameEnd U o U' L ({ frames := 0, cells := 0, slots := 0, locals := 0 } : Room).cells ({ frames := 0, cells := 0, slots := 0, locals := 0 } : Room).slots) := by
  obtain ⟨S_w1, E_w1, S_w2, E_w2, S_w3, E_w3, S_w4, E_w4, S_w5, E_w5, S_w6, E_w6, S_w7, E_w7, S_w8, E_w8, S_w9, E_w9, S_w10, E_w10, F_w1_role, F_w3_role, F_w4_role, F_w5_role, F_w6_role, F_w7_role, F_w9_role, F_w10_role⟩ := id G
  refine MetFree.of_bodySF (plainFor_of_name pn1) hisR ?_
  intro p e s m args below meth c s₁ Bd hml0 hP hK
  obtain ⟨rfl, hZ, hh⟩ := hP
  have hx := Bd.exec
  have hby := Bd.bytes
  have hml : c.maxLocals = 1 := hml0
  have hown : s.vm.findClass "com/example/swallow/swallow/engine/automation/Filter" = some m.cls := findClass_of_methodNamed Bd.named
  have hnm := (name_of_methodNamed Bd.named Bd.method).1
  have hret := Bd.returns
  have hlk : meth.locks = false := BodyLoose.notSynchronized Bd
  have X0 : Stand p l e ({ frames := 0, cells := 0, slots := 0, locals := 0 } : Room) s m #[(.ref w5)] below meth c s₁ [] 0 0 := Stand.of_body Bd
  have e0 : s₁.heap = h0 := by rw [← hh, Bd.state]; rfl
  have N0 := Fr.nil n0
  have pre0 : ∀ t, Steps p.tables e below (s₁.setTop (mkF m 0 #[.val (.ref w5)] [])) t → Steps p.tables e below (s₁.setTop (entryFrame m #[(.ref w5)] 1)) t := fun t k => castTop (ef16 m w5) k
  obtain ⟨T1, X1, e1, st1⟩ := getF X0 hx hZ hown (host := "") (Or.inl (hw _ (List.mem_of_getElem? (i := 12) rfl))) Via.refl e0 (F_w5_role.ext O0.2) (g := (mkF m 1 #[.val (.ref w5)] [(.ref w5)])) rfl rfl (hb hby d1_1)
  obtain ⟨fs, hr, hrun, hended, hW, hsame⟩ := X1.leave (v := some (.int (0 : Int32))) (fun h => by rw [hret] at h; cases h)
  refine ⟨_, _, pre0 _ ?_, hrun, hended, _, _, rfl, ?_, ⟨_, rfl⟩, hW, hsame.mono (by decide) (by decide)⟩
  ·
    show Steps p.tables e below (s₁.setTop (mkF m 0 #[.val (.ref w5)] [])) _
    refine XS.aloadN X0.here hx rfl (hb hby d1_0) rfl rfl ?_
    show Steps p.tables e below (s₁.setTop (mkF m 1 #[.val (.ref w5)] [(.ref w5)])) _
    refine st1 _ ?_
    show Steps p.tables e below (T1.setTop (mkF m 4 #[.val (.ref w5)] [.null])) _
    refine XS.ifnullYes X1.here hx rfl (pc0 := 4) (pc' := 11) rfl (hb hby d1_4) rfl (by decide) (by decide) ?_
    show Steps p.tables e below (T1.setTop (mkF m 11 #[.val (.ref w5)] [])) _
    refine XS.iconst X1.here hx rfl (hb hby d1_11) ?_
    show Steps p.tables e below (T1.setTop (mkF m 12 #[.val (.ref w5)] [(.int (0 : Int32))])) _
    exact retN X1 hx (t := .boolean) hret (by simp) (hb hby d1_12) hr
  ·
    show Q16 Z w1 w2 w3 w4 w5 w6 w7 w8 w9 w10 h0 n0 _ T1.heap _
    rw [e1]
    exact ⟨rfl, N0, rfl⟩
theorem ef17 (m : MethodId) (x0 : Addr) : entryFrame m #[(.ref x0)] 1 = mkF m 0 #[.val (.ref x0)] [] := by first | (simp [entryFrame, mkF, argsToLocals, Value.category]; done) | rfl
def Q17 (Z : State) (w1 : Addr) (w2 : Addr) (w3 : Addr) (w4 : Addr) (w5 : Addr) (w6 : Addr) (w7 : Addr) (w8 : Addr) (w9 : Addr) (w10 : Addr) (h0 : Heap) (n0 : Nat) (v : Option Value) (h : Heap) (L : List Loc) : Prop :=
  (v = some .null ∧ Fr n0 L ∧ h = h0)
set_option maxRecDepth 65536 in
set_option maxHeartbeats 40000000 in
theorem rm17 (l : Launch) (Z : State) (a0 : Array Value) (hw : ∀ d ∈ tables_1, d.before a0 Z = true) (w1 : Addr) (w2 : Addr) (w3 : Addr) (w4 : Addr) (w5 : Addr) (w6 : Addr) (w7 : Addr) (w8 : Addr) (w9 : Addr) (w10 : Addr) (G : GW Z w1 w2 w3 w4 w5 w6 w7 w8 w9 w10) (ws : List Jvm.Cond) (h0 : Heap) (n0 : Nat) (O0 : Old Z n0 h0) :
    MetFree l (⟨"com/example/swallow/swallow/engine/automation/Filter", "getRole", "()Lcom/example/swallow/swallow/engine/automation/PlaceRole;"⟩ : MethodName) (head1 (Jvm.Cond.code (⟨"com/example/swallow/swallow/engine/automation/Filter", "getRole", "()Lcom/example/swallow/swallow/engine/automation/PlaceRole;"⟩ : MethodName) prog_1_method_10_code 1 (some (.object "com/example/swallow/swallow/engine/automation/PlaceRole")) :: ws) ({ frames := 0, cells := 0, slots := 0, locals := 0 } : Room)) (fun a U => a = #[(.ref w5)] ∧ Z.Warmed39 U.vm ∧ U.heap = h0) (fun _ _ _ _ _ => True) (fun _ U o U' => ∃ v L, o = .returned v ∧ Q17 Z w1 w2 w3 w4 w5 w6 w7 w8 w9 w10 h0 n0 v U'.heap L ∧ FrameEnd U o U' L ({ frames := 0, cells := 0, slots := 0, locals := 0 } : Room).cells ({ frames := 0, cells := 0, slots := 0, locals := 0 } : Room).slots) := by
  obtain ⟨S_w1, E_w1, S_w2, E_w2, S_w3, E_w3, S_w4, E_w4, S_w5, E_w5, S_w6, E_w6, S_w7, E_w7, S_w8, E_w8, S_w9, E_w9, S_w10, E_w10, F_w1_role, F_w3_role, F_w4_role, F_w5_role, F_w6_role, F_w7_role, F_w9_role, F_w10_role⟩ := id G
  refine MetFree.of_bodySF (plainFor_of_name pn1) hisR ?_
  intro p e s m args below meth c s₁ Bd hml0 hP hK
  obtain ⟨rfl, hZ, hh⟩ := hP
  have hx := Bd.exec
  have hby := Bd.bytes
  have hml : c.maxLocals = 1 := hml0
  have hown : s.vm.findClass "com/example/swallow/swallow/engine/automation/Filter" = some m.cls := findClass_of_methodNamed Bd.named
  have hnm := (name_of_methodNamed Bd.named Bd.method).1
  have hret := Bd.returns
  have hlk : meth.locks = false := BodyLoose.notSynchronized Bd
  have X0 : Stand p l e ({ frames := 0, cells := 0, slots := 0, locals := 0 } : Room) s m #[(.ref w5)] below meth c s₁ [] 0 0 := Stand.of_body Bd
  have e0 : s₁.heap = h0 := by rw [← hh, Bd.state]; rfl
  have N0 := Fr.nil n0
  have pre0 : ∀ t, Steps p.tables e below (s₁.setTop (mkF m 0 #[.val (.ref w5)] [])) t → Steps p.tables e below (s₁.setTop (entryFrame m #[(.ref w5)] 1)) t := fun t k => castTop (ef17 m w5) k
  obtain ⟨T1, X1, e1, st1⟩ := getF X0 hx hZ hown (host := "") (Or.inl (hw _ (List.mem_of_getElem? (i := 12) rfl))) Via.refl e0 (F_w5_role.ext O0.2) (g := (mkF m 1 #[.val (.ref w5)] [(.ref w5)])) rfl rfl (hb hby d2_1)
  obtain ⟨fs, hr, hrun, hended, hW, hsame⟩ := X1.leave (v := some .null) (fun h => by rw [hret] at h; cases h)
  refine ⟨_, _, pre0 _ ?_, hrun, hended, _, _, rfl, ?_, ⟨_, rfl⟩, hW, hsame.mono (by decide) (by decide)⟩
  ·
    show Steps p.tables e below (s₁.setTop (mkF m 0 #[.val (.ref w5)] [])) _
    refine XS.aloadN X0.here hx rfl (hb hby d2_0) rfl rfl ?_
    show Steps p.tables e below (s₁.setTop (mkF m 1 #[.val (.ref w5)] [(.ref w5)])) _
    refine st1 _ ?_
    show Steps p.tables e below (T1.setTop (mkF m 4 #[.val (.ref w5)] [.null])) _
    exact retOut X1 hx hret rfl (Or.inr (Or.inr (Or.inr (Or.inr ⟨rfl, rfl, rfl⟩)))) (hb hby d2_4) hr
  ·
    show Q17 Z w1 w2 w3 w4 w5 w6 w7 w8 w9 w10 h0 n0 _ T1.heap _
    rw [e1]
    exact ⟨rfl, N0, rfl⟩
theorem ef0 (m : MethodId) (x0 : Int32) : entryFrame m #[(.int x0)] maxLocals = mkF m 0 #[.val (.int x0), .unset, .unset, .unset, .unset, .unset] [] := by first | (simp [entryFrame, mkF, argsToLocals, Value.category, maxLocals]; done) | rfl
set_option maxRecDepth 65536 in
set_option maxHeartbeats 40000000 in
theorem rm0 (l : Launch) (Z : State) (a0 : Array Value) (hw : ∀ d ∈ tables_1, d.before a0 Z = true) (w1 : Addr) (w2 : Addr) (w3 : Addr) (w4 : Addr) (w5 : Addr) (w6 : Addr) (w7 : Addr) (w8 : Addr) (w9 : Addr) (w10 : Addr) (G : GW Z w1 w2 w3 w4 w5 w6 w7 w8 w9 w10) (ws : List Jvm.Cond) (p1 : Int32) (h0 : Heap) (n0 : Nat) (O0 : Old Z n0 h0) :
    MetFree l x (head1 (Jvm.Cond.code x code maxLocals ret :: ws) room_1) (fun a U => a = #[(.int p1)] ∧ Z.Warmed39 U.vm ∧ U.heap = h0) (fun _ _ _ _ _ => True) (fun _ U o U' => ∃ v L, o = .returned v ∧ Q0 n0 v U'.heap L ∧ FrameEnd U o U' L 0 0) := by
  obtain ⟨S_w1, E_w1, S_w2, E_w2, S_w3, E_w3, S_w4, E_w4, S_w5, E_w5, S_w6, E_w6, S_w7, E_w7, S_w8, E_w8, S_w9, E_w9, S_w10, E_w10, F_w1_role, F_w3_role, F_w4_role, F_w5_role, F_w6_role, F_w7_role, F_w9_role, F_w10_role⟩ := id G
  refine MetFree.of_bodySF (plainFor_of_name pn0) hisR ?_
  intro p e s m args below meth c s₁ Bd hml0 hP hK
  obtain ⟨rfl, hZ, hh⟩ := hP
  have hx := Bd.exec
  have hby := Bd.bytes
  have hml : c.maxLocals = 6 := hml0
  have hown : s.vm.findClass "com/example/swallow/swallow/engine/automation/FilterIsGeographicPinLaw" = some m.cls := findClass_of_methodNamed Bd.named
  have hnm := (name_of_methodNamed Bd.named Bd.method).1
  have hret := Bd.returns
  have hlk : meth.locks = false := BodyLoose.notSynchronized Bd
  have X0 : Stand p l e room_1 s m #[(.int p1)] below meth c s₁ [] 0 0 := Stand.of_body Bd
  have e0 : s₁.heap = h0 := by rw [← hh, Bd.state]; rfl
  have N0 := Fr.nil n0
  have pre0 : ∀ t, Steps p.tables e below (s₁.setTop (mkF m 0 #[.val (.int p1), .unset, .unset, .unset, .unset, .unset] [])) t → Steps p.tables e below (s₁.setTop (entryFrame m #[(.int p1)] maxLocals)) t := fun t k => castTop (ef0 m p1) k
  obtain ⟨_, _, ⟨T1, L1, c1, n1⟩, -, X1, ⟨Lc1, hQ1, l1, y1, z1⟩, st1⟩ := Jvm.LawKit.callS X0 hx (y := (⟨"com/example/swallow/swallow/engine/automation/FilterIsGeographicPinLaw", "pick", "(I)Lcom/example/swallow/swallow/engine/automation/Filter;"⟩ : MethodName)) hown (mvT hZ (hw _ (List.mem_of_getElem? (i := 0) rfl))) (mvT hZ (hw _ (List.mem_of_getElem? (i := 1) rfl))) (mvT hZ (hw _ (List.mem_of_getElem? (i := 2) rfl))) (mvT hZ (hw _ (List.mem_of_getElem? (i := 3) rfl))) (by decide) (backOf (W := 0) (rm1 l Z a0 hw w1 w2 w3 w4 w5 w6 w7 w8 w9 w10 G [] ((p1 &&& (7 : Int32))) h0 n0 O0 ) hZ (hw _ (List.mem_of_getElem? (i := 3) rfl)) (hw _ (List.mem_of_getElem? (i := 2) rfl)) (by decide) (by decide)) (g := (mkF m 6 #[.val (.int p1), .val (.int (p1 &&& (7 : Int32))), .unset, .unset, .unset, .unset] [(.int (p1 &&& (7 : Int32)))])) rfl (by rw [hml]; rfl) (argsL := [(.int (p1 &&& (7 : Int32)))]) (rest := []) (lenOf pd0 rfl) rfl (by show 2 * 0 + _ ≤ _; exact Nat.le_of_eq rfl) (hb hby at_6) (fun _ _ => ⟨rfl, e0, (by decide : 0 + 0 ≤ _), (by decide : 0 + 0 ≤ _)⟩)
  dsimp only [Pt.U, Pt.locs, Pt.cells, Pt.slots] at X1 l1 y1 z1 st1 hQ1
  subst l1 y1 z1
  have pre2 : ∀ t, Steps p.tables e below (s₁.setTop (mkF m 6 #[.val (.int p1), .val (.int (p1 &&& (7 : Int32))), .unset, .unset, .unset, .unset] [(.int (p1 &&& (7 : Int32)))])) t → Steps p.tables e below (s₁.setTop (entryFrame m #[(.int p1)] maxLocals)) t := fun t k => by
    refine pre0 _ ?_
    show Steps p.tables e below (s₁.setTop (mkF m 0 #[.val (.int p1), .unset, .unset, .unset, .unset, .unset] [])) _
    refine XS.iloadN X0.here hx rfl (hb hby at_0) rfl ?_
    show Steps p.tables e below (s₁.setTop (mkF m 1 #[.val (.int p1), .unset, .unset, .unset, .unset, .unset] [(.int p1)])) _
    refine XS.bipush X0.here hx rfl (hb hby at_1) ?_
    show Steps p.tables e below (s₁.setTop (mkF m 3 #[.val (.int p1), .unset, .unset, .unset, .unset, .unset] [(.int (7 : Int32)), (.int p1)])) _
    refine XS.iand X0.here hx rfl (hb hby at_3) rfl ?_
    show Steps p.tables e below (s₁.setTop (mkF m 4 #[.val (.int p1), .unset, .unset, .unset, .unset, .unset] [(.int (p1 &&& (7 : Int32)))])) _
    refine XS.istoreN X0.here hx rfl (hb hby at_4) rfl (l' := #[.val (.int p1), .val (.int (p1 &&& (7 : Int32))), .unset, .unset, .unset, .unset]) rfl ?_
    show Steps p.tables e below (s₁.setTop (mkF m 5 #[.val (.int p1), .val (.int (p1 &&& (7 : Int32))), .unset, .unset, .unset, .unset] [])) _
    refine XS.iloadN X0.here hx rfl (hb hby at_5) rfl ?_
    exact k
  have X1 : Stand p l e room_1 s m #[(.int p1)] below meth c T1 _ 0 0 := X1
  rcases hQ1 with ⟨hc3, rfl, Nq4, e5⟩ | ⟨hc6, hc7, rfl, Nq8, e9⟩ | ⟨hc10, hc11, hc12, rfl, Nq13, e14⟩ | ⟨hc15, hc16, hc17, hc18, rfl, Nq19, e20⟩ | ⟨hc21, hc22, hc23, hc24, hc25, rfl, Nq26, e27⟩ | ⟨hc28, hc29, hc30, hc31, hc32, hc33, rfl, Nq34, e35⟩ | ⟨hc36, hc37, hc38, hc39, hc40, hc41, hc42, rfl, Nq43, e44⟩ | ⟨hc45, hc46, hc47, hc48, hc49, hc50, hc51, rfl, Nq52, e53⟩
  ·
    have N1 := Fr.app N0 Nq4
    obtain ⟨cq54, kq54, q54a, q54b, q54c⟩ := isOf hZ e5 (E_w1.ext O0.2)
    obtain ⟨_, _, ⟨T55, L55, c55, n55⟩, -, X55, ⟨Lc55, hQ55, l55, y55, z55⟩, st55⟩ := X1.virtualBack hx (y := (⟨"com/example/swallow/swallow/engine/automation/Filter", "isGeographic", "()Z"⟩ : MethodName)) (z := (⟨"com/example/swallow/swallow/engine/automation/Filter", "isGeographic", "()Z"⟩ : MethodName)) hown (mvT hZ (hw _ (List.mem_of_getElem? (i := 7) rfl))) (mvT hZ (hw _ (List.mem_of_getElem? (i := 8) rfl))) (notFace_of_selects (args := #[]) (mvT hZ (hw _ (List.mem_of_getElem? (i := 10) rfl)))) (mvT hZ (hw _ (List.mem_of_getElem? (i := 10) rfl))) (mvT hZ (hw _ (List.mem_of_getElem? (i := 9) rfl))) (by decide) (backOf (W := 0) (rm2 l Z a0 hw w1 w2 w3 w4 w5 w6 w7 w8 w9 w10 G []  h0 n0 O0 ) hZ (hw _ (List.mem_of_getElem? (i := 11) rfl)) (hw _ (List.mem_of_getElem? (i := 5) rfl)) (by decide) (by decide)) q54a q54c (g := (mkF m 11 #[.val (.int p1), .val (.int (p1 &&& (7 : Int32))), .val (.ref w1), .unset, .unset, .unset] [(.ref w1)])) rfl (by rw [hml]; rfl) (Steps.refl _) (argsL := []) (rest := []) (lenOf pd1 rfl) rfl (by show 2 * 0 + _ ≤ _; exact Nat.le_of_eq rfl) (hb hby at_11) (fun _ _ => ⟨rfl, e5, (by decide : 0 + 0 ≤ _), (by decide : 0 + 0 ≤ _)⟩)
    dsimp only [Pt.U, Pt.locs, Pt.cells, Pt.slots] at X55 l55 y55 z55 st55 hQ55
    subst l55 y55 z55
    have X55 : Stand p l e room_1 s m #[(.int p1)] below meth c T55 _ 0 0 := X55
    obtain ⟨rfl, Nq56, e57⟩ := hQ55
    have N55 := Fr.app N1 Nq56
    obtain ⟨cq58, kq58, q58a, q58b, q58c⟩ := isOf hZ e57 (E_w1.ext O0.2)
    obtain ⟨_, _, ⟨T59, L59, c59, n59⟩, -, X59, ⟨Lc59, hQ59, l59, y59, z59⟩, st59⟩ := X55.virtualBack hx (y := (⟨"com/example/swallow/swallow/engine/automation/Filter", "getRole", "()Lcom/example/swallow/swallow/engine/automation/PlaceRole;"⟩ : MethodName)) (z := (⟨"com/example/swallow/swallow/engine/automation/Filter", "getRole", "()Lcom/example/swallow/swallow/engine/automation/PlaceRole;"⟩ : MethodName)) hown (mvT hZ (hw _ (List.mem_of_getElem? (i := 16) rfl))) (mvT hZ (hw _ (List.mem_of_getElem? (i := 17) rfl))) (notFace_of_selects (args := #[]) (mvT hZ (hw _ (List.mem_of_getElem? (i := 19) rfl)))) (mvT hZ (hw _ (List.mem_of_getElem? (i := 19) rfl))) (mvT hZ (hw _ (List.mem_of_getElem? (i := 18) rfl))) (by decide) (backOf (W := 0) (rm3 l Z a0 hw w1 w2 w3 w4 w5 w6 w7 w8 w9 w10 G []  h0 n0 O0 ) hZ (hw _ (List.mem_of_getElem? (i := 20) rfl)) (hw _ (List.mem_of_getElem? (i := 5) rfl)) (by decide) (by decide)) q58a q58c (g := (mkF m 28 #[.val (.int p1), .val (.int (p1 &&& (7 : Int32))), .val (.ref w1), .val (.int (1 : Int32)), .val (.int (1 : Int32)), .unset] [(.ref w1)])) rfl (by rw [hml]; rfl) (Steps.refl _) (argsL := []) (rest := []) (lenOf pd2 rfl) rfl (by show 2 * 0 + _ ≤ _; exact Nat.le_of_eq rfl) (hb hby at_28) (fun _ _ => ⟨rfl, e57, (by decide : 0 + 0 ≤ _), (by decide : 0 + 0 ≤ _)⟩)
    dsimp only [Pt.U, Pt.locs, Pt.cells, Pt.slots] at X59 l59 y59 z59 st59 hQ59
    subst l59 y59 z59
    have X59 : Stand p l e room_1 s m #[(.int p1)] below meth c T59 _ 0 0 := X59
    obtain ⟨rfl, Nq60, e61⟩ := hQ59
    have N59 := Fr.app N55 Nq60
    obtain ⟨T62, X62, e62, st62⟩ := getS2 X59 hx hZ hown (host := "") (Or.inl (hw _ (List.mem_of_getElem? (i := 21) rfl))) Via.refl e61 (S_w2.ext O0.2) (g := (mkF m 63 #[.val (.int p1), .val (.int (p1 &&& (7 : Int32))), .val (.ref w1), .val (.int (1 : Int32)), .val (.int (1 : Int32)), .val (.ref w2)] [(.ref w2)])) rfl (hb hby at_63)
    obtain ⟨fs, hr, hrun, hended, hW, hsame⟩ := X62.leave (v := some (.int (1 : Int32))) (fun h => by rw [hret] at h; cases h)
    refine ⟨_, _, pre2 _ ?_, hrun, hended, _, _, rfl, ?_, ⟨_, rfl⟩, hW, hsame.mono (by decide) (by decide)⟩
    ·
      show Steps p.tables e below (s₁.setTop (mkF m 6 #[.val (.int p1), .val (.int (p1 &&& (7 : Int32))), .unset, .unset, .unset, .unset] [(.int (p1 &&& (7 : Int32)))])) _
      refine st1 _ ?_
      show Steps p.tables e below (T1.setTop (mkF m 9 #[.val (.int p1), .val (.int (p1 &&& (7 : Int32))), .unset, .unset, .unset, .unset] [(.ref w1)])) _
      refine XS.astoreN X1.here hx rfl (hb hby at_9) rfl rfl (l' := #[.val (.int p1), .val (.int (p1 &&& (7 : Int32))), .val (.ref w1), .unset, .unset, .unset]) rfl ?_
      show Steps p.tables e below (T1.setTop (mkF m 10 #[.val (.int p1), .val (.int (p1 &&& (7 : Int32))), .val (.ref w1), .unset, .unset, .unset] [])) _
      refine XS.aloadN X1.here hx rfl (hb hby at_10) rfl rfl ?_
      show Steps p.tables e below (T1.setTop (mkF m 11 #[.val (.int p1), .val (.int (p1 &&& (7 : Int32))), .val (.ref w1), .unset, .unset, .unset] [(.ref w1)])) _
      refine st55.trans ?_
      show Steps p.tables e below (T55.setTop (mkF m 14 #[.val (.int p1), .val (.int (p1 &&& (7 : Int32))), .val (.ref w1), .unset, .unset, .unset] [(.int (1 : Int32))])) _
      refine XS.istoreN X55.here hx rfl (hb hby at_14) rfl (l' := #[.val (.int p1), .val (.int (p1 &&& (7 : Int32))), .val (.ref w1), .val (.int (1 : Int32)), .unset, .unset]) rfl ?_
      show Steps p.tables e below (T55.setTop (mkF m 15 #[.val (.int p1), .val (.int (p1 &&& (7 : Int32))), .val (.ref w1), .val (.int (1 : Int32)), .unset, .unset] [])) _
      refine XS.iloadN X55.here hx rfl (hb hby at_15) rfl ?_
      show Steps p.tables e below (T55.setTop (mkF m 16 #[.val (.int p1), .val (.int (p1 &&& (7 : Int32))), .val (.ref w1), .val (.int (1 : Int32)), .unset, .unset] [(.int (p1 &&& (7 : Int32)))])) _
      refine XS.iconst X55.here hx rfl (hb hby at_16) ?_
      show Steps p.tables e below (T55.setTop (mkF m 17 #[.val (.int p1), .val (.int (p1 &&& (7 : Int32))), .val (.ref w1), .val (.int (1 : Int32)), .unset, .unset] [(.int (2 : Int32)), (.int (p1 &&& (7 : Int32)))])) _
      refine XS.icmpNo X55.here hx rfl (hb hby at_17) rfl (tlt (by rw [hc3]; first | done | decide : (p1 &&& (7 : Int32)) < (2 : Int32))).2.1 ?_
      show Steps p.tables e below (T55.setTop (mkF m 20 #[.val (.int p1), .val (.int (p1 &&& (7 : Int32))), .val (.ref w1), .val (.int (1 : Int32)), .unset, .unset] [])) _
      refine XS.iconst X55.here hx rfl (hb hby at_20) ?_
      show Steps p.tables e below (T55.setTop (mkF m 21 #[.val (.int p1), .val (.int (p1 &&& (7 : Int32))), .val (.ref w1), .val (.int (1 : Int32)), .unset, .unset] [(.int (1 : Int32))])) _
      refine XS.goto X55.here hx rfl (pc0 := 21) (pc' := 25) rfl (hb hby at_21) (by decide) (by decide) ?_
      show Steps p.tables e below (T55.setTop (mkF m 25 #[.val (.int p1), .val (.int (p1 &&& (7 : Int32))), .val (.ref w1), .val (.int (1 : Int32)), .unset, .unset] [(.int (1 : Int32))])) _
      refine XS.istore X55.here hx rfl (hb hby at_25) rfl (l' := #[.val (.int p1), .val (.int (p1 &&& (7 : Int32))), .val (.ref w1), .val (.int (1 : Int32)), .val (.int (1 : Int32)), .unset]) rfl ?_
      show Steps p.tables e below (T55.setTop (mkF m 27 #[.val (.int p1), .val (.int (p1 &&& (7 : Int32))), .val (.ref w1), .val (.int (1 : Int32)), .val (.int (1 : Int32)), .unset] [])) _
      refine XS.aloadN X55.here hx rfl (hb hby at_27) rfl rfl ?_
      show Steps p.tables e below (T55.setTop (mkF m 28 #[.val (.int p1), .val (.int (p1 &&& (7 : Int32))), .val (.ref w1), .val (.int (1 : Int32)), .val (.int (1 : Int32)), .unset] [(.ref w1)])) _
      refine st59.trans ?_
      show Steps p.tables e below (T59.setTop (mkF m 31 #[.val (.int p1), .val (.int (p1 &&& (7 : Int32))), .val (.ref w1), .val (.int (1 : Int32)), .val (.int (1 : Int32)), .unset] [(.ref w2)])) _
      refine XS.astore X59.here hx rfl (hb hby at_31) rfl rfl (l' := #[.val (.int p1), .val (.int (p1 &&& (7 : Int32))), .val (.ref w1), .val (.int (1 : Int32)), .val (.int (1 : Int32)), .val (.ref w2)]) rfl ?_
      show Steps p.tables e below (T59.setTop (mkF m 33 #[.val (.int p1), .val (.int (p1 &&& (7 : Int32))), .val (.ref w1), .val (.int (1 : Int32)), .val (.int (1 : Int32)), .val (.ref w2)] [])) _
      refine XS.iloadN X59.here hx rfl (hb hby at_33) rfl ?_
      show Steps p.tables e below (T59.setTop (mkF m 34 #[.val (.int p1), .val (.int (p1 &&& (7 : Int32))), .val (.ref w1), .val (.int (1 : Int32)), .val (.int (1 : Int32)), .val (.ref w2)] [(.int (1 : Int32))])) _
      refine XS.iload X59.here hx rfl (hb hby at_34) rfl ?_
      show Steps p.tables e below (T59.setTop (mkF m 36 #[.val (.int p1), .val (.int (p1 &&& (7 : Int32))), .val (.ref w1), .val (.int (1 : Int32)), .val (.int (1 : Int32)), .val (.ref w2)] [(.int (1 : Int32)), (.int (1 : Int32))])) _
      refine XS.icmpYes X59.here hx rfl (pc0 := 36) (pc' := 41) rfl (hb hby at_36) rfl (teq (by decide : (1 : Int32) = (1 : Int32))).1 (by decide) (by decide) ?_
      show Steps p.tables e below (T59.setTop (mkF m 41 #[.val (.int p1), .val (.int (p1 &&& (7 : Int32))), .val (.ref w1), .val (.int (1 : Int32)), .val (.int (1 : Int32)), .val (.ref w2)] [])) _
      refine XS.iloadN X59.here hx rfl (hb hby at_41) rfl ?_
      show Steps p.tables e below (T59.setTop (mkF m 42 #[.val (.int p1), .val (.int (p1 &&& (7 : Int32))), .val (.ref w1), .val (.int (1 : Int32)), .val (.int (1 : Int32)), .val (.ref w2)] [(.int (1 : Int32))])) _
      refine XS.aload X59.here hx rfl (hb hby at_42) rfl rfl ?_
      show Steps p.tables e below (T59.setTop (mkF m 44 #[.val (.int p1), .val (.int (p1 &&& (7 : Int32))), .val (.ref w1), .val (.int (1 : Int32)), .val (.int (1 : Int32)), .val (.ref w2)] [(.ref w2), (.int (1 : Int32))])) _
      refine XS.ifnullNo X59.here hx rfl (hb hby at_44) rfl ?_
      show Steps p.tables e below (T59.setTop (mkF m 47 #[.val (.int p1), .val (.int (p1 &&& (7 : Int32))), .val (.ref w1), .val (.int (1 : Int32)), .val (.int (1 : Int32)), .val (.ref w2)] [(.int (1 : Int32))])) _
      refine XS.iconst X59.here hx rfl (hb hby at_47) ?_
      show Steps p.tables e below (T59.setTop (mkF m 48 #[.val (.int p1), .val (.int (p1 &&& (7 : Int32))), .val (.ref w1), .val (.int (1 : Int32)), .val (.int (1 : Int32)), .val (.ref w2)] [(.int (1 : Int32)), (.int (1 : Int32))])) _
      refine XS.goto X59.here hx rfl (pc0 := 48) (pc' := 52) rfl (hb hby at_48) (by decide) (by decide) ?_
      show Steps p.tables e below (T59.setTop (mkF m 52 #[.val (.int p1), .val (.int (p1 &&& (7 : Int32))), .val (.ref w1), .val (.int (1 : Int32)), .val (.int (1 : Int32)), .val (.ref w2)] [(.int (1 : Int32)), (.int (1 : Int32))])) _
      refine XS.icmpYes X59.here hx rfl (pc0 := 52) (pc' := 57) rfl (hb hby at_52) rfl (teq (by decide : (1 : Int32) = (1 : Int32))).1 (by decide) (by decide) ?_
      show Steps p.tables e below (T59.setTop (mkF m 57 #[.val (.int p1), .val (.int (p1 &&& (7 : Int32))), .val (.ref w1), .val (.int (1 : Int32)), .val (.int (1 : Int32)), .val (.ref w2)] [])) _
      refine XS.iloadN X59.here hx rfl (hb hby at_57) rfl ?_
      show Steps p.tables e below (T59.setTop (mkF m 58 #[.val (.int p1), .val (.int (p1 &&& (7 : Int32))), .val (.ref w1), .val (.int (1 : Int32)), .val (.int (1 : Int32)), .val (.ref w2)] [(.int (p1 &&& (7 : Int32)))])) _
      refine XS.ifNo X59.here hx rfl (hb hby at_58) rfl ((if0 _ _).trans (teq hc3).2) ?_
      show Steps p.tables e below (T59.setTop (mkF m 61 #[.val (.int p1), .val (.int (p1 &&& (7 : Int32))), .val (.ref w1), .val (.int (1 : Int32)), .val (.int (1 : Int32)), .val (.ref w2)] [])) _
      refine XS.aload X59.here hx rfl (hb hby at_61) rfl rfl ?_
      show Steps p.tables e below (T59.setTop (mkF m 63 #[.val (.int p1), .val (.int (p1 &&& (7 : Int32))), .val (.ref w1), .val (.int (1 : Int32)), .val (.int (1 : Int32)), .val (.ref w2)] [(.ref w2)])) _
      refine st62 _ ?_
      show Steps p.tables e below (T62.setTop (mkF m 66 #[.val (.int p1), .val (.int (p1 &&& (7 : Int32))), .val (.ref w1), .val (.int (1 : Int32)), .val (.int (1 : Int32)), .val (.ref w2)] [(.ref w2), (.ref w2)])) _
      refine Jvm.RoadKit.acmp (g := (mkF m 66 #[.val (.int p1), .val (.int (p1 &&& (7 : Int32))), .val (.ref w1), .val (.int (1 : Int32)), .val (.int (1 : Int32)), .val (.ref w2)] [(.ref w2), (.ref w2)])) X62 hx rfl rfl rfl (pc0 := 66) (pc' := 71) (same := true) rfl (hb hby at_66) rfl (decide_eq_true rfl) (by decide) (by decide) ?_
      show Steps p.tables e below (T62.setTop (mkF m 71 #[.val (.int p1), .val (.int (p1 &&& (7 : Int32))), .val (.ref w1), .val (.int (1 : Int32)), .val (.int (1 : Int32)), .val (.ref w2)] [])) _
      refine XS.iloadN X62.here hx rfl (hb hby at_71) rfl ?_
      show Steps p.tables e below (T62.setTop (mkF m 72 #[.val (.int p1), .val (.int (p1 &&& (7 : Int32))), .val (.ref w1), .val (.int (1 : Int32)), .val (.int (1 : Int32)), .val (.ref w2)] [(.int (p1 &&& (7 : Int32)))])) _
      refine XS.iconst X62.here hx rfl (hb hby at_72) ?_
      show Steps p.tables e below (T62.setTop (mkF m 73 #[.val (.int p1), .val (.int (p1 &&& (7 : Int32))), .val (.ref w1), .val (.int (1 : Int32)), .val (.int (1 : Int32)), .val (.ref w2)] [(.int (1 : Int32)), (.int (p1 &&& (7 : Int32)))])) _
      refine XS.icmpYes X62.here hx rfl (pc0 := 73) (pc' := 86) rfl (hb hby at_73) rfl (feq (by rw [hc3]; first | done | decide : ¬ ((p1 &&& (7 : Int32)) = (1 : Int32)))).2 (by decide) (by decide) ?_
      show Steps p.tables e below (T62.setTop (mkF m 86 #[.val (.int p1), .val (.int (p1 &&& (7 : Int32))), .val (.ref w1), .val (.int (1 : Int32)), .val (.int (1 : Int32)), .val (.ref w2)] [])) _
      refine XS.iconst X62.here hx rfl (hb hby at_86) ?_
      show Steps p.tables e below (T62.setTop (mkF m 87 #[.val (.int p1), .val (.int (p1 &&& (7 : Int32))), .val (.ref w1), .val (.int (1 : Int32)), .val (.int (1 : Int32)), .val (.ref w2)] [(.int (1 : Int32))])) _
      exact retN X62 hx (t := .boolean) hret (by simp) (hb hby at_87) hr
    ·
      show Q0 n0 _ T62.heap _
      rw [e62]
      exact ⟨rfl, N59⟩
  ·
    have N1 := Fr.app N0 Nq8
    obtain ⟨cq63, kq63, q63a, q63b, q63c⟩ := isOf hZ e9 (E_w7.ext O0.2)
    obtain ⟨_, _, ⟨T64, L64, c64, n64⟩, -, X64, ⟨Lc64, hQ64, l64, y64, z64⟩, st64⟩ := X1.virtualBack hx (y := (⟨"com/example/swallow/swallow/engine/automation/Filter", "isGeographic", "()Z"⟩ : MethodName)) (z := (⟨"com/example/swallow/swallow/engine/automation/Filter", "isGeographic", "()Z"⟩ : MethodName)) hown (mvT hZ (hw _ (List.mem_of_getElem? (i := 7) rfl))) (mvT hZ (hw _ (List.mem_of_getElem? (i := 8) rfl))) (notFace_of_selects (args := #[]) (mvT hZ (hw _ (List.mem_of_getElem? (i := 10) rfl)))) (mvT hZ (hw _ (List.mem_of_getElem? (i := 10) rfl))) (mvT hZ (hw _ (List.mem_of_getElem? (i := 9) rfl))) (by decide) (backOf (W := 0) (rm4 l Z a0 hw w1 w2 w3 w4 w5 w6 w7 w8 w9 w10 G []  h0 n0 O0 ) hZ (hw _ (List.mem_of_getElem? (i := 11) rfl)) (hw _ (List.mem_of_getElem? (i := 5) rfl)) (by decide) (by decide)) q63a q63c (g := (mkF m 11 #[.val (.int p1), .val (.int (p1 &&& (7 : Int32))), .val (.ref w7), .unset, .unset, .unset] [(.ref w7)])) rfl (by rw [hml]; rfl) (Steps.refl _) (argsL := []) (rest := []) (lenOf pd1 rfl) rfl (by show 2 * 0 + _ ≤ _; exact Nat.le_of_eq rfl) (hb hby at_11) (fun _ _ => ⟨rfl, e9, (by decide : 0 + 0 ≤ _), (by decide : 0 + 0 ≤ _)⟩)
    dsimp only [Pt.U, Pt.locs, Pt.cells, Pt.slots] at X64 l64 y64 z64 st64 hQ64
    subst l64 y64 z64
    have X64 : Stand p l e room_1 s m #[(.int p1)] below meth c T64 _ 0 0 := X64
    obtain ⟨rfl, Nq65, e66⟩ := hQ64
    have N64 := Fr.app N1 Nq65
    obtain ⟨cq67, kq67, q67a, q67b, q67c⟩ := isOf hZ e66 (E_w7.ext O0.2)
    obtain ⟨_, _, ⟨T68, L68, c68, n68⟩, -, X68, ⟨Lc68, hQ68, l68, y68, z68⟩, st68⟩ := X64.virtualBack hx (y := (⟨"com/example/swallow/swallow/engine/automation/Filter", "getRole", "()Lcom/example/swallow/swallow/engine/automation/PlaceRole;"⟩ : MethodName)) (z := (⟨"com/example/swallow/swallow/engine/automation/Filter", "getRole", "()Lcom/example/swallow/swallow/engine/automation/PlaceRole;"⟩ : MethodName)) hown (mvT hZ (hw _ (List.mem_of_getElem? (i := 16) rfl))) (mvT hZ (hw _ (List.mem_of_getElem? (i := 17) rfl))) (notFace_of_selects (args := #[]) (mvT hZ (hw _ (List.mem_of_getElem? (i := 19) rfl)))) (mvT hZ (hw _ (List.mem_of_getElem? (i := 19) rfl))) (mvT hZ (hw _ (List.mem_of_getElem? (i := 18) rfl))) (by decide) (backOf (W := 0) (rm5 l Z a0 hw w1 w2 w3 w4 w5 w6 w7 w8 w9 w10 G []  h0 n0 O0 ) hZ (hw _ (List.mem_of_getElem? (i := 20) rfl)) (hw _ (List.mem_of_getElem? (i := 5) rfl)) (by decide) (by decide)) q67a q67c (g := (mkF m 28 #[.val (.int p1), .val (.int (p1 &&& (7 : Int32))), .val (.ref w7), .val (.int (1 : Int32)), .val (.int (1 : Int32)), .unset] [(.ref w7)])) rfl (by rw [hml]; rfl) (Steps.refl _) (argsL := []) (rest := []) (lenOf pd2 rfl) rfl (by show 2 * 0 + _ ≤ _; exact Nat.le_of_eq rfl) (hb hby at_28) (fun _ _ => ⟨rfl, e66, (by decide : 0 + 0 ≤ _), (by decide : 0 + 0 ≤ _)⟩)
    dsimp only [Pt.U, Pt.locs, Pt.cells, Pt.slots] at X68 l68 y68 z68 st68 hQ68
    subst l68 y68 z68
    have X68 : Stand p l e room_1 s m #[(.int p1)] below meth c T68 _ 0 0 := X68
    obtain ⟨rfl, Nq69, e70⟩ := hQ68
    have N68 := Fr.app N64 Nq69
    obtain ⟨T71, X71, e71, st71⟩ := getS2 X68 hx hZ hown (host := "") (Or.inl (hw _ (List.mem_of_getElem? (i := 33) rfl))) Via.refl e70 (S_w8.ext O0.2) (g := (mkF m 78 #[.val (.int p1), .val (.int (p1 &&& (7 : Int32))), .val (.ref w7), .val (.int (1 : Int32)), .val (.int (1 : Int32)), .val (.ref w8)] [(.ref w8)])) rfl (hb hby at_78)
    obtain ⟨fs, hr, hrun, hended, hW, hsame⟩ := X71.leave (v := some (.int (1 : Int32))) (fun h => by rw [hret] at h; cases h)
    refine ⟨_, _, pre2 _ ?_, hrun, hended, _, _, rfl, ?_, ⟨_, rfl⟩, hW, hsame.mono (by decide) (by decide)⟩
    ·
      show Steps p.tables e below (s₁.setTop (mkF m 6 #[.val (.int p1), .val (.int (p1 &&& (7 : Int32))), .unset, .unset, .unset, .unset] [(.int (p1 &&& (7 : Int32)))])) _
      refine st1 _ ?_
      show Steps p.tables e below (T1.setTop (mkF m 9 #[.val (.int p1), .val (.int (p1 &&& (7 : Int32))), .unset, .unset, .unset, .unset] [(.ref w7)])) _
      refine XS.astoreN X1.here hx rfl (hb hby at_9) rfl rfl (l' := #[.val (.int p1), .val (.int (p1 &&& (7 : Int32))), .val (.ref w7), .unset, .unset, .unset]) rfl ?_
      show Steps p.tables e below (T1.setTop (mkF m 10 #[.val (.int p1), .val (.int (p1 &&& (7 : Int32))), .val (.ref w7), .unset, .unset, .unset] [])) _
      refine XS.aloadN X1.here hx rfl (hb hby at_10) rfl rfl ?_
      show Steps p.tables e below (T1.setTop (mkF m 11 #[.val (.int p1), .val (.int (p1 &&& (7 : Int32))), .val (.ref w7), .unset, .unset, .unset] [(.ref w7)])) _
      refine st64.trans ?_
      show Steps p.tables e below (T64.setTop (mkF m 14 #[.val (.int p1), .val (.int (p1 &&& (7 : Int32))), .val (.ref w7), .unset, .unset, .unset] [(.int (1 : Int32))])) _
      refine XS.istoreN X64.here hx rfl (hb hby at_14) rfl (l' := #[.val (.int p1), .val (.int (p1 &&& (7 : Int32))), .val (.ref w7), .val (.int (1 : Int32)), .unset, .unset]) rfl ?_
      show Steps p.tables e below (T64.setTop (mkF m 15 #[.val (.int p1), .val (.int (p1 &&& (7 : Int32))), .val (.ref w7), .val (.int (1 : Int32)), .unset, .unset] [])) _
      refine XS.iloadN X64.here hx rfl (hb hby at_15) rfl ?_
      show Steps p.tables e below (T64.setTop (mkF m 16 #[.val (.int p1), .val (.int (p1 &&& (7 : Int32))), .val (.ref w7), .val (.int (1 : Int32)), .unset, .unset] [(.int (p1 &&& (7 : Int32)))])) _
      refine XS.iconst X64.here hx rfl (hb hby at_16) ?_
      show Steps p.tables e below (T64.setTop (mkF m 17 #[.val (.int p1), .val (.int (p1 &&& (7 : Int32))), .val (.ref w7), .val (.int (1 : Int32)), .unset, .unset] [(.int (2 : Int32)), (.int (p1 &&& (7 : Int32)))])) _
      refine XS.icmpNo X64.here hx rfl (hb hby at_17) rfl (tlt (by rw [hc7]; first | done | decide : (p1 &&& (7 : Int32)) < (2 : Int32))).2.1 ?_
      show Steps p.tables e below (T64.setTop (mkF m 20 #[.val (.int p1), .val (.int (p1 &&& (7 : Int32))), .val (.ref w7), .val (.int (1 : Int32)), .unset, .unset] [])) _
      refine XS.iconst X64.here hx rfl (hb hby at_20) ?_
      show Steps p.tables e below (T64.setTop (mkF m 21 #[.val (.int p1), .val (.int (p1 &&& (7 : Int32))), .val (.ref w7), .val (.int (1 : Int32)), .unset, .unset] [(.int (1 : Int32))])) _
      refine XS.goto X64.here hx rfl (pc0 := 21) (pc' := 25) rfl (hb hby at_21) (by decide) (by decide) ?_
      show Steps p.tables e below (T64.setTop (mkF m 25 #[.val (.int p1), .val (.int (p1 &&& (7 : Int32))), .val (.ref w7), .val (.int (1 : Int32)), .unset, .unset] [(.int (1 : Int32))])) _
      refine XS.istore X64.here hx rfl (hb hby at_25) rfl (l' := #[.val (.int p1), .val (.int (p1 &&& (7 : Int32))), .val (.ref w7), .val (.int (1 : Int32)), .val (.int (1 : Int32)), .unset]) rfl ?_
      show Steps p.tables e below (T64.setTop (mkF m 27 #[.val (.int p1), .val (.int (p1 &&& (7 : Int32))), .val (.ref w7), .val (.int (1 : Int32)), .val (.int (1 : Int32)), .unset] [])) _
      refine XS.aloadN X64.here hx rfl (hb hby at_27) rfl rfl ?_
      show Steps p.tables e below (T64.setTop (mkF m 28 #[.val (.int p1), .val (.int (p1 &&& (7 : Int32))), .val (.ref w7), .val (.int (1 : Int32)), .val (.int (1 : Int32)), .unset] [(.ref w7)])) _
      refine st68.trans ?_
      show Steps p.tables e below (T68.setTop (mkF m 31 #[.val (.int p1), .val (.int (p1 &&& (7 : Int32))), .val (.ref w7), .val (.int (1 : Int32)), .val (.int (1 : Int32)), .unset] [(.ref w8)])) _
      refine XS.astore X68.here hx rfl (hb hby at_31) rfl rfl (l' := #[.val (.int p1), .val (.int (p1 &&& (7 : Int32))), .val (.ref w7), .val (.int (1 : Int32)), .val (.int (1 : Int32)), .val (.ref w8)]) rfl ?_
      show Steps p.tables e below (T68.setTop (mkF m 33 #[.val (.int p1), .val (.int (p1 &&& (7 : Int32))), .val (.ref w7), .val (.int (1 : Int32)), .val (.int (1 : Int32)), .val (.ref w8)] [])) _
      refine XS.iloadN X68.here hx rfl (hb hby at_33) rfl ?_
      show Steps p.tables e below (T68.setTop (mkF m 34 #[.val (.int p1), .val (.int (p1 &&& (7 : Int32))), .val (.ref w7), .val (.int (1 : Int32)), .val (.int (1 : Int32)), .val (.ref w8)] [(.int (1 : Int32))])) _
      refine XS.iload X68.here hx rfl (hb hby at_34) rfl ?_
      show Steps p.tables e below (T68.setTop (mkF m 36 #[.val (.int p1), .val (.int (p1 &&& (7 : Int32))), .val (.ref w7), .val (.int (1 : Int32)), .val (.int (1 : Int32)), .val (.ref w8)] [(.int (1 : Int32)), (.int (1 : Int32))])) _
      refine XS.icmpYes X68.here hx rfl (pc0 := 36) (pc' := 41) rfl (hb hby at_36) rfl (teq (by decide : (1 : Int32) = (1 : Int32))).1 (by decide) (by decide) ?_
      show Steps p.tables e below (T68.setTop (mkF m 41 #[.val (.int p1), .val (.int (p1 &&& (7 : Int32))), .val (.ref w7), .val (.int (1 : Int32)), .val (.int (1 : Int32)), .val (.ref w8)] [])) _
      refine XS.iloadN X68.here hx rfl (hb hby at_41) rfl ?_
      show Steps p.tables e below (T68.setTop (mkF m 42 #[.val (.int p1), .val (.int (p1 &&& (7 : Int32))), .val (.ref w7), .val (.int (1 : Int32)), .val (.int (1 : Int32)), .val (.ref w8)] [(.int (1 : Int32))])) _
      refine XS.aload X68.here hx rfl (hb hby at_42) rfl rfl ?_
      show Steps p.tables e below (T68.setTop (mkF m 44 #[.val (.int p1), .val (.int (p1 &&& (7 : Int32))), .val (.ref w7), .val (.int (1 : Int32)), .val (.int (1 : Int32)), .val (.ref w8)] [(.ref w8), (.int (1 : Int32))])) _
      refine XS.ifnullNo X68.here hx rfl (hb hby at_44) rfl ?_
      show Steps p.tables e below (T68.setTop (mkF m 47 #[.val (.int p1), .val (.int (p1 &&& (7 : Int32))), .val (.ref w7), .val (.int (1 : Int32)), .val (.int (1 : Int32)), .val (.ref w8)] [(.int (1 : Int32))])) _
      refine XS.iconst X68.here hx rfl (hb hby at_47) ?_
      show Steps p.tables e below (T68.setTop (mkF m 48 #[.val (.int p1), .val (.int (p1 &&& (7 : Int32))), .val (.ref w7), .val (.int (1 : Int32)), .val (.int (1 : Int32)), .val (.ref w8)] [(.int (1 : Int32)), (.int (1 : Int32))])) _
      refine XS.goto X68.here hx rfl (pc0 := 48) (pc' := 52) rfl (hb hby at_48) (by decide) (by decide) ?_
      show Steps p.tables e below (T68.setTop (mkF m 52 #[.val (.int p1), .val (.int (p1 &&& (7 : Int32))), .val (.ref w7), .val (.int (1 : Int32)), .val (.int (1 : Int32)), .val (.ref w8)] [(.int (1 : Int32)), (.int (1 : Int32))])) _
      refine XS.icmpYes X68.here hx rfl (pc0 := 52) (pc' := 57) rfl (hb hby at_52) rfl (teq (by decide : (1 : Int32) = (1 : Int32))).1 (by decide) (by decide) ?_
      show Steps p.tables e below (T68.setTop (mkF m 57 #[.val (.int p1), .val (.int (p1 &&& (7 : Int32))), .val (.ref w7), .val (.int (1 : Int32)), .val (.int (1 : Int32)), .val (.ref w8)] [])) _
      refine XS.iloadN X68.here hx rfl (hb hby at_57) rfl ?_
      show Steps p.tables e below (T68.setTop (mkF m 58 #[.val (.int p1), .val (.int (p1 &&& (7 : Int32))), .val (.ref w7), .val (.int (1 : Int32)), .val (.int (1 : Int32)), .val (.ref w8)] [(.int (p1 &&& (7 : Int32)))])) _
      refine XS.ifYes X68.here hx rfl (pc0 := 58) (pc' := 71) rfl (hb hby at_58) rfl ((if0 _ _).trans (feq hc6).2) (by decide) (by decide) ?_
      show Steps p.tables e below (T68.setTop (mkF m 71 #[.val (.int p1), .val (.int (p1 &&& (7 : Int32))), .val (.ref w7), .val (.int (1 : Int32)), .val (.int (1 : Int32)), .val (.ref w8)] [])) _
      refine XS.iloadN X68.here hx rfl (hb hby at_71) rfl ?_
      show Steps p.tables e below (T68.setTop (mkF m 72 #[.val (.int p1), .val (.int (p1 &&& (7 : Int32))), .val (.ref w7), .val (.int (1 : Int32)), .val (.int (1 : Int32)), .val (.ref w8)] [(.int (p1 &&& (7 : Int32)))])) _
      refine XS.iconst X68.here hx rfl (hb hby at_72) ?_
      show Steps p.tables e below (T68.setTop (mkF m 73 #[.val (.int p1), .val (.int (p1 &&& (7 : Int32))), .val (.ref w7), .val (.int (1 : Int32)), .val (.int (1 : Int32)), .val (.ref w8)] [(.int (1 : Int32)), (.int (p1 &&& (7 : Int32)))])) _
      refine XS.icmpNo X68.here hx rfl (hb hby at_73) rfl (teq hc7).2 ?_
      show Steps p.tables e below (T68.setTop (mkF m 76 #[.val (.int p1), .val (.int (p1 &&& (7 : Int32))), .val (.ref w7), .val (.int (1 : Int32)), .val (.int (1 : Int32)), .val (.ref w8)] [])) _
      refine XS.aload X68.here hx rfl (hb hby at_76) rfl rfl ?_
      show Steps p.tables e below (T68.setTop (mkF m 78 #[.val (.int p1), .val (.int (p1 &&& (7 : Int32))), .val (.ref w7), .val (.int (1 : Int32)), .val (.int (1 : Int32)), .val (.ref w8)] [(.ref w8)])) _
      refine st71 _ ?_
      show Steps p.tables e below (T71.setTop (mkF m 81 #[.val (.int p1), .val (.int (p1 &&& (7 : Int32))), .val (.ref w7), .val (.int (1 : Int32)), .val (.int (1 : Int32)), .val (.ref w8)] [(.ref w8), (.ref w8)])) _
      refine Jvm.RoadKit.acmp (g := (mkF m 81 #[.val (.int p1), .val (.int (p1 &&& (7 : Int32))), .val (.ref w7), .val (.int (1 : Int32)), .val (.int (1 : Int32)), .val (.ref w8)] [(.ref w8), (.ref w8)])) X71 hx rfl rfl rfl (pc0 := 81) (pc' := 86) (same := true) rfl (hb hby at_81) rfl (decide_eq_true rfl) (by decide) (by decide) ?_
      show Steps p.tables e below (T71.setTop (mkF m 86 #[.val (.int p1), .val (.int (p1 &&& (7 : Int32))), .val (.ref w7), .val (.int (1 : Int32)), .val (.int (1 : Int32)), .val (.ref w8)] [])) _
      refine XS.iconst X71.here hx rfl (hb hby at_86) ?_
      show Steps p.tables e below (T71.setTop (mkF m 87 #[.val (.int p1), .val (.int (p1 &&& (7 : Int32))), .val (.ref w7), .val (.int (1 : Int32)), .val (.int (1 : Int32)), .val (.ref w8)] [(.int (1 : Int32))])) _
      exact retN X71 hx (t := .boolean) hret (by simp) (hb hby at_87) hr
    ·
      show Q0 n0 _ T71.heap _
      rw [e71]
      exact ⟨rfl, N68⟩
  ·
    have N1 := Fr.app N0 Nq13
    obtain ⟨cq72, kq72, q72a, q72b, q72c⟩ := isOf hZ e14 (E_w6.ext O0.2)
    obtain ⟨_, _, ⟨T73, L73, c73, n73⟩, -, X73, ⟨Lc73, hQ73, l73, y73, z73⟩, st73⟩ := X1.virtualBack hx (y := (⟨"com/example/swallow/swallow/engine/automation/Filter", "isGeographic", "()Z"⟩ : MethodName)) (z := (⟨"com/example/swallow/swallow/engine/automation/Filter", "isGeographic", "()Z"⟩ : MethodName)) hown (mvT hZ (hw _ (List.mem_of_getElem? (i := 7) rfl))) (mvT hZ (hw _ (List.mem_of_getElem? (i := 8) rfl))) (notFace_of_selects (args := #[]) (mvT hZ (hw _ (List.mem_of_getElem? (i := 10) rfl)))) (mvT hZ (hw _ (List.mem_of_getElem? (i := 10) rfl))) (mvT hZ (hw _ (List.mem_of_getElem? (i := 9) rfl))) (by decide) (backOf (W := 0) (rm6 l Z a0 hw w1 w2 w3 w4 w5 w6 w7 w8 w9 w10 G []  h0 n0 O0 ) hZ (hw _ (List.mem_of_getElem? (i := 11) rfl)) (hw _ (List.mem_of_getElem? (i := 5) rfl)) (by decide) (by decide)) q72a q72c (g := (mkF m 11 #[.val (.int p1), .val (.int (p1 &&& (7 : Int32))), .val (.ref w6), .unset, .unset, .unset] [(.ref w6)])) rfl (by rw [hml]; rfl) (Steps.refl _) (argsL := []) (rest := []) (lenOf pd1 rfl) rfl (by show 2 * 0 + _ ≤ _; exact Nat.le_of_eq rfl) (hb hby at_11) (fun _ _ => ⟨rfl, e14, (by decide : 0 + 0 ≤ _), (by decide : 0 + 0 ≤ _)⟩)
    dsimp only [Pt.U, Pt.locs, Pt.cells, Pt.slots] at X73 l73 y73 z73 st73 hQ73
    subst l73 y73 z73
    have X73 : Stand p l e room_1 s m #[(.int p1)] below meth c T73 _ 0 0 := X73
    obtain ⟨rfl, Nq74, e75⟩ := hQ73
    have N73 := Fr.app N1 Nq74
    obtain ⟨cq76, kq76, q76a, q76b, q76c⟩ := isOf hZ e75 (E_w6.ext O0.2)
    obtain ⟨_, _, ⟨T77, L77, c77, n77⟩, -, X77, ⟨Lc77, hQ77, l77, y77, z77⟩, st77⟩ := X73.virtualBack hx (y := (⟨"com/example/swallow/swallow/engine/automation/Filter", "getRole", "()Lcom/example/swallow/swallow/engine/automation/PlaceRole;"⟩ : MethodName)) (z := (⟨"com/example/swallow/swallow/engine/automation/Filter", "getRole", "()Lcom/example/swallow/swallow/engine/automation/PlaceRole;"⟩ : MethodName)) hown (mvT hZ (hw _ (List.mem_of_getElem? (i := 16) rfl))) (mvT hZ (hw _ (List.mem_of_getElem? (i := 17) rfl))) (notFace_of_selects (args := #[]) (mvT hZ (hw _ (List.mem_of_getElem? (i := 19) rfl)))) (mvT hZ (hw _ (List.mem_of_getElem? (i := 19) rfl))) (mvT hZ (hw _ (List.mem_of_getElem? (i := 18) rfl))) (by decide) (backOf (W := 0) (rm7 l Z a0 hw w1 w2 w3 w4 w5 w6 w7 w8 w9 w10 G []  h0 n0 O0 ) hZ (hw _ (List.mem_of_getElem? (i := 20) rfl)) (hw _ (List.mem_of_getElem? (i := 5) rfl)) (by decide) (by decide)) q76a q76c (g := (mkF m 28 #[.val (.int p1), .val (.int (p1 &&& (7 : Int32))), .val (.ref w6), .val (.int (0 : Int32)), .val (.int (0 : Int32)), .unset] [(.ref w6)])) rfl (by rw [hml]; rfl) (Steps.refl _) (argsL := []) (rest := []) (lenOf pd2 rfl) rfl (by show 2 * 0 + _ ≤ _; exact Nat.le_of_eq rfl) (hb hby at_28) (fun _ _ => ⟨rfl, e75, (by decide : 0 + 0 ≤ _), (by decide : 0 + 0 ≤ _)⟩)
    dsimp only [Pt.U, Pt.locs, Pt.cells, Pt.slots] at X77 l77 y77 z77 st77 hQ77
    subst l77 y77 z77
    have X77 : Stand p l e room_1 s m #[(.int p1)] below meth c T77 _ 0 0 := X77
    obtain ⟨rfl, Nq78, e79⟩ := hQ77
    have N77 := Fr.app N73 Nq78
    obtain ⟨fs, hr, hrun, hended, hW, hsame⟩ := X77.leave (v := some (.int (1 : Int32))) (fun h => by rw [hret] at h; cases h)
    refine ⟨_, _, pre2 _ ?_, hrun, hended, _, _, rfl, ?_, ⟨_, rfl⟩, hW, hsame.mono (by decide) (by decide)⟩
    ·
      show Steps p.tables e below (s₁.setTop (mkF m 6 #[.val (.int p1), .val (.int (p1 &&& (7 : Int32))), .unset, .unset, .unset, .unset] [(.int (p1 &&& (7 : Int32)))])) _
      refine st1 _ ?_
      show Steps p.tables e below (T1.setTop (mkF m 9 #[.val (.int p1), .val (.int (p1 &&& (7 : Int32))), .unset, .unset, .unset, .unset] [(.ref w6)])) _
      refine XS.astoreN X1.here hx rfl (hb hby at_9) rfl rfl (l' := #[.val (.int p1), .val (.int (p1 &&& (7 : Int32))), .val (.ref w6), .unset, .unset, .unset]) rfl ?_
      show Steps p.tables e below (T1.setTop (mkF m 10 #[.val (.int p1), .val (.int (p1 &&& (7 : Int32))), .val (.ref w6), .unset, .unset, .unset] [])) _
      refine XS.aloadN X1.here hx rfl (hb hby at_10) rfl rfl ?_
      show Steps p.tables e below (T1.setTop (mkF m 11 #[.val (.int p1), .val (.int (p1 &&& (7 : Int32))), .val (.ref w6), .unset, .unset, .unset] [(.ref w6)])) _
      refine st73.trans ?_
      show Steps p.tables e below (T73.setTop (mkF m 14 #[.val (.int p1), .val (.int (p1 &&& (7 : Int32))), .val (.ref w6), .unset, .unset, .unset] [(.int (0 : Int32))])) _
      refine XS.istoreN X73.here hx rfl (hb hby at_14) rfl (l' := #[.val (.int p1), .val (.int (p1 &&& (7 : Int32))), .val (.ref w6), .val (.int (0 : Int32)), .unset, .unset]) rfl ?_
      show Steps p.tables e below (T73.setTop (mkF m 15 #[.val (.int p1), .val (.int (p1 &&& (7 : Int32))), .val (.ref w6), .val (.int (0 : Int32)), .unset, .unset] [])) _
      refine XS.iloadN X73.here hx rfl (hb hby at_15) rfl ?_
      show Steps p.tables e below (T73.setTop (mkF m 16 #[.val (.int p1), .val (.int (p1 &&& (7 : Int32))), .val (.ref w6), .val (.int (0 : Int32)), .unset, .unset] [(.int (p1 &&& (7 : Int32)))])) _
      refine XS.iconst X73.here hx rfl (hb hby at_16) ?_
      show Steps p.tables e below (T73.setTop (mkF m 17 #[.val (.int p1), .val (.int (p1 &&& (7 : Int32))), .val (.ref w6), .val (.int (0 : Int32)), .unset, .unset] [(.int (2 : Int32)), (.int (p1 &&& (7 : Int32)))])) _
      refine XS.icmpYes X73.here hx rfl (pc0 := 17) (pc' := 24) rfl (hb hby at_17) rfl (flt (by rw [hc12]; first | done | decide : ¬ ((p1 &&& (7 : Int32)) < (2 : Int32)))).2.1 (by decide) (by decide) ?_
      show Steps p.tables e below (T73.setTop (mkF m 24 #[.val (.int p1), .val (.int (p1 &&& (7 : Int32))), .val (.ref w6), .val (.int (0 : Int32)), .unset, .unset] [])) _
      refine XS.iconst X73.here hx rfl (hb hby at_24) ?_
      show Steps p.tables e below (T73.setTop (mkF m 25 #[.val (.int p1), .val (.int (p1 &&& (7 : Int32))), .val (.ref w6), .val (.int (0 : Int32)), .unset, .unset] [(.int (0 : Int32))])) _
      refine XS.istore X73.here hx rfl (hb hby at_25) rfl (l' := #[.val (.int p1), .val (.int (p1 &&& (7 : Int32))), .val (.ref w6), .val (.int (0 : Int32)), .val (.int (0 : Int32)), .unset]) rfl ?_
      show Steps p.tables e below (T73.setTop (mkF m 27 #[.val (.int p1), .val (.int (p1 &&& (7 : Int32))), .val (.ref w6), .val (.int (0 : Int32)), .val (.int (0 : Int32)), .unset] [])) _
      refine XS.aloadN X73.here hx rfl (hb hby at_27) rfl rfl ?_
      show Steps p.tables e below (T73.setTop (mkF m 28 #[.val (.int p1), .val (.int (p1 &&& (7 : Int32))), .val (.ref w6), .val (.int (0 : Int32)), .val (.int (0 : Int32)), .unset] [(.ref w6)])) _
      refine st77.trans ?_
      show Steps p.tables e below (T77.setTop (mkF m 31 #[.val (.int p1), .val (.int (p1 &&& (7 : Int32))), .val (.ref w6), .val (.int (0 : Int32)), .val (.int (0 : Int32)), .unset] [.null])) _
      refine XS.astore X77.here hx rfl (hb hby at_31) rfl rfl (l' := #[.val (.int p1), .val (.int (p1 &&& (7 : Int32))), .val (.ref w6), .val (.int (0 : Int32)), .val (.int (0 : Int32)), .val .null]) rfl ?_
      show Steps p.tables e below (T77.setTop (mkF m 33 #[.val (.int p1), .val (.int (p1 &&& (7 : Int32))), .val (.ref w6), .val (.int (0 : Int32)), .val (.int (0 : Int32)), .val .null] [])) _
      refine XS.iloadN X77.here hx rfl (hb hby at_33) rfl ?_
      show Steps p.tables e below (T77.setTop (mkF m 34 #[.val (.int p1), .val (.int (p1 &&& (7 : Int32))), .val (.ref w6), .val (.int (0 : Int32)), .val (.int (0 : Int32)), .val .null] [(.int (0 : Int32))])) _
      refine XS.iload X77.here hx rfl (hb hby at_34) rfl ?_
      show Steps p.tables e below (T77.setTop (mkF m 36 #[.val (.int p1), .val (.int (p1 &&& (7 : Int32))), .val (.ref w6), .val (.int (0 : Int32)), .val (.int (0 : Int32)), .val .null] [(.int (0 : Int32)), (.int (0 : Int32))])) _
      refine XS.icmpYes X77.here hx rfl (pc0 := 36) (pc' := 41) rfl (hb hby at_36) rfl (teq (by decide : (0 : Int32) = (0 : Int32))).1 (by decide) (by decide) ?_
      show Steps p.tables e below (T77.setTop (mkF m 41 #[.val (.int p1), .val (.int (p1 &&& (7 : Int32))), .val (.ref w6), .val (.int (0 : Int32)), .val (.int (0 : Int32)), .val .null] [])) _
      refine XS.iloadN X77.here hx rfl (hb hby at_41) rfl ?_
      show Steps p.tables e below (T77.setTop (mkF m 42 #[.val (.int p1), .val (.int (p1 &&& (7 : Int32))), .val (.ref w6), .val (.int (0 : Int32)), .val (.int (0 : Int32)), .val .null] [(.int (0 : Int32))])) _
      refine XS.aload X77.here hx rfl (hb hby at_42) rfl rfl ?_
      show Steps p.tables e below (T77.setTop (mkF m 44 #[.val (.int p1), .val (.int (p1 &&& (7 : Int32))), .val (.ref w6), .val (.int (0 : Int32)), .val (.int (0 : Int32)), .val .null] [.null, (.int (0 : Int32))])) _
      refine XS.ifnullYes X77.here hx rfl (pc0 := 44) (pc' := 51) rfl (hb hby at_44) rfl (by decide) (by decide) ?_
      show Steps p.tables e below (T77.setTop (mkF m 51 #[.val (.int p1), .val (.int (p1 &&& (7 : Int32))), .val (.ref w6), .val (.int (0 : Int32)), .val (.int (0 : Int32)), .val .null] [(.int (0 : Int32))])) _
      refine XS.iconst X77.here hx rfl (hb hby at_51) ?_
      show Steps p.tables e below (T77.setTop (mkF m 52 #[.val (.int p1), .val (.int (p1 &&& (7 : Int32))), .val (.ref w6), .val (.int (0 : Int32)), .val (.int (0 : Int32)), .val .null] [(.int (0 : Int32)), (.int (0 : Int32))])) _
      refine XS.icmpYes X77.here hx rfl (pc0 := 52) (pc' := 57) rfl (hb hby at_52) rfl (teq (by decide : (0 : Int32) = (0 : Int32))).1 (by decide) (by decide) ?_
      show Steps p.tables e below (T77.setTop (mkF m 57 #[.val (.int p1), .val (.int (p1 &&& (7 : Int32))), .val (.ref w6), .val (.int (0 : Int32)), .val (.int (0 : Int32)), .val .null] [])) _
      refine XS.iloadN X77.here hx rfl (hb hby at_57) rfl ?_
      show Steps p.tables e below (T77.setTop (mkF m 58 #[.val (.int p1), .val (.int (p1 &&& (7 : Int32))), .val (.ref w6), .val (.int (0 : Int32)), .val (.int (0 : Int32)), .val .null] [(.int (p1 &&& (7 : Int32)))])) _
      refine XS.ifYes X77.here hx rfl (pc0 := 58) (pc' := 71) rfl (hb hby at_58) rfl ((if0 _ _).trans (feq hc10).2) (by decide) (by decide) ?_
      show Steps p.tables e below (T77.setTop (mkF m 71 #[.val (.int p1), .val (.int (p1 &&& (7 : Int32))), .val (.ref w6), .val (.int (0 : Int32)), .val (.int (0 : Int32)), .val .null] [])) _
      refine XS.iloadN X77.here hx rfl (hb hby at_71) rfl ?_
      show Steps p.tables e below (T77.setTop (mkF m 72 #[.val (.int p1), .val (.int (p1 &&& (7 : Int32))), .val (.ref w6), .val (.int (0 : Int32)), .val (.int (0 : Int32)), .val .null] [(.int (p1 &&& (7 : Int32)))])) _
      refine XS.iconst X77.here hx rfl (hb hby at_72) ?_
      show Steps p.tables e below (T77.setTop (mkF m 73 #[.val (.int p1), .val (.int (p1 &&& (7 : Int32))), .val (.ref w6), .val (.int (0 : Int32)), .val (.int (0 : Int32)), .val .null] [(.int (1 : Int32)), (.int (p1 &&& (7 : Int32)))])) _
      refine XS.icmpYes X77.here hx rfl (pc0 := 73) (pc' := 86) rfl (hb hby at_73) rfl (feq hc11).2 (by decide) (by decide) ?_
      show Steps p.tables e below (T77.setTop (mkF m 86 #[.val (.int p1), .val (.int (p1 &&& (7 : Int32))), .val (.ref w6), .val (.int (0 : Int32)), .val (.int (0 : Int32)), .val .null] [])) _
      refine XS.iconst X77.here hx rfl (hb hby at_86) ?_
      show Steps p.tables e below (T77.setTop (mkF m 87 #[.val (.int p1), .val (.int (p1 &&& (7 : Int32))), .val (.ref w6), .val (.int (0 : Int32)), .val (.int (0 : Int32)), .val .null] [(.int (1 : Int32))])) _
      exact retN X77 hx (t := .boolean) hret (by simp) (hb hby at_87) hr
    ·
      show Q0 n0 _ T77.heap _
      rw [e79]
      exact ⟨rfl, N77⟩
  ·
    have N1 := Fr.app N0 Nq19
    obtain ⟨cq80, kq80, q80a, q80b, q80c⟩ := isOf hZ e20 (E_w3.ext O0.2)
    obtain ⟨_, _, ⟨T81, L81, c81, n81⟩, -, X81, ⟨Lc81, hQ81, l81, y81, z81⟩, st81⟩ := X1.virtualBack hx (y := (⟨"com/example/swallow/swallow/engine/automation/Filter", "isGeographic", "()Z"⟩ : MethodName)) (z := (⟨"com/example/swallow/swallow/engine/automation/Filter", "isGeographic", "()Z"⟩ : MethodName)) hown (mvT hZ (hw _ (List.mem_of_getElem? (i := 7) rfl))) (mvT hZ (hw _ (List.mem_of_getElem? (i := 8) rfl))) (notFace_of_selects (args := #[]) (mvT hZ (hw _ (List.mem_of_getElem? (i := 10) rfl)))) (mvT hZ (hw _ (List.mem_of_getElem? (i := 10) rfl))) (mvT hZ (hw _ (List.mem_of_getElem? (i := 9) rfl))) (by decide) (backOf (W := 0) (rm8 l Z a0 hw w1 w2 w3 w4 w5 w6 w7 w8 w9 w10 G []  h0 n0 O0 ) hZ (hw _ (List.mem_of_getElem? (i := 11) rfl)) (hw _ (List.mem_of_getElem? (i := 5) rfl)) (by decide) (by decide)) q80a q80c (g := (mkF m 11 #[.val (.int p1), .val (.int (p1 &&& (7 : Int32))), .val (.ref w3), .unset, .unset, .unset] [(.ref w3)])) rfl (by rw [hml]; rfl) (Steps.refl _) (argsL := []) (rest := []) (lenOf pd1 rfl) rfl (by show 2 * 0 + _ ≤ _; exact Nat.le_of_eq rfl) (hb hby at_11) (fun _ _ => ⟨rfl, e20, (by decide : 0 + 0 ≤ _), (by decide : 0 + 0 ≤ _)⟩)
    dsimp only [Pt.U, Pt.locs, Pt.cells, Pt.slots] at X81 l81 y81 z81 st81 hQ81
    subst l81 y81 z81
    have X81 : Stand p l e room_1 s m #[(.int p1)] below meth c T81 _ 0 0 := X81
    obtain ⟨rfl, Nq82, e83⟩ := hQ81
    have N81 := Fr.app N1 Nq82
    obtain ⟨cq84, kq84, q84a, q84b, q84c⟩ := isOf hZ e83 (E_w3.ext O0.2)
    obtain ⟨_, _, ⟨T85, L85, c85, n85⟩, -, X85, ⟨Lc85, hQ85, l85, y85, z85⟩, st85⟩ := X81.virtualBack hx (y := (⟨"com/example/swallow/swallow/engine/automation/Filter", "getRole", "()Lcom/example/swallow/swallow/engine/automation/PlaceRole;"⟩ : MethodName)) (z := (⟨"com/example/swallow/swallow/engine/automation/Filter", "getRole", "()Lcom/example/swallow/swallow/engine/automation/PlaceRole;"⟩ : MethodName)) hown (mvT hZ (hw _ (List.mem_of_getElem? (i := 16) rfl))) (mvT hZ (hw _ (List.mem_of_getElem? (i := 17) rfl))) (notFace_of_selects (args := #[]) (mvT hZ (hw _ (List.mem_of_getElem? (i := 19) rfl)))) (mvT hZ (hw _ (List.mem_of_getElem? (i := 19) rfl))) (mvT hZ (hw _ (List.mem_of_getElem? (i := 18) rfl))) (by decide) (backOf (W := 0) (rm9 l Z a0 hw w1 w2 w3 w4 w5 w6 w7 w8 w9 w10 G []  h0 n0 O0 ) hZ (hw _ (List.mem_of_getElem? (i := 20) rfl)) (hw _ (List.mem_of_getElem? (i := 5) rfl)) (by decide) (by decide)) q84a q84c (g := (mkF m 28 #[.val (.int p1), .val (.int (p1 &&& (7 : Int32))), .val (.ref w3), .val (.int (0 : Int32)), .val (.int (0 : Int32)), .unset] [(.ref w3)])) rfl (by rw [hml]; rfl) (Steps.refl _) (argsL := []) (rest := []) (lenOf pd2 rfl) rfl (by show 2 * 0 + _ ≤ _; exact Nat.le_of_eq rfl) (hb hby at_28) (fun _ _ => ⟨rfl, e83, (by decide : 0 + 0 ≤ _), (by decide : 0 + 0 ≤ _)⟩)
    dsimp only [Pt.U, Pt.locs, Pt.cells, Pt.slots] at X85 l85 y85 z85 st85 hQ85
    subst l85 y85 z85
    have X85 : Stand p l e room_1 s m #[(.int p1)] below meth c T85 _ 0 0 := X85
    obtain ⟨rfl, Nq86, e87⟩ := hQ85
    have N85 := Fr.app N81 Nq86
    obtain ⟨fs, hr, hrun, hended, hW, hsame⟩ := X85.leave (v := some (.int (1 : Int32))) (fun h => by rw [hret] at h; cases h)
    refine ⟨_, _, pre2 _ ?_, hrun, hended, _, _, rfl, ?_, ⟨_, rfl⟩, hW, hsame.mono (by decide) (by decide)⟩
    ·
      show Steps p.tables e below (s₁.setTop (mkF m 6 #[.val (.int p1), .val (.int (p1 &&& (7 : Int32))), .unset, .unset, .unset, .unset] [(.int (p1 &&& (7 : Int32)))])) _
      refine st1 _ ?_
      show Steps p.tables e below (T1.setTop (mkF m 9 #[.val (.int p1), .val (.int (p1 &&& (7 : Int32))), .unset, .unset, .unset, .unset] [(.ref w3)])) _
      refine XS.astoreN X1.here hx rfl (hb hby at_9) rfl rfl (l' := #[.val (.int p1), .val (.int (p1 &&& (7 : Int32))), .val (.ref w3), .unset, .unset, .unset]) rfl ?_
      show Steps p.tables e below (T1.setTop (mkF m 10 #[.val (.int p1), .val (.int (p1 &&& (7 : Int32))), .val (.ref w3), .unset, .unset, .unset] [])) _
      refine XS.aloadN X1.here hx rfl (hb hby at_10) rfl rfl ?_
      show Steps p.tables e below (T1.setTop (mkF m 11 #[.val (.int p1), .val (.int (p1 &&& (7 : Int32))), .val (.ref w3), .unset, .unset, .unset] [(.ref w3)])) _
      refine st81.trans ?_
      show Steps p.tables e below (T81.setTop (mkF m 14 #[.val (.int p1), .val (.int (p1 &&& (7 : Int32))), .val (.ref w3), .unset, .unset, .unset] [(.int (0 : Int32))])) _
      refine XS.istoreN X81.here hx rfl (hb hby at_14) rfl (l' := #[.val (.int p1), .val (.int (p1 &&& (7 : Int32))), .val (.ref w3), .val (.int (0 : Int32)), .unset, .unset]) rfl ?_
      show Steps p.tables e below (T81.setTop (mkF m 15 #[.val (.int p1), .val (.int (p1 &&& (7 : Int32))), .val (.ref w3), .val (.int (0 : Int32)), .unset, .unset] [])) _
      refine XS.iloadN X81.here hx rfl (hb hby at_15) rfl ?_
      show Steps p.tables e below (T81.setTop (mkF m 16 #[.val (.int p1), .val (.int (p1 &&& (7 : Int32))), .val (.ref w3), .val (.int (0 : Int32)), .unset, .unset] [(.int (p1 &&& (7 : Int32)))])) _
      refine XS.iconst X81.here hx rfl (hb hby at_16) ?_
      show Steps p.tables e below (T81.setTop (mkF m 17 #[.val (.int p1), .val (.int (p1 &&& (7 : Int32))), .val (.ref w3), .val (.int (0 : Int32)), .unset, .unset] [(.int (2 : Int32)), (.int (p1 &&& (7 : Int32)))])) _
      refine XS.icmpYes X81.here hx rfl (pc0 := 17) (pc' := 24) rfl (hb hby at_17) rfl (flt (by rw [hc18]; first | done | decide : ¬ ((p1 &&& (7 : Int32)) < (2 : Int32)))).2.1 (by decide) (by decide) ?_
      show Steps p.tables e below (T81.setTop (mkF m 24 #[.val (.int p1), .val (.int (p1 &&& (7 : Int32))), .val (.ref w3), .val (.int (0 : Int32)), .unset, .unset] [])) _
      refine XS.iconst X81.here hx rfl (hb hby at_24) ?_
      show Steps p.tables e below (T81.setTop (mkF m 25 #[.val (.int p1), .val (.int (p1 &&& (7 : Int32))), .val (.ref w3), .val (.int (0 : Int32)), .unset, .unset] [(.int (0 : Int32))])) _
      refine XS.istore X81.here hx rfl (hb hby at_25) rfl (l' := #[.val (.int p1), .val (.int (p1 &&& (7 : Int32))), .val (.ref w3), .val (.int (0 : Int32)), .val (.int (0 : Int32)), .unset]) rfl ?_
      show Steps p.tables e below (T81.setTop (mkF m 27 #[.val (.int p1), .val (.int (p1 &&& (7 : Int32))), .val (.ref w3), .val (.int (0 : Int32)), .val (.int (0 : Int32)), .unset] [])) _
      refine XS.aloadN X81.here hx rfl (hb hby at_27) rfl rfl ?_
      show Steps p.tables e below (T81.setTop (mkF m 28 #[.val (.int p1), .val (.int (p1 &&& (7 : Int32))), .val (.ref w3), .val (.int (0 : Int32)), .val (.int (0 : Int32)), .unset] [(.ref w3)])) _
      refine st85.trans ?_
      show Steps p.tables e below (T85.setTop (mkF m 31 #[.val (.int p1), .val (.int (p1 &&& (7 : Int32))), .val (.ref w3), .val (.int (0 : Int32)), .val (.int (0 : Int32)), .unset] [.null])) _
      refine XS.astore X85.here hx rfl (hb hby at_31) rfl rfl (l' := #[.val (.int p1), .val (.int (p1 &&& (7 : Int32))), .val (.ref w3), .val (.int (0 : Int32)), .val (.int (0 : Int32)), .val .null]) rfl ?_
      show Steps p.tables e below (T85.setTop (mkF m 33 #[.val (.int p1), .val (.int (p1 &&& (7 : Int32))), .val (.ref w3), .val (.int (0 : Int32)), .val (.int (0 : Int32)), .val .null] [])) _
      refine XS.iloadN X85.here hx rfl (hb hby at_33) rfl ?_
      show Steps p.tables e below (T85.setTop (mkF m 34 #[.val (.int p1), .val (.int (p1 &&& (7 : Int32))), .val (.ref w3), .val (.int (0 : Int32)), .val (.int (0 : Int32)), .val .null] [(.int (0 : Int32))])) _
      refine XS.iload X85.here hx rfl (hb hby at_34) rfl ?_
      show Steps p.tables e below (T85.setTop (mkF m 36 #[.val (.int p1), .val (.int (p1 &&& (7 : Int32))), .val (.ref w3), .val (.int (0 : Int32)), .val (.int (0 : Int32)), .val .null] [(.int (0 : Int32)), (.int (0 : Int32))])) _
      refine XS.icmpYes X85.here hx rfl (pc0 := 36) (pc' := 41) rfl (hb hby at_36) rfl (teq (by decide : (0 : Int32) = (0 : Int32))).1 (by decide) (by decide) ?_
      show Steps p.tables e below (T85.setTop (mkF m 41 #[.val (.int p1), .val (.int (p1 &&& (7 : Int32))), .val (.ref w3), .val (.int (0 : Int32)), .val (.int (0 : Int32)), .val .null] [])) _
      refine XS.iloadN X85.here hx rfl (hb hby at_41) rfl ?_
      show Steps p.tables e below (T85.setTop (mkF m 42 #[.val (.int p1), .val (.int (p1 &&& (7 : Int32))), .val (.ref w3), .val (.int (0 : Int32)), .val (.int (0 : Int32)), .val .null] [(.int (0 : Int32))])) _
      refine XS.aload X85.here hx rfl (hb hby at_42) rfl rfl ?_
      show Steps p.tables e below (T85.setTop (mkF m 44 #[.val (.int p1), .val (.int (p1 &&& (7 : Int32))), .val (.ref w3), .val (.int (0 : Int32)), .val (.int (0 : Int32)), .val .null] [.null, (.int (0 : Int32))])) _
      refine XS.ifnullYes X85.here hx rfl (pc0 := 44) (pc' := 51) rfl (hb hby at_44) rfl (by decide) (by decide) ?_
      show Steps p.tables e below (T85.setTop (mkF m 51 #[.val (.int p1), .val (.int (p1 &&& (7 : Int32))), .val (.ref w3), .val (.int (0 : Int32)), .val (.int (0 : Int32)), .val .null] [(.int (0 : Int32))])) _
      refine XS.iconst X85.here hx rfl (hb hby at_51) ?_
      show Steps p.tables e below (T85.setTop (mkF m 52 #[.val (.int p1), .val (.int (p1 &&& (7 : Int32))), .val (.ref w3), .val (.int (0 : Int32)), .val (.int (0 : Int32)), .val .null] [(.int (0 : Int32)), (.int (0 : Int32))])) _
      refine XS.icmpYes X85.here hx rfl (pc0 := 52) (pc' := 57) rfl (hb hby at_52) rfl (teq (by decide : (0 : Int32) = (0 : Int32))).1 (by decide) (by decide) ?_
      show Steps p.tables e below (T85.setTop (mkF m 57 #[.val (.int p1), .val (.int (p1 &&& (7 : Int32))), .val (.ref w3), .val (.int (0 : Int32)), .val (.int (0 : Int32)), .val .null] [])) _
      refine XS.iloadN X85.here hx rfl (hb hby at_57) rfl ?_
      show Steps p.tables e below (T85.setTop (mkF m 58 #[.val (.int p1), .val (.int (p1 &&& (7 : Int32))), .val (.ref w3), .val (.int (0 : Int32)), .val (.int (0 : Int32)), .val .null] [(.int (p1 &&& (7 : Int32)))])) _
      refine XS.ifYes X85.here hx rfl (pc0 := 58) (pc' := 71) rfl (hb hby at_58) rfl ((if0 _ _).trans (feq hc15).2) (by decide) (by decide) ?_
      show Steps p.tables e below (T85.setTop (mkF m 71 #[.val (.int p1), .val (.int (p1 &&& (7 : Int32))), .val (.ref w3), .val (.int (0 : Int32)), .val (.int (0 : Int32)), .val .null] [])) _
      refine XS.iloadN X85.here hx rfl (hb hby at_71) rfl ?_
      show Steps p.tables e below (T85.setTop (mkF m 72 #[.val (.int p1), .val (.int (p1 &&& (7 : Int32))), .val (.ref w3), .val (.int (0 : Int32)), .val (.int (0 : Int32)), .val .null] [(.int (p1 &&& (7 : Int32)))])) _
      refine XS.iconst X85.here hx rfl (hb hby at_72) ?_
      show Steps p.tables e below (T85.setTop (mkF m 73 #[.val (.int p1), .val (.int (p1 &&& (7 : Int32))), .val (.ref w3), .val (.int (0 : Int32)), .val (.int (0 : Int32)), .val .null] [(.int (1 : Int32)), (.int (p1 &&& (7 : Int32)))])) _
      refine XS.icmpYes X85.here hx rfl (pc0 := 73) (pc' := 86) rfl (hb hby at_73) rfl (feq hc16).2 (by decide) (by decide) ?_
      show Steps p.tables e below (T85.setTop (mkF m 86 #[.val (.int p1), .val (.int (p1 &&& (7 : Int32))), .val (.ref w3), .val (.int (0 : Int32)), .val (.int (0 : Int32)), .val .null] [])) _
      refine XS.iconst X85.here hx rfl (hb hby at_86) ?_
      show Steps p.tables e below (T85.setTop (mkF m 87 #[.val (.int p1), .val (.int (p1 &&& (7 : Int32))), .val (.ref w3), .val (.int (0 : Int32)), .val (.int (0 : Int32)), .val .null] [(.int (1 : Int32))])) _
      exact retN X85 hx (t := .boolean) hret (by simp) (hb hby at_87) hr
    ·
      show Q0 n0 _ T85.heap _
      rw [e87]
      exact ⟨rfl, N85⟩
  ·
    have N1 := Fr.app N0 Nq26
    obtain ⟨cq88, kq88, q88a, q88b, q88c⟩ := isOf hZ e27 (E_w9.ext O0.2)
    obtain ⟨_, _, ⟨T89, L89, c89, n89⟩, -, X89, ⟨Lc89, hQ89, l89, y89, z89⟩, st89⟩ := X1.virtualBack hx (y := (⟨"com/example/swallow/swallow/engine/automation/Filter", "isGeographic", "()Z"⟩ : MethodName)) (z := (⟨"com/example/swallow/swallow/engine/automation/Filter", "isGeographic", "()Z"⟩ : MethodName)) hown (mvT hZ (hw _ (List.mem_of_getElem? (i := 7) rfl))) (mvT hZ (hw _ (List.mem_of_getElem? (i := 8) rfl))) (notFace_of_selects (args := #[]) (mvT hZ (hw _ (List.mem_of_getElem? (i := 10) rfl)))) (mvT hZ (hw _ (List.mem_of_getElem? (i := 10) rfl))) (mvT hZ (hw _ (List.mem_of_getElem? (i := 9) rfl))) (by decide) (backOf (W := 0) (rm10 l Z a0 hw w1 w2 w3 w4 w5 w6 w7 w8 w9 w10 G []  h0 n0 O0 ) hZ (hw _ (List.mem_of_getElem? (i := 11) rfl)) (hw _ (List.mem_of_getElem? (i := 5) rfl)) (by decide) (by decide)) q88a q88c (g := (mkF m 11 #[.val (.int p1), .val (.int (p1 &&& (7 : Int32))), .val (.ref w9), .unset, .unset, .unset] [(.ref w9)])) rfl (by rw [hml]; rfl) (Steps.refl _) (argsL := []) (rest := []) (lenOf pd1 rfl) rfl (by show 2 * 0 + _ ≤ _; exact Nat.le_of_eq rfl) (hb hby at_11) (fun _ _ => ⟨rfl, e27, (by decide : 0 + 0 ≤ _), (by decide : 0 + 0 ≤ _)⟩)
    dsimp only [Pt.U, Pt.locs, Pt.cells, Pt.slots] at X89 l89 y89 z89 st89 hQ89
    subst l89 y89 z89
    have X89 : Stand p l e room_1 s m #[(.int p1)] below meth c T89 _ 0 0 := X89
    obtain ⟨rfl, Nq90, e91⟩ := hQ89
    have N89 := Fr.app N1 Nq90
    obtain ⟨cq92, kq92, q92a, q92b, q92c⟩ := isOf hZ e91 (E_w9.ext O0.2)
    obtain ⟨_, _, ⟨T93, L93, c93, n93⟩, -, X93, ⟨Lc93, hQ93, l93, y93, z93⟩, st93⟩ := X89.virtualBack hx (y := (⟨"com/example/swallow/swallow/engine/automation/Filter", "getRole", "()Lcom/example/swallow/swallow/engine/automation/PlaceRole;"⟩ : MethodName)) (z := (⟨"com/example/swallow/swallow/engine/automation/Filter", "getRole", "()Lcom/example/swallow/swallow/engine/automation/PlaceRole;"⟩ : MethodName)) hown (mvT hZ (hw _ (List.mem_of_getElem? (i := 16) rfl))) (mvT hZ (hw _ (List.mem_of_getElem? (i := 17) rfl))) (notFace_of_selects (args := #[]) (mvT hZ (hw _ (List.mem_of_getElem? (i := 19) rfl)))) (mvT hZ (hw _ (List.mem_of_getElem? (i := 19) rfl))) (mvT hZ (hw _ (List.mem_of_getElem? (i := 18) rfl))) (by decide) (backOf (W := 0) (rm11 l Z a0 hw w1 w2 w3 w4 w5 w6 w7 w8 w9 w10 G []  h0 n0 O0 ) hZ (hw _ (List.mem_of_getElem? (i := 20) rfl)) (hw _ (List.mem_of_getElem? (i := 5) rfl)) (by decide) (by decide)) q92a q92c (g := (mkF m 28 #[.val (.int p1), .val (.int (p1 &&& (7 : Int32))), .val (.ref w9), .val (.int (0 : Int32)), .val (.int (0 : Int32)), .unset] [(.ref w9)])) rfl (by rw [hml]; rfl) (Steps.refl _) (argsL := []) (rest := []) (lenOf pd2 rfl) rfl (by show 2 * 0 + _ ≤ _; exact Nat.le_of_eq rfl) (hb hby at_28) (fun _ _ => ⟨rfl, e91, (by decide : 0 + 0 ≤ _), (by decide : 0 + 0 ≤ _)⟩)
    dsimp only [Pt.U, Pt.locs, Pt.cells, Pt.slots] at X93 l93 y93 z93 st93 hQ93
    subst l93 y93 z93
    have X93 : Stand p l e room_1 s m #[(.int p1)] below meth c T93 _ 0 0 := X93
    obtain ⟨rfl, Nq94, e95⟩ := hQ93
    have N93 := Fr.app N89 Nq94
    obtain ⟨fs, hr, hrun, hended, hW, hsame⟩ := X93.leave (v := some (.int (1 : Int32))) (fun h => by rw [hret] at h; cases h)
    refine ⟨_, _, pre2 _ ?_, hrun, hended, _, _, rfl, ?_, ⟨_, rfl⟩, hW, hsame.mono (by decide) (by decide)⟩
    ·
      show Steps p.tables e below (s₁.setTop (mkF m 6 #[.val (.int p1), .val (.int (p1 &&& (7 : Int32))), .unset, .unset, .unset, .unset] [(.int (p1 &&& (7 : Int32)))])) _
      refine st1 _ ?_
      show Steps p.tables e below (T1.setTop (mkF m 9 #[.val (.int p1), .val (.int (p1 &&& (7 : Int32))), .unset, .unset, .unset, .unset] [(.ref w9)])) _
      refine XS.astoreN X1.here hx rfl (hb hby at_9) rfl rfl (l' := #[.val (.int p1), .val (.int (p1 &&& (7 : Int32))), .val (.ref w9), .unset, .unset, .unset]) rfl ?_
      show Steps p.tables e below (T1.setTop (mkF m 10 #[.val (.int p1), .val (.int (p1 &&& (7 : Int32))), .val (.ref w9), .unset, .unset, .unset] [])) _
      refine XS.aloadN X1.here hx rfl (hb hby at_10) rfl rfl ?_
      show Steps p.tables e below (T1.setTop (mkF m 11 #[.val (.int p1), .val (.int (p1 &&& (7 : Int32))), .val (.ref w9), .unset, .unset, .unset] [(.ref w9)])) _
      refine st89.trans ?_
      show Steps p.tables e below (T89.setTop (mkF m 14 #[.val (.int p1), .val (.int (p1 &&& (7 : Int32))), .val (.ref w9), .unset, .unset, .unset] [(.int (0 : Int32))])) _
      refine XS.istoreN X89.here hx rfl (hb hby at_14) rfl (l' := #[.val (.int p1), .val (.int (p1 &&& (7 : Int32))), .val (.ref w9), .val (.int (0 : Int32)), .unset, .unset]) rfl ?_
      show Steps p.tables e below (T89.setTop (mkF m 15 #[.val (.int p1), .val (.int (p1 &&& (7 : Int32))), .val (.ref w9), .val (.int (0 : Int32)), .unset, .unset] [])) _
      refine XS.iloadN X89.here hx rfl (hb hby at_15) rfl ?_
      show Steps p.tables e below (T89.setTop (mkF m 16 #[.val (.int p1), .val (.int (p1 &&& (7 : Int32))), .val (.ref w9), .val (.int (0 : Int32)), .unset, .unset] [(.int (p1 &&& (7 : Int32)))])) _
      refine XS.iconst X89.here hx rfl (hb hby at_16) ?_
      show Steps p.tables e below (T89.setTop (mkF m 17 #[.val (.int p1), .val (.int (p1 &&& (7 : Int32))), .val (.ref w9), .val (.int (0 : Int32)), .unset, .unset] [(.int (2 : Int32)), (.int (p1 &&& (7 : Int32)))])) _
      refine XS.icmpYes X89.here hx rfl (pc0 := 17) (pc' := 24) rfl (hb hby at_17) rfl (flt (by rw [hc25]; first | done | decide : ¬ ((p1 &&& (7 : Int32)) < (2 : Int32)))).2.1 (by decide) (by decide) ?_
      show Steps p.tables e below (T89.setTop (mkF m 24 #[.val (.int p1), .val (.int (p1 &&& (7 : Int32))), .val (.ref w9), .val (.int (0 : Int32)), .unset, .unset] [])) _
      refine XS.iconst X89.here hx rfl (hb hby at_24) ?_
      show Steps p.tables e below (T89.setTop (mkF m 25 #[.val (.int p1), .val (.int (p1 &&& (7 : Int32))), .val (.ref w9), .val (.int (0 : Int32)), .unset, .unset] [(.int (0 : Int32))])) _
      refine XS.istore X89.here hx rfl (hb hby at_25) rfl (l' := #[.val (.int p1), .val (.int (p1 &&& (7 : Int32))), .val (.ref w9), .val (.int (0 : Int32)), .val (.int (0 : Int32)), .unset]) rfl ?_
      show Steps p.tables e below (T89.setTop (mkF m 27 #[.val (.int p1), .val (.int (p1 &&& (7 : Int32))), .val (.ref w9), .val (.int (0 : Int32)), .val (.int (0 : Int32)), .unset] [])) _
      refine XS.aloadN X89.here hx rfl (hb hby at_27) rfl rfl ?_
      show Steps p.tables e below (T89.setTop (mkF m 28 #[.val (.int p1), .val (.int (p1 &&& (7 : Int32))), .val (.ref w9), .val (.int (0 : Int32)), .val (.int (0 : Int32)), .unset] [(.ref w9)])) _
      refine st93.trans ?_
      show Steps p.tables e below (T93.setTop (mkF m 31 #[.val (.int p1), .val (.int (p1 &&& (7 : Int32))), .val (.ref w9), .val (.int (0 : Int32)), .val (.int (0 : Int32)), .unset] [.null])) _
      refine XS.astore X93.here hx rfl (hb hby at_31) rfl rfl (l' := #[.val (.int p1), .val (.int (p1 &&& (7 : Int32))), .val (.ref w9), .val (.int (0 : Int32)), .val (.int (0 : Int32)), .val .null]) rfl ?_
      show Steps p.tables e below (T93.setTop (mkF m 33 #[.val (.int p1), .val (.int (p1 &&& (7 : Int32))), .val (.ref w9), .val (.int (0 : Int32)), .val (.int (0 : Int32)), .val .null] [])) _
      refine XS.iloadN X93.here hx rfl (hb hby at_33) rfl ?_
      show Steps p.tables e below (T93.setTop (mkF m 34 #[.val (.int p1), .val (.int (p1 &&& (7 : Int32))), .val (.ref w9), .val (.int (0 : Int32)), .val (.int (0 : Int32)), .val .null] [(.int (0 : Int32))])) _
      refine XS.iload X93.here hx rfl (hb hby at_34) rfl ?_
      show Steps p.tables e below (T93.setTop (mkF m 36 #[.val (.int p1), .val (.int (p1 &&& (7 : Int32))), .val (.ref w9), .val (.int (0 : Int32)), .val (.int (0 : Int32)), .val .null] [(.int (0 : Int32)), (.int (0 : Int32))])) _
      refine XS.icmpYes X93.here hx rfl (pc0 := 36) (pc' := 41) rfl (hb hby at_36) rfl (teq (by decide : (0 : Int32) = (0 : Int32))).1 (by decide) (by decide) ?_
      show Steps p.tables e below (T93.setTop (mkF m 41 #[.val (.int p1), .val (.int (p1 &&& (7 : Int32))), .val (.ref w9), .val (.int (0 : Int32)), .val (.int (0 : Int32)), .val .null] [])) _
      refine XS.iloadN X93.here hx rfl (hb hby at_41) rfl ?_
      show Steps p.tables e below (T93.setTop (mkF m 42 #[.val (.int p1), .val (.int (p1 &&& (7 : Int32))), .val (.ref w9), .val (.int (0 : Int32)), .val (.int (0 : Int32)), .val .null] [(.int (0 : Int32))])) _
      refine XS.aload X93.here hx rfl (hb hby at_42) rfl rfl ?_
      show Steps p.tables e below (T93.setTop (mkF m 44 #[.val (.int p1), .val (.int (p1 &&& (7 : Int32))), .val (.ref w9), .val (.int (0 : Int32)), .val (.int (0 : Int32)), .val .null] [.null, (.int (0 : Int32))])) _
      refine XS.ifnullYes X93.here hx rfl (pc0 := 44) (pc' := 51) rfl (hb hby at_44) rfl (by decide) (by decide) ?_
      show Steps p.tables e below (T93.setTop (mkF m 51 #[.val (.int p1), .val (.int (p1 &&& (7 : Int32))), .val (.ref w9), .val (.int (0 : Int32)), .val (.int (0 : Int32)), .val .null] [(.int (0 : Int32))])) _
      refine XS.iconst X93.here hx rfl (hb hby at_51) ?_
      show Steps p.tables e below (T93.setTop (mkF m 52 #[.val (.int p1), .val (.int (p1 &&& (7 : Int32))), .val (.ref w9), .val (.int (0 : Int32)), .val (.int (0 : Int32)), .val .null] [(.int (0 : Int32)), (.int (0 : Int32))])) _
      refine XS.icmpYes X93.here hx rfl (pc0 := 52) (pc' := 57) rfl (hb hby at_52) rfl (teq (by decide : (0 : Int32) = (0 : Int32))).1 (by decide) (by decide) ?_
      show Steps p.tables e below (T93.setTop (mkF m 57 #[.val (.int p1), .val (.int (p1 &&& (7 : Int32))), .val (.ref w9), .val (.int (0 : Int32)), .val (.int (0 : Int32)), .val .null] [])) _
      refine XS.iloadN X93.here hx rfl (hb hby at_57) rfl ?_
      show Steps p.tables e below (T93.setTop (mkF m 58 #[.val (.int p1), .val (.int (p1 &&& (7 : Int32))), .val (.ref w9), .val (.int (0 : Int32)), .val (.int (0 : Int32)), .val .null] [(.int (p1 &&& (7 : Int32)))])) _
      refine XS.ifYes X93.here hx rfl (pc0 := 58) (pc' := 71) rfl (hb hby at_58) rfl ((if0 _ _).trans (feq hc21).2) (by decide) (by decide) ?_
      show Steps p.tables e below (T93.setTop (mkF m 71 #[.val (.int p1), .val (.int (p1 &&& (7 : Int32))), .val (.ref w9), .val (.int (0 : Int32)), .val (.int (0 : Int32)), .val .null] [])) _
      refine XS.iloadN X93.here hx rfl (hb hby at_71) rfl ?_
      show Steps p.tables e below (T93.setTop (mkF m 72 #[.val (.int p1), .val (.int (p1 &&& (7 : Int32))), .val (.ref w9), .val (.int (0 : Int32)), .val (.int (0 : Int32)), .val .null] [(.int (p1 &&& (7 : Int32)))])) _
      refine XS.iconst X93.here hx rfl (hb hby at_72) ?_
      show Steps p.tables e below (T93.setTop (mkF m 73 #[.val (.int p1), .val (.int (p1 &&& (7 : Int32))), .val (.ref w9), .val (.int (0 : Int32)), .val (.int (0 : Int32)), .val .null] [(.int (1 : Int32)), (.int (p1 &&& (7 : Int32)))])) _
      refine XS.icmpYes X93.here hx rfl (pc0 := 73) (pc' := 86) rfl (hb hby at_73) rfl (feq hc22).2 (by decide) (by decide) ?_
      show Steps p.tables e below (T93.setTop (mkF m 86 #[.val (.int p1), .val (.int (p1 &&& (7 : Int32))), .val (.ref w9), .val (.int (0 : Int32)), .val (.int (0 : Int32)), .val .null] [])) _
      refine XS.iconst X93.here hx rfl (hb hby at_86) ?_
      show Steps p.tables e below (T93.setTop (mkF m 87 #[.val (.int p1), .val (.int (p1 &&& (7 : Int32))), .val (.ref w9), .val (.int (0 : Int32)), .val (.int (0 : Int32)), .val .null] [(.int (1 : Int32))])) _
      exact retN X93 hx (t := .boolean) hret (by simp) (hb hby at_87) hr
    ·
      show Q0 n0 _ T93.heap _
      rw [e95]
      exact ⟨rfl, N93⟩
  ·
    have N1 := Fr.app N0 Nq34
    obtain ⟨cq96, kq96, q96a, q96b, q96c⟩ := isOf hZ e35 (E_w10.ext O0.2)
    obtain ⟨_, _, ⟨T97, L97, c97, n97⟩, -, X97, ⟨Lc97, hQ97, l97, y97, z97⟩, st97⟩ := X1.virtualBack hx (y := (⟨"com/example/swallow/swallow/engine/automation/Filter", "isGeographic", "()Z"⟩ : MethodName)) (z := (⟨"com/example/swallow/swallow/engine/automation/Filter", "isGeographic", "()Z"⟩ : MethodName)) hown (mvT hZ (hw _ (List.mem_of_getElem? (i := 7) rfl))) (mvT hZ (hw _ (List.mem_of_getElem? (i := 8) rfl))) (notFace_of_selects (args := #[]) (mvT hZ (hw _ (List.mem_of_getElem? (i := 10) rfl)))) (mvT hZ (hw _ (List.mem_of_getElem? (i := 10) rfl))) (mvT hZ (hw _ (List.mem_of_getElem? (i := 9) rfl))) (by decide) (backOf (W := 0) (rm12 l Z a0 hw w1 w2 w3 w4 w5 w6 w7 w8 w9 w10 G []  h0 n0 O0 ) hZ (hw _ (List.mem_of_getElem? (i := 11) rfl)) (hw _ (List.mem_of_getElem? (i := 5) rfl)) (by decide) (by decide)) q96a q96c (g := (mkF m 11 #[.val (.int p1), .val (.int (p1 &&& (7 : Int32))), .val (.ref w10), .unset, .unset, .unset] [(.ref w10)])) rfl (by rw [hml]; rfl) (Steps.refl _) (argsL := []) (rest := []) (lenOf pd1 rfl) rfl (by show 2 * 0 + _ ≤ _; exact Nat.le_of_eq rfl) (hb hby at_11) (fun _ _ => ⟨rfl, e35, (by decide : 0 + 0 ≤ _), (by decide : 0 + 0 ≤ _)⟩)
    dsimp only [Pt.U, Pt.locs, Pt.cells, Pt.slots] at X97 l97 y97 z97 st97 hQ97
    subst l97 y97 z97
    have X97 : Stand p l e room_1 s m #[(.int p1)] below meth c T97 _ 0 0 := X97
    obtain ⟨rfl, Nq98, e99⟩ := hQ97
    have N97 := Fr.app N1 Nq98
    obtain ⟨cq100, kq100, q100a, q100b, q100c⟩ := isOf hZ e99 (E_w10.ext O0.2)
    obtain ⟨_, _, ⟨T101, L101, c101, n101⟩, -, X101, ⟨Lc101, hQ101, l101, y101, z101⟩, st101⟩ := X97.virtualBack hx (y := (⟨"com/example/swallow/swallow/engine/automation/Filter", "getRole", "()Lcom/example/swallow/swallow/engine/automation/PlaceRole;"⟩ : MethodName)) (z := (⟨"com/example/swallow/swallow/engine/automation/Filter", "getRole", "()Lcom/example/swallow/swallow/engine/automation/PlaceRole;"⟩ : MethodName)) hown (mvT hZ (hw _ (List.mem_of_getElem? (i := 16) rfl))) (mvT hZ (hw _ (List.mem_of_getElem? (i := 17) rfl))) (notFace_of_selects (args := #[]) (mvT hZ (hw _ (List.mem_of_getElem? (i := 19) rfl)))) (mvT hZ (hw _ (List.mem_of_getElem? (i := 19) rfl))) (mvT hZ (hw _ (List.mem_of_getElem? (i := 18) rfl))) (by decide) (backOf (W := 0) (rm13 l Z a0 hw w1 w2 w3 w4 w5 w6 w7 w8 w9 w10 G []  h0 n0 O0 ) hZ (hw _ (List.mem_of_getElem? (i := 20) rfl)) (hw _ (List.mem_of_getElem? (i := 5) rfl)) (by decide) (by decide)) q100a q100c (g := (mkF m 28 #[.val (.int p1), .val (.int (p1 &&& (7 : Int32))), .val (.ref w10), .val (.int (0 : Int32)), .val (.int (0 : Int32)), .unset] [(.ref w10)])) rfl (by rw [hml]; rfl) (Steps.refl _) (argsL := []) (rest := []) (lenOf pd2 rfl) rfl (by show 2 * 0 + _ ≤ _; exact Nat.le_of_eq rfl) (hb hby at_28) (fun _ _ => ⟨rfl, e99, (by decide : 0 + 0 ≤ _), (by decide : 0 + 0 ≤ _)⟩)
    dsimp only [Pt.U, Pt.locs, Pt.cells, Pt.slots] at X101 l101 y101 z101 st101 hQ101
    subst l101 y101 z101
    have X101 : Stand p l e room_1 s m #[(.int p1)] below meth c T101 _ 0 0 := X101
    obtain ⟨rfl, Nq102, e103⟩ := hQ101
    have N101 := Fr.app N97 Nq102
    obtain ⟨fs, hr, hrun, hended, hW, hsame⟩ := X101.leave (v := some (.int (1 : Int32))) (fun h => by rw [hret] at h; cases h)
    refine ⟨_, _, pre2 _ ?_, hrun, hended, _, _, rfl, ?_, ⟨_, rfl⟩, hW, hsame.mono (by decide) (by decide)⟩
    ·
      show Steps p.tables e below (s₁.setTop (mkF m 6 #[.val (.int p1), .val (.int (p1 &&& (7 : Int32))), .unset, .unset, .unset, .unset] [(.int (p1 &&& (7 : Int32)))])) _
      refine st1 _ ?_
      show Steps p.tables e below (T1.setTop (mkF m 9 #[.val (.int p1), .val (.int (p1 &&& (7 : Int32))), .unset, .unset, .unset, .unset] [(.ref w10)])) _
      refine XS.astoreN X1.here hx rfl (hb hby at_9) rfl rfl (l' := #[.val (.int p1), .val (.int (p1 &&& (7 : Int32))), .val (.ref w10), .unset, .unset, .unset]) rfl ?_
      show Steps p.tables e below (T1.setTop (mkF m 10 #[.val (.int p1), .val (.int (p1 &&& (7 : Int32))), .val (.ref w10), .unset, .unset, .unset] [])) _
      refine XS.aloadN X1.here hx rfl (hb hby at_10) rfl rfl ?_
      show Steps p.tables e below (T1.setTop (mkF m 11 #[.val (.int p1), .val (.int (p1 &&& (7 : Int32))), .val (.ref w10), .unset, .unset, .unset] [(.ref w10)])) _
      refine st97.trans ?_
      show Steps p.tables e below (T97.setTop (mkF m 14 #[.val (.int p1), .val (.int (p1 &&& (7 : Int32))), .val (.ref w10), .unset, .unset, .unset] [(.int (0 : Int32))])) _
      refine XS.istoreN X97.here hx rfl (hb hby at_14) rfl (l' := #[.val (.int p1), .val (.int (p1 &&& (7 : Int32))), .val (.ref w10), .val (.int (0 : Int32)), .unset, .unset]) rfl ?_
      show Steps p.tables e below (T97.setTop (mkF m 15 #[.val (.int p1), .val (.int (p1 &&& (7 : Int32))), .val (.ref w10), .val (.int (0 : Int32)), .unset, .unset] [])) _
      refine XS.iloadN X97.here hx rfl (hb hby at_15) rfl ?_
      show Steps p.tables e below (T97.setTop (mkF m 16 #[.val (.int p1), .val (.int (p1 &&& (7 : Int32))), .val (.ref w10), .val (.int (0 : Int32)), .unset, .unset] [(.int (p1 &&& (7 : Int32)))])) _
      refine XS.iconst X97.here hx rfl (hb hby at_16) ?_
      show Steps p.tables e below (T97.setTop (mkF m 17 #[.val (.int p1), .val (.int (p1 &&& (7 : Int32))), .val (.ref w10), .val (.int (0 : Int32)), .unset, .unset] [(.int (2 : Int32)), (.int (p1 &&& (7 : Int32)))])) _
      refine XS.icmpYes X97.here hx rfl (pc0 := 17) (pc' := 24) rfl (hb hby at_17) rfl (flt (by rw [hc33]; first | done | decide : ¬ ((p1 &&& (7 : Int32)) < (2 : Int32)))).2.1 (by decide) (by decide) ?_
      show Steps p.tables e below (T97.setTop (mkF m 24 #[.val (.int p1), .val (.int (p1 &&& (7 : Int32))), .val (.ref w10), .val (.int (0 : Int32)), .unset, .unset] [])) _
      refine XS.iconst X97.here hx rfl (hb hby at_24) ?_
      show Steps p.tables e below (T97.setTop (mkF m 25 #[.val (.int p1), .val (.int (p1 &&& (7 : Int32))), .val (.ref w10), .val (.int (0 : Int32)), .unset, .unset] [(.int (0 : Int32))])) _
      refine XS.istore X97.here hx rfl (hb hby at_25) rfl (l' := #[.val (.int p1), .val (.int (p1 &&& (7 : Int32))), .val (.ref w10), .val (.int (0 : Int32)), .val (.int (0 : Int32)), .unset]) rfl ?_
      show Steps p.tables e below (T97.setTop (mkF m 27 #[.val (.int p1), .val (.int (p1 &&& (7 : Int32))), .val (.ref w10), .val (.int (0 : Int32)), .val (.int (0 : Int32)), .unset] [])) _
      refine XS.aloadN X97.here hx rfl (hb hby at_27) rfl rfl ?_
      show Steps p.tables e below (T97.setTop (mkF m 28 #[.val (.int p1), .val (.int (p1 &&& (7 : Int32))), .val (.ref w10), .val (.int (0 : Int32)), .val (.int (0 : Int32)), .unset] [(.ref w10)])) _
      refine st101.trans ?_
      show Steps p.tables e below (T101.setTop (mkF m 31 #[.val (.int p1), .val (.int (p1 &&& (7 : Int32))), .val (.ref w10), .val (.int (0 : Int32)), .val (.int (0 : Int32)), .unset] [.null])) _
      refine XS.astore X101.here hx rfl (hb hby at_31) rfl rfl (l' := #[.val (.int p1), .val (.int (p1 &&& (7 : Int32))), .val (.ref w10), .val (.int (0 : Int32)), .val (.int (0 : Int32)), .val .null]) rfl ?_
      show Steps p.tables e below (T101.setTop (mkF m 33 #[.val (.int p1), .val (.int (p1 &&& (7 : Int32))), .val (.ref w10), .val (.int (0 : Int32)), .val (.int (0 : Int32)), .val .null] [])) _
      refine XS.iloadN X101.here hx rfl (hb hby at_33) rfl ?_
      show Steps p.tables e below (T101.setTop (mkF m 34 #[.val (.int p1), .val (.int (p1 &&& (7 : Int32))), .val (.ref w10), .val (.int (0 : Int32)), .val (.int (0 : Int32)), .val .null] [(.int (0 : Int32))])) _
      refine XS.iload X101.here hx rfl (hb hby at_34) rfl ?_
      show Steps p.tables e below (T101.setTop (mkF m 36 #[.val (.int p1), .val (.int (p1 &&& (7 : Int32))), .val (.ref w10), .val (.int (0 : Int32)), .val (.int (0 : Int32)), .val .null] [(.int (0 : Int32)), (.int (0 : Int32))])) _
      refine XS.icmpYes X101.here hx rfl (pc0 := 36) (pc' := 41) rfl (hb hby at_36) rfl (teq (by decide : (0 : Int32) = (0 : Int32))).1 (by decide) (by decide) ?_
      show Steps p.tables e below (T101.setTop (mkF m 41 #[.val (.int p1), .val (.int (p1 &&& (7 : Int32))), .val (.ref w10), .val (.int (0 : Int32)), .val (.int (0 : Int32)), .val .null] [])) _
      refine XS.iloadN X101.here hx rfl (hb hby at_41) rfl ?_
      show Steps p.tables e below (T101.setTop (mkF m 42 #[.val (.int p1), .val (.int (p1 &&& (7 : Int32))), .val (.ref w10), .val (.int (0 : Int32)), .val (.int (0 : Int32)), .val .null] [(.int (0 : Int32))])) _
      refine XS.aload X101.here hx rfl (hb hby at_42) rfl rfl ?_
      show Steps p.tables e below (T101.setTop (mkF m 44 #[.val (.int p1), .val (.int (p1 &&& (7 : Int32))), .val (.ref w10), .val (.int (0 : Int32)), .val (.int (0 : Int32)), .val .null] [.null, (.int (0 : Int32))])) _
      refine XS.ifnullYes X101.here hx rfl (pc0 := 44) (pc' := 51) rfl (hb hby at_44) rfl (by decide) (by decide) ?_
      show Steps p.tables e below (T101.setTop (mkF m 51 #[.val (.int p1), .val (.int (p1 &&& (7 : Int32))), .val (.ref w10), .val (.int (0 : Int32)), .val (.int (0 : Int32)), .val .null] [(.int (0 : Int32))])) _
      refine XS.iconst X101.here hx rfl (hb hby at_51) ?_
      show Steps p.tables e below (T101.setTop (mkF m 52 #[.val (.int p1), .val (.int (p1 &&& (7 : Int32))), .val (.ref w10), .val (.int (0 : Int32)), .val (.int (0 : Int32)), .val .null] [(.int (0 : Int32)), (.int (0 : Int32))])) _
      refine XS.icmpYes X101.here hx rfl (pc0 := 52) (pc' := 57) rfl (hb hby at_52) rfl (teq (by decide : (0 : Int32) = (0 : Int32))).1 (by decide) (by decide) ?_
      show Steps p.tables e below (T101.setTop (mkF m 57 #[.val (.int p1), .val (.int (p1 &&& (7 : Int32))), .val (.ref w10), .val (.int (0 : Int32)), .val (.int (0 : Int32)), .val .null] [])) _
      refine XS.iloadN X101.here hx rfl (hb hby at_57) rfl ?_
      show Steps p.tables e below (T101.setTop (mkF m 58 #[.val (.int p1), .val (.int (p1 &&& (7 : Int32))), .val (.ref w10), .val (.int (0 : Int32)), .val (.int (0 : Int32)), .val .null] [(.int (p1 &&& (7 : Int32)))])) _
      refine XS.ifYes X101.here hx rfl (pc0 := 58) (pc' := 71) rfl (hb hby at_58) rfl ((if0 _ _).trans (feq hc28).2) (by decide) (by decide) ?_
      show Steps p.tables e below (T101.setTop (mkF m 71 #[.val (.int p1), .val (.int (p1 &&& (7 : Int32))), .val (.ref w10), .val (.int (0 : Int32)), .val (.int (0 : Int32)), .val .null] [])) _
      refine XS.iloadN X101.here hx rfl (hb hby at_71) rfl ?_
      show Steps p.tables e below (T101.setTop (mkF m 72 #[.val (.int p1), .val (.int (p1 &&& (7 : Int32))), .val (.ref w10), .val (.int (0 : Int32)), .val (.int (0 : Int32)), .val .null] [(.int (p1 &&& (7 : Int32)))])) _
      refine XS.iconst X101.here hx rfl (hb hby at_72) ?_
      show Steps p.tables e below (T101.setTop (mkF m 73 #[.val (.int p1), .val (.int (p1 &&& (7 : Int32))), .val (.ref w10), .val (.int (0 : Int32)), .val (.int (0 : Int32)), .val .null] [(.int (1 : Int32)), (.int (p1 &&& (7 : Int32)))])) _
      refine XS.icmpYes X101.here hx rfl (pc0 := 73) (pc' := 86) rfl (hb hby at_73) rfl (feq hc29).2 (by decide) (by decide) ?_
      show Steps p.tables e below (T101.setTop (mkF m 86 #[.val (.int p1), .val (.int (p1 &&& (7 : Int32))), .val (.ref w10), .val (.int (0 : Int32)), .val (.int (0 : Int32)), .val .null] [])) _
      refine XS.iconst X101.here hx rfl (hb hby at_86) ?_
      show Steps p.tables e below (T101.setTop (mkF m 87 #[.val (.int p1), .val (.int (p1 &&& (7 : Int32))), .val (.ref w10), .val (.int (0 : Int32)), .val (.int (0 : Int32)), .val .null] [(.int (1 : Int32))])) _
      exact retN X101 hx (t := .boolean) hret (by simp) (hb hby at_87) hr
    ·
      show Q0 n0 _ T101.heap _
      rw [e103]
      exact ⟨rfl, N101⟩
  ·
    have N1 := Fr.app N0 Nq43
    obtain ⟨cq104, kq104, q104a, q104b, q104c⟩ := isOf hZ e44 (E_w4.ext O0.2)
    obtain ⟨_, _, ⟨T105, L105, c105, n105⟩, -, X105, ⟨Lc105, hQ105, l105, y105, z105⟩, st105⟩ := X1.virtualBack hx (y := (⟨"com/example/swallow/swallow/engine/automation/Filter", "isGeographic", "()Z"⟩ : MethodName)) (z := (⟨"com/example/swallow/swallow/engine/automation/Filter", "isGeographic", "()Z"⟩ : MethodName)) hown (mvT hZ (hw _ (List.mem_of_getElem? (i := 7) rfl))) (mvT hZ (hw _ (List.mem_of_getElem? (i := 8) rfl))) (notFace_of_selects (args := #[]) (mvT hZ (hw _ (List.mem_of_getElem? (i := 10) rfl)))) (mvT hZ (hw _ (List.mem_of_getElem? (i := 10) rfl))) (mvT hZ (hw _ (List.mem_of_getElem? (i := 9) rfl))) (by decide) (backOf (W := 0) (rm14 l Z a0 hw w1 w2 w3 w4 w5 w6 w7 w8 w9 w10 G []  h0 n0 O0 ) hZ (hw _ (List.mem_of_getElem? (i := 11) rfl)) (hw _ (List.mem_of_getElem? (i := 5) rfl)) (by decide) (by decide)) q104a q104c (g := (mkF m 11 #[.val (.int p1), .val (.int (p1 &&& (7 : Int32))), .val (.ref w4), .unset, .unset, .unset] [(.ref w4)])) rfl (by rw [hml]; rfl) (Steps.refl _) (argsL := []) (rest := []) (lenOf pd1 rfl) rfl (by show 2 * 0 + _ ≤ _; exact Nat.le_of_eq rfl) (hb hby at_11) (fun _ _ => ⟨rfl, e44, (by decide : 0 + 0 ≤ _), (by decide : 0 + 0 ≤ _)⟩)
    dsimp only [Pt.U, Pt.locs, Pt.cells, Pt.slots] at X105 l105 y105 z105 st105 hQ105
    subst l105 y105 z105
    have X105 : Stand p l e room_1 s m #[(.int p1)] below meth c T105 _ 0 0 := X105
    obtain ⟨rfl, Nq106, e107⟩ := hQ105
    have N105 := Fr.app N1 Nq106
    obtain ⟨cq108, kq108, q108a, q108b, q108c⟩ := isOf hZ e107 (E_w4.ext O0.2)
    obtain ⟨_, _, ⟨T109, L109, c109, n109⟩, -, X109, ⟨Lc109, hQ109, l109, y109, z109⟩, st109⟩ := X105.virtualBack hx (y := (⟨"com/example/swallow/swallow/engine/automation/Filter", "getRole", "()Lcom/example/swallow/swallow/engine/automation/PlaceRole;"⟩ : MethodName)) (z := (⟨"com/example/swallow/swallow/engine/automation/Filter", "getRole", "()Lcom/example/swallow/swallow/engine/automation/PlaceRole;"⟩ : MethodName)) hown (mvT hZ (hw _ (List.mem_of_getElem? (i := 16) rfl))) (mvT hZ (hw _ (List.mem_of_getElem? (i := 17) rfl))) (notFace_of_selects (args := #[]) (mvT hZ (hw _ (List.mem_of_getElem? (i := 19) rfl)))) (mvT hZ (hw _ (List.mem_of_getElem? (i := 19) rfl))) (mvT hZ (hw _ (List.mem_of_getElem? (i := 18) rfl))) (by decide) (backOf (W := 0) (rm15 l Z a0 hw w1 w2 w3 w4 w5 w6 w7 w8 w9 w10 G []  h0 n0 O0 ) hZ (hw _ (List.mem_of_getElem? (i := 20) rfl)) (hw _ (List.mem_of_getElem? (i := 5) rfl)) (by decide) (by decide)) q108a q108c (g := (mkF m 28 #[.val (.int p1), .val (.int (p1 &&& (7 : Int32))), .val (.ref w4), .val (.int (0 : Int32)), .val (.int (0 : Int32)), .unset] [(.ref w4)])) rfl (by rw [hml]; rfl) (Steps.refl _) (argsL := []) (rest := []) (lenOf pd2 rfl) rfl (by show 2 * 0 + _ ≤ _; exact Nat.le_of_eq rfl) (hb hby at_28) (fun _ _ => ⟨rfl, e107, (by decide : 0 + 0 ≤ _), (by decide : 0 + 0 ≤ _)⟩)
    dsimp only [Pt.U, Pt.locs, Pt.cells, Pt.slots] at X109 l109 y109 z109 st109 hQ109
    subst l109 y109 z109
    have X109 : Stand p l e room_1 s m #[(.int p1)] below meth c T109 _ 0 0 := X109
    obtain ⟨rfl, Nq110, e111⟩ := hQ109
    have N109 := Fr.app N105 Nq110
    obtain ⟨fs, hr, hrun, hended, hW, hsame⟩ := X109.leave (v := some (.int (1 : Int32))) (fun h => by rw [hret] at h; cases h)
    refine ⟨_, _, pre2 _ ?_, hrun, hended, _, _, rfl, ?_, ⟨_, rfl⟩, hW, hsame.mono (by decide) (by decide)⟩
    ·
      show Steps p.tables e below (s₁.setTop (mkF m 6 #[.val (.int p1), .val (.int (p1 &&& (7 : Int32))), .unset, .unset, .unset, .unset] [(.int (p1 &&& (7 : Int32)))])) _
      refine st1 _ ?_
      show Steps p.tables e below (T1.setTop (mkF m 9 #[.val (.int p1), .val (.int (p1 &&& (7 : Int32))), .unset, .unset, .unset, .unset] [(.ref w4)])) _
      refine XS.astoreN X1.here hx rfl (hb hby at_9) rfl rfl (l' := #[.val (.int p1), .val (.int (p1 &&& (7 : Int32))), .val (.ref w4), .unset, .unset, .unset]) rfl ?_
      show Steps p.tables e below (T1.setTop (mkF m 10 #[.val (.int p1), .val (.int (p1 &&& (7 : Int32))), .val (.ref w4), .unset, .unset, .unset] [])) _
      refine XS.aloadN X1.here hx rfl (hb hby at_10) rfl rfl ?_
      show Steps p.tables e below (T1.setTop (mkF m 11 #[.val (.int p1), .val (.int (p1 &&& (7 : Int32))), .val (.ref w4), .unset, .unset, .unset] [(.ref w4)])) _
      refine st105.trans ?_
      show Steps p.tables e below (T105.setTop (mkF m 14 #[.val (.int p1), .val (.int (p1 &&& (7 : Int32))), .val (.ref w4), .unset, .unset, .unset] [(.int (0 : Int32))])) _
      refine XS.istoreN X105.here hx rfl (hb hby at_14) rfl (l' := #[.val (.int p1), .val (.int (p1 &&& (7 : Int32))), .val (.ref w4), .val (.int (0 : Int32)), .unset, .unset]) rfl ?_
      show Steps p.tables e below (T105.setTop (mkF m 15 #[.val (.int p1), .val (.int (p1 &&& (7 : Int32))), .val (.ref w4), .val (.int (0 : Int32)), .unset, .unset] [])) _
      refine XS.iloadN X105.here hx rfl (hb hby at_15) rfl ?_
      show Steps p.tables e below (T105.setTop (mkF m 16 #[.val (.int p1), .val (.int (p1 &&& (7 : Int32))), .val (.ref w4), .val (.int (0 : Int32)), .unset, .unset] [(.int (p1 &&& (7 : Int32)))])) _
      refine XS.iconst X105.here hx rfl (hb hby at_16) ?_
      show Steps p.tables e below (T105.setTop (mkF m 17 #[.val (.int p1), .val (.int (p1 &&& (7 : Int32))), .val (.ref w4), .val (.int (0 : Int32)), .unset, .unset] [(.int (2 : Int32)), (.int (p1 &&& (7 : Int32)))])) _
      refine XS.icmpYes X105.here hx rfl (pc0 := 17) (pc' := 24) rfl (hb hby at_17) rfl (flt (by rw [hc42]; first | done | decide : ¬ ((p1 &&& (7 : Int32)) < (2 : Int32)))).2.1 (by decide) (by decide) ?_
      show Steps p.tables e below (T105.setTop (mkF m 24 #[.val (.int p1), .val (.int (p1 &&& (7 : Int32))), .val (.ref w4), .val (.int (0 : Int32)), .unset, .unset] [])) _
      refine XS.iconst X105.here hx rfl (hb hby at_24) ?_
      show Steps p.tables e below (T105.setTop (mkF m 25 #[.val (.int p1), .val (.int (p1 &&& (7 : Int32))), .val (.ref w4), .val (.int (0 : Int32)), .unset, .unset] [(.int (0 : Int32))])) _
      refine XS.istore X105.here hx rfl (hb hby at_25) rfl (l' := #[.val (.int p1), .val (.int (p1 &&& (7 : Int32))), .val (.ref w4), .val (.int (0 : Int32)), .val (.int (0 : Int32)), .unset]) rfl ?_
      show Steps p.tables e below (T105.setTop (mkF m 27 #[.val (.int p1), .val (.int (p1 &&& (7 : Int32))), .val (.ref w4), .val (.int (0 : Int32)), .val (.int (0 : Int32)), .unset] [])) _
      refine XS.aloadN X105.here hx rfl (hb hby at_27) rfl rfl ?_
      show Steps p.tables e below (T105.setTop (mkF m 28 #[.val (.int p1), .val (.int (p1 &&& (7 : Int32))), .val (.ref w4), .val (.int (0 : Int32)), .val (.int (0 : Int32)), .unset] [(.ref w4)])) _
      refine st109.trans ?_
      show Steps p.tables e below (T109.setTop (mkF m 31 #[.val (.int p1), .val (.int (p1 &&& (7 : Int32))), .val (.ref w4), .val (.int (0 : Int32)), .val (.int (0 : Int32)), .unset] [.null])) _
      refine XS.astore X109.here hx rfl (hb hby at_31) rfl rfl (l' := #[.val (.int p1), .val (.int (p1 &&& (7 : Int32))), .val (.ref w4), .val (.int (0 : Int32)), .val (.int (0 : Int32)), .val .null]) rfl ?_
      show Steps p.tables e below (T109.setTop (mkF m 33 #[.val (.int p1), .val (.int (p1 &&& (7 : Int32))), .val (.ref w4), .val (.int (0 : Int32)), .val (.int (0 : Int32)), .val .null] [])) _
      refine XS.iloadN X109.here hx rfl (hb hby at_33) rfl ?_
      show Steps p.tables e below (T109.setTop (mkF m 34 #[.val (.int p1), .val (.int (p1 &&& (7 : Int32))), .val (.ref w4), .val (.int (0 : Int32)), .val (.int (0 : Int32)), .val .null] [(.int (0 : Int32))])) _
      refine XS.iload X109.here hx rfl (hb hby at_34) rfl ?_
      show Steps p.tables e below (T109.setTop (mkF m 36 #[.val (.int p1), .val (.int (p1 &&& (7 : Int32))), .val (.ref w4), .val (.int (0 : Int32)), .val (.int (0 : Int32)), .val .null] [(.int (0 : Int32)), (.int (0 : Int32))])) _
      refine XS.icmpYes X109.here hx rfl (pc0 := 36) (pc' := 41) rfl (hb hby at_36) rfl (teq (by decide : (0 : Int32) = (0 : Int32))).1 (by decide) (by decide) ?_
      show Steps p.tables e below (T109.setTop (mkF m 41 #[.val (.int p1), .val (.int (p1 &&& (7 : Int32))), .val (.ref w4), .val (.int (0 : Int32)), .val (.int (0 : Int32)), .val .null] [])) _
      refine XS.iloadN X109.here hx rfl (hb hby at_41) rfl ?_
      show Steps p.tables e below (T109.setTop (mkF m 42 #[.val (.int p1), .val (.int (p1 &&& (7 : Int32))), .val (.ref w4), .val (.int (0 : Int32)), .val (.int (0 : Int32)), .val .null] [(.int (0 : Int32))])) _
      refine XS.aload X109.here hx rfl (hb hby at_42) rfl rfl ?_
      show Steps p.tables e below (T109.setTop (mkF m 44 #[.val (.int p1), .val (.int (p1 &&& (7 : Int32))), .val (.ref w4), .val (.int (0 : Int32)), .val (.int (0 : Int32)), .val .null] [.null, (.int (0 : Int32))])) _
      refine XS.ifnullYes X109.here hx rfl (pc0 := 44) (pc' := 51) rfl (hb hby at_44) rfl (by decide) (by decide) ?_
      show Steps p.tables e below (T109.setTop (mkF m 51 #[.val (.int p1), .val (.int (p1 &&& (7 : Int32))), .val (.ref w4), .val (.int (0 : Int32)), .val (.int (0 : Int32)), .val .null] [(.int (0 : Int32))])) _
      refine XS.iconst X109.here hx rfl (hb hby at_51) ?_
      show Steps p.tables e below (T109.setTop (mkF m 52 #[.val (.int p1), .val (.int (p1 &&& (7 : Int32))), .val (.ref w4), .val (.int (0 : Int32)), .val (.int (0 : Int32)), .val .null] [(.int (0 : Int32)), (.int (0 : Int32))])) _
      refine XS.icmpYes X109.here hx rfl (pc0 := 52) (pc' := 57) rfl (hb hby at_52) rfl (teq (by decide : (0 : Int32) = (0 : Int32))).1 (by decide) (by decide) ?_
      show Steps p.tables e below (T109.setTop (mkF m 57 #[.val (.int p1), .val (.int (p1 &&& (7 : Int32))), .val (.ref w4), .val (.int (0 : Int32)), .val (.int (0 : Int32)), .val .null] [])) _
      refine XS.iloadN X109.here hx rfl (hb hby at_57) rfl ?_
      show Steps p.tables e below (T109.setTop (mkF m 58 #[.val (.int p1), .val (.int (p1 &&& (7 : Int32))), .val (.ref w4), .val (.int (0 : Int32)), .val (.int (0 : Int32)), .val .null] [(.int (p1 &&& (7 : Int32)))])) _
      refine XS.ifYes X109.here hx rfl (pc0 := 58) (pc' := 71) rfl (hb hby at_58) rfl ((if0 _ _).trans (feq hc36).2) (by decide) (by decide) ?_
      show Steps p.tables e below (T109.setTop (mkF m 71 #[.val (.int p1), .val (.int (p1 &&& (7 : Int32))), .val (.ref w4), .val (.int (0 : Int32)), .val (.int (0 : Int32)), .val .null] [])) _
      refine XS.iloadN X109.here hx rfl (hb hby at_71) rfl ?_
      show Steps p.tables e below (T109.setTop (mkF m 72 #[.val (.int p1), .val (.int (p1 &&& (7 : Int32))), .val (.ref w4), .val (.int (0 : Int32)), .val (.int (0 : Int32)), .val .null] [(.int (p1 &&& (7 : Int32)))])) _
      refine XS.iconst X109.here hx rfl (hb hby at_72) ?_
      show Steps p.tables e below (T109.setTop (mkF m 73 #[.val (.int p1), .val (.int (p1 &&& (7 : Int32))), .val (.ref w4), .val (.int (0 : Int32)), .val (.int (0 : Int32)), .val .null] [(.int (1 : Int32)), (.int (p1 &&& (7 : Int32)))])) _
      refine XS.icmpYes X109.here hx rfl (pc0 := 73) (pc' := 86) rfl (hb hby at_73) rfl (feq hc37).2 (by decide) (by decide) ?_
      show Steps p.tables e below (T109.setTop (mkF m 86 #[.val (.int p1), .val (.int (p1 &&& (7 : Int32))), .val (.ref w4), .val (.int (0 : Int32)), .val (.int (0 : Int32)), .val .null] [])) _
      refine XS.iconst X109.here hx rfl (hb hby at_86) ?_
      show Steps p.tables e below (T109.setTop (mkF m 87 #[.val (.int p1), .val (.int (p1 &&& (7 : Int32))), .val (.ref w4), .val (.int (0 : Int32)), .val (.int (0 : Int32)), .val .null] [(.int (1 : Int32))])) _
      exact retN X109 hx (t := .boolean) hret (by simp) (hb hby at_87) hr
    ·
      show Q0 n0 _ T109.heap _
      rw [e111]
      exact ⟨rfl, N109⟩
  ·
    have N1 := Fr.app N0 Nq52
    obtain ⟨cq112, kq112, q112a, q112b, q112c⟩ := isOf hZ e53 (E_w5.ext O0.2)
    obtain ⟨_, _, ⟨T113, L113, c113, n113⟩, -, X113, ⟨Lc113, hQ113, l113, y113, z113⟩, st113⟩ := X1.virtualBack hx (y := (⟨"com/example/swallow/swallow/engine/automation/Filter", "isGeographic", "()Z"⟩ : MethodName)) (z := (⟨"com/example/swallow/swallow/engine/automation/Filter", "isGeographic", "()Z"⟩ : MethodName)) hown (mvT hZ (hw _ (List.mem_of_getElem? (i := 7) rfl))) (mvT hZ (hw _ (List.mem_of_getElem? (i := 8) rfl))) (notFace_of_selects (args := #[]) (mvT hZ (hw _ (List.mem_of_getElem? (i := 10) rfl)))) (mvT hZ (hw _ (List.mem_of_getElem? (i := 10) rfl))) (mvT hZ (hw _ (List.mem_of_getElem? (i := 9) rfl))) (by decide) (backOf (W := 0) (rm16 l Z a0 hw w1 w2 w3 w4 w5 w6 w7 w8 w9 w10 G []  h0 n0 O0 ) hZ (hw _ (List.mem_of_getElem? (i := 11) rfl)) (hw _ (List.mem_of_getElem? (i := 5) rfl)) (by decide) (by decide)) q112a q112c (g := (mkF m 11 #[.val (.int p1), .val (.int (p1 &&& (7 : Int32))), .val (.ref w5), .unset, .unset, .unset] [(.ref w5)])) rfl (by rw [hml]; rfl) (Steps.refl _) (argsL := []) (rest := []) (lenOf pd1 rfl) rfl (by show 2 * 0 + _ ≤ _; exact Nat.le_of_eq rfl) (hb hby at_11) (fun _ _ => ⟨rfl, e53, (by decide : 0 + 0 ≤ _), (by decide : 0 + 0 ≤ _)⟩)
    dsimp only [Pt.U, Pt.locs, Pt.cells, Pt.slots] at X113 l113 y113 z113 st113 hQ113
    subst l113 y113 z113
    have X113 : Stand p l e room_1 s m #[(.int p1)] below meth c T113 _ 0 0 := X113
    obtain ⟨rfl, Nq114, e115⟩ := hQ113
    have N113 := Fr.app N1 Nq114
    obtain ⟨cq116, kq116, q116a, q116b, q116c⟩ := isOf hZ e115 (E_w5.ext O0.2)
    obtain ⟨_, _, ⟨T117, L117, c117, n117⟩, -, X117, ⟨Lc117, hQ117, l117, y117, z117⟩, st117⟩ := X113.virtualBack hx (y := (⟨"com/example/swallow/swallow/engine/automation/Filter", "getRole", "()Lcom/example/swallow/swallow/engine/automation/PlaceRole;"⟩ : MethodName)) (z := (⟨"com/example/swallow/swallow/engine/automation/Filter", "getRole", "()Lcom/example/swallow/swallow/engine/automation/PlaceRole;"⟩ : MethodName)) hown (mvT hZ (hw _ (List.mem_of_getElem? (i := 16) rfl))) (mvT hZ (hw _ (List.mem_of_getElem? (i := 17) rfl))) (notFace_of_selects (args := #[]) (mvT hZ (hw _ (List.mem_of_getElem? (i := 19) rfl)))) (mvT hZ (hw _ (List.mem_of_getElem? (i := 19) rfl))) (mvT hZ (hw _ (List.mem_of_getElem? (i := 18) rfl))) (by decide) (backOf (W := 0) (rm17 l Z a0 hw w1 w2 w3 w4 w5 w6 w7 w8 w9 w10 G []  h0 n0 O0 ) hZ (hw _ (List.mem_of_getElem? (i := 20) rfl)) (hw _ (List.mem_of_getElem? (i := 5) rfl)) (by decide) (by decide)) q116a q116c (g := (mkF m 28 #[.val (.int p1), .val (.int (p1 &&& (7 : Int32))), .val (.ref w5), .val (.int (0 : Int32)), .val (.int (0 : Int32)), .unset] [(.ref w5)])) rfl (by rw [hml]; rfl) (Steps.refl _) (argsL := []) (rest := []) (lenOf pd2 rfl) rfl (by show 2 * 0 + _ ≤ _; exact Nat.le_of_eq rfl) (hb hby at_28) (fun _ _ => ⟨rfl, e115, (by decide : 0 + 0 ≤ _), (by decide : 0 + 0 ≤ _)⟩)
    dsimp only [Pt.U, Pt.locs, Pt.cells, Pt.slots] at X117 l117 y117 z117 st117 hQ117
    subst l117 y117 z117
    have X117 : Stand p l e room_1 s m #[(.int p1)] below meth c T117 _ 0 0 := X117
    obtain ⟨rfl, Nq118, e119⟩ := hQ117
    have N117 := Fr.app N113 Nq118
    obtain ⟨fs, hr, hrun, hended, hW, hsame⟩ := X117.leave (v := some (.int (1 : Int32))) (fun h => by rw [hret] at h; cases h)
    refine ⟨_, _, pre2 _ ?_, hrun, hended, _, _, rfl, ?_, ⟨_, rfl⟩, hW, hsame.mono (by decide) (by decide)⟩
    ·
      show Steps p.tables e below (s₁.setTop (mkF m 6 #[.val (.int p1), .val (.int (p1 &&& (7 : Int32))), .unset, .unset, .unset, .unset] [(.int (p1 &&& (7 : Int32)))])) _
      refine st1 _ ?_
      show Steps p.tables e below (T1.setTop (mkF m 9 #[.val (.int p1), .val (.int (p1 &&& (7 : Int32))), .unset, .unset, .unset, .unset] [(.ref w5)])) _
      refine XS.astoreN X1.here hx rfl (hb hby at_9) rfl rfl (l' := #[.val (.int p1), .val (.int (p1 &&& (7 : Int32))), .val (.ref w5), .unset, .unset, .unset]) rfl ?_
      show Steps p.tables e below (T1.setTop (mkF m 10 #[.val (.int p1), .val (.int (p1 &&& (7 : Int32))), .val (.ref w5), .unset, .unset, .unset] [])) _
      refine XS.aloadN X1.here hx rfl (hb hby at_10) rfl rfl ?_
      show Steps p.tables e below (T1.setTop (mkF m 11 #[.val (.int p1), .val (.int (p1 &&& (7 : Int32))), .val (.ref w5), .unset, .unset, .unset] [(.ref w5)])) _
      refine st113.trans ?_
      show Steps p.tables e below (T113.setTop (mkF m 14 #[.val (.int p1), .val (.int (p1 &&& (7 : Int32))), .val (.ref w5), .unset, .unset, .unset] [(.int (0 : Int32))])) _
      refine XS.istoreN X113.here hx rfl (hb hby at_14) rfl (l' := #[.val (.int p1), .val (.int (p1 &&& (7 : Int32))), .val (.ref w5), .val (.int (0 : Int32)), .unset, .unset]) rfl ?_
      show Steps p.tables e below (T113.setTop (mkF m 15 #[.val (.int p1), .val (.int (p1 &&& (7 : Int32))), .val (.ref w5), .val (.int (0 : Int32)), .unset, .unset] [])) _
      refine XS.iloadN X113.here hx rfl (hb hby at_15) rfl ?_
      show Steps p.tables e below (T113.setTop (mkF m 16 #[.val (.int p1), .val (.int (p1 &&& (7 : Int32))), .val (.ref w5), .val (.int (0 : Int32)), .unset, .unset] [(.int (p1 &&& (7 : Int32)))])) _
      refine XS.iconst X113.here hx rfl (hb hby at_16) ?_
      show Steps p.tables e below (T113.setTop (mkF m 17 #[.val (.int p1), .val (.int (p1 &&& (7 : Int32))), .val (.ref w5), .val (.int (0 : Int32)), .unset, .unset] [(.int (2 : Int32)), (.int (p1 &&& (7 : Int32)))])) _
      refine XS.icmpYes X113.here hx rfl (pc0 := 17) (pc' := 24) rfl (hb hby at_17) rfl (flt (own_gnlt1 (n := 2) (k := (2 : Int32)) (by decide) (by have q0 := own_and (x := p1) (k := (7 : Int32)) (n := 7) (by decide) (by decide); have q1 := own_neq (n := 0) (k := (0 : Int32)) (by decide) hc45; have q2 := own_neq (n := 1) (k := (1 : Int32)) (by decide) hc46; have q3 := own_neq (n := 2) (k := (2 : Int32)) (by decide) hc47; have q4 := own_neq (n := 3) (k := (3 : Int32)) (by decide) hc48; have q5 := own_neq (n := 4) (k := (4 : Int32)) (by decide) hc49; have q6 := own_neq (n := 5) (k := (5 : Int32)) (by decide) hc50; have q7 := own_neq (n := 6) (k := (6 : Int32)) (by decide) hc51; omega))).2.1 (by decide) (by decide) ?_
      show Steps p.tables e below (T113.setTop (mkF m 24 #[.val (.int p1), .val (.int (p1 &&& (7 : Int32))), .val (.ref w5), .val (.int (0 : Int32)), .unset, .unset] [])) _
      refine XS.iconst X113.here hx rfl (hb hby at_24) ?_
      show Steps p.tables e below (T113.setTop (mkF m 25 #[.val (.int p1), .val (.int (p1 &&& (7 : Int32))), .val (.ref w5), .val (.int (0 : Int32)), .unset, .unset] [(.int (0 : Int32))])) _
      refine XS.istore X113.here hx rfl (hb hby at_25) rfl (l' := #[.val (.int p1), .val (.int (p1 &&& (7 : Int32))), .val (.ref w5), .val (.int (0 : Int32)), .val (.int (0 : Int32)), .unset]) rfl ?_
      show Steps p.tables e below (T113.setTop (mkF m 27 #[.val (.int p1), .val (.int (p1 &&& (7 : Int32))), .val (.ref w5), .val (.int (0 : Int32)), .val (.int (0 : Int32)), .unset] [])) _
      refine XS.aloadN X113.here hx rfl (hb hby at_27) rfl rfl ?_
      show Steps p.tables e below (T113.setTop (mkF m 28 #[.val (.int p1), .val (.int (p1 &&& (7 : Int32))), .val (.ref w5), .val (.int (0 : Int32)), .val (.int (0 : Int32)), .unset] [(.ref w5)])) _
      refine st117.trans ?_
      show Steps p.tables e below (T117.setTop (mkF m 31 #[.val (.int p1), .val (.int (p1 &&& (7 : Int32))), .val (.ref w5), .val (.int (0 : Int32)), .val (.int (0 : Int32)), .unset] [.null])) _
      refine XS.astore X117.here hx rfl (hb hby at_31) rfl rfl (l' := #[.val (.int p1), .val (.int (p1 &&& (7 : Int32))), .val (.ref w5), .val (.int (0 : Int32)), .val (.int (0 : Int32)), .val .null]) rfl ?_
      show Steps p.tables e below (T117.setTop (mkF m 33 #[.val (.int p1), .val (.int (p1 &&& (7 : Int32))), .val (.ref w5), .val (.int (0 : Int32)), .val (.int (0 : Int32)), .val .null] [])) _
      refine XS.iloadN X117.here hx rfl (hb hby at_33) rfl ?_
      show Steps p.tables e below (T117.setTop (mkF m 34 #[.val (.int p1), .val (.int (p1 &&& (7 : Int32))), .val (.ref w5), .val (.int (0 : Int32)), .val (.int (0 : Int32)), .val .null] [(.int (0 : Int32))])) _
      refine XS.iload X117.here hx rfl (hb hby at_34) rfl ?_
      show Steps p.tables e below (T117.setTop (mkF m 36 #[.val (.int p1), .val (.int (p1 &&& (7 : Int32))), .val (.ref w5), .val (.int (0 : Int32)), .val (.int (0 : Int32)), .val .null] [(.int (0 : Int32)), (.int (0 : Int32))])) _
      refine XS.icmpYes X117.here hx rfl (pc0 := 36) (pc' := 41) rfl (hb hby at_36) rfl (teq (by decide : (0 : Int32) = (0 : Int32))).1 (by decide) (by decide) ?_
      show Steps p.tables e below (T117.setTop (mkF m 41 #[.val (.int p1), .val (.int (p1 &&& (7 : Int32))), .val (.ref w5), .val (.int (0 : Int32)), .val (.int (0 : Int32)), .val .null] [])) _
      refine XS.iloadN X117.here hx rfl (hb hby at_41) rfl ?_
      show Steps p.tables e below (T117.setTop (mkF m 42 #[.val (.int p1), .val (.int (p1 &&& (7 : Int32))), .val (.ref w5), .val (.int (0 : Int32)), .val (.int (0 : Int32)), .val .null] [(.int (0 : Int32))])) _
      refine XS.aload X117.here hx rfl (hb hby at_42) rfl rfl ?_
      show Steps p.tables e below (T117.setTop (mkF m 44 #[.val (.int p1), .val (.int (p1 &&& (7 : Int32))), .val (.ref w5), .val (.int (0 : Int32)), .val (.int (0 : Int32)), .val .null] [.null, (.int (0 : Int32))])) _
      refine XS.ifnullYes X117.here hx rfl (pc0 := 44) (pc' := 51) rfl (hb hby at_44) rfl (by decide) (by decide) ?_
      show Steps p.tables e below (T117.setTop (mkF m 51 #[.val (.int p1), .val (.int (p1 &&& (7 : Int32))), .val (.ref w5), .val (.int (0 : Int32)), .val (.int (0 : Int32)), .val .null] [(.int (0 : Int32))])) _
      refine XS.iconst X117.here hx rfl (hb hby at_51) ?_
      show Steps p.tables e below (T117.setTop (mkF m 52 #[.val (.int p1), .val (.int (p1 &&& (7 : Int32))), .val (.ref w5), .val (.int (0 : Int32)), .val (.int (0 : Int32)), .val .null] [(.int (0 : Int32)), (.int (0 : Int32))])) _
      refine XS.icmpYes X117.here hx rfl (pc0 := 52) (pc' := 57) rfl (hb hby at_52) rfl (teq (by decide : (0 : Int32) = (0 : Int32))).1 (by decide) (by decide) ?_
      show Steps p.tables e below (T117.setTop (mkF m 57 #[.val (.int p1), .val (.int (p1 &&& (7 : Int32))), .val (.ref w5), .val (.int (0 : Int32)), .val (.int (0 : Int32)), .val .null] [])) _
      refine XS.iloadN X117.here hx rfl (hb hby at_57) rfl ?_
      show Steps p.tables e below (T117.setTop (mkF m 58 #[.val (.int p1), .val (.int (p1 &&& (7 : Int32))), .val (.ref w5), .val (.int (0 : Int32)), .val (.int (0 : Int32)), .val .null] [(.int (p1 &&& (7 : Int32)))])) _
      refine XS.ifYes X117.here hx rfl (pc0 := 58) (pc' := 71) rfl (hb hby at_58) rfl ((if0 _ _).trans (feq hc45).2) (by decide) (by decide) ?_
      show Steps p.tables e below (T117.setTop (mkF m 71 #[.val (.int p1), .val (.int (p1 &&& (7 : Int32))), .val (.ref w5), .val (.int (0 : Int32)), .val (.int (0 : Int32)), .val .null] [])) _
      refine XS.iloadN X117.here hx rfl (hb hby at_71) rfl ?_
      show Steps p.tables e below (T117.setTop (mkF m 72 #[.val (.int p1), .val (.int (p1 &&& (7 : Int32))), .val (.ref w5), .val (.int (0 : Int32)), .val (.int (0 : Int32)), .val .null] [(.int (p1 &&& (7 : Int32)))])) _
      refine XS.iconst X117.here hx rfl (hb hby at_72) ?_
      show Steps p.tables e below (T117.setTop (mkF m 73 #[.val (.int p1), .val (.int (p1 &&& (7 : Int32))), .val (.ref w5), .val (.int (0 : Int32)), .val (.int (0 : Int32)), .val .null] [(.int (1 : Int32)), (.int (p1 &&& (7 : Int32)))])) _
      refine XS.icmpYes X117.here hx rfl (pc0 := 73) (pc' := 86) rfl (hb hby at_73) rfl (feq hc46).2 (by decide) (by decide) ?_
      show Steps p.tables e below (T117.setTop (mkF m 86 #[.val (.int p1), .val (.int (p1 &&& (7 : Int32))), .val (.ref w5), .val (.int (0 : Int32)), .val (.int (0 : Int32)), .val .null] [])) _
      refine XS.iconst X117.here hx rfl (hb hby at_86) ?_
      show Steps p.tables e below (T117.setTop (mkF m 87 #[.val (.int p1), .val (.int (p1 &&& (7 : Int32))), .val (.ref w5), .val (.int (0 : Int32)), .val (.int (0 : Int32)), .val .null] [(.int (1 : Int32))])) _
      exact retN X117 hx (t := .boolean) hret (by simp) (hb hby at_87) hr
    ·
      show Q0 n0 _ T117.heap _
      rw [e119]
      exact ⟨rfl, N117⟩
set_option maxRecDepth 65536 in
set_option maxHeartbeats 40000000 in
theorem comes_1 {Post : Tables → Env → Array Value → State → Outcome → State → Prop} (hpost : ∀ tb e args s v u, (limb_1_1.after args s (.returned v) u = true ∧ limb_1_2.after args s (.returned v) u = true ∧ True) → FrameEnd s (.returned v) u (Jvm.fieldLocs frame_1_writes args s ++ Jvm.arrayLocs frame_1_arrays args s ++ Jvm.staticLocs frame_1_statics s) 0 0 → Post tb e args s (.returned v) u) :
    ArmFor flags0 classFile x code maxLocals ret World_1 tables_1 room_1 Calls_1 rest_1 Pre_1 Post := by
  intro l hfl _ _ p e ha hc hk s m args below hf hA hF happ hP
  obtain ⟨hcalls, hrest, hpre⟩ := hP
  obtain ⟨-, -, -, hnamed, -, -, -, hat⟩ := (Spec.applies_iff hf).mp happ
  obtain ⟨hg, hn⟩ := and_e (Cond.before_iff.mp (show (Jvm.Cond.and given_1 narrow_1).before args s = true from hpre))
  obtain ⟨hcount, hk0⟩ := and_e hg
  have hi0 := hk0
  obtain ⟨w_a0, rfl⟩ : ∃ w_a0 : Value, args = #[w_a0] := by
    have hs : args.size = 1 := by simpa [Cond.value, given_1] using hcount
    obtain ⟨L⟩ := args
    match L, hs with
    | [w_a0], _ => exact ⟨w_a0, rfl⟩
  have hw := fun d (hd : d ∈ tables_1) => atoms_spec (ws := Jvm.Cond.code x code maxLocals ret :: tables_1) hat d (List.mem_cons_of_mem _ hd)
  have hfit : Fit s := fun {y c} hc i hi => by
    obtain ⟨ha, rfl⟩ := Array.getElem?_eq_some_iff.mp hc
    have q := List.all_eq_true.mp ((Array.all_eq_true_iff_forall_mem.mp hF) _ (Array.getElem_mem ha)) i (List.mem_range.mpr hi)
    simpa [Array.getElem?_eq_getElem hi] using q
  obtain ⟨i0, ei0⟩ := is_v hi0
  obtain rfl : w_a0 = (.int i0) := Option.some.inj ei0
  obtain ⟨gl0, gr0⟩ := and_e hn
  obtain ⟨gl1, gr1⟩ := and_e gr0
  obtain ⟨gl2, gr2⟩ := and_e gr1
  obtain ⟨gl3, gr3⟩ := and_e gr2
  obtain ⟨gl4, gr4⟩ := and_e gr3
  obtain ⟨gl5, gr5⟩ := and_e gr4
  obtain ⟨gl6, gr6⟩ := and_e gr5
  obtain ⟨gl7, gr7⟩ := and_e gr6
  obtain ⟨gl8, gr8⟩ := and_e gr7
  obtain ⟨gl9, gr9⟩ := and_e gr8
  obtain ⟨gl10, gr10⟩ := and_e gr9
  obtain ⟨gl11, gr11⟩ := and_e gr10
  obtain ⟨gl12, gr12⟩ := and_e gr11
  obtain ⟨gl13, gr13⟩ := and_e gr12
  obtain ⟨gl14, gr14⟩ := and_e gr13
  obtain ⟨gl15, gr15⟩ := and_e gr14
  obtain ⟨gl16, gr16⟩ := and_e gr15
  obtain ⟨w1, ev_w1⟩ := exa_v gl0
  have S_w1 : Sta s s.heap "com/example/swallow/swallow/engine/automation/Filter" "GEOGRAPHIC_ORIGIN" "Lcom/example/swallow/swallow/engine/automation/Filter;" (.ref w1) := Sta.start ev_w1 (Or.inr ⟨(hw _ (List.mem_of_getElem? (i := 5) rfl)), (hw _ (List.mem_of_getElem? (i := 6) rfl))⟩)
  have E_w1 : Exa s s.heap w1 "com/example/swallow/swallow/engine/automation/Filter" := Exa.start ev_w1 gl0
  obtain ⟨w2, ev_w2⟩ := exa_v gl1
  have S_w2 : Sta s s.heap "com/example/swallow/swallow/engine/automation/PlaceRole" "ORIGIN" "Lcom/example/swallow/swallow/engine/automation/PlaceRole;" (.ref w2) := Sta.start ev_w2 (Or.inr ⟨(hw _ (List.mem_of_getElem? (i := 14) rfl)), (hw _ (List.mem_of_getElem? (i := 15) rfl))⟩)
  have E_w2 : Exa s s.heap w2 "com/example/swallow/swallow/engine/automation/PlaceRole" := Exa.start ev_w2 gl1
  obtain ⟨w3, ev_w3⟩ := exa_v gl3
  have S_w3 : Sta s s.heap "com/example/swallow/swallow/engine/automation/Filter" "ORIGINS" "Lcom/example/swallow/swallow/engine/automation/Filter;" (.ref w3) := Sta.start ev_w3 (Or.inr ⟨(hw _ (List.mem_of_getElem? (i := 5) rfl)), (hw _ (List.mem_of_getElem? (i := 23) rfl))⟩)
  have E_w3 : Exa s s.heap w3 "com/example/swallow/swallow/engine/automation/Filter" := Exa.start ev_w3 gl3
  obtain ⟨w4, ev_w4⟩ := exa_v gl5
  have S_w4 : Sta s s.heap "com/example/swallow/swallow/engine/automation/Filter" "VEHICLES" "Lcom/example/swallow/swallow/engine/automation/Filter;" (.ref w4) := Sta.start ev_w4 (Or.inr ⟨(hw _ (List.mem_of_getElem? (i := 5) rfl)), (hw _ (List.mem_of_getElem? (i := 25) rfl))⟩)
  have E_w4 : Exa s s.heap w4 "com/example/swallow/swallow/engine/automation/Filter" := Exa.start ev_w4 gl5
  obtain ⟨w5, ev_w5⟩ := exa_v gl7
  have S_w5 : Sta s s.heap "com/example/swallow/swallow/engine/automation/Filter" "PERSONAL" "Lcom/example/swallow/swallow/engine/automation/Filter;" (.ref w5) := Sta.start ev_w5 (Or.inr ⟨(hw _ (List.mem_of_getElem? (i := 5) rfl)), (hw _ (List.mem_of_getElem? (i := 27) rfl))⟩)
  have E_w5 : Exa s s.heap w5 "com/example/swallow/swallow/engine/automation/Filter" := Exa.start ev_w5 gl7
  obtain ⟨w6, ev_w6⟩ := exa_v gl9
  have S_w6 : Sta s s.heap "com/example/swallow/swallow/engine/automation/Filter" "PROVIDERS" "Lcom/example/swallow/swallow/engine/automation/Filter;" (.ref w6) := Sta.start ev_w6 (Or.inr ⟨(hw _ (List.mem_of_getElem? (i := 5) rfl)), (hw _ (List.mem_of_getElem? (i := 29) rfl))⟩)
  have E_w6 : Exa s s.heap w6 "com/example/swallow/swallow/engine/automation/Filter" := Exa.start ev_w6 gl9
  obtain ⟨w7, ev_w7⟩ := exa_v gl11
  have S_w7 : Sta s s.heap "com/example/swallow/swallow/engine/automation/Filter" "GEOGRAPHIC_DESTINATION" "Lcom/example/swallow/swallow/engine/automation/Filter;" (.ref w7) := Sta.start ev_w7 (Or.inr ⟨(hw _ (List.mem_of_getElem? (i := 5) rfl)), (hw _ (List.mem_of_getElem? (i := 31) rfl))⟩)
  have E_w7 : Exa s s.heap w7 "com/example/swallow/swallow/engine/automation/Filter" := Exa.start ev_w7 gl11
  obtain ⟨w8, ev_w8⟩ := exa_v gl12
  have S_w8 : Sta s s.heap "com/example/swallow/swallow/engine/automation/PlaceRole" "DESTINATION" "Lcom/example/swallow/swallow/engine/automation/PlaceRole;" (.ref w8) := Sta.start ev_w8 (Or.inr ⟨(hw _ (List.mem_of_getElem? (i := 14) rfl)), (hw _ (List.mem_of_getElem? (i := 32) rfl))⟩)
  have E_w8 : Exa s s.heap w8 "com/example/swallow/swallow/engine/automation/PlaceRole" := Exa.start ev_w8 gl12
  obtain ⟨w9, ev_w9⟩ := exa_v gl14
  have S_w9 : Sta s s.heap "com/example/swallow/swallow/engine/automation/Filter" "PRESTATIONS" "Lcom/example/swallow/swallow/engine/automation/Filter;" (.ref w9) := Sta.start ev_w9 (Or.inr ⟨(hw _ (List.mem_of_getElem? (i := 5) rfl)), (hw _ (List.mem_of_getElem? (i := 35) rfl))⟩)
  have E_w9 : Exa s s.heap w9 "com/example/swallow/swallow/engine/automation/Filter" := Exa.start ev_w9 gl14
  obtain ⟨w10, ev_w10⟩ := exa_v gl16
  have S_w10 : Sta s s.heap "com/example/swallow/swallow/engine/automation/Filter" "MOTIVES" "Lcom/example/swallow/swallow/engine/automation/Filter;" (.ref w10) := Sta.start ev_w10 (Or.inr ⟨(hw _ (List.mem_of_getElem? (i := 5) rfl)), (hw _ (List.mem_of_getElem? (i := 37) rfl))⟩)
  have E_w10 : Exa s s.heap w10 "com/example/swallow/swallow/engine/automation/Filter" := Exa.start ev_w10 gl16
  have F_w1_role : Fld s s.heap w1 "com/example/swallow/swallow/engine/automation/Filter" "role" "Lcom/example/swallow/swallow/engine/automation/PlaceRole;" (.ref w2) := Fld.start ((fld_at ev_w1).symm.trans (own_eqR ev_w2 gl2))
  have F_w3_role : Fld s s.heap w3 "com/example/swallow/swallow/engine/automation/Filter" "role" "Lcom/example/swallow/swallow/engine/automation/PlaceRole;" .null := Fld.start ((fld_at ev_w3).symm.trans (null_v gl4))
  have F_w4_role : Fld s s.heap w4 "com/example/swallow/swallow/engine/automation/Filter" "role" "Lcom/example/swallow/swallow/engine/automation/PlaceRole;" .null := Fld.start ((fld_at ev_w4).symm.trans (null_v gl6))
  have F_w5_role : Fld s s.heap w5 "com/example/swallow/swallow/engine/automation/Filter" "role" "Lcom/example/swallow/swallow/engine/automation/PlaceRole;" .null := Fld.start ((fld_at ev_w5).symm.trans (null_v gl8))
  have F_w6_role : Fld s s.heap w6 "com/example/swallow/swallow/engine/automation/Filter" "role" "Lcom/example/swallow/swallow/engine/automation/PlaceRole;" .null := Fld.start ((fld_at ev_w6).symm.trans (null_v gl10))
  have F_w7_role : Fld s s.heap w7 "com/example/swallow/swallow/engine/automation/Filter" "role" "Lcom/example/swallow/swallow/engine/automation/PlaceRole;" (.ref w8) := Fld.start ((fld_at ev_w7).symm.trans (own_eqR ev_w8 gl13))
  have F_w9_role : Fld s s.heap w9 "com/example/swallow/swallow/engine/automation/Filter" "role" "Lcom/example/swallow/swallow/engine/automation/PlaceRole;" .null := Fld.start ((fld_at ev_w9).symm.trans (null_v gl15))
  have F_w10_role : Fld s s.heap w10 "com/example/swallow/swallow/engine/automation/Filter" "role" "Lcom/example/swallow/swallow/engine/automation/PlaceRole;" .null := Fld.start ((fld_at ev_w10).symm.trans (null_v gr16))
  have G : GW s w1 w2 w3 w4 w5 w6 w7 w8 w9 w10 := ⟨S_w1, E_w1, S_w2, E_w2, S_w3, E_w3, S_w4, E_w4, S_w5, E_w5, S_w6, E_w6, S_w7, E_w7, S_w8, E_w8, S_w9, E_w9, S_w10, E_w10, F_w1_role, F_w3_role, F_w4_role, F_w5_role, F_w6_role, F_w7_role, F_w9_role, F_w10_role⟩
  obtain ⟨n, o, h1, h2, h3, _, L, rfl, ⟨rfl, N⟩, hq⟩ := rm0 l s _ hw w1 w2 w3 w4 w5 w6 w7 w8 w9 w10 G tables_1 i0 s.heap s.heap.size (Old.start s) p e ha hc hk s m _ below hf ((Spec.applies_iff_loose hf).mp happ).1 ⟨rfl, State.Warmed39.refl s, rfl⟩ trivial
  refine ⟨n, _, h1, h2, h3, hpost _ _ _ _ _ _ ⟨Cond.after_iff.mpr rfl, Cond.after_iff.mpr (eq_i res_at (Term.int_eval (1)) rfl), trivial⟩ ⟨hq.1, hq.2.1, (hq.2.2.sift fun y hy => Or.inr (N y hy)).mono (by decide) (by decide)⟩⟩
theorem main_1_1 : Claimed_1_1 := comes_1 fun _ _ _ _ _ _ h hF => ⟨h.1, hF⟩
theorem main_1_2 : Claimed_1_2 := comes_1 fun _ _ _ _ _ _ h hF => ⟨h.2.1, hF⟩
end Jvm.Pilot.@@N@@
namespace Jvm.Pilot.@@N@@
open Jvm Jvm.ClassFile Sem Op Lib Jvm.Free Jvm.Stand Jvm.Pilot.@@N@@.Jvm.D
/-! MADE BY PROGRAM (witnessworld.py) out of the Statement's table words and the real class files: 13 classes; the members and pool entries that the words name. The judged class is class 1, her method 2. -/
namespace start1
open Jvm.ClassFile
def u (s : String) : CpInfo := .utf8 (stringToUtf16 s)
/-- a pool by its gaps: so many unusable entries, then the entry; so many at the end -/
def gap : Nat → List CpInfo → List CpInfo
  | 0, r => r
  | n + 1, r => .unusable :: gap n r
def poolList (es : List (Nat × CpInfo)) (last : Nat) : List CpInfo := es.foldr (fun e r => gap e.1 (e.2 :: r)) (gap last [])
def pool (es : List (Nat × CpInfo)) (last : Nat) : Array CpInfo := ⟨poolList es last⟩
def fileOf (pool : Array CpInfo) (this : Nat) (attrs : Array Attribute := #[]) (ms : Array MethodInfo := #[]) (fl : Nat := 33) (sup : Nat := 0) (ifs : Array Nat := #[]) (fds : Array FieldInfo := #[]) : ClassFile where
  minorVersion := 0
  majorVersion := 65
  constantPool := pool
  accessFlags := fl
  thisClass := this
  superClass := sup
  interfaces := ifs
  fields := fds
  methods := ms
  attributes := attrs
def plain (name : String) (sup : Option ClassId) : Class where
  name := name
  kind := .ordinary
  loader := none
  accessFlags := 33
  super := sup
  interfaces := #[]
  cf := none
  fields := #[]
  methods := #[]
  instanceTypes := #[]
  staticTypes := #[]
  resolved := #[]
  callSites := []
  init := .initialized
  statics := none
  mirror := none

def pool0 : Array CpInfo := pool [(5, u "<init>"), (0, u "()V"), (1, .class_ 10), (1, u "java/lang/Object")] 113

def k0m0 : Method := { name := "<init>", desc := "()V", sig := { parameters := [], returnType := none }, accessFlags := 1, code := none }
/-- java/lang/Object -/
def k0 : Class := { plain "java/lang/Object" none with
  accessFlags := 33
  interfaces := #[]
  cf := some (fileOf pool0 8 #[] #[{ accessFlags := 1, nameIndex := 5, descriptorIndex := 6, attributes := #[] }] 33 0 #[] #[])
  fields := #[]
  methods := #[k0m0]
  instanceTypes := #[]
  staticTypes := #[]
  resolved := Array.replicate 124 none
  statics := none }

def pool1 : Array CpInfo := pool [(2, .class_ 4), (1, u "java/lang/Object"), (0, u "<init>"), (0, u "()V"), (0, .fieldref 8 9), (0, .class_ 10), (0, .nameAndType 11 12), (0, u "com/example/swallow/swallow/engine/automation/Filter"), (0, u "GEOGRAPHIC_ORIGIN"), (0, u "Lcom/example/swallow/swallow/engine/automation/Filter;"), (0, .fieldref 8 14), (0, .nameAndType 15 12), (0, u "GEOGRAPHIC_DESTINATION"), (0, .fieldref 8 17), (0, .nameAndType 18 12), (0, u "PROVIDERS"), (0, .fieldref 8 20), (0, .nameAndType 21 12), (0, u "ORIGINS"), (0, .fieldref 8 23), (0, .nameAndType 24 12), (0, u "PRESTATIONS"), (0, .fieldref 8 26), (0, .nameAndType 27 12), (0, u "MOTIVES"), (0, .fieldref 8 29), (0, .nameAndType 30 12), (0, u "VEHICLES"), (0, .fieldref 8 32), (0, .nameAndType 33 12), (0, u "PERSONAL"), (0, .methodref 35 36), (0, .class_ 37), (0, .nameAndType 38 39), (0, u "com/example/swallow/swallow/engine/automation/FilterIsGeographicPinLaw"), (0, u "pick"), (0, u "(I)Lcom/example/swallow/swallow/engine/automation/Filter;"), (0, .methodref 8 41), (0, .nameAndType 42 43), (0, u "isGeographic"), (0, u "()Z"), (0, .methodref 8 45), (0, .nameAndType 46 47), (0, u "getRole"), (0, u "()Lcom/example/swallow/swallow/engine/automation/PlaceRole;"), (0, .fieldref 49 50), (0, .class_ 51), (0, .nameAndType 52 53), (0, u "com/example/swallow/swallow/engine/automation/PlaceRole"), (0, u "ORIGIN"), (0, u "Lcom/example/swallow/swallow/engine/automation/PlaceRole;"), (0, .fieldref 49 55), (0, .nameAndType 56 53), (0, u "DESTINATION"), (3, u "law"), (0, u "(I)Z")] 2

def k1m0 : Method := { name := "<init>", desc := "()V", sig := { parameters := [], returnType := none }, accessFlags := 1, code := none }
def k1c1 : Code := { maxStack := 2, maxLocals := 1, code := method_2_code, exceptionTable := #[], attributes := #[] }
def k1m1 : Method := { name := "pick", desc := "(I)Lcom/example/swallow/swallow/engine/automation/Filter;", sig := { parameters := [.int], returnType := some (.object "com/example/swallow/swallow/engine/automation/Filter") }, accessFlags := 10, code := some k1c1 }
def k1c2 : Code := { maxStack := 2, maxLocals := 6, code := code, exceptionTable := #[], attributes := #[] }
def k1m2 : Method := { name := "law", desc := "(I)Z", sig := { parameters := [.int], returnType := some .boolean }, accessFlags := 9, code := some k1c2 }
/-- com/example/swallow/swallow/engine/automation/FilterIsGeographicPinLaw -/
def k1 : Class := { plain "com/example/swallow/swallow/engine/automation/FilterIsGeographicPinLaw" (some 0) with
  accessFlags := 49
  interfaces := #[]
  cf := some (fileOf pool1 35 #[] #[{ accessFlags := 1, nameIndex := 5, descriptorIndex := 6, attributes := #[] }, { accessFlags := 10, nameIndex := 38, descriptorIndex := 39, attributes := #[] }, { accessFlags := 9, nameIndex := 60, descriptorIndex := 61, attributes := #[] }] 49 2 #[] #[])
  fields := #[]
  methods := #[k1m0, k1m1, k1m2]
  instanceTypes := #[]
  staticTypes := #[]
  resolved := Array.replicate 64 none
  statics := none }

def pool2 : Array CpInfo := pool [(1, .class_ 2), (0, u "java/lang/constant/Constable"), (0, .class_ 4), (0, u "java/lang/Object")] 6

/-- java/lang/constant/Constable -/
def k2 : Class := { plain "java/lang/constant/Constable" (some 0) with
  accessFlags := 1537
  interfaces := #[]
  cf := some (fileOf pool2 1 #[] #[] 1537 3 #[] #[])
  fields := #[]
  methods := #[]
  instanceTypes := #[]
  staticTypes := #[]
  resolved := Array.replicate 11 none
  statics := none }

def pool3 : Array CpInfo := pool [(1, .class_ 2), (0, u "java/lang/Comparable"), (0, .class_ 4), (0, u "java/lang/Object")] 7

/-- java/lang/Comparable -/
def k3 : Class := { plain "java/lang/Comparable" (some 0) with
  accessFlags := 1537
  interfaces := #[]
  cf := some (fileOf pool3 1 #[] #[] 1537 3 #[] #[])
  fields := #[]
  methods := #[]
  instanceTypes := #[]
  staticTypes := #[]
  resolved := Array.replicate 12 none
  statics := none }

def pool4 : Array CpInfo := pool [(1, .class_ 2), (0, u "java/io/Serializable"), (0, .class_ 4), (0, u "java/lang/Object")] 2

/-- java/io/Serializable -/
def k4 : Class := { plain "java/io/Serializable" (some 0) with
  accessFlags := 1537
  interfaces := #[]
  cf := some (fileOf pool4 1 #[] #[] 1537 3 #[] #[])
  fields := #[]
  methods := #[]
  instanceTypes := #[]
  staticTypes := #[]
  resolved := Array.replicate 7 none
  statics := none }

def pool5 : Array CpInfo := pool [(2, .class_ 4), (1, u "java/lang/Enum"), (0, u "name"), (0, u "Ljava/lang/String;"), (2, u "ordinal"), (0, u "I"), (1, .class_ 14), (1, u "java/lang/Object"), (4, u "hash"), (86, .class_ 108), (1, u "java/lang/Enum$EnumDesc"), (2, .class_ 112), (0, u "java/lang/constant/Constable"), (0, .class_ 114), (0, u "java/lang/Comparable"), (0, .class_ 116), (0, u "java/io/Serializable")] 87

/-- java/lang/Enum -/
def k5 : Class := { plain "java/lang/Enum" (some 0) with
  accessFlags := 1057
  interfaces := #[2, 3, 4]
  cf := some (fileOf pool5 2 #[.nestMembers #[106]] #[] 1057 12 #[111, 113, 115] #[{ accessFlags := 18, nameIndex := 5, descriptorIndex := 6, attributes := #[] }, { accessFlags := 18, nameIndex := 9, descriptorIndex := 10, attributes := #[] }, { accessFlags := 2, nameIndex := 19, descriptorIndex := 10, attributes := #[] }])
  fields := #[{ name := "name", type := (.object "java/lang/String"), accessFlags := 18, slot := 0, constantValue := 0 }, { name := "ordinal", type := .int, accessFlags := 18, slot := 1, constantValue := 0 }, { name := "hash", type := .int, accessFlags := 2, slot := 2, constantValue := 0 }]
  methods := #[]
  instanceTypes := #[(.object "java/lang/String"), .int, .int]
  staticTypes := #[]
  resolved := Array.replicate 204 none
  statics := none }

def pool6 : Array CpInfo := pool [(1, .class_ 2), (0, u "com/example/swallow/swallow/engine/automation/Filter"), (2, u "GEOGRAPHIC_ORIGIN"), (0, u "Lcom/example/swallow/swallow/engine/automation/Filter;"), (2, u "GEOGRAPHIC_DESTINATION"), (2, u "PROVIDERS"), (2, u "ORIGINS"), (2, u "PRESTATIONS"), (2, u "MOTIVES"), (2, u "VEHICLES"), (2, u "PERSONAL"), (2, u "$VALUES"), (0, u "[Lcom/example/swallow/swallow/engine/automation/Filter;"), (6, .class_ 40), (1, u "java/lang/Enum"), (19, u "key"), (0, u "Ljava/lang/String;"), (2, u "title"), (2, u "field"), (0, .fieldref 1 69), (0, .nameAndType 70 71), (0, u "role"), (0, u "Lcom/example/swallow/swallow/engine/automation/PlaceRole;"), (2, u "unconfigured"), (89, u "isGeographic"), (0, u "()Z"), (1, u "getRole"), (0, u "()Lcom/example/swallow/swallow/engine/automation/PlaceRole;")] 6

def k6c0 : Code := { maxStack := 1, maxLocals := 1, code := prog_1_method_9_code, exceptionTable := #[], attributes := #[] }
def k6m0 : Method := { name := "isGeographic", desc := "()Z", sig := { parameters := [], returnType := some .boolean }, accessFlags := 1, code := some k6c0 }
def k6c1 : Code := { maxStack := 1, maxLocals := 1, code := prog_1_method_10_code, exceptionTable := #[], attributes := #[] }
def k6m1 : Method := { name := "getRole", desc := "()Lcom/example/swallow/swallow/engine/automation/PlaceRole;", sig := { parameters := [], returnType := some (.object "com/example/swallow/swallow/engine/automation/PlaceRole") }, accessFlags := 1, code := some k6c1 }
/-- com/example/swallow/swallow/engine/automation/Filter -/
def k6 : Class := { plain "com/example/swallow/swallow/engine/automation/Filter" (some 5) with
  accessFlags := 16433
  interfaces := #[]
  cf := some (fileOf pool6 1 #[] #[{ accessFlags := 1, nameIndex := 164, descriptorIndex := 165, attributes := #[] }, { accessFlags := 1, nameIndex := 167, descriptorIndex := 168, attributes := #[] }] 16433 38 #[] #[{ accessFlags := 16409, nameIndex := 5, descriptorIndex := 6, attributes := #[] }, { accessFlags := 16409, nameIndex := 9, descriptorIndex := 6, attributes := #[] }, { accessFlags := 16409, nameIndex := 12, descriptorIndex := 6, attributes := #[] }, { accessFlags := 16409, nameIndex := 15, descriptorIndex := 6, attributes := #[] }, { accessFlags := 16409, nameIndex := 18, descriptorIndex := 6, attributes := #[] }, { accessFlags := 16409, nameIndex := 21, descriptorIndex := 6, attributes := #[] }, { accessFlags := 16409, nameIndex := 24, descriptorIndex := 6, attributes := #[] }, { accessFlags := 16409, nameIndex := 27, descriptorIndex := 6, attributes := #[] }, { accessFlags := 18, nameIndex := 60, descriptorIndex := 61, attributes := #[] }, { accessFlags := 18, nameIndex := 64, descriptorIndex := 61, attributes := #[] }, { accessFlags := 18, nameIndex := 67, descriptorIndex := 61, attributes := #[] }, { accessFlags := 18, nameIndex := 70, descriptorIndex := 71, attributes := #[] }, { accessFlags := 18, nameIndex := 74, descriptorIndex := 61, attributes := #[] }, { accessFlags := 4122, nameIndex := 30, descriptorIndex := 31, attributes := #[] }])
  fields := #[{ name := "GEOGRAPHIC_ORIGIN", type := (.object "com/example/swallow/swallow/engine/automation/Filter"), accessFlags := 16409, slot := 0, constantValue := 0 }, { name := "GEOGRAPHIC_DESTINATION", type := (.object "com/example/swallow/swallow/engine/automation/Filter"), accessFlags := 16409, slot := 1, constantValue := 0 }, { name := "PROVIDERS", type := (.object "com/example/swallow/swallow/engine/automation/Filter"), accessFlags := 16409, slot := 2, constantValue := 0 }, { name := "ORIGINS", type := (.object "com/example/swallow/swallow/engine/automation/Filter"), accessFlags := 16409, slot := 3, constantValue := 0 }, { name := "PRESTATIONS", type := (.object "com/example/swallow/swallow/engine/automation/Filter"), accessFlags := 16409, slot := 4, constantValue := 0 }, { name := "MOTIVES", type := (.object "com/example/swallow/swallow/engine/automation/Filter"), accessFlags := 16409, slot := 5, constantValue := 0 }, { name := "VEHICLES", type := (.object "com/example/swallow/swallow/engine/automation/Filter"), accessFlags := 16409, slot := 6, constantValue := 0 }, { name := "PERSONAL", type := (.object "com/example/swallow/swallow/engine/automation/Filter"), accessFlags := 16409, slot := 7, constantValue := 0 }, { name := "key", type := (.object "java/lang/String"), accessFlags := 18, slot := 3, constantValue := 0 }, { name := "title", type := (.object "java/lang/String"), accessFlags := 18, slot := 4, constantValue := 0 }, { name := "field", type := (.object "java/lang/String"), accessFlags := 18, slot := 5, constantValue := 0 }, { name := "role", type := (.object "com/example/swallow/swallow/engine/automation/PlaceRole"), accessFlags := 18, slot := 6, constantValue := 0 }, { name := "unconfigured", type := (.object "java/lang/String"), accessFlags := 18, slot := 7, constantValue := 0 }, { name := "$VALUES", type := (.array (.object "com/example/swallow/swallow/engine/automation/Filter")), accessFlags := 4122, slot := 8, constantValue := 0 }]
  methods := #[k6m0, k6m1]
  instanceTypes := #[(.object "java/lang/String"), .int, .int, (.object "java/lang/String"), (.object "java/lang/String"), (.object "java/lang/String"), (.object "com/example/swallow/swallow/engine/automation/PlaceRole"), (.object "java/lang/String")]
  staticTypes := #[(.object "com/example/swallow/swallow/engine/automation/Filter"), (.object "com/example/swallow/swallow/engine/automation/Filter"), (.object "com/example/swallow/swallow/engine/automation/Filter"), (.object "com/example/swallow/swallow/engine/automation/Filter"), (.object "com/example/swallow/swallow/engine/automation/Filter"), (.object "com/example/swallow/swallow/engine/automation/Filter"), (.object "com/example/swallow/swallow/engine/automation/Filter"), (.object "com/example/swallow/swallow/engine/automation/Filter"), (.array (.object "com/example/swallow/swallow/engine/automation/Filter"))]
  resolved := Array.replicate 175 none
  statics := some 0 }

def pool7 : Array CpInfo := pool [(1, .class_ 2), (0, u "com/example/swallow/swallow/engine/automation/PlaceRole"), (2, u "ORIGIN"), (0, u "Lcom/example/swallow/swallow/engine/automation/PlaceRole;"), (2, u "DESTINATION"), (2, u "$VALUES"), (0, u "[Lcom/example/swallow/swallow/engine/automation/PlaceRole;"), (6, .class_ 22), (1, u "java/lang/Enum"), (8, u "field"), (0, u "Ljava/lang/String;")] 27

/-- com/example/swallow/swallow/engine/automation/PlaceRole -/
def k7 : Class := { plain "com/example/swallow/swallow/engine/automation/PlaceRole" (some 5) with
  accessFlags := 16433
  interfaces := #[]
  cf := some (fileOf pool7 1 #[] #[] 16433 20 #[] #[{ accessFlags := 16409, nameIndex := 5, descriptorIndex := 6, attributes := #[] }, { accessFlags := 16409, nameIndex := 9, descriptorIndex := 6, attributes := #[] }, { accessFlags := 18, nameIndex := 31, descriptorIndex := 32, attributes := #[] }, { accessFlags := 4122, nameIndex := 12, descriptorIndex := 13, attributes := #[] }])
  fields := #[{ name := "ORIGIN", type := (.object "com/example/swallow/swallow/engine/automation/PlaceRole"), accessFlags := 16409, slot := 0, constantValue := 0 }, { name := "DESTINATION", type := (.object "com/example/swallow/swallow/engine/automation/PlaceRole"), accessFlags := 16409, slot := 1, constantValue := 0 }, { name := "field", type := (.object "java/lang/String"), accessFlags := 18, slot := 3, constantValue := 0 }, { name := "$VALUES", type := (.array (.object "com/example/swallow/swallow/engine/automation/PlaceRole")), accessFlags := 4122, slot := 2, constantValue := 0 }]
  methods := #[]
  instanceTypes := #[(.object "java/lang/String"), .int, .int, (.object "java/lang/String")]
  staticTypes := #[(.object "com/example/swallow/swallow/engine/automation/PlaceRole"), (.object "com/example/swallow/swallow/engine/automation/PlaceRole"), (.array (.object "com/example/swallow/swallow/engine/automation/PlaceRole"))]
  resolved := Array.replicate 60 none
  statics := some 1 }

def pool8 : Array CpInfo := pool [(1, u "java/lang/Cloneable"), (0, .class_ 1), (0, u "java/lang/Object"), (0, .class_ 3)] 3

/-- java/lang/Cloneable -/
def k8 : Class := { plain "java/lang/Cloneable" (some 0) with
  accessFlags := 1537
  interfaces := #[]
  cf := some (fileOf pool8 2 #[] #[] 1537 4 #[] #[])
  fields := #[]
  methods := #[]
  instanceTypes := #[]
  staticTypes := #[]
  resolved := Array.replicate 8 none
  statics := none }

/-- the primitive byte -/
def k9 : Class := { plain "byte" none with kind := .primitive 'B', accessFlags := 0x411 }
/-- [B -/
def k10 : Class := { plain "[B" (some 0) with kind := .array 9 .byte, interfaces := #[8, 4], accessFlags := 1041 }

/-- the primitive int -/
def k11 : Class := { plain "int" none with kind := .primitive 'I', accessFlags := 0x411 }
/-- [I -/
def k12 : Class := { plain "[I" (some 0) with kind := .array 11 .int, interfaces := #[8, 4], accessFlags := 1041 }

def heap : Heap := #[{ cls := 6, slots := #[.ref 2, .ref 8, .ref 7, .ref 4, .ref 10, .ref 11, .ref 5, .ref 6, .null], vm := .statics 6 },
  { cls := 7, slots := #[.ref 3, .ref 9, .null], vm := .statics 7 },
  { cls := 6, slots := #[.null, .int 0, .int 0, .null, .null, .null, .ref 3, .null], vm := .none },
  { cls := 7, slots := #[.null, .int 0, .int 0, .null], vm := .none },
  { cls := 6, slots := #[.null, .int 0, .int 0, .null, .null, .null, .null, .null], vm := .none },
  { cls := 6, slots := #[.null, .int 0, .int 0, .null, .null, .null, .null, .null], vm := .none },
  { cls := 6, slots := #[.null, .int 0, .int 0, .null, .null, .null, .null, .null], vm := .none },
  { cls := 6, slots := #[.null, .int 0, .int 0, .null, .null, .null, .null, .null], vm := .none },
  { cls := 6, slots := #[.null, .int 0, .int 0, .null, .null, .null, .ref 9, .null], vm := .none },
  { cls := 7, slots := #[.null, .int 0, .int 0, .null], vm := .none },
  { cls := 6, slots := #[.null, .int 0, .int 0, .null, .null, .null, .null, .null], vm := .none },
  { cls := 6, slots := #[.null, .int 0, .int 0, .null, .null, .null, .null, .null], vm := .none }]
def classes : Array Class := #[k0, k1, k2, k3, k4, k5, k6, k7, k8, k9, k10, k11, k12]
def interned : List (Array UInt16 × Addr) := []
def slotsUsed : Nat := 84
def theMethod : MethodId := ⟨1, 2⟩
def args0 : Array Value := #[.int 5]
def aboutOver (below : List Frame) : State where
  vm := { classes := classes, interned := interned.toArray }
  heap := heap
  slotsUsed := slotsUsed
  threads := #[{ frames := .invoking theMethod args0 :: below }]
def below0 : List Frame := [.native { method := ⟨0, 0⟩, args := #[] }]
def about1 : State := aboutOver below0
def p0 : Program := .bare "" "" ""
def e0 : Env := launch0.env 0 0 0
theorem w_frames : about1.frames = Frame.invoking theMethod args0 :: below0 := rfl
set_option maxRecDepth 65536 in
theorem w_args : argsFit about1.vm theMethod args0 = true := by decide +kernel
set_option maxRecDepth 65536 in
theorem w_heap : heapFits about1 = true := by decide +kernel
set_option maxRecDepth 65536 in
theorem w_runnable : about1.curStatus? = some .runnable := by decide +kernel
set_option maxRecDepth 65536 in
theorem w_alone : about1.alone = true := by decide +kernel
set_option maxRecDepth 65536 in
theorem w_named : about1.methodNamed? x = some theMethod := by decide +kernel
set_option maxRecDepth 65536 in
theorem w_hears : about1.hears theMethod below0 = true := by decide +kernel
set_option maxRecDepth 65536 in
theorem w_ripe : about1.ripe theMethod args0 below0 = true := by decide +kernel
theorem w_running : about1.status = .running := rfl
set_option maxRecDepth 65536 in
theorem w_room : about1.hasRoom e0.platform room_1 = true :=
  launch0.hasRoom_least _ room_1 (by decide +kernel) (by decide +kernel) (by decide +kernel) (by decide +kernel) (by decide +kernel) (by decide +kernel)
theorem allAtoms_all (ts : List Jvm.Cond) (a : Array Jvm.Value) (st : Jvm.State) : (allAtoms ts).before a st = ts.all (fun c => c.before a st) := by
  induction ts with
  | nil => rfl
  | cons c t ih =>
    show (Jvm.Cond.and c (allAtoms t)).before a st = _
    rw [Jvm.Cond.before_and, ih, List.all_cons]
def words1 : List Jvm.Cond := Jvm.Cond.code x code maxLocals ret :: tables_1
/-- a 'code' word, met by the world's own term for the bytes: nothing is compared byte by byte -/
theorem code_word {y : MethodName} {bytes : ByteArray} {mx : Nat} {rt : Option FieldType} {a : Array Value} {s : State} {m : MethodId} {meth : Method} {c : Code} (h1 : s.methodNamed? y = some m) (h2 : s.vm.method? m = some meth) (h3 : meth.code = some c) (h4 : c.code = bytes)
    (h5 : (c.maxLocals == mx && c.exceptionTable.isEmpty && decide (c.maxStack ≤ mostOperands) && decide (meth.sig.returnType = rt) && !meth.locks && decide (parseMethodDescriptor y.desc = some meth.sig)) = true) : (Jvm.Cond.code y bytes mx rt).before a s = true := by
  simp only [Bool.and_eq_true, beq_iff_eq, Bool.not_eq_true', decide_eq_true_eq] at h5
  obtain ⟨⟨⟨⟨⟨g1, g2⟩, g3⟩, g4⟩, g5⟩, g6⟩ := h5
  simp [Cond.before, Cond.holds, Cond.value, h1, h2, h3, h4, g1, g2, g3, g4, g5, g6]
def isCode : Jvm.Cond → Bool
  | .code _ _ _ _ => true
  | _ => false
theorem all_split {L : List Jvm.Cond} {P : Jvm.Cond → Bool} (h1 : L.all (fun c => isCode c || P c) = true) (h2 : ∀ c ∈ L.filter isCode, P c = true) : L.all P = true := by
  refine List.all_eq_true.mpr fun c hc => ?_
  have h := List.all_eq_true.mp h1 c hc
  rcases Bool.eq_false_or_eq_true (isCode c) with hi | hi
  · exact h2 c (List.mem_filter.mpr ⟨hc, hi⟩)
  · simpa [hi] using h
set_option maxRecDepth 65536 in
theorem w_c0 : (Jvm.Cond.code x code maxLocals ret).before args0 about1 = true := code_word (m := ⟨1, 2⟩) (meth := k1m2) (c := k1c2) (by decide +kernel) rfl rfl rfl (by decide +kernel)
set_option maxRecDepth 65536 in
theorem w_c1 : (Jvm.Cond.code ({ cls := "com/example/swallow/swallow/engine/automation/FilterIsGeographicPinLaw", name := "pick", desc := "(I)Lcom/example/swallow/swallow/engine/automation/Filter;" } : Jvm.MethodName) method_2_code (1 : Nat) (Option.some (Jvm.ClassFile.FieldType.object "com/example/swallow/swallow/engine/automation/Filter"))).before args0 about1 = true := code_word (m := ⟨1, 1⟩) (meth := k1m1) (c := k1c1) (by decide +kernel) rfl rfl rfl (by decide +kernel)
set_option maxRecDepth 65536 in
theorem w_c2 : (Jvm.Cond.code ({ cls := "com/example/swallow/swallow/engine/automation/Filter", name := "isGeographic", desc := "()Z" } : Jvm.MethodName) prog_1_method_9_code (1 : Nat) (Option.some Jvm.ClassFile.FieldType.boolean)).before args0 about1 = true := code_word (m := ⟨6, 0⟩) (meth := k6m0) (c := k6c0) (by decide +kernel) rfl rfl rfl (by decide +kernel)
set_option maxRecDepth 65536 in
theorem w_c3 : (Jvm.Cond.code ({ cls := "com/example/swallow/swallow/engine/automation/Filter", name := "getRole", desc := "()Lcom/example/swallow/swallow/engine/automation/PlaceRole;" } : Jvm.MethodName) prog_1_method_10_code (1 : Nat) (Option.some (Jvm.ClassFile.FieldType.object "com/example/swallow/swallow/engine/automation/PlaceRole"))).before args0 about1 = true := code_word (m := ⟨6, 1⟩) (meth := k6m1) (c := k6c1) (by decide +kernel) rfl rfl rfl (by decide +kernel)
def codes1 : List Jvm.Cond := [Jvm.Cond.code x code maxLocals ret, Jvm.Cond.code ({ cls := "com/example/swallow/swallow/engine/automation/FilterIsGeographicPinLaw", name := "pick", desc := "(I)Lcom/example/swallow/swallow/engine/automation/Filter;" } : Jvm.MethodName) method_2_code (1 : Nat) (Option.some (Jvm.ClassFile.FieldType.object "com/example/swallow/swallow/engine/automation/Filter")), Jvm.Cond.code ({ cls := "com/example/swallow/swallow/engine/automation/Filter", name := "isGeographic", desc := "()Z" } : Jvm.MethodName) prog_1_method_9_code (1 : Nat) (Option.some Jvm.ClassFile.FieldType.boolean), Jvm.Cond.code ({ cls := "com/example/swallow/swallow/engine/automation/Filter", name := "getRole", desc := "()Lcom/example/swallow/swallow/engine/automation/PlaceRole;" } : Jvm.MethodName) prog_1_method_10_code (1 : Nat) (Option.some (Jvm.ClassFile.FieldType.object "com/example/swallow/swallow/engine/automation/PlaceRole"))]
set_option maxRecDepth 65536 in
theorem codes_eq : words1.filter isCode = codes1 := rfl
theorem w_codes : ∀ c ∈ words1.filter isCode, c.before args0 about1 = true := by
  rw [codes_eq]
  intro c hc
  simp only [codes1, List.mem_cons, List.not_mem_nil, or_false] at hc
  rcases hc with rfl | rfl | rfl | rfl
  · exact w_c0
  · exact w_c1
  · exact w_c2
  · exact w_c3
set_option maxRecDepth 65536 in
theorem w_t1 : (words1.take 24).all (fun c => isCode c || c.before args0 about1) = true := by decide +kernel
set_option maxRecDepth 65536 in
theorem w_t2 : (words1.drop 24).all (fun c => isCode c || c.before args0 about1) = true := by decide +kernel
theorem w_tables : (allAtoms (Jvm.Cond.code x code maxLocals ret :: tables_1)).before args0 about1 = true := by
  rw [allAtoms_all]
  show words1.all (fun c => c.before args0 about1) = true
  refine all_split ?_ w_codes
  rw [← List.take_append_drop 24 words1, List.all_append, w_t1, w_t2]
  rfl
set_option maxRecDepth 65536 in
theorem w_case : (Jvm.Cond.and given_1 narrow_1).before args0 about1 = true := by decide +kernel
theorem w_applies : (headSpec (Jvm.Cond.code x code maxLocals ret :: tables_1) room_1).applies x e0.platform about1 = true :=
  (Spec.applies_iff w_frames).mpr ⟨w_running, w_runnable, w_alone, w_named, w_hears, w_ripe, w_room, w_tables⟩
theorem atStart : AtStart classFile x code maxLocals ret World_1 tables_1 room_1 Calls_1 rest_1 Pre_1 launch0 p0 e0 about1 theMethod args0 below0 :=
  ⟨lists_1, trivial, launch0.admits_env _ _ _, launch0.least_env, fairChoices_fair.cas, fairChoices_fair.clock, w_frames, w_args, w_heap, w_applies, trivial, trivial, w_case⟩
end start1
theorem witness_1 : WitnessClaimed_1 := ⟨start1.p0, start1.e0, start1.about1, start1.theMethod, start1.args0, start1.below0, start1.atStart⟩
end Jvm.Pilot.@@N@@
