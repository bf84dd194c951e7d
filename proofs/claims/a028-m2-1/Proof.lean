import JvmDerived
import JvmDerived.Pilot.@@N@@Statement
import JvmDerived.Pilot.@@N@@Code
set_option linter.unusedVariables false
set_option linter.unusedSimpArgs false
namespace Jvm.RoadKit
open Sem ClassFile Op Lib Jvm.Stand Jvm.Free Jvm.LawKit
section New
variable {p : Program} {l : Launch} {e : Env} {R : Room} {s : State} {m : MethodId} {args : Array Value} {below : List Frame} {meth : Method} {c : Code} {T : State} {locs : List Loc} {cells slots : Nat}
theorem retI (X : Stand p l e R s m args below meth c T locs cells slots) (hx : p.tables.exec = Jvm.exec) {pc : Nat} {Ls : Array Slot} {z : Int32} {rest : List Value} (hret : meth.sig.returnType = some .int) (hd : decode c.code pc = .ok (.ireturn, 1)) {fs : List Frame}
    (hl : ∀ (f : JFrame) (acts : List Action), f.method = m → f.locked = none → f.entered = [] → (doReturn e (T.setTop f) acts (some (.int z))).1 = T.setFrames fs) : Steps p.tables e below (T.setTop (mkF m pc Ls (.int z :: rest))) (T.setFrames fs) := by
  have hm' : T.vm.method? m = some meth := X.method'
  have hn : narrow .int (.int z) = .int z := rfl
  show Steps p.tables e below (T.setTop { method := m, pc := pc, locals := Ls, stack := _ :: rest, locked := none }) _
  jvm_step X.here [X.here.top, hx, hd, hm', hret, hn]
  first | (intro acts; rw [hl _ acts rfl rfl rfl]) | rw [hl _ _ rfl rfl rfl]
  exact Steps.refl _
end New
end Jvm.RoadKit
namespace Jvm.Pilot.@@N@@
open Jvm Jvm.ClassFile Sem Op Lib Jvm.Free Jvm.Stand Jvm.LawKit Jvm.RoadKit Bundle Jvm.Pilot.@@N@@.Jvm.D
theorem own_oz {Z : State} {n0 : Nat} {h : Heap} (O : Old Z n0 h) : n0 ≤ h.size := by
  rw [← O.1]; exact O.2.1
theorem own_lsw {tb : Tables} [Ours tb] {e : Env} {below : List Frame} {T target : State} {m : MethodId} {c : Code} {g : JFrame} (h : At T m c below) (hx : tb.exec = Jvm.exec) (hg : g.method = m) {dflt : Int} {prs : Array (Int × Int)} {len : Nat} {o : Int} {pc0 pc' : Nat} (hpc : g.pc = pc0) (hd : decode c.code g.pc = .ok (.lookupswitch dflt prs, len)) {i : Int32} {rest : List Value} (hs : g.stack = .int i :: rest)
    (hsort : (prs.toList.zip (prs.toList.drop 1)).all (fun (a, next) => a.1 < next.1) = true) (hoff : lookupswitch.offset prs.toList dflt i.toInt = o) (ho : 0 ≤ (pc0 : Int) + o) (hp : ((pc0 : Int) + o).toNat = pc')
    (hr : Steps tb e below (T.setTop { g with pc := pc', stack := rest }) target) : Steps tb e below (T.setTop g) target := by
  subst hg hpc hp
  jvm_step h [h.top, hx, hd, hs, hoff, ho, lookupswitch.wp_chain]
  exact ⟨by simpa using hsort, hr⟩
section Nums
variable {x k : Int32} {n : Int}
theorem own_lt1 (hk : k.toInt = n) (h : x < k) : x.toInt < n := by rw [← hk]; exact Int32.lt_iff_toInt_lt.mp h
theorem own_lt2 (hk : k.toInt = n) (h : k < x) : n < x.toInt := by rw [← hk]; exact Int32.lt_iff_toInt_lt.mp h
theorem own_nlt1 (hk : k.toInt = n) (h : ¬ x < k) : n ≤ x.toInt := by rw [Int32.lt_iff_toInt_lt, hk] at h; omega
theorem own_nlt2 (hk : k.toInt = n) (h : ¬ k < x) : x.toInt ≤ n := by rw [Int32.lt_iff_toInt_lt, hk] at h; omega
theorem own_eq (hk : k.toInt = n) (h : x = k) : x.toInt = n := by rw [← hk, h]
theorem own_neq (hk : k.toInt = n) (h : ¬ x = k) : x.toInt ≠ n := fun q => h (Int32.toInt_inj.mp (by rw [hk, q]))
theorem own_glt1 (hk : k.toInt = n) (h : x.toInt < n) : x < k := Int32.lt_iff_toInt_lt.mpr (by rw [hk]; exact h)
theorem own_glt2 (hk : k.toInt = n) (h : n < x.toInt) : k < x := Int32.lt_iff_toInt_lt.mpr (by rw [hk]; exact h)
theorem own_gnlt1 (hk : k.toInt = n) (h : n ≤ x.toInt) : ¬ x < k := fun q => by have := own_lt1 hk q; omega
theorem own_gnlt2 (hk : k.toInt = n) (h : x.toInt ≤ n) : ¬ k < x := fun q => by have := own_lt2 hk q; omega
theorem own_geq (hk : k.toInt = n) (h : x.toInt = n) : x = k := Int32.toInt_inj.mp (by rw [hk, h])
theorem own_gneq (hk : k.toInt = n) (h : x.toInt ≠ n) : ¬ x = k := fun q => h (own_eq hk q)
theorem own_and (hk : k.toInt = n) (h0 : 0 ≤ n) : 0 ≤ (x &&& k).toInt ∧ (x &&& k).toInt ≤ n := by have := c_and x k (by rw [hk]; exact h0); rw [hk] at this; exact this
theorem own_and2 (hk : k.toInt = n) (h0 : 0 ≤ n) : 0 ≤ (k &&& x).toInt ∧ (k &&& x).toInt ≤ n := by have := c_and' k x (by rw [hk]; exact h0); rw [hk] at this; exact this
theorem own_rem (hk : k.toInt = n) (h0 : 0 < n) (hx : 0 ≤ x.toInt) : 0 ≤ (x % k).toInt ∧ (x % k).toInt < n ∧ (x % k).toInt ≤ x.toInt := by
  have := (c_iremV x k).1 hx (by rw [hk]; exact h0); rw [hk] at this; exact ⟨this.1, this.2.1, this.2.2.1⟩
theorem own_add {lo hi : Int} (hk : k.toInt = n) (hx : lo ≤ x.toInt ∧ x.toInt ≤ hi) (h1 : -2147483648 ≤ lo + n) (h2 : hi + n < 2147483648) : lo + n ≤ (x + k).toInt ∧ (x + k).toInt ≤ hi + n := by
  have := c_iadd x k; have := rng32 (x + k); rw [hk] at *; omega
theorem own_add2 {lo hi : Int} (hk : k.toInt = n) (hx : lo ≤ x.toInt ∧ x.toInt ≤ hi) (h1 : -2147483648 ≤ lo + n) (h2 : hi + n < 2147483648) : lo + n ≤ (k + x).toInt ∧ (k + x).toInt ≤ hi + n := by
  have := c_iadd k x; have := rng32 (k + x); rw [hk] at *; omega
end Nums
theorem own_len {Z : State} {args : Array Value} {t : Term} {a : Addr} {c : Cell} {ty : FieldType} {n : Int32} (A : Arr Z Z.heap a c ty) (ev : t.eval args Z none [] Z = some (.ref a)) (h : (Term.length t).eval args Z none [] Z = some (.int n)) : c.slots.size < 2 ^ 31 ∧ c.slots.size.toInt32 = n := by
  have q := A.fin (Vm.Alike.refl _)
  by_cases z : c.slots.size < 2 ^ 31
  · rw [len_f ev q z] at h; exact ⟨z, Value.int.inj (Option.some.inj h)⟩
  · simp [Term.eval, ev, q, z] at h
theorem own_selp {s : State} {args : Array Value} {y z : MethodName} {C : String} (w : (Cond.selects C z z).before args s = true) (hc : z.cls = y.cls) (hp : s.PrivateAt y) (hi : (Cond.instanceMethod y).before args s = true) (hy : y.cls ≠ "java/lang/invoke/MethodHandle" ∧ y.cls ≠ "java/lang/invoke/VarHandle") : (Cond.selects y.cls y y).before args s = true := by
  obtain ⟨c2, r2, m2, -, -, q3, -, kP, hkP, hkPi⟩ := Cond.selects_spec w
  exact selects_self_of_private (by rw [← hc]; exact findClass_of_methodNamed q3) hkP hkPi hp hi hy
theorem own_max64 (x : Int64) : ¬ (9223372036854775807 : Int64) < x := fun h => by have := rng64 x; rw [Int64.lt_iff_toInt_lt, show (9223372036854775807 : Int64).toInt = 9223372036854775807 by decide] at h; omega
theorem own_min64 (x : Int64) : ¬ x < (-9223372036854775808 : Int64) := fun h => by have := rng64 x; rw [Int64.lt_iff_toInt_lt, show (-9223372036854775808 : Int64).toInt = -9223372036854775808 by decide] at h; omega
theorem own_root {Z : State} {a0 : Array Value} {O K : String} {n : Nat} (w : (Cond.noSuperclass O).before a0 Z = true) (wk : (Cond.instantiable K n).before a0 Z = true) (hn : O ≠ K) : NS Z O K := by
  obtain ⟨c, k, h1, h2, h3, -, -⟩ := Cond.noSuperclass_spec w
  obtain ⟨t, kt, g1, -⟩ := Cond.instantiable_spec wk
  have ne := ids_ne h1 g1 hn
  refine ⟨c, t, h1, g1, fun fuel => ?_⟩
  cases fuel with
  | zero => rfl
  | succ f => simp [Vm.isSubclassAux, ne, h2, h3]
theorem own_no {Z : State} {a0 : Array Value} {C S K : String} {n : Nat} (w : (Cond.superclass C S).before a0 Z = true) (wk : (Cond.instantiable K n).before a0 Z = true) (q : NS Z C K) (hn : C ≠ K) : ∃ c t, Z.vm.findClass C = some c ∧ Z.vm.findClass K = some t ∧ Z.vm.assignable c t = false := by
  obtain ⟨c, t, h0, g0, n3⟩ := q
  obtain ⟨p, k, kp, h1, h2, h3, h4, h5, -, h7⟩ := Cond.superclass_spec h0 w
  obtain ⟨t', k', g1, g2, g3, g4, -⟩ := Cond.instantiable_spec wk
  cases g0.symm.trans g1
  have ne := ids_ne h0 g0 hn
  have g5 : k'.isInterface = false := by simp only [Bool.or_eq_false_iff] at g4; exact g4.1
  refine ⟨c, t, h0, g0, ?_⟩
  show Z.vm.assignableAux (255 + 1) c t = false
  simp [Vm.assignableAux, ne, h2, g2, h5, g3, g5, Vm.isSubclass, n3]
theorem own_eqR {Z : State} {args : Array Value} {a b : Term} {idx : List Nat} {w : Addr} (hb : b.eval args Z none idx Z = some (.ref w)) (h : (Cond.eq a b).value args Z none Z idx = some true) : a.eval args Z none idx Z = some (.ref w) := by
  simp only [Cond.value, hb] at h
  cases ht : a.eval args Z none idx Z with
  | none => simp [ht] at h
  | some x => cases x <;> simp [ht] at h ⊢; exact h
theorem own_cache (q : Int64) (h1 : ¬ q < (-128 : Int64)) (h2 : ¬ (127 : Int64) < q) : ¬ ((q.toInt32) + (128 : Int32)) < 0 ∧ ((q.toInt32) + (128 : Int32)) < (256 : Int32) := by
  rw [Int64.lt_iff_toInt_lt, show (-128 : Int64).toInt = -128 by decide] at h1
  rw [Int64.lt_iff_toInt_lt, show (127 : Int64).toInt = 127 by decide] at h2
  have e1 := c_l2i q
  have e2 := rng32 q.toInt32
  have e3 : q.toInt32.toInt = q.toInt := by omega
  have e4 := c_iadd q.toInt32 (128 : Int32)
  have e5 := rng32 (q.toInt32 + (128 : Int32))
  rw [show (128 : Int32).toInt = 128 by decide] at e4
  rw [Int32.lt_iff_toInt_lt, Int32.lt_iff_toInt_lt, show (0 : Int32).toInt = 0 by decide, show (256 : Int32).toInt = 256 by decide]
  omega
def GW (Z : State) (w1 : Addr) (cw1 : Cell) : Prop :=
  (Sta Z Z.heap "java/lang/Long$LongCache" "cache" "[Ljava/lang/Long;" (.ref w1))
  ∧ (Exa Z Z.heap w1 "[Ljava/lang/Long;")
  ∧ (Bxs Z w1 cw1 "java/lang/Long" "J" (256 : Int32) (fun j => .long ((j - (128 : Int32)).toInt64)))
def Q0 (n0 : Nat) (v : Option Value) (h : Heap) (L : List Loc) : Prop := v = some (.int (1 : Int32)) ∧ Fr n0 L
theorem d0_0 : decode prog_22_method_1_code 0 = .ok (.aload_n 0, 1) := by decide +kernel
theorem d0_1 : decode prog_22_method_1_code 1 = .ok (.invokespecial 1, 3) := by decide +kernel
theorem d0_4 : decode prog_22_method_1_code 4 = .ok (.aload_n 0, 1) := by decide +kernel
theorem d0_5 : decode prog_22_method_1_code 5 = .ok (.lload_n 1, 1) := by decide +kernel
theorem d0_6 : decode prog_22_method_1_code 6 = .ok (.putfield 7, 3) := by decide +kernel
theorem d0_9 : decode prog_22_method_1_code 9 = .ok (.aload_n 0, 1) := by decide +kernel
theorem d0_10 : decode prog_22_method_1_code 10 = .ok (.lload_n 3, 1) := by decide +kernel
theorem d0_11 : decode prog_22_method_1_code 11 = .ok (.putfield 13, 3) := by decide +kernel
theorem d0_14 : decode prog_22_method_1_code 14 = .ok (.return_, 1) := by decide +kernel
theorem pn0 : plainName "com/example/sablegrid/sablegrid/model/WriteOutcome" = true := by first | (simp [plainName, overriddenIn]; done) | decide +kernel
theorem ef1 (m : MethodId) (x0 : Addr) (x1 : Int64) (x2 : Int64) : entryFrame m #[(.ref x0), (.long x1), (.long x2)] 5 = mkF m 0 #[.val (.ref x0), .val (.long x1), .second, .val (.long x2), .second] [] := by first | (simp [entryFrame, mkF, argsToLocals, Value.category]; done) | rfl
def Q1 (Z : State) (o1 : Addr) (q2 : Int64) (q3 : Int64) (h0 : Heap) (n0 : Nat) (v : Option Value) (h : Heap) (L : List Loc) : Prop :=
  (v = none ∧ Fr n0 L ∧ Keep h0 h [o1] ∧ (Exa Z h o1 "com/example/sablegrid/sablegrid/model/WriteOutcome") ∧ (Fld Z h o1 "com/example/sablegrid/sablegrid/model/WriteOutcome" "found" "J" (.long q2)) ∧ (Fld Z h o1 "com/example/sablegrid/sablegrid/model/WriteOutcome" "version" "J" (.long q3)))
set_option maxRecDepth 65536 in
set_option maxHeartbeats 40000000 in
theorem rm1 (l : Launch) (Z : State) (a0 : Array Value) (hw : ∀ d ∈ tables_1, d.before a0 Z = true) (ws : List Jvm.Cond) (o1 : Addr) (q2 : Int64) (q3 : Int64) (h0 : Heap) (n0 : Nat) (O0 : Old Z n0 h0) (g_o1 : n0 ≤ o1) (P0 : Exa Z h0 o1 "com/example/sablegrid/sablegrid/model/WriteOutcome") (P1 : Fld Z h0 o1 "com/example/sablegrid/sablegrid/model/WriteOutcome" "found" "J" (.long (0 : Int64))) (P2 : Fld Z h0 o1 "com/example/sablegrid/sablegrid/model/WriteOutcome" "version" "J" (.long (0 : Int64))) :
    MetFree l (⟨"com/example/sablegrid/sablegrid/model/WriteOutcome", "<init>", "(JJ)V"⟩ : MethodName) (head1 (Jvm.Cond.code (⟨"com/example/sablegrid/sablegrid/model/WriteOutcome", "<init>", "(JJ)V"⟩ : MethodName) prog_22_method_1_code 5 none :: ws) ({ frames := 1, cells := 0, slots := 0, locals := 12 } : Room)) (fun a U => a = #[(.ref o1), (.long q2), (.long q3)] ∧ Z.Warmed39 U.vm ∧ U.heap = h0) (fun _ _ _ _ _ => True) (fun _ U o U' => ∃ v L, o = .returned v ∧ Q1 Z o1 q2 q3 h0 n0 v U'.heap L ∧ FrameEnd U o U' L ({ frames := 1, cells := 0, slots := 0, locals := 12 } : Room).cells ({ frames := 1, cells := 0, slots := 0, locals := 12 } : Room).slots) := by
  refine MetFree.of_bodySF (plainFor_of_name pn0) hisR ?_
  intro p e s m args below meth c s₁ Bd hml0 hP hK
  obtain ⟨rfl, hZ, hh⟩ := hP
  have hx := Bd.exec
  have hby := Bd.bytes
  have hml : c.maxLocals = 5 := hml0
  have hown : s.vm.findClass "com/example/sablegrid/sablegrid/model/WriteOutcome" = some m.cls := findClass_of_methodNamed Bd.named
  have hnm := (name_of_methodNamed Bd.named Bd.method).1
  have hret := Bd.returns
  have hlk : meth.locks = false := BodyLoose.notSynchronized Bd
  have X0 : Stand p l e ({ frames := 1, cells := 0, slots := 0, locals := 12 } : Room) s m #[(.ref o1), (.long q2), (.long q3)] below meth c s₁ [] 0 0 := Stand.of_body Bd
  have e0 : s₁.heap = h0 := by rw [← hh, Bd.state]; rfl
  have N0 := Fr.nil n0
  have pre0 : ∀ t, Steps p.tables e below (s₁.setTop (mkF m 0 #[.val (.ref o1), .val (.long q2), .second, .val (.long q3), .second] [])) t → Steps p.tables e below (s₁.setTop (entryFrame m #[(.ref o1), (.long q2), (.long q3)] 5)) t := fun t k => castTop (ef1 m o1 q2 q3) k
  obtain ⟨T1, X1, e1, st1⟩ := initO X0 hx hZ hown (hw _ (List.mem_of_getElem? (i := 6) rfl)) (hw _ (List.mem_of_getElem? (i := 7) rfl)) (hw _ (List.mem_of_getElem? (i := 8) rfl)) e0 (g := (mkF m 1 #[.val (.ref o1), .val (.long q2), .second, .val (.long q3), .second] [(.ref o1)])) rfl (by rw [hml]; rfl) rfl (hb hby d0_1) (by decide) (W := 0) (by show 2 * 0 + _ ≤ _; exact Nat.le_of_eq rfl) (by decide)
  obtain ⟨T2, h2, X2, e2, W2, st2⟩ := putF X1 hx hZ hown (host := "") (Or.inl (hw _ (List.mem_of_getElem? (i := 9) rfl))) Via.refl e1 P1 P0 (Or.inr ⟨(hw _ (List.mem_of_getElem? (i := 10) rfl)), rfl, hnm⟩) (hw _ (List.mem_of_getElem? (i := 1) rfl)) (ty := .long) (by decide) rfl rfl (g := (mkF m 6 #[.val (.ref o1), .val (.long q2), .second, .val (.long q3), .second] [(.long q2), (.ref o1)])) rfl rfl (hb hby d0_6)
  have N2 := Fr.snoc X2 N0 g_o1
  have Fw2 := P1.same W2
  have M2 : h0.size ≤ h2.size := Nat.le_trans (Nat.le_refl _) (Nat.le_of_eq W2.size.symm)
  have O2 := Old.wr O0 W2 g_o1
  have f3 := (P2.other W2 (Or.inr (slot_ne (Or.inr (hw _ (List.mem_of_getElem? (i := 12) rfl))) (Or.inr (hw _ (List.mem_of_getElem? (i := 10) rfl))) (by decide) (t := .long) (t' := .long) (by decide) (by decide))))
  have f4 := (P0.wr W2)
  obtain ⟨T5, h5, X5, e5, W5, st5⟩ := putF X2 hx hZ hown (host := "") (Or.inl (hw _ (List.mem_of_getElem? (i := 11) rfl))) Via.refl e2 f3 f4 (Or.inr ⟨(hw _ (List.mem_of_getElem? (i := 12) rfl)), rfl, hnm⟩) (hw _ (List.mem_of_getElem? (i := 1) rfl)) (ty := .long) (by decide) rfl rfl (g := (mkF m 11 #[.val (.ref o1), .val (.long q2), .second, .val (.long q3), .second] [(.long q3), (.ref o1)])) rfl rfl (hb hby d0_11)
  have N5 := Fr.snoc X5 N2 g_o1
  have Fw5 := f3.same W5
  have M5 : h0.size ≤ h5.size := Nat.le_trans M2 (Nat.le_of_eq W5.size.symm)
  have O5 := Old.wr O2 W5 g_o1
  obtain ⟨fs, hr, hrun, hended, hW, hsame⟩ := X5.leave (v := none) (fun _ => rfl)
  have KL : Keep h0 h5 [o1] := (((Keep.refl h0 [o1]).wr W2 (Or.inl (List.mem_of_getElem? (i := 0) rfl))).wr W5 (Or.inl (List.mem_of_getElem? (i := 0) rfl)))
  have f6 := (f4.wr W5)
  have f7 := (Fw2.other W5 (Or.inr (slot_ne (Or.inr (hw _ (List.mem_of_getElem? (i := 10) rfl))) (Or.inr (hw _ (List.mem_of_getElem? (i := 12) rfl))) (by decide) (t := .long) (t' := .long) (by decide) (by decide))))
  refine ⟨_, _, pre0 _ ?_, hrun, hended, _, _, rfl, ?_, ⟨_, rfl⟩, hW, hsame.mono (by decide) (by decide)⟩
  ·
    show Steps p.tables e below (s₁.setTop (mkF m 0 #[.val (.ref o1), .val (.long q2), .second, .val (.long q3), .second] [])) _
    refine XS.aloadN X0.here hx rfl (hb hby d0_0) rfl rfl ?_
    show Steps p.tables e below (s₁.setTop (mkF m 1 #[.val (.ref o1), .val (.long q2), .second, .val (.long q3), .second] [(.ref o1)])) _
    refine st1 _ ?_
    show Steps p.tables e below (T1.setTop (mkF m 4 #[.val (.ref o1), .val (.long q2), .second, .val (.long q3), .second] [])) _
    refine XS.aloadN X1.here hx rfl (hb hby d0_4) rfl rfl ?_
    show Steps p.tables e below (T1.setTop (mkF m 5 #[.val (.ref o1), .val (.long q2), .second, .val (.long q3), .second] [(.ref o1)])) _
    refine XS.lloadN X1.here hx rfl (hb hby d0_5) rfl ?_
    show Steps p.tables e below (T1.setTop (mkF m 6 #[.val (.ref o1), .val (.long q2), .second, .val (.long q3), .second] [(.long q2), (.ref o1)])) _
    refine st2 _ ?_
    show Steps p.tables e below (T2.setTop (mkF m 9 #[.val (.ref o1), .val (.long q2), .second, .val (.long q3), .second] [])) _
    refine XS.aloadN X2.here hx rfl (hb hby d0_9) rfl rfl ?_
    show Steps p.tables e below (T2.setTop (mkF m 10 #[.val (.ref o1), .val (.long q2), .second, .val (.long q3), .second] [(.ref o1)])) _
    refine XS.lloadN X2.here hx rfl (hb hby d0_10) rfl ?_
    show Steps p.tables e below (T2.setTop (mkF m 11 #[.val (.ref o1), .val (.long q2), .second, .val (.long q3), .second] [(.long q3), (.ref o1)])) _
    refine st5 _ ?_
    show Steps p.tables e below (T5.setTop (mkF m 14 #[.val (.ref o1), .val (.long q2), .second, .val (.long q3), .second] [])) _
    exact X5.returnOut hx hret (hb hby d0_14) hr
  ·
    show Q1 Z o1 q2 q3 h0 n0 _ T5.heap _
    rw [e5]
    exact ⟨rfl, N5, KL, f6, f7, Fw5⟩
theorem pd0 : parseMethodDescriptor "(JJ)V" = some ⟨[.long, .long], none⟩ := by decide +kernel
theorem d1_0 : decode prog_22_method_4_code 0 = .ok (.aload_n 1, 1) := by decide +kernel
theorem d1_1 : decode prog_22_method_4_code 1 = .ok (.instanceof 8, 3) := by decide +kernel
theorem d1_4 : decode prog_22_method_4_code 4 = .ok (.ifCond .eq 37, 3) := by decide +kernel
theorem d1_7 : decode prog_22_method_4_code 7 = .ok (.aload_n 0, 1) := by decide +kernel
theorem d1_8 : decode prog_22_method_4_code 8 = .ok (.getfield 7, 3) := by decide +kernel
theorem d1_11 : decode prog_22_method_4_code 11 = .ok (.aload_n 1, 1) := by decide +kernel
theorem d1_12 : decode prog_22_method_4_code 12 = .ok (.checkcast 8, 3) := by decide +kernel
theorem d1_15 : decode prog_22_method_4_code 15 = .ok (.getfield 7, 3) := by decide +kernel
theorem d1_18 : decode prog_22_method_4_code 18 = .ok (.lcmp, 1) := by decide +kernel
theorem d1_19 : decode prog_22_method_4_code 19 = .ok (.ifCond .ne 22, 3) := by decide +kernel
theorem d1_22 : decode prog_22_method_4_code 22 = .ok (.aload_n 0, 1) := by decide +kernel
theorem d1_23 : decode prog_22_method_4_code 23 = .ok (.getfield 13, 3) := by decide +kernel
theorem d1_26 : decode prog_22_method_4_code 26 = .ok (.aload_n 1, 1) := by decide +kernel
theorem d1_27 : decode prog_22_method_4_code 27 = .ok (.checkcast 8, 3) := by decide +kernel
theorem d1_30 : decode prog_22_method_4_code 30 = .ok (.getfield 13, 3) := by decide +kernel
theorem d1_33 : decode prog_22_method_4_code 33 = .ok (.lcmp, 1) := by decide +kernel
theorem d1_34 : decode prog_22_method_4_code 34 = .ok (.ifCond .ne 7, 3) := by decide +kernel
theorem d1_37 : decode prog_22_method_4_code 37 = .ok (.iconst 1, 1) := by decide +kernel
theorem d1_38 : decode prog_22_method_4_code 38 = .ok (.goto 4, 3) := by decide +kernel
theorem d1_42 : decode prog_22_method_4_code 42 = .ok (.ireturn, 1) := by decide +kernel
theorem d1_41 : decode prog_22_method_4_code 41 = .ok (.iconst 0, 1) := by decide +kernel
theorem ef2 (m : MethodId) (x0 : Addr) (x1 : Addr) : entryFrame m #[(.ref x0), (.ref x1)] 2 = mkF m 0 #[.val (.ref x0), .val (.ref x1)] [] := by first | (simp [entryFrame, mkF, argsToLocals, Value.category]; done) | rfl
def Q2 (Z : State) (o1 : Addr) (o2 : Addr) (q3 : Int64) (q4 : Int64) (q5 : Int64) (q6 : Int64) (h0 : Heap) (n0 : Nat) (v : Option Value) (h : Heap) (L : List Loc) : Prop :=
  ((q3 = q5) ∧ (q4 = q6) ∧ v = some (.int (1 : Int32)) ∧ Fr n0 L ∧ h = h0)
  ∨ ((q3 = q5) ∧ (¬ (q4 = q6)) ∧ v = some (.int (0 : Int32)) ∧ Fr n0 L ∧ h = h0)
  ∨ ((¬ (q3 = q5)) ∧ v = some (.int (0 : Int32)) ∧ Fr n0 L ∧ h = h0)
set_option maxRecDepth 65536 in
set_option maxHeartbeats 40000000 in
theorem rm2 (l : Launch) (Z : State) (a0 : Array Value) (hw : ∀ d ∈ tables_1, d.before a0 Z = true) (ws : List Jvm.Cond) (o1 : Addr) (o2 : Addr) (q3 : Int64) (q4 : Int64) (q5 : Int64) (q6 : Int64) (h0 : Heap) (n0 : Nat) (O0 : Old Z n0 h0) (g_o1 : n0 ≤ o1) (g_o2 : n0 ≤ o2) (P1 : Fld Z h0 o1 "com/example/sablegrid/sablegrid/model/WriteOutcome" "found" "J" (.long q3)) (P2 : Fld Z h0 o1 "com/example/sablegrid/sablegrid/model/WriteOutcome" "version" "J" (.long q4)) (P3 : Exa Z h0 o2 "com/example/sablegrid/sablegrid/model/WriteOutcome") (P4 : Fld Z h0 o2 "com/example/sablegrid/sablegrid/model/WriteOutcome" "found" "J" (.long q5)) (P5 : Fld Z h0 o2 "com/example/sablegrid/sablegrid/model/WriteOutcome" "version" "J" (.long q6)) :
    MetFree l (⟨"com/example/sablegrid/sablegrid/model/WriteOutcome", "equals", "(Ljava/lang/Object;)Z"⟩ : MethodName) (head1 (Jvm.Cond.code (⟨"com/example/sablegrid/sablegrid/model/WriteOutcome", "equals", "(Ljava/lang/Object;)Z"⟩ : MethodName) prog_22_method_4_code 2 (some .boolean) :: ws) ({ frames := 0, cells := 0, slots := 0, locals := 0 } : Room)) (fun a U => a = #[(.ref o1), (.ref o2)] ∧ Z.Warmed39 U.vm ∧ U.heap = h0) (fun _ _ _ _ _ => True) (fun _ U o U' => ∃ v L, o = .returned v ∧ Q2 Z o1 o2 q3 q4 q5 q6 h0 n0 v U'.heap L ∧ FrameEnd U o U' L ({ frames := 0, cells := 0, slots := 0, locals := 0 } : Room).cells ({ frames := 0, cells := 0, slots := 0, locals := 0 } : Room).slots) := by
  refine MetFree.of_bodySF (plainFor_of_name pn0) hisR ?_
  intro p e s m args below meth c s₁ Bd hml0 hP hK
  obtain ⟨rfl, hZ, hh⟩ := hP
  have hx := Bd.exec
  have hby := Bd.bytes
  have hml : c.maxLocals = 2 := hml0
  have hown : s.vm.findClass "com/example/sablegrid/sablegrid/model/WriteOutcome" = some m.cls := findClass_of_methodNamed Bd.named
  have hnm := (name_of_methodNamed Bd.named Bd.method).1
  have hret := Bd.returns
  have hlk : meth.locks = false := BodyLoose.notSynchronized Bd
  have X0 : Stand p l e ({ frames := 0, cells := 0, slots := 0, locals := 0 } : Room) s m #[(.ref o1), (.ref o2)] below meth c s₁ [] 0 0 := Stand.of_body Bd
  have e0 : s₁.heap = h0 := by rw [← hh, Bd.state]; rfl
  have N0 := Fr.nil n0
  have pre0 : ∀ t, Steps p.tables e below (s₁.setTop (mkF m 0 #[.val (.ref o1), .val (.ref o2)] [])) t → Steps p.tables e below (s₁.setTop (entryFrame m #[(.ref o1), (.ref o2)] 2)) t := fun t k => castTop (ef2 m o1 o2) k
  obtain ⟨T1, X1, e1, st1⟩ := instY X0 hx hZ hown (hw _ (List.mem_of_getElem? (i := 18) rfl)) e0 (Ins.self P3) (g := (mkF m 1 #[.val (.ref o1), .val (.ref o2)] [(.ref o2)])) rfl rfl (hb hby d1_1)
  obtain ⟨T2, X2, e2, st2⟩ := getF X1 hx hZ hown (host := "") (Or.inl (hw _ (List.mem_of_getElem? (i := 9) rfl))) Via.refl e1 P1 (g := (mkF m 8 #[.val (.ref o1), .val (.ref o2)] [(.ref o1)])) rfl rfl (hb hby d1_8)
  obtain ⟨T3, X3, e3, st3⟩ := castY X2 hx hZ hown (hw _ (List.mem_of_getElem? (i := 18) rfl)) e2 (Ins.self P3) (g := (mkF m 12 #[.val (.ref o1), .val (.ref o2)] [(.ref o2), (.long q3)])) rfl rfl (hb hby d1_12)
  obtain ⟨T4, X4, e4, st4⟩ := getF X3 hx hZ hown (host := "") (Or.inl (hw _ (List.mem_of_getElem? (i := 9) rfl))) Via.refl e3 P4 (g := (mkF m 15 #[.val (.ref o1), .val (.ref o2)] [(.ref o2), (.long q3)])) rfl rfl (hb hby d1_15)
  have pre5 : ∀ t, Steps p.tables e below (T4.setTop (mkF m 19 #[.val (.ref o1), .val (.ref o2)] [(.int (lcmpW q3 q5))])) t → Steps p.tables e below (s₁.setTop (entryFrame m #[(.ref o1), (.ref o2)] 2)) t := fun t k => by
    refine pre0 _ ?_
    show Steps p.tables e below (s₁.setTop (mkF m 0 #[.val (.ref o1), .val (.ref o2)] [])) _
    refine XS.aloadN X0.here hx rfl (hb hby d1_0) rfl rfl ?_
    show Steps p.tables e below (s₁.setTop (mkF m 1 #[.val (.ref o1), .val (.ref o2)] [(.ref o2)])) _
    refine st1 _ ?_
    show Steps p.tables e below (T1.setTop (mkF m 4 #[.val (.ref o1), .val (.ref o2)] [(.int (1 : Int32))])) _
    refine XS.ifNo X1.here hx rfl (hb hby d1_4) rfl ((if0 _ _).trans (feq (by decide : ¬ ((1 : Int32) = (0 : Int32)))).1) ?_
    show Steps p.tables e below (T1.setTop (mkF m 7 #[.val (.ref o1), .val (.ref o2)] [])) _
    refine XS.aloadN X1.here hx rfl (hb hby d1_7) rfl rfl ?_
    show Steps p.tables e below (T1.setTop (mkF m 8 #[.val (.ref o1), .val (.ref o2)] [(.ref o1)])) _
    refine st2 _ ?_
    show Steps p.tables e below (T2.setTop (mkF m 11 #[.val (.ref o1), .val (.ref o2)] [(.long q3)])) _
    refine XS.aloadN X2.here hx rfl (hb hby d1_11) rfl rfl ?_
    show Steps p.tables e below (T2.setTop (mkF m 12 #[.val (.ref o1), .val (.ref o2)] [(.ref o2), (.long q3)])) _
    refine st3 _ ?_
    show Steps p.tables e below (T3.setTop (mkF m 15 #[.val (.ref o1), .val (.ref o2)] [(.ref o2), (.long q3)])) _
    refine st4 _ ?_
    show Steps p.tables e below (T4.setTop (mkF m 18 #[.val (.ref o1), .val (.ref o2)] [(.long q5), (.long q3)])) _
    refine XS.lcmp X4.here hx rfl (hb hby d1_18) rfl ?_
    exact k
  by_cases hc6 : q3 = q5
  ·
    obtain ⟨T7, X7, e7, st7⟩ := getF X4 hx hZ hown (host := "") (Or.inl (hw _ (List.mem_of_getElem? (i := 11) rfl))) Via.refl e4 P2 (g := (mkF m 23 #[.val (.ref o1), .val (.ref o2)] [(.ref o1)])) rfl rfl (hb hby d1_23)
    obtain ⟨T8, X8, e8, st8⟩ := castY X7 hx hZ hown (hw _ (List.mem_of_getElem? (i := 18) rfl)) e7 (Ins.self P3) (g := (mkF m 27 #[.val (.ref o1), .val (.ref o2)] [(.ref o2), (.long q4)])) rfl rfl (hb hby d1_27)
    obtain ⟨T9, X9, e9, st9⟩ := getF X8 hx hZ hown (host := "") (Or.inl (hw _ (List.mem_of_getElem? (i := 11) rfl))) Via.refl e8 P5 (g := (mkF m 30 #[.val (.ref o1), .val (.ref o2)] [(.ref o2), (.long q4)])) rfl rfl (hb hby d1_30)
    have pre10 : ∀ t, Steps p.tables e below (T9.setTop (mkF m 34 #[.val (.ref o1), .val (.ref o2)] [(.int (lcmpW q4 q6))])) t → Steps p.tables e below (s₁.setTop (entryFrame m #[(.ref o1), (.ref o2)] 2)) t := fun t k => by
      refine pre5 _ ?_
      show Steps p.tables e below (T4.setTop (mkF m 19 #[.val (.ref o1), .val (.ref o2)] [(.int (lcmpW q3 q5))])) _
      refine XS.ifNo X4.here hx rfl (hb hby d1_19) rfl ((if0 _ _).trans (teq ((lw_eq _ _).mpr hc6)).2) ?_
      show Steps p.tables e below (T4.setTop (mkF m 22 #[.val (.ref o1), .val (.ref o2)] [])) _
      refine XS.aloadN X4.here hx rfl (hb hby d1_22) rfl rfl ?_
      show Steps p.tables e below (T4.setTop (mkF m 23 #[.val (.ref o1), .val (.ref o2)] [(.ref o1)])) _
      refine st7 _ ?_
      show Steps p.tables e below (T7.setTop (mkF m 26 #[.val (.ref o1), .val (.ref o2)] [(.long q4)])) _
      refine XS.aloadN X7.here hx rfl (hb hby d1_26) rfl rfl ?_
      show Steps p.tables e below (T7.setTop (mkF m 27 #[.val (.ref o1), .val (.ref o2)] [(.ref o2), (.long q4)])) _
      refine st8 _ ?_
      show Steps p.tables e below (T8.setTop (mkF m 30 #[.val (.ref o1), .val (.ref o2)] [(.ref o2), (.long q4)])) _
      refine st9 _ ?_
      show Steps p.tables e below (T9.setTop (mkF m 33 #[.val (.ref o1), .val (.ref o2)] [(.long q6), (.long q4)])) _
      refine XS.lcmp X9.here hx rfl (hb hby d1_33) rfl ?_
      exact k
    by_cases hc11 : q4 = q6
    ·
      obtain ⟨fs, hr, hrun, hended, hW, hsame⟩ := X9.leave (v := some (.int (1 : Int32))) (fun h => by rw [hret] at h; cases h)
      refine ⟨_, _, pre10 _ ?_, hrun, hended, _, _, rfl, ?_, ⟨_, rfl⟩, hW, hsame.mono (by decide) (by decide)⟩
      ·
        show Steps p.tables e below (T9.setTop (mkF m 34 #[.val (.ref o1), .val (.ref o2)] [(.int (lcmpW q4 q6))])) _
        refine XS.ifNo X9.here hx rfl (hb hby d1_34) rfl ((if0 _ _).trans (teq ((lw_eq _ _).mpr hc11)).2) ?_
        show Steps p.tables e below (T9.setTop (mkF m 37 #[.val (.ref o1), .val (.ref o2)] [])) _
        refine XS.iconst X9.here hx rfl (hb hby d1_37) ?_
        show Steps p.tables e below (T9.setTop (mkF m 38 #[.val (.ref o1), .val (.ref o2)] [(.int (1 : Int32))])) _
        refine XS.goto X9.here hx rfl (pc0 := 38) (pc' := 42) rfl (hb hby d1_38) (by decide) (by decide) ?_
        show Steps p.tables e below (T9.setTop (mkF m 42 #[.val (.ref o1), .val (.ref o2)] [(.int (1 : Int32))])) _
        exact retN X9 hx (t := .boolean) hret (by simp) (hb hby d1_42) hr
      ·
        show Q2 Z o1 o2 q3 q4 q5 q6 h0 n0 _ T9.heap _
        rw [e9]
        exact (Or.inl ⟨hc6, hc11, rfl, N0, rfl⟩)
    ·
      obtain ⟨fs, hr, hrun, hended, hW, hsame⟩ := X9.leave (v := some (.int (0 : Int32))) (fun h => by rw [hret] at h; cases h)
      refine ⟨_, _, pre10 _ ?_, hrun, hended, _, _, rfl, ?_, ⟨_, rfl⟩, hW, hsame.mono (by decide) (by decide)⟩
      ·
        show Steps p.tables e below (T9.setTop (mkF m 34 #[.val (.ref o1), .val (.ref o2)] [(.int (lcmpW q4 q6))])) _
        refine XS.ifYes X9.here hx rfl (pc0 := 34) (pc' := 41) rfl (hb hby d1_34) rfl ((if0 _ _).trans (feq (fun q => hc11 ((lw_eq _ _).mp q))).2) (by decide) (by decide) ?_
        show Steps p.tables e below (T9.setTop (mkF m 41 #[.val (.ref o1), .val (.ref o2)] [])) _
        refine XS.iconst X9.here hx rfl (hb hby d1_41) ?_
        show Steps p.tables e below (T9.setTop (mkF m 42 #[.val (.ref o1), .val (.ref o2)] [(.int (0 : Int32))])) _
        exact retN X9 hx (t := .boolean) hret (by simp) (hb hby d1_42) hr
      ·
        show Q2 Z o1 o2 q3 q4 q5 q6 h0 n0 _ T9.heap _
        rw [e9]
        exact (Or.inr (Or.inl ⟨hc6, hc11, rfl, N0, rfl⟩))
  ·
    obtain ⟨fs, hr, hrun, hended, hW, hsame⟩ := X4.leave (v := some (.int (0 : Int32))) (fun h => by rw [hret] at h; cases h)
    refine ⟨_, _, pre5 _ ?_, hrun, hended, _, _, rfl, ?_, ⟨_, rfl⟩, hW, hsame.mono (by decide) (by decide)⟩
    ·
      show Steps p.tables e below (T4.setTop (mkF m 19 #[.val (.ref o1), .val (.ref o2)] [(.int (lcmpW q3 q5))])) _
      refine XS.ifYes X4.here hx rfl (pc0 := 19) (pc' := 41) rfl (hb hby d1_19) rfl ((if0 _ _).trans (feq (fun q => hc6 ((lw_eq _ _).mp q))).2) (by decide) (by decide) ?_
      show Steps p.tables e below (T4.setTop (mkF m 41 #[.val (.ref o1), .val (.ref o2)] [])) _
      refine XS.iconst X4.here hx rfl (hb hby d1_41) ?_
      show Steps p.tables e below (T4.setTop (mkF m 42 #[.val (.ref o1), .val (.ref o2)] [(.int (0 : Int32))])) _
      exact retN X4 hx (t := .boolean) hret (by simp) (hb hby d1_42) hr
    ·
      show Q2 Z o1 o2 q3 q4 q5 q6 h0 n0 _ T4.heap _
      rw [e4]
      exact (Or.inr (Or.inr ⟨hc6, rfl, N0, rfl⟩))
theorem pd1 : parseMethodDescriptor "(Ljava/lang/Object;)Z" = some ⟨[(.object "java/lang/Object")], some .boolean⟩ := by decide +kernel
theorem ef3 (m : MethodId) (x0 : Addr) : entryFrame m #[(.ref x0), .null] 2 = mkF m 0 #[.val (.ref x0), .val .null] [] := by first | (simp [entryFrame, mkF, argsToLocals, Value.category]; done) | rfl
def Q3 (Z : State) (o1 : Addr) (h0 : Heap) (n0 : Nat) (v : Option Value) (h : Heap) (L : List Loc) : Prop :=
  (v = some (.int (0 : Int32)) ∧ Fr n0 L ∧ h = h0)
set_option maxRecDepth 65536 in
set_option maxHeartbeats 40000000 in
theorem rm3 (l : Launch) (Z : State) (a0 : Array Value) (hw : ∀ d ∈ tables_1, d.before a0 Z = true) (ws : List Jvm.Cond) (o1 : Addr) (h0 : Heap) (n0 : Nat) (O0 : Old Z n0 h0) (g_o1 : n0 ≤ o1) :
    MetFree l (⟨"com/example/sablegrid/sablegrid/model/WriteOutcome", "equals", "(Ljava/lang/Object;)Z"⟩ : MethodName) (head1 (Jvm.Cond.code (⟨"com/example/sablegrid/sablegrid/model/WriteOutcome", "equals", "(Ljava/lang/Object;)Z"⟩ : MethodName) prog_22_method_4_code 2 (some .boolean) :: ws) ({ frames := 0, cells := 0, slots := 0, locals := 0 } : Room)) (fun a U => a = #[(.ref o1), .null] ∧ Z.Warmed39 U.vm ∧ U.heap = h0) (fun _ _ _ _ _ => True) (fun _ U o U' => ∃ v L, o = .returned v ∧ Q3 Z o1 h0 n0 v U'.heap L ∧ FrameEnd U o U' L ({ frames := 0, cells := 0, slots := 0, locals := 0 } : Room).cells ({ frames := 0, cells := 0, slots := 0, locals := 0 } : Room).slots) := by
  refine MetFree.of_bodySF (plainFor_of_name pn0) hisR ?_
  intro p e s m args below meth c s₁ Bd hml0 hP hK
  obtain ⟨rfl, hZ, hh⟩ := hP
  have hx := Bd.exec
  have hby := Bd.bytes
  have hml : c.maxLocals = 2 := hml0
  have hown : s.vm.findClass "com/example/sablegrid/sablegrid/model/WriteOutcome" = some m.cls := findClass_of_methodNamed Bd.named
  have hnm := (name_of_methodNamed Bd.named Bd.method).1
  have hret := Bd.returns
  have hlk : meth.locks = false := BodyLoose.notSynchronized Bd
  have X0 : Stand p l e ({ frames := 0, cells := 0, slots := 0, locals := 0 } : Room) s m #[(.ref o1), .null] below meth c s₁ [] 0 0 := Stand.of_body Bd
  have e0 : s₁.heap = h0 := by rw [← hh, Bd.state]; rfl
  have N0 := Fr.nil n0
  have pre0 : ∀ t, Steps p.tables e below (s₁.setTop (mkF m 0 #[.val (.ref o1), .val .null] [])) t → Steps p.tables e below (s₁.setTop (entryFrame m #[(.ref o1), .null] 2)) t := fun t k => castTop (ef3 m o1) k
  obtain ⟨fs, hr, hrun, hended, hW, hsame⟩ := X0.leave (v := some (.int (0 : Int32))) (fun h => by rw [hret] at h; cases h)
  refine ⟨_, _, pre0 _ ?_, hrun, hended, _, _, rfl, ?_, ⟨_, rfl⟩, hW, hsame.mono (by decide) (by decide)⟩
  ·
    show Steps p.tables e below (s₁.setTop (mkF m 0 #[.val (.ref o1), .val .null] [])) _
    refine XS.aloadN X0.here hx rfl (hb hby d1_0) rfl rfl ?_
    show Steps p.tables e below (s₁.setTop (mkF m 1 #[.val (.ref o1), .val .null] [.null])) _
    refine X0.instanceofNull hx (g := (mkF m 1 #[.val (.ref o1), .val .null] [.null])) rfl rfl (hb hby d1_1) _ ?_
    show Steps p.tables e below (s₁.setTop (mkF m 4 #[.val (.ref o1), .val .null] [(.int (0 : Int32))])) _
    refine XS.ifYes X0.here hx rfl (pc0 := 4) (pc' := 41) rfl (hb hby d1_4) rfl ((if0 _ _).trans (teq (by decide : (0 : Int32) = (0 : Int32))).1) (by decide) (by decide) ?_
    show Steps p.tables e below (s₁.setTop (mkF m 41 #[.val (.ref o1), .val .null] [])) _
    refine XS.iconst X0.here hx rfl (hb hby d1_41) ?_
    show Steps p.tables e below (s₁.setTop (mkF m 42 #[.val (.ref o1), .val .null] [(.int (0 : Int32))])) _
    exact retN X0 hx (t := .boolean) hret (by simp) (hb hby d1_42) hr
  ·
    show Q3 Z o1 h0 n0 _ s₁.heap _
    rw [e0]
    exact ⟨rfl, N0, rfl⟩
theorem d2_0 : decode jdk_35_method_24_code 0 = .ok (.sipush 128, 3) := by decide +kernel
theorem d2_3 : decode jdk_35_method_24_code 3 = .ok (.istore_n 2, 1) := by decide +kernel
theorem d2_4 : decode jdk_35_method_24_code 4 = .ok (.lload_n 0, 1) := by decide +kernel
theorem d2_5 : decode jdk_35_method_24_code 5 = .ok (.ldc2_w 230, 3) := by decide +kernel
theorem d2_8 : decode jdk_35_method_24_code 8 = .ok (.lcmp, 1) := by decide +kernel
theorem d2_9 : decode jdk_35_method_24_code 9 = .ok (.ifCond .lt 22, 3) := by decide +kernel
theorem d2_31 : decode jdk_35_method_24_code 31 = .ok (.new 1, 3) := by decide +kernel
theorem d2_34 : decode jdk_35_method_24_code 34 = .ok (.dup, 1) := by decide +kernel
theorem d2_35 : decode jdk_35_method_24_code 35 = .ok (.lload_n 0, 1) := by decide +kernel
theorem d2_36 : decode jdk_35_method_24_code 36 = .ok (.invokespecial 240, 3) := by decide +kernel
theorem d3_0 : decode jdk_35_method_26_code 0 = .ok (.aload_n 0, 1) := by decide +kernel
theorem d3_1 : decode jdk_35_method_26_code 1 = .ok (.invokespecial 270, 3) := by decide +kernel
theorem d4_0 : decode jdk_18_method_1_code 0 = .ok (.aload_n 0, 1) := by decide +kernel
theorem d4_1 : decode jdk_18_method_1_code 1 = .ok (.invokespecial 1, 3) := by decide +kernel
theorem d4_4 : decode jdk_18_method_1_code 4 = .ok (.return_, 1) := by decide +kernel
theorem pn1 : plainName "java/lang/Number" = true := by first | (simp [plainName, overriddenIn]; done) | decide +kernel
theorem ef4 (m : MethodId) (x0 : Addr) : entryFrame m #[(.ref x0)] 1 = mkF m 0 #[.val (.ref x0)] [] := by first | (simp [entryFrame, mkF, argsToLocals, Value.category]; done) | rfl
def Q4 (Z : State) (o1 : Addr) (h0 : Heap) (n0 : Nat) (v : Option Value) (h : Heap) (L : List Loc) : Prop :=
  (v = none ∧ Fr n0 L ∧ h = h0)
set_option maxRecDepth 65536 in
set_option maxHeartbeats 40000000 in
theorem rm4 (l : Launch) (Z : State) (a0 : Array Value) (hw : ∀ d ∈ tables_1, d.before a0 Z = true) (ws : List Jvm.Cond) (o1 : Addr) (h0 : Heap) (n0 : Nat) (O0 : Old Z n0 h0) (g_o1 : n0 ≤ o1) :
    MetFree l (⟨"java/lang/Number", "<init>", "()V"⟩ : MethodName) (head1 (Jvm.Cond.code (⟨"java/lang/Number", "<init>", "()V"⟩ : MethodName) jdk_18_method_1_code 1 none :: ws) ({ frames := 1, cells := 0, slots := 0, locals := 12 } : Room)) (fun a U => a = #[(.ref o1)] ∧ Z.Warmed39 U.vm ∧ U.heap = h0) (fun _ _ _ _ _ => True) (fun _ U o U' => ∃ v L, o = .returned v ∧ Q4 Z o1 h0 n0 v U'.heap L ∧ FrameEnd U o U' L ({ frames := 1, cells := 0, slots := 0, locals := 12 } : Room).cells ({ frames := 1, cells := 0, slots := 0, locals := 12 } : Room).slots) := by
  refine MetFree.of_bodySF (plainFor_of_name pn1) hisR ?_
  intro p e s m args below meth c s₁ Bd hml0 hP hK
  obtain ⟨rfl, hZ, hh⟩ := hP
  have hx := Bd.exec
  have hby := Bd.bytes
  have hml : c.maxLocals = 1 := hml0
  have hown : s.vm.findClass "java/lang/Number" = some m.cls := findClass_of_methodNamed Bd.named
  have hnm := (name_of_methodNamed Bd.named Bd.method).1
  have hret := Bd.returns
  have hlk : meth.locks = false := BodyLoose.notSynchronized Bd
  have X0 : Stand p l e ({ frames := 1, cells := 0, slots := 0, locals := 12 } : Room) s m #[(.ref o1)] below meth c s₁ [] 0 0 := Stand.of_body Bd
  have e0 : s₁.heap = h0 := by rw [← hh, Bd.state]; rfl
  have N0 := Fr.nil n0
  have pre0 : ∀ t, Steps p.tables e below (s₁.setTop (mkF m 0 #[.val (.ref o1)] [])) t → Steps p.tables e below (s₁.setTop (entryFrame m #[(.ref o1)] 1)) t := fun t k => castTop (ef4 m o1) k
  obtain ⟨T1, X1, e1, st1⟩ := initO X0 hx hZ hown (hw _ (List.mem_of_getElem? (i := 37) rfl)) (hw _ (List.mem_of_getElem? (i := 7) rfl)) (hw _ (List.mem_of_getElem? (i := 8) rfl)) e0 (g := (mkF m 1 #[.val (.ref o1)] [(.ref o1)])) rfl (by rw [hml]; rfl) rfl (hb hby d4_1) (by decide) (W := 0) (by show 2 * 0 + _ ≤ _; exact Nat.le_of_eq rfl) (by decide)
  obtain ⟨fs, hr, hrun, hended, hW, hsame⟩ := X1.leave (v := none) (fun _ => rfl)
  refine ⟨_, _, pre0 _ ?_, hrun, hended, _, _, rfl, ?_, ⟨_, rfl⟩, hW, hsame.mono (by decide) (by decide)⟩
  ·
    show Steps p.tables e below (s₁.setTop (mkF m 0 #[.val (.ref o1)] [])) _
    refine XS.aloadN X0.here hx rfl (hb hby d4_0) rfl rfl ?_
    show Steps p.tables e below (s₁.setTop (mkF m 1 #[.val (.ref o1)] [(.ref o1)])) _
    refine st1 _ ?_
    show Steps p.tables e below (T1.setTop (mkF m 4 #[.val (.ref o1)] [])) _
    exact X1.returnOut hx hret (hb hby d4_4) hr
  ·
    show Q4 Z o1 h0 n0 _ T1.heap _
    rw [e1]
    exact ⟨rfl, N0, rfl⟩
theorem pd2 : parseMethodDescriptor "()V" = some ⟨[], none⟩ := by decide +kernel
theorem d3_4 : decode jdk_35_method_26_code 4 = .ok (.aload_n 0, 1) := by decide +kernel
theorem d3_5 : decode jdk_35_method_26_code 5 = .ok (.lload_n 1, 1) := by decide +kernel
theorem d3_6 : decode jdk_35_method_26_code 6 = .ok (.putfield 273, 3) := by decide +kernel
theorem d3_9 : decode jdk_35_method_26_code 9 = .ok (.return_, 1) := by decide +kernel
theorem pn2 : plainName "java/lang/Long" = true := by first | (simp [plainName, overriddenIn]; done) | decide +kernel
theorem ef5 (m : MethodId) (x0 : Addr) (x1 : Int64) : entryFrame m #[(.ref x0), (.long x1)] 3 = mkF m 0 #[.val (.ref x0), .val (.long x1), .second] [] := by first | (simp [entryFrame, mkF, argsToLocals, Value.category]; done) | rfl
def Q5 (Z : State) (o1 : Addr) (q2 : Int64) (h0 : Heap) (n0 : Nat) (v : Option Value) (h : Heap) (L : List Loc) : Prop :=
  (v = none ∧ Fr n0 L ∧ Keep h0 h [o1] ∧ (Exa Z h o1 "java/lang/Long") ∧ (Fld Z h o1 "java/lang/Long" "value" "J" (.long q2)))
set_option maxRecDepth 65536 in
set_option maxHeartbeats 40000000 in
theorem rm5 (l : Launch) (Z : State) (a0 : Array Value) (hw : ∀ d ∈ tables_1, d.before a0 Z = true) (ws : List Jvm.Cond) (o1 : Addr) (q2 : Int64) (h0 : Heap) (n0 : Nat) (O0 : Old Z n0 h0) (g_o1 : n0 ≤ o1) (P0 : Exa Z h0 o1 "java/lang/Long") (P1 : Fld Z h0 o1 "java/lang/Long" "value" "J" (.long (0 : Int64))) :
    MetFree l (⟨"java/lang/Long", "<init>", "(J)V"⟩ : MethodName) (head1 (Jvm.Cond.code (⟨"java/lang/Long", "<init>", "(J)V"⟩ : MethodName) jdk_35_method_26_code 3 none :: ws) ({ frames := 2, cells := 0, slots := 0, locals := 24 } : Room)) (fun a U => a = #[(.ref o1), (.long q2)] ∧ Z.Warmed39 U.vm ∧ U.heap = h0) (fun _ _ _ _ _ => True) (fun _ U o U' => ∃ v L, o = .returned v ∧ Q5 Z o1 q2 h0 n0 v U'.heap L ∧ FrameEnd U o U' L ({ frames := 2, cells := 0, slots := 0, locals := 24 } : Room).cells ({ frames := 2, cells := 0, slots := 0, locals := 24 } : Room).slots) := by
  refine MetFree.of_bodySF (plainFor_of_name pn2) hisR ?_
  intro p e s m args below meth c s₁ Bd hml0 hP hK
  obtain ⟨rfl, hZ, hh⟩ := hP
  have hx := Bd.exec
  have hby := Bd.bytes
  have hml : c.maxLocals = 3 := hml0
  have hown : s.vm.findClass "java/lang/Long" = some m.cls := findClass_of_methodNamed Bd.named
  have hnm := (name_of_methodNamed Bd.named Bd.method).1
  have hret := Bd.returns
  have hlk : meth.locks = false := BodyLoose.notSynchronized Bd
  have X0 : Stand p l e ({ frames := 2, cells := 0, slots := 0, locals := 24 } : Room) s m #[(.ref o1), (.long q2)] below meth c s₁ [] 0 0 := Stand.of_body Bd
  have e0 : s₁.heap = h0 := by rw [← hh, Bd.state]; rfl
  have N0 := Fr.nil n0
  have pre0 : ∀ t, Steps p.tables e below (s₁.setTop (mkF m 0 #[.val (.ref o1), .val (.long q2), .second] [])) t → Steps p.tables e below (s₁.setTop (entryFrame m #[(.ref o1), (.long q2)] 3)) t := fun t k => castTop (ef5 m o1 q2) k
  obtain ⟨_, _, ⟨T1, L1, c1, n1⟩, -, X1, ⟨Lc1, hQ1, l1, y1, z1⟩, st1⟩ := X0.specialBack hx (y := (⟨"java/lang/Number", "<init>", "()V"⟩ : MethodName)) rfl hown (mvT hZ (hw _ (List.mem_of_getElem? (i := 31) rfl))) (mvT hZ (hw _ (List.mem_of_getElem? (i := 32) rfl))) (mvT hZ (hw _ (List.mem_of_getElem? (i := 36) rfl))) (by decide) (backOf (W := 0) (rm4 l Z a0 hw [] o1 h0 n0 O0 g_o1) hZ (hw _ (List.mem_of_getElem? (i := 36) rfl)) (hw _ (List.mem_of_getElem? (i := 35) rfl)) (by decide) (by decide)) (g := (mkF m 1 #[.val (.ref o1), .val (.long q2), .second] [(.ref o1)])) rfl (by rw [hml]; rfl) (Steps.refl _) (a := o1) (argsL := []) (rest := []) (lenOf pd2 rfl) rfl (by show 2 * 0 + _ ≤ _; exact Nat.le_of_eq rfl) (hb hby d3_1) (fun _ _ => ⟨rfl, e0, (by decide : 0 + 0 ≤ _), (by decide : 0 + 0 ≤ _)⟩)
  dsimp only [Pt.U, Pt.locs, Pt.cells, Pt.slots] at X1 l1 y1 z1 st1 hQ1
  subst l1 y1 z1
  have X1 : Stand p l e ({ frames := 2, cells := 0, slots := 0, locals := 24 } : Room) s m #[(.ref o1), (.long q2)] below meth c T1 _ 0 0 := X1
  obtain ⟨rfl, Nq2, e3⟩ := hQ1
  have N1 := Fr.app N0 Nq2
  obtain ⟨T4, h4, X4, e4, W4, st4⟩ := putF X1 hx hZ hown (host := "") (Or.inl (hw _ (List.mem_of_getElem? (i := 38) rfl))) Via.refl e3 P1 P0 (Or.inr ⟨(hw _ (List.mem_of_getElem? (i := 39) rfl)), rfl, hnm⟩) (hw _ (List.mem_of_getElem? (i := 26) rfl)) (ty := .long) (by decide) rfl rfl (g := (mkF m 6 #[.val (.ref o1), .val (.long q2), .second] [(.long q2), (.ref o1)])) rfl rfl (hb hby d3_6)
  have N4 := Fr.snoc X4 N1 g_o1
  have Fw4 := P1.same W4
  have M4 : h0.size ≤ h4.size := Nat.le_trans (Nat.le_refl _) (Nat.le_of_eq W4.size.symm)
  have O4 := Old.wr O0 W4 g_o1
  obtain ⟨fs, hr, hrun, hended, hW, hsame⟩ := X4.leave (v := none) (fun _ => rfl)
  have KL : Keep h0 h4 [o1] := ((Keep.refl h0 [o1]).wr W4 (Or.inl (List.mem_of_getElem? (i := 0) rfl)))
  have f5 := (P0.wr W4)
  refine ⟨_, _, pre0 _ ?_, hrun, hended, _, _, rfl, ?_, ⟨_, rfl⟩, hW, hsame.mono (by decide) (by decide)⟩
  ·
    show Steps p.tables e below (s₁.setTop (mkF m 0 #[.val (.ref o1), .val (.long q2), .second] [])) _
    refine XS.aloadN X0.here hx rfl (hb hby d3_0) rfl rfl ?_
    show Steps p.tables e below (s₁.setTop (mkF m 1 #[.val (.ref o1), .val (.long q2), .second] [(.ref o1)])) _
    refine st1.trans ?_
    show Steps p.tables e below (T1.setTop (mkF m 4 #[.val (.ref o1), .val (.long q2), .second] [])) _
    refine XS.aloadN X1.here hx rfl (hb hby d3_4) rfl rfl ?_
    show Steps p.tables e below (T1.setTop (mkF m 5 #[.val (.ref o1), .val (.long q2), .second] [(.ref o1)])) _
    refine XS.lloadN X1.here hx rfl (hb hby d3_5) rfl ?_
    show Steps p.tables e below (T1.setTop (mkF m 6 #[.val (.ref o1), .val (.long q2), .second] [(.long q2), (.ref o1)])) _
    refine st4 _ ?_
    show Steps p.tables e below (T4.setTop (mkF m 9 #[.val (.ref o1), .val (.long q2), .second] [])) _
    exact X4.returnOut hx hret (hb hby d3_9) hr
  ·
    show Q5 Z o1 q2 h0 n0 _ T4.heap _
    rw [e4]
    exact ⟨rfl, N4, KL, f5, Fw4⟩
theorem pd3 : parseMethodDescriptor "(J)V" = some ⟨[.long], none⟩ := by decide +kernel
theorem d2_39 : decode jdk_35_method_24_code 39 = .ok (.areturn, 1) := by decide +kernel
theorem d2_12 : decode jdk_35_method_24_code 12 = .ok (.lload_n 0, 1) := by decide +kernel
theorem d2_13 : decode jdk_35_method_24_code 13 = .ok (.ldc2_w 232, 3) := by decide +kernel
theorem d2_16 : decode jdk_35_method_24_code 16 = .ok (.lcmp, 1) := by decide +kernel
theorem d2_17 : decode jdk_35_method_24_code 17 = .ok (.ifCond .gt 14, 3) := by decide +kernel
theorem d2_20 : decode jdk_35_method_24_code 20 = .ok (.getstatic 234, 3) := by decide +kernel
theorem d2_23 : decode jdk_35_method_24_code 23 = .ok (.lload_n 0, 1) := by decide +kernel
theorem d2_24 : decode jdk_35_method_24_code 24 = .ok (.l2i, 1) := by decide +kernel
theorem d2_25 : decode jdk_35_method_24_code 25 = .ok (.sipush 128, 3) := by decide +kernel
theorem d2_28 : decode jdk_35_method_24_code 28 = .ok (.iadd, 1) := by decide +kernel
theorem d2_29 : decode jdk_35_method_24_code 29 = .ok (.aaload, 1) := by decide +kernel
theorem d2_30 : decode jdk_35_method_24_code 30 = .ok (.areturn, 1) := by decide +kernel
theorem ef6 (m : MethodId) (x0 : Int64) : entryFrame m #[(.long x0)] 3 = mkF m 0 #[.val (.long x0), .second, .unset] [] := by first | (simp [entryFrame, mkF, argsToLocals, Value.category]; done) | rfl
def Q6 (Z : State) (w1 : Addr) (cw1 : Cell) (q1 : Int64) (h0 : Heap) (n0 : Nat) (v : Option Value) (h : Heap) (L : List Loc) : Prop :=
  (∃ b3 : Addr, (q1 < (-128 : Int64)) ∧ v = some (.ref b3) ∧ Fr n0 L ∧ Keep h0 h [] ∧ h0.size ≤ b3 ∧ (Exa Z h b3 "java/lang/Long") ∧ (Fld Z h b3 "java/lang/Long" "value" "J" (.long q1)))
  ∨ (∃ b11 : Addr, (¬ (q1 < (-128 : Int64))) ∧ ((127 : Int64) < q1) ∧ v = some (.ref b11) ∧ Fr n0 L ∧ Keep h0 h [] ∧ h0.size ≤ b11 ∧ (Exa Z h b11 "java/lang/Long") ∧ (Fld Z h b11 "java/lang/Long" "value" "J" (.long q1)))
  ∨ (∃ v18 : Addr, (¬ (q1 < (-128 : Int64))) ∧ (¬ ((127 : Int64) < q1)) ∧ v = some (.ref v18) ∧ Fr n0 L ∧ h = h0 ∧ (Exa Z Z.heap v18 "java/lang/Long"))
set_option maxRecDepth 65536 in
set_option maxHeartbeats 40000000 in
theorem rm6 (l : Launch) (Z : State) (a0 : Array Value) (hw : ∀ d ∈ tables_1, d.before a0 Z = true) (w1 : Addr) (cw1 : Cell) (G : GW Z w1 cw1) (ws : List Jvm.Cond) (q1 : Int64) (h0 : Heap) (n0 : Nat) (O0 : Old Z n0 h0) :
    MetFree l (⟨"java/lang/Long", "valueOf", "(J)Ljava/lang/Long;"⟩ : MethodName) (head1 (Jvm.Cond.code (⟨"java/lang/Long", "valueOf", "(J)Ljava/lang/Long;"⟩ : MethodName) jdk_35_method_24_code 3 (some (.object "java/lang/Long")) :: ws) ({ frames := 3, cells := 1, slots := 1, locals := 39 } : Room)) (fun a U => a = #[(.long q1)] ∧ Z.Warmed39 U.vm ∧ U.heap = h0) (fun _ _ _ _ _ => True) (fun _ U o U' => ∃ v L, o = .returned v ∧ Q6 Z w1 cw1 q1 h0 n0 v U'.heap L ∧ FrameEnd U o U' L ({ frames := 3, cells := 1, slots := 1, locals := 39 } : Room).cells ({ frames := 3, cells := 1, slots := 1, locals := 39 } : Room).slots) := by
  obtain ⟨S_w1, E_w1, B_w1⟩ := id G
  refine MetFree.of_bodySF (plainFor_of_name pn2) hisR ?_
  intro p e s m args below meth c s₁ Bd hml0 hP hK
  obtain ⟨rfl, hZ, hh⟩ := hP
  have hx := Bd.exec
  have hby := Bd.bytes
  have hml : c.maxLocals = 3 := hml0
  have hown : s.vm.findClass "java/lang/Long" = some m.cls := findClass_of_methodNamed Bd.named
  have hnm := (name_of_methodNamed Bd.named Bd.method).1
  have hret := Bd.returns
  have hlk : meth.locks = false := BodyLoose.notSynchronized Bd
  have X0 : Stand p l e ({ frames := 3, cells := 1, slots := 1, locals := 39 } : Room) s m #[(.long q1)] below meth c s₁ [] 0 0 := Stand.of_body Bd
  have e0 : s₁.heap = h0 := by rw [← hh, Bd.state]; rfl
  have N0 := Fr.nil n0
  have pre0 : ∀ t, Steps p.tables e below (s₁.setTop (mkF m 0 #[.val (.long q1), .second, .unset] [])) t → Steps p.tables e below (s₁.setTop (entryFrame m #[(.long q1)] 3)) t := fun t k => castTop (ef6 m q1) k
  have pre1 : ∀ t, Steps p.tables e below (s₁.setTop (mkF m 9 #[.val (.long q1), .second, .val (.int (128 : Int32))] [(.int (lcmpW q1 (-128 : Int64)))])) t → Steps p.tables e below (s₁.setTop (entryFrame m #[(.long q1)] 3)) t := fun t k => by
    refine pre0 _ ?_
    show Steps p.tables e below (s₁.setTop (mkF m 0 #[.val (.long q1), .second, .unset] [])) _
    refine XS.sipush X0.here hx rfl (hb hby d2_0) ?_
    show Steps p.tables e below (s₁.setTop (mkF m 3 #[.val (.long q1), .second, .unset] [(.int (128 : Int32))])) _
    refine XS.istoreN X0.here hx rfl (hb hby d2_3) rfl (l' := #[.val (.long q1), .second, .val (.int (128 : Int32))]) rfl ?_
    show Steps p.tables e below (s₁.setTop (mkF m 4 #[.val (.long q1), .second, .val (.int (128 : Int32))] [])) _
    refine XS.lloadN X0.here hx rfl (hb hby d2_4) rfl ?_
    show Steps p.tables e below (s₁.setTop (mkF m 5 #[.val (.long q1), .second, .val (.int (128 : Int32))] [(.long q1)])) _
    refine X0.ldc2Long hx hown (mvT hZ (hw _ (List.mem_of_getElem? (i := 24) rfl))) (g := (mkF m 5 #[.val (.long q1), .second, .val (.int (128 : Int32))] [(.long q1)])) rfl (hb hby d2_5) _ ?_
    show Steps p.tables e below (s₁.setTop (mkF m 8 #[.val (.long q1), .second, .val (.int (128 : Int32))] [(.long (-128 : Int64)), (.long q1)])) _
    refine XS.lcmp X0.here hx rfl (hb hby d2_8) rfl ?_
    exact k
  by_cases hc2 : q1 < (-128 : Int64)
  ·
    obtain ⟨T3, h3, X3, e3, E3, A3, D3, -, st3⟩ := newO X0 hx hZ hown (hw _ (List.mem_of_getElem? (i := 25) rfl)) (hw _ (List.mem_of_getElem? (i := 26) rfl)) (hw _ (List.mem_of_getElem? (i := 22) rfl)) e0 (g := (mkF m 31 #[.val (.long q1), .second, .val (.int (128 : Int32))] [])) rfl (hb hby d2_31) (by decide) (by decide)
    obtain ⟨b3, g3⟩ : ∃ z, z = h0.size := ⟨_, rfl⟩
    rw [← g3] at A3 D3 st3
    have M3 : h0.size ≤ h3.size := Nat.le_trans (Nat.le_refl _) E3.1
    have O3 := Old.ext O0 E3
    have sz_b3 : h0.size ≤ b3 := Nat.le_of_eq g3.symm
    have g_b3 : n0 ≤ b3 := Nat.le_trans (own_oz O0) (Nat.le_trans (Nat.le_refl _) sz_b3)
    have F3_39 : Fld Z h3 b3 "java/lang/Long" "value" "J" (.long (0 : Int64)) := D3 (Or.inr (hw _ (List.mem_of_getElem? (i := 39) rfl))) (ty := .long) (by decide)
    obtain ⟨_, _, ⟨T4, L4, c4, n4⟩, -, X4, ⟨Lc4, hQ4, l4, y4, z4⟩, st4⟩ := X3.specialBack hx (y := (⟨"java/lang/Long", "<init>", "(J)V"⟩ : MethodName)) rfl hown (mvT hZ (hw _ (List.mem_of_getElem? (i := 27) rfl))) (mvT hZ (hw _ (List.mem_of_getElem? (i := 28) rfl))) (mvT hZ (hw _ (List.mem_of_getElem? (i := 30) rfl))) (by decide) (backOf (W := 1) (rm5 l Z a0 hw [] b3 q1 h3 n0 O3 g_b3 A3 F3_39) hZ (hw _ (List.mem_of_getElem? (i := 30) rfl)) (hw _ (List.mem_of_getElem? (i := 22) rfl)) (by decide) (by decide)) (g := (mkF m 36 #[.val (.long q1), .second, .val (.int (128 : Int32))] [(.long q1), (.ref b3), (.ref b3)])) rfl (by rw [hml]; rfl) (Steps.refl _) (a := b3) (argsL := [(.long q1)]) (rest := [(.ref b3)]) (lenOf pd3 rfl) rfl (by show 2 * 0 + _ ≤ _; exact Nat.le_of_eq rfl) (hb hby d2_36) (fun _ _ => ⟨rfl, e3, (by decide : 1 + 0 ≤ _), (by decide : 1 + 0 ≤ _)⟩)
    dsimp only [Pt.U, Pt.locs, Pt.cells, Pt.slots] at X4 l4 y4 z4 st4 hQ4
    subst l4 y4 z4
    have X4 : Stand p l e ({ frames := 3, cells := 1, slots := 1, locals := 39 } : Room) s m #[(.long q1)] below meth c T4 _ 1 1 := X4
    obtain ⟨rfl, Nq5, K6, f7, f8⟩ := hQ4
    have N4 := Fr.app N0 Nq5
    have M4 : h0.size ≤ T4.heap.size := Nat.le_trans M3 K6.1
    have O4 := Old.keep O3 K6 (allS g_b3 all0)
    obtain ⟨fs, hr, hrun, hended, hW, hsame⟩ := X4.leave (v := some (.ref b3)) (fun h => by rw [hret] at h; cases h)
    have KL : Keep h0 T4.heap [] := (((Keep.refl h0 []).ext E3).trans K6 (allS (Or.inr (Nat.le_trans (Nat.le_refl _) sz_b3)) all0))
    refine ⟨_, _, pre1 _ ?_, hrun, hended, _, _, rfl, ?_, ⟨_, rfl⟩, hW, hsame.mono (by decide) (by decide)⟩
    ·
      show Steps p.tables e below (s₁.setTop (mkF m 9 #[.val (.long q1), .second, .val (.int (128 : Int32))] [(.int (lcmpW q1 (-128 : Int64)))])) _
      refine XS.ifYes X0.here hx rfl (pc0 := 9) (pc' := 31) rfl (hb hby d2_9) rfl ((if0 _ _).trans (tlt ((lw_lt _ _).mpr hc2)).1) (by decide) (by decide) ?_
      show Steps p.tables e below (s₁.setTop (mkF m 31 #[.val (.long q1), .second, .val (.int (128 : Int32))] [])) _
      refine st3 _ ?_
      show Steps p.tables e below (T3.setTop (mkF m 34 #[.val (.long q1), .second, .val (.int (128 : Int32))] [(.ref b3)])) _
      refine XS.dup X3.here hx rfl (hb hby d2_34) rfl rfl ?_
      show Steps p.tables e below (T3.setTop (mkF m 35 #[.val (.long q1), .second, .val (.int (128 : Int32))] [(.ref b3), (.ref b3)])) _
      refine XS.lloadN X3.here hx rfl (hb hby d2_35) rfl ?_
      show Steps p.tables e below (T3.setTop (mkF m 36 #[.val (.long q1), .second, .val (.int (128 : Int32))] [(.long q1), (.ref b3), (.ref b3)])) _
      refine st4.trans ?_
      show Steps p.tables e below (T4.setTop (mkF m 39 #[.val (.long q1), .second, .val (.int (128 : Int32))] [(.ref b3)])) _
      exact retOut X4 hx hret rfl (Or.inr (Or.inr (Or.inr (Or.inr ⟨rfl, rfl, rfl⟩)))) (hb hby d2_39) hr
    ·
      show Q6 Z w1 cw1 q1 h0 n0 _ T4.heap _
      exact (Or.inl ⟨b3, hc2, rfl, N4, KL, (Nat.le_trans (Nat.le_refl _) sz_b3), f7, f8⟩)
  ·
    have pre9 : ∀ t, Steps p.tables e below (s₁.setTop (mkF m 17 #[.val (.long q1), .second, .val (.int (128 : Int32))] [(.int (lcmpW q1 (127 : Int64)))])) t → Steps p.tables e below (s₁.setTop (entryFrame m #[(.long q1)] 3)) t := fun t k => by
      refine pre1 _ ?_
      show Steps p.tables e below (s₁.setTop (mkF m 9 #[.val (.long q1), .second, .val (.int (128 : Int32))] [(.int (lcmpW q1 (-128 : Int64)))])) _
      refine XS.ifNo X0.here hx rfl (hb hby d2_9) rfl ((if0 _ _).trans (flt (fun q => hc2 ((lw_lt _ _).mp q))).1) ?_
      show Steps p.tables e below (s₁.setTop (mkF m 12 #[.val (.long q1), .second, .val (.int (128 : Int32))] [])) _
      refine XS.lloadN X0.here hx rfl (hb hby d2_12) rfl ?_
      show Steps p.tables e below (s₁.setTop (mkF m 13 #[.val (.long q1), .second, .val (.int (128 : Int32))] [(.long q1)])) _
      refine X0.ldc2Long hx hown (mvT hZ (hw _ (List.mem_of_getElem? (i := 43) rfl))) (g := (mkF m 13 #[.val (.long q1), .second, .val (.int (128 : Int32))] [(.long q1)])) rfl (hb hby d2_13) _ ?_
      show Steps p.tables e below (s₁.setTop (mkF m 16 #[.val (.long q1), .second, .val (.int (128 : Int32))] [(.long (127 : Int64)), (.long q1)])) _
      refine XS.lcmp X0.here hx rfl (hb hby d2_16) rfl ?_
      exact k
    by_cases hc10 : (127 : Int64) < q1
    ·
      obtain ⟨T11, h11, X11, e11, E11, A11, D11, -, st11⟩ := newO X0 hx hZ hown (hw _ (List.mem_of_getElem? (i := 25) rfl)) (hw _ (List.mem_of_getElem? (i := 26) rfl)) (hw _ (List.mem_of_getElem? (i := 22) rfl)) e0 (g := (mkF m 31 #[.val (.long q1), .second, .val (.int (128 : Int32))] [])) rfl (hb hby d2_31) (by decide) (by decide)
      obtain ⟨b11, g11⟩ : ∃ z, z = h0.size := ⟨_, rfl⟩
      rw [← g11] at A11 D11 st11
      have M11 : h0.size ≤ h11.size := Nat.le_trans (Nat.le_refl _) E11.1
      have O11 := Old.ext O0 E11
      have sz_b11 : h0.size ≤ b11 := Nat.le_of_eq g11.symm
      have g_b11 : n0 ≤ b11 := Nat.le_trans (own_oz O0) (Nat.le_trans (Nat.le_refl _) sz_b11)
      have F11_39 : Fld Z h11 b11 "java/lang/Long" "value" "J" (.long (0 : Int64)) := D11 (Or.inr (hw _ (List.mem_of_getElem? (i := 39) rfl))) (ty := .long) (by decide)
      obtain ⟨_, _, ⟨T12, L12, c12, n12⟩, -, X12, ⟨Lc12, hQ12, l12, y12, z12⟩, st12⟩ := X11.specialBack hx (y := (⟨"java/lang/Long", "<init>", "(J)V"⟩ : MethodName)) rfl hown (mvT hZ (hw _ (List.mem_of_getElem? (i := 27) rfl))) (mvT hZ (hw _ (List.mem_of_getElem? (i := 28) rfl))) (mvT hZ (hw _ (List.mem_of_getElem? (i := 30) rfl))) (by decide) (backOf (W := 1) (rm5 l Z a0 hw [] b11 q1 h11 n0 O11 g_b11 A11 F11_39) hZ (hw _ (List.mem_of_getElem? (i := 30) rfl)) (hw _ (List.mem_of_getElem? (i := 22) rfl)) (by decide) (by decide)) (g := (mkF m 36 #[.val (.long q1), .second, .val (.int (128 : Int32))] [(.long q1), (.ref b11), (.ref b11)])) rfl (by rw [hml]; rfl) (Steps.refl _) (a := b11) (argsL := [(.long q1)]) (rest := [(.ref b11)]) (lenOf pd3 rfl) rfl (by show 2 * 0 + _ ≤ _; exact Nat.le_of_eq rfl) (hb hby d2_36) (fun _ _ => ⟨rfl, e11, (by decide : 1 + 0 ≤ _), (by decide : 1 + 0 ≤ _)⟩)
      dsimp only [Pt.U, Pt.locs, Pt.cells, Pt.slots] at X12 l12 y12 z12 st12 hQ12
      subst l12 y12 z12
      have X12 : Stand p l e ({ frames := 3, cells := 1, slots := 1, locals := 39 } : Room) s m #[(.long q1)] below meth c T12 _ 1 1 := X12
      obtain ⟨rfl, Nq13, K14, f15, f16⟩ := hQ12
      have N12 := Fr.app N0 Nq13
      have M12 : h0.size ≤ T12.heap.size := Nat.le_trans M11 K14.1
      have O12 := Old.keep O11 K14 (allS g_b11 all0)
      obtain ⟨fs, hr, hrun, hended, hW, hsame⟩ := X12.leave (v := some (.ref b11)) (fun h => by rw [hret] at h; cases h)
      have KL : Keep h0 T12.heap [] := (((Keep.refl h0 []).ext E11).trans K14 (allS (Or.inr (Nat.le_trans (Nat.le_refl _) sz_b11)) all0))
      refine ⟨_, _, pre9 _ ?_, hrun, hended, _, _, rfl, ?_, ⟨_, rfl⟩, hW, hsame.mono (by decide) (by decide)⟩
      ·
        show Steps p.tables e below (s₁.setTop (mkF m 17 #[.val (.long q1), .second, .val (.int (128 : Int32))] [(.int (lcmpW q1 (127 : Int64)))])) _
        refine XS.ifYes X0.here hx rfl (pc0 := 17) (pc' := 31) rfl (hb hby d2_17) rfl ((if0 _ _).trans (tlt ((lw_gt _ _).mpr hc10)).2.2.1) (by decide) (by decide) ?_
        show Steps p.tables e below (s₁.setTop (mkF m 31 #[.val (.long q1), .second, .val (.int (128 : Int32))] [])) _
        refine st11 _ ?_
        show Steps p.tables e below (T11.setTop (mkF m 34 #[.val (.long q1), .second, .val (.int (128 : Int32))] [(.ref b11)])) _
        refine XS.dup X11.here hx rfl (hb hby d2_34) rfl rfl ?_
        show Steps p.tables e below (T11.setTop (mkF m 35 #[.val (.long q1), .second, .val (.int (128 : Int32))] [(.ref b11), (.ref b11)])) _
        refine XS.lloadN X11.here hx rfl (hb hby d2_35) rfl ?_
        show Steps p.tables e below (T11.setTop (mkF m 36 #[.val (.long q1), .second, .val (.int (128 : Int32))] [(.long q1), (.ref b11), (.ref b11)])) _
        refine st12.trans ?_
        show Steps p.tables e below (T12.setTop (mkF m 39 #[.val (.long q1), .second, .val (.int (128 : Int32))] [(.ref b11)])) _
        exact retOut X12 hx hret rfl (Or.inr (Or.inr (Or.inr (Or.inr ⟨rfl, rfl, rfl⟩)))) (hb hby d2_39) hr
      ·
        show Q6 Z w1 cw1 q1 h0 n0 _ T12.heap _
        exact (Or.inr (Or.inl ⟨b11, hc2, hc10, rfl, N12, KL, (Nat.le_trans (Nat.le_refl _) sz_b11), f15, f16⟩))
    ·
      obtain ⟨T17, X17, e17, st17⟩ := getS2 X0 hx hZ hown (host := "") (Or.inl (hw _ (List.mem_of_getElem? (i := 44) rfl))) Via.refl e0 (S_w1.ext O0.2) (g := (mkF m 20 #[.val (.long q1), .second, .val (.int (128 : Int32))] [])) rfl (hb hby d2_20)
      obtain ⟨Ab18, Sb18, Nb18, Bb18⟩ := id B_w1
      have hin18 := inb_of Sb18 (own_cache q1 hc2 hc10)
      obtain ⟨v18, hat18, Ex18, Fv18⟩ := Bb18 ((q1.toInt32) + (128 : Int32)) hin18
      obtain ⟨fs, hr, hrun, hended, hW, hsame⟩ := X17.leave (v := some (.ref v18)) (fun h => by rw [hret] at h; cases h)
      refine ⟨_, _, pre9 _ ?_, hrun, hended, _, _, rfl, ?_, ⟨_, rfl⟩, hW, hsame.mono (by decide) (by decide)⟩
      ·
        show Steps p.tables e below (s₁.setTop (mkF m 17 #[.val (.long q1), .second, .val (.int (128 : Int32))] [(.int (lcmpW q1 (127 : Int64)))])) _
        refine XS.ifNo X0.here hx rfl (hb hby d2_17) rfl ((if0 _ _).trans (flt (fun q => hc10 ((lw_gt _ _).mp q))).2.2.1) ?_
        show Steps p.tables e below (s₁.setTop (mkF m 20 #[.val (.long q1), .second, .val (.int (128 : Int32))] [])) _
        refine st17 _ ?_
        show Steps p.tables e below (T17.setTop (mkF m 23 #[.val (.long q1), .second, .val (.int (128 : Int32))] [(.ref w1)])) _
        refine XS.lloadN X17.here hx rfl (hb hby d2_23) rfl ?_
        show Steps p.tables e below (T17.setTop (mkF m 24 #[.val (.long q1), .second, .val (.int (128 : Int32))] [(.long q1), (.ref w1)])) _
        refine XS.l2i X17.here hx rfl (hb hby d2_24) rfl ?_
        show Steps p.tables e below (T17.setTop (mkF m 25 #[.val (.long q1), .second, .val (.int (128 : Int32))] [(.int (q1.toInt32)), (.ref w1)])) _
        refine XS.sipush X17.here hx rfl (hb hby d2_25) ?_
        show Steps p.tables e below (T17.setTop (mkF m 28 #[.val (.long q1), .second, .val (.int (128 : Int32))] [(.int (128 : Int32)), (.int (q1.toInt32)), (.ref w1)])) _
        refine XS.iadd X17.here hx rfl (hb hby d2_28) rfl ?_
        show Steps p.tables e below (T17.setTop (mkF m 29 #[.val (.long q1), .second, .val (.int (128 : Int32))] [(.int ((q1.toInt32) + (128 : Int32))), (.ref w1)])) _
        refine X17.aaload hx (j := ((q1.toInt32) + (128 : Int32))) (v := .ref v18) (by rw [e17]; exact (Ab18.ext O0.2).1) (State.isArrayOf_alike hZ.alike Ab18.2.1) rfl Ab18.2.2 hin18 hat18 (g := (mkF m 29 #[.val (.long q1), .second, .val (.int (128 : Int32))] [(.int ((q1.toInt32) + (128 : Int32))), (.ref w1)])) rfl rfl (hb hby d2_29) _ ?_
        show Steps p.tables e below (T17.setTop (mkF m 30 #[.val (.long q1), .second, .val (.int (128 : Int32))] [(.ref v18)])) _
        exact retOut X17 hx hret rfl (Or.inr (Or.inr (Or.inr (Or.inr ⟨rfl, rfl, rfl⟩)))) (hb hby d2_30) hr
      ·
        show Q6 Z w1 cw1 q1 h0 n0 _ T17.heap _
        rw [e17]
        exact (Or.inr (Or.inr ⟨v18, hc2, hc10, rfl, N0, rfl, Ex18⟩))
theorem pd4 : parseMethodDescriptor "(J)Ljava/lang/Long;" = some ⟨[.long], some (.object "java/lang/Long")⟩ := by decide +kernel
theorem ef7 (m : MethodId) (x0 : Addr) (x1 : Addr) : entryFrame m #[(.ref x0), (.ref x1)] 2 = mkF m 0 #[.val (.ref x0), .val (.ref x1)] [] := by first | (simp [entryFrame, mkF, argsToLocals, Value.category]; done) | rfl
def Q7 (Z : State) (o1 : Addr) (o2 : Addr) (h0 : Heap) (n0 : Nat) (v : Option Value) (h : Heap) (L : List Loc) : Prop :=
  (v = some (.int (0 : Int32)) ∧ Fr n0 L ∧ h = h0)
set_option maxRecDepth 65536 in
set_option maxHeartbeats 40000000 in
theorem rm7 (l : Launch) (Z : State) (a0 : Array Value) (hw : ∀ d ∈ tables_1, d.before a0 Z = true) (ws : List Jvm.Cond) (o1 : Addr) (o2 : Addr) (h0 : Heap) (n0 : Nat) (O0 : Old Z n0 h0) (g_o1 : n0 ≤ o1) (g_o2 : n0 ≤ o2) (P3 : Exa Z h0 o2 "java/lang/Long") :
    MetFree l (⟨"com/example/sablegrid/sablegrid/model/WriteOutcome", "equals", "(Ljava/lang/Object;)Z"⟩ : MethodName) (head1 (Jvm.Cond.code (⟨"com/example/sablegrid/sablegrid/model/WriteOutcome", "equals", "(Ljava/lang/Object;)Z"⟩ : MethodName) prog_22_method_4_code 2 (some .boolean) :: ws) ({ frames := 0, cells := 0, slots := 0, locals := 0 } : Room)) (fun a U => a = #[(.ref o1), (.ref o2)] ∧ Z.Warmed39 U.vm ∧ U.heap = h0) (fun _ _ _ _ _ => True) (fun _ U o U' => ∃ v L, o = .returned v ∧ Q7 Z o1 o2 h0 n0 v U'.heap L ∧ FrameEnd U o U' L ({ frames := 0, cells := 0, slots := 0, locals := 0 } : Room).cells ({ frames := 0, cells := 0, slots := 0, locals := 0 } : Room).slots) := by
  refine MetFree.of_bodySF (plainFor_of_name pn0) hisR ?_
  intro p e s m args below meth c s₁ Bd hml0 hP hK
  obtain ⟨rfl, hZ, hh⟩ := hP
  have hx := Bd.exec
  have hby := Bd.bytes
  have hml : c.maxLocals = 2 := hml0
  have hown : s.vm.findClass "com/example/sablegrid/sablegrid/model/WriteOutcome" = some m.cls := findClass_of_methodNamed Bd.named
  have hnm := (name_of_methodNamed Bd.named Bd.method).1
  have hret := Bd.returns
  have hlk : meth.locks = false := BodyLoose.notSynchronized Bd
  have X0 : Stand p l e ({ frames := 0, cells := 0, slots := 0, locals := 0 } : Room) s m #[(.ref o1), (.ref o2)] below meth c s₁ [] 0 0 := Stand.of_body Bd
  have e0 : s₁.heap = h0 := by rw [← hh, Bd.state]; rfl
  have N0 := Fr.nil n0
  have pre0 : ∀ t, Steps p.tables e below (s₁.setTop (mkF m 0 #[.val (.ref o1), .val (.ref o2)] [])) t → Steps p.tables e below (s₁.setTop (entryFrame m #[(.ref o1), (.ref o2)] 2)) t := fun t k => castTop (ef7 m o1 o2) k
  obtain ⟨T1, X1, e1, st1⟩ := instNo X0 hx hZ hown (hw _ (List.mem_of_getElem? (i := 18) rfl)) e0 P3 (own_no (hw _ (List.mem_of_getElem? (i := 40) rfl)) (hw _ (List.mem_of_getElem? (i := 1) rfl)) (NS.step (hw _ (List.mem_of_getElem? (i := 40) rfl)) (NS.step (hw _ (List.mem_of_getElem? (i := 41) rfl)) (own_root (hw _ (List.mem_of_getElem? (i := 42) rfl)) (hw _ (List.mem_of_getElem? (i := 1) rfl)) (by decide)) (by decide)) (by decide)) (by decide)) (g := (mkF m 1 #[.val (.ref o1), .val (.ref o2)] [(.ref o2)])) rfl rfl (hb hby d1_1)
  obtain ⟨fs, hr, hrun, hended, hW, hsame⟩ := X1.leave (v := some (.int (0 : Int32))) (fun h => by rw [hret] at h; cases h)
  refine ⟨_, _, pre0 _ ?_, hrun, hended, _, _, rfl, ?_, ⟨_, rfl⟩, hW, hsame.mono (by decide) (by decide)⟩
  ·
    show Steps p.tables e below (s₁.setTop (mkF m 0 #[.val (.ref o1), .val (.ref o2)] [])) _
    refine XS.aloadN X0.here hx rfl (hb hby d1_0) rfl rfl ?_
    show Steps p.tables e below (s₁.setTop (mkF m 1 #[.val (.ref o1), .val (.ref o2)] [(.ref o2)])) _
    refine st1 _ ?_
    show Steps p.tables e below (T1.setTop (mkF m 4 #[.val (.ref o1), .val (.ref o2)] [(.int (0 : Int32))])) _
    refine XS.ifYes X1.here hx rfl (pc0 := 4) (pc' := 41) rfl (hb hby d1_4) rfl ((if0 _ _).trans (teq (by decide : (0 : Int32) = (0 : Int32))).1) (by decide) (by decide) ?_
    show Steps p.tables e below (T1.setTop (mkF m 41 #[.val (.ref o1), .val (.ref o2)] [])) _
    refine XS.iconst X1.here hx rfl (hb hby d1_41) ?_
    show Steps p.tables e below (T1.setTop (mkF m 42 #[.val (.ref o1), .val (.ref o2)] [(.int (0 : Int32))])) _
    exact retN X1 hx (t := .boolean) hret (by simp) (hb hby d1_42) hr
  ·
    show Q7 Z o1 o2 h0 n0 _ T1.heap _
    rw [e1]
    exact ⟨rfl, N0, rfl⟩
theorem ef8 (m : MethodId) (x0 : Addr) (x1 : Addr) : entryFrame m #[(.ref x0), (.ref x1)] 2 = mkF m 0 #[.val (.ref x0), .val (.ref x1)] [] := by first | (simp [entryFrame, mkF, argsToLocals, Value.category]; done) | rfl
def Q8 (Z : State) (o1 : Addr) (v2 : Addr) (h0 : Heap) (n0 : Nat) (v : Option Value) (h : Heap) (L : List Loc) : Prop :=
  (v = some (.int (0 : Int32)) ∧ Fr n0 L ∧ h = h0)
set_option maxRecDepth 65536 in
set_option maxHeartbeats 40000000 in
theorem rm8 (l : Launch) (Z : State) (a0 : Array Value) (hw : ∀ d ∈ tables_1, d.before a0 Z = true) (ws : List Jvm.Cond) (o1 : Addr) (v2 : Addr) (h0 : Heap) (n0 : Nat) (O0 : Old Z n0 h0) (g_o1 : n0 ≤ o1) (P3 : Exa Z Z.heap v2 "java/lang/Long") :
    MetFree l (⟨"com/example/sablegrid/sablegrid/model/WriteOutcome", "equals", "(Ljava/lang/Object;)Z"⟩ : MethodName) (head1 (Jvm.Cond.code (⟨"com/example/sablegrid/sablegrid/model/WriteOutcome", "equals", "(Ljava/lang/Object;)Z"⟩ : MethodName) prog_22_method_4_code 2 (some .boolean) :: ws) ({ frames := 0, cells := 0, slots := 0, locals := 0 } : Room)) (fun a U => a = #[(.ref o1), (.ref v2)] ∧ Z.Warmed39 U.vm ∧ U.heap = h0) (fun _ _ _ _ _ => True) (fun _ U o U' => ∃ v L, o = .returned v ∧ Q8 Z o1 v2 h0 n0 v U'.heap L ∧ FrameEnd U o U' L ({ frames := 0, cells := 0, slots := 0, locals := 0 } : Room).cells ({ frames := 0, cells := 0, slots := 0, locals := 0 } : Room).slots) := by
  refine MetFree.of_bodySF (plainFor_of_name pn0) hisR ?_
  intro p e s m args below meth c s₁ Bd hml0 hP hK
  obtain ⟨rfl, hZ, hh⟩ := hP
  have hx := Bd.exec
  have hby := Bd.bytes
  have hml : c.maxLocals = 2 := hml0
  have hown : s.vm.findClass "com/example/sablegrid/sablegrid/model/WriteOutcome" = some m.cls := findClass_of_methodNamed Bd.named
  have hnm := (name_of_methodNamed Bd.named Bd.method).1
  have hret := Bd.returns
  have hlk : meth.locks = false := BodyLoose.notSynchronized Bd
  have X0 : Stand p l e ({ frames := 0, cells := 0, slots := 0, locals := 0 } : Room) s m #[(.ref o1), (.ref v2)] below meth c s₁ [] 0 0 := Stand.of_body Bd
  have e0 : s₁.heap = h0 := by rw [← hh, Bd.state]; rfl
  have N0 := Fr.nil n0
  have pre0 : ∀ t, Steps p.tables e below (s₁.setTop (mkF m 0 #[.val (.ref o1), .val (.ref v2)] [])) t → Steps p.tables e below (s₁.setTop (entryFrame m #[(.ref o1), (.ref v2)] 2)) t := fun t k => castTop (ef8 m o1 v2) k
  obtain ⟨T1, X1, e1, st1⟩ := instNo X0 hx hZ hown (hw _ (List.mem_of_getElem? (i := 18) rfl)) e0 (P3.ext O0.2) (own_no (hw _ (List.mem_of_getElem? (i := 40) rfl)) (hw _ (List.mem_of_getElem? (i := 1) rfl)) (NS.step (hw _ (List.mem_of_getElem? (i := 40) rfl)) (NS.step (hw _ (List.mem_of_getElem? (i := 41) rfl)) (own_root (hw _ (List.mem_of_getElem? (i := 42) rfl)) (hw _ (List.mem_of_getElem? (i := 1) rfl)) (by decide)) (by decide)) (by decide)) (by decide)) (g := (mkF m 1 #[.val (.ref o1), .val (.ref v2)] [(.ref v2)])) rfl rfl (hb hby d1_1)
  obtain ⟨fs, hr, hrun, hended, hW, hsame⟩ := X1.leave (v := some (.int (0 : Int32))) (fun h => by rw [hret] at h; cases h)
  refine ⟨_, _, pre0 _ ?_, hrun, hended, _, _, rfl, ?_, ⟨_, rfl⟩, hW, hsame.mono (by decide) (by decide)⟩
  ·
    show Steps p.tables e below (s₁.setTop (mkF m 0 #[.val (.ref o1), .val (.ref v2)] [])) _
    refine XS.aloadN X0.here hx rfl (hb hby d1_0) rfl rfl ?_
    show Steps p.tables e below (s₁.setTop (mkF m 1 #[.val (.ref o1), .val (.ref v2)] [(.ref v2)])) _
    refine st1 _ ?_
    show Steps p.tables e below (T1.setTop (mkF m 4 #[.val (.ref o1), .val (.ref v2)] [(.int (0 : Int32))])) _
    refine XS.ifYes X1.here hx rfl (pc0 := 4) (pc' := 41) rfl (hb hby d1_4) rfl ((if0 _ _).trans (teq (by decide : (0 : Int32) = (0 : Int32))).1) (by decide) (by decide) ?_
    show Steps p.tables e below (T1.setTop (mkF m 41 #[.val (.ref o1), .val (.ref v2)] [])) _
    refine XS.iconst X1.here hx rfl (hb hby d1_41) ?_
    show Steps p.tables e below (T1.setTop (mkF m 42 #[.val (.ref o1), .val (.ref v2)] [(.int (0 : Int32))])) _
    exact retN X1 hx (t := .boolean) hret (by simp) (hb hby d1_42) hr
  ·
    show Q8 Z o1 v2 h0 n0 _ T1.heap _
    rw [e1]
    exact ⟨rfl, N0, rfl⟩
theorem ef9 (m : MethodId) (x0 : Addr) (x1 : Addr) : entryFrame m #[(.ref x0), (.ref x1)] 2 = mkF m 0 #[.val (.ref x0), .val (.ref x1)] [] := by first | (simp [entryFrame, mkF, argsToLocals, Value.category]; done) | rfl
def Q9 (Z : State) (o1 : Addr) (q2 : Int64) (q3 : Int64) (h0 : Heap) (n0 : Nat) (v : Option Value) (h : Heap) (L : List Loc) : Prop :=
  (v = some (.int (1 : Int32)) ∧ Fr n0 L ∧ h = h0)
set_option maxRecDepth 65536 in
set_option maxHeartbeats 40000000 in
theorem rm9 (l : Launch) (Z : State) (a0 : Array Value) (hw : ∀ d ∈ tables_1, d.before a0 Z = true) (ws : List Jvm.Cond) (o1 : Addr) (q2 : Int64) (q3 : Int64) (h0 : Heap) (n0 : Nat) (O0 : Old Z n0 h0) (g_o1 : n0 ≤ o1) (P0 : Exa Z h0 o1 "com/example/sablegrid/sablegrid/model/WriteOutcome") (P1 : Fld Z h0 o1 "com/example/sablegrid/sablegrid/model/WriteOutcome" "found" "J" (.long q2)) (P2 : Fld Z h0 o1 "com/example/sablegrid/sablegrid/model/WriteOutcome" "version" "J" (.long q3)) :
    MetFree l (⟨"com/example/sablegrid/sablegrid/model/WriteOutcome", "equals", "(Ljava/lang/Object;)Z"⟩ : MethodName) (head1 (Jvm.Cond.code (⟨"com/example/sablegrid/sablegrid/model/WriteOutcome", "equals", "(Ljava/lang/Object;)Z"⟩ : MethodName) prog_22_method_4_code 2 (some .boolean) :: ws) ({ frames := 0, cells := 0, slots := 0, locals := 0 } : Room)) (fun a U => a = #[(.ref o1), (.ref o1)] ∧ Z.Warmed39 U.vm ∧ U.heap = h0) (fun _ _ _ _ _ => True) (fun _ U o U' => ∃ v L, o = .returned v ∧ Q9 Z o1 q2 q3 h0 n0 v U'.heap L ∧ FrameEnd U o U' L ({ frames := 0, cells := 0, slots := 0, locals := 0 } : Room).cells ({ frames := 0, cells := 0, slots := 0, locals := 0 } : Room).slots) := by
  refine MetFree.of_bodySF (plainFor_of_name pn0) hisR ?_
  intro p e s m args below meth c s₁ Bd hml0 hP hK
  obtain ⟨rfl, hZ, hh⟩ := hP
  have hx := Bd.exec
  have hby := Bd.bytes
  have hml : c.maxLocals = 2 := hml0
  have hown : s.vm.findClass "com/example/sablegrid/sablegrid/model/WriteOutcome" = some m.cls := findClass_of_methodNamed Bd.named
  have hnm := (name_of_methodNamed Bd.named Bd.method).1
  have hret := Bd.returns
  have hlk : meth.locks = false := BodyLoose.notSynchronized Bd
  have X0 : Stand p l e ({ frames := 0, cells := 0, slots := 0, locals := 0 } : Room) s m #[(.ref o1), (.ref o1)] below meth c s₁ [] 0 0 := Stand.of_body Bd
  have e0 : s₁.heap = h0 := by rw [← hh, Bd.state]; rfl
  have N0 := Fr.nil n0
  have pre0 : ∀ t, Steps p.tables e below (s₁.setTop (mkF m 0 #[.val (.ref o1), .val (.ref o1)] [])) t → Steps p.tables e below (s₁.setTop (entryFrame m #[(.ref o1), (.ref o1)] 2)) t := fun t k => castTop (ef9 m o1 o1) k
  obtain ⟨T1, X1, e1, st1⟩ := instY X0 hx hZ hown (hw _ (List.mem_of_getElem? (i := 18) rfl)) e0 (Ins.self P0) (g := (mkF m 1 #[.val (.ref o1), .val (.ref o1)] [(.ref o1)])) rfl rfl (hb hby d1_1)
  obtain ⟨T2, X2, e2, st2⟩ := getF X1 hx hZ hown (host := "") (Or.inl (hw _ (List.mem_of_getElem? (i := 9) rfl))) Via.refl e1 P1 (g := (mkF m 8 #[.val (.ref o1), .val (.ref o1)] [(.ref o1)])) rfl rfl (hb hby d1_8)
  obtain ⟨T3, X3, e3, st3⟩ := castY X2 hx hZ hown (hw _ (List.mem_of_getElem? (i := 18) rfl)) e2 (Ins.self P0) (g := (mkF m 12 #[.val (.ref o1), .val (.ref o1)] [(.ref o1), (.long q2)])) rfl rfl (hb hby d1_12)
  obtain ⟨T4, X4, e4, st4⟩ := getF X3 hx hZ hown (host := "") (Or.inl (hw _ (List.mem_of_getElem? (i := 9) rfl))) Via.refl e3 P1 (g := (mkF m 15 #[.val (.ref o1), .val (.ref o1)] [(.ref o1), (.long q2)])) rfl rfl (hb hby d1_15)
  obtain ⟨T5, X5, e5, st5⟩ := getF X4 hx hZ hown (host := "") (Or.inl (hw _ (List.mem_of_getElem? (i := 11) rfl))) Via.refl e4 P2 (g := (mkF m 23 #[.val (.ref o1), .val (.ref o1)] [(.ref o1)])) rfl rfl (hb hby d1_23)
  obtain ⟨T6, X6, e6, st6⟩ := castY X5 hx hZ hown (hw _ (List.mem_of_getElem? (i := 18) rfl)) e5 (Ins.self P0) (g := (mkF m 27 #[.val (.ref o1), .val (.ref o1)] [(.ref o1), (.long q3)])) rfl rfl (hb hby d1_27)
  obtain ⟨T7, X7, e7, st7⟩ := getF X6 hx hZ hown (host := "") (Or.inl (hw _ (List.mem_of_getElem? (i := 11) rfl))) Via.refl e6 P2 (g := (mkF m 30 #[.val (.ref o1), .val (.ref o1)] [(.ref o1), (.long q3)])) rfl rfl (hb hby d1_30)
  obtain ⟨fs, hr, hrun, hended, hW, hsame⟩ := X7.leave (v := some (.int (1 : Int32))) (fun h => by rw [hret] at h; cases h)
  refine ⟨_, _, pre0 _ ?_, hrun, hended, _, _, rfl, ?_, ⟨_, rfl⟩, hW, hsame.mono (by decide) (by decide)⟩
  ·
    show Steps p.tables e below (s₁.setTop (mkF m 0 #[.val (.ref o1), .val (.ref o1)] [])) _
    refine XS.aloadN X0.here hx rfl (hb hby d1_0) rfl rfl ?_
    show Steps p.tables e below (s₁.setTop (mkF m 1 #[.val (.ref o1), .val (.ref o1)] [(.ref o1)])) _
    refine st1 _ ?_
    show Steps p.tables e below (T1.setTop (mkF m 4 #[.val (.ref o1), .val (.ref o1)] [(.int (1 : Int32))])) _
    refine XS.ifNo X1.here hx rfl (hb hby d1_4) rfl ((if0 _ _).trans (feq (by decide : ¬ ((1 : Int32) = (0 : Int32)))).1) ?_
    show Steps p.tables e below (T1.setTop (mkF m 7 #[.val (.ref o1), .val (.ref o1)] [])) _
    refine XS.aloadN X1.here hx rfl (hb hby d1_7) rfl rfl ?_
    show Steps p.tables e below (T1.setTop (mkF m 8 #[.val (.ref o1), .val (.ref o1)] [(.ref o1)])) _
    refine st2 _ ?_
    show Steps p.tables e below (T2.setTop (mkF m 11 #[.val (.ref o1), .val (.ref o1)] [(.long q2)])) _
    refine XS.aloadN X2.here hx rfl (hb hby d1_11) rfl rfl ?_
    show Steps p.tables e below (T2.setTop (mkF m 12 #[.val (.ref o1), .val (.ref o1)] [(.ref o1), (.long q2)])) _
    refine st3 _ ?_
    show Steps p.tables e below (T3.setTop (mkF m 15 #[.val (.ref o1), .val (.ref o1)] [(.ref o1), (.long q2)])) _
    refine st4 _ ?_
    show Steps p.tables e below (T4.setTop (mkF m 18 #[.val (.ref o1), .val (.ref o1)] [(.long q2), (.long q2)])) _
    refine XS.lcmp X4.here hx rfl (hb hby d1_18) rfl ?_
    show Steps p.tables e below (T4.setTop (mkF m 19 #[.val (.ref o1), .val (.ref o1)] [(.int (lcmpW q2 q2))])) _
    refine XS.ifNo X4.here hx rfl (hb hby d1_19) rfl ((if0 _ _).trans (teq ((lw_eq _ _).mpr (rfl : q2 = q2))).2) ?_
    show Steps p.tables e below (T4.setTop (mkF m 22 #[.val (.ref o1), .val (.ref o1)] [])) _
    refine XS.aloadN X4.here hx rfl (hb hby d1_22) rfl rfl ?_
    show Steps p.tables e below (T4.setTop (mkF m 23 #[.val (.ref o1), .val (.ref o1)] [(.ref o1)])) _
    refine st5 _ ?_
    show Steps p.tables e below (T5.setTop (mkF m 26 #[.val (.ref o1), .val (.ref o1)] [(.long q3)])) _
    refine XS.aloadN X5.here hx rfl (hb hby d1_26) rfl rfl ?_
    show Steps p.tables e below (T5.setTop (mkF m 27 #[.val (.ref o1), .val (.ref o1)] [(.ref o1), (.long q3)])) _
    refine st6 _ ?_
    show Steps p.tables e below (T6.setTop (mkF m 30 #[.val (.ref o1), .val (.ref o1)] [(.ref o1), (.long q3)])) _
    refine st7 _ ?_
    show Steps p.tables e below (T7.setTop (mkF m 33 #[.val (.ref o1), .val (.ref o1)] [(.long q3), (.long q3)])) _
    refine XS.lcmp X7.here hx rfl (hb hby d1_33) rfl ?_
    show Steps p.tables e below (T7.setTop (mkF m 34 #[.val (.ref o1), .val (.ref o1)] [(.int (lcmpW q3 q3))])) _
    refine XS.ifNo X7.here hx rfl (hb hby d1_34) rfl ((if0 _ _).trans (teq ((lw_eq _ _).mpr (rfl : q3 = q3))).2) ?_
    show Steps p.tables e below (T7.setTop (mkF m 37 #[.val (.ref o1), .val (.ref o1)] [])) _
    refine XS.iconst X7.here hx rfl (hb hby d1_37) ?_
    show Steps p.tables e below (T7.setTop (mkF m 38 #[.val (.ref o1), .val (.ref o1)] [(.int (1 : Int32))])) _
    refine XS.goto X7.here hx rfl (pc0 := 38) (pc' := 42) rfl (hb hby d1_38) (by decide) (by decide) ?_
    show Steps p.tables e below (T7.setTop (mkF m 42 #[.val (.ref o1), .val (.ref o1)] [(.int (1 : Int32))])) _
    exact retN X7 hx (t := .boolean) hret (by simp) (hb hby d1_42) hr
  ·
    show Q9 Z o1 q2 q3 h0 n0 _ T7.heap _
    rw [e7]
    exact ⟨rfl, N0, rfl⟩
theorem pn3 : plainName "com/example/sablegrid/sablegrid/model/WriteOutcomeEqualsPinLaw" = true := by first | (simp [plainName, overriddenIn]; done) | decide +kernel
theorem ef0 (m : MethodId) (x0 : Int64) (x1 : Int64) (x2 : Int64) (x3 : Int64) (x4 : Int32) : entryFrame m #[(.long x0), (.long x1), (.long x2), (.long x3), (.int x4)] maxLocals = mkF m 0 #[.val (.long x0), .second, .val (.long x1), .second, .val (.long x2), .second, .val (.long x3), .second, .val (.int x4), .unset, .unset, .unset, .unset, .unset, .unset, .unset, .unset, .unset] [] := by first | (simp [entryFrame, mkF, argsToLocals, Value.category, maxLocals]; done) | rfl
set_option maxRecDepth 65536 in
set_option maxHeartbeats 40000000 in
theorem rm0 (l : Launch) (Z : State) (a0 : Array Value) (hw : ∀ d ∈ tables_1, d.before a0 Z = true) (w1 : Addr) (cw1 : Cell) (G : GW Z w1 cw1) (ws : List Jvm.Cond) (q1 : Int64) (q2 : Int64) (q3 : Int64) (q4 : Int64) (p5 : Int32) (h0 : Heap) (n0 : Nat) (O0 : Old Z n0 h0) :
    MetFree l x (head1 (Jvm.Cond.code x code maxLocals ret :: ws) room_1) (fun a U => a = #[(.long q1), (.long q2), (.long q3), (.long q4), (.int p5)] ∧ Z.Warmed39 U.vm ∧ U.heap = h0) (fun _ _ _ _ _ => True) (fun _ U o U' => ∃ v L, o = .returned v ∧ Q0 n0 v U'.heap L ∧ FrameEnd U o U' L 16 128) := by
  obtain ⟨S_w1, E_w1, B_w1⟩ := id G
  refine MetFree.of_bodySF (plainFor_of_name pn3) hisR ?_
  intro p e s m args below meth c s₁ Bd hml0 hP hK
  obtain ⟨rfl, hZ, hh⟩ := hP
  have hx := Bd.exec
  have hby := Bd.bytes
  have hml : c.maxLocals = 18 := hml0
  have hown : s.vm.findClass "com/example/sablegrid/sablegrid/model/WriteOutcomeEqualsPinLaw" = some m.cls := findClass_of_methodNamed Bd.named
  have hnm := (name_of_methodNamed Bd.named Bd.method).1
  have hret := Bd.returns
  have hlk : meth.locks = false := BodyLoose.notSynchronized Bd
  have X0 : Stand p l e room_1 s m #[(.long q1), (.long q2), (.long q3), (.long q4), (.int p5)] below meth c s₁ [] 0 0 := Stand.of_body Bd
  have e0 : s₁.heap = h0 := by rw [← hh, Bd.state]; rfl
  have N0 := Fr.nil n0
  have pre0 : ∀ t, Steps p.tables e below (s₁.setTop (mkF m 0 #[.val (.long q1), .second, .val (.long q2), .second, .val (.long q3), .second, .val (.long q4), .second, .val (.int p5), .unset, .unset, .unset, .unset, .unset, .unset, .unset, .unset, .unset] [])) t → Steps p.tables e below (s₁.setTop (entryFrame m #[(.long q1), (.long q2), (.long q3), (.long q4), (.int p5)] maxLocals)) t := fun t k => castTop (ef0 m q1 q2 q3 q4 p5) k
  have pre1 : ∀ t, Steps p.tables e below (s₁.setTop (mkF m 4 #[.val (.long q1), .second, .val (.long q2), .second, .val (.long q3), .second, .val (.long q4), .second, .val (.int p5), .unset, .unset, .unset, .unset, .unset, .unset, .unset, .unset, .unset] [(.int (p5 &&& (1 : Int32)))])) t → Steps p.tables e below (s₁.setTop (entryFrame m #[(.long q1), (.long q2), (.long q3), (.long q4), (.int p5)] maxLocals)) t := fun t k => by
    refine pre0 _ ?_
    show Steps p.tables e below (s₁.setTop (mkF m 0 #[.val (.long q1), .second, .val (.long q2), .second, .val (.long q3), .second, .val (.long q4), .second, .val (.int p5), .unset, .unset, .unset, .unset, .unset, .unset, .unset, .unset, .unset] [])) _
    refine XS.iload X0.here hx rfl (hb hby at_0) rfl ?_
    show Steps p.tables e below (s₁.setTop (mkF m 2 #[.val (.long q1), .second, .val (.long q2), .second, .val (.long q3), .second, .val (.long q4), .second, .val (.int p5), .unset, .unset, .unset, .unset, .unset, .unset, .unset, .unset, .unset] [(.int p5)])) _
    refine XS.iconst X0.here hx rfl (hb hby at_2) ?_
    show Steps p.tables e below (s₁.setTop (mkF m 3 #[.val (.long q1), .second, .val (.long q2), .second, .val (.long q3), .second, .val (.long q4), .second, .val (.int p5), .unset, .unset, .unset, .unset, .unset, .unset, .unset, .unset, .unset] [(.int (1 : Int32)), (.int p5)])) _
    refine XS.iand X0.here hx rfl (hb hby at_3) rfl ?_
    exact k
  by_cases hc2 : (p5 &&& (1 : Int32)) = (0 : Int32)
  ·
    have pre3 : ∀ t, Steps p.tables e below (s₁.setTop (mkF m 4 #[.val (.long q1), .second, .val (.long q2), .second, .val (.long q3), .second, .val (.long q4), .second, .val (.int p5), .unset, .unset, .unset, .unset, .unset, .unset, .unset, .unset, .unset] [(.int (0 : Int32))])) t → Steps p.tables e below (s₁.setTop (entryFrame m #[(.long q1), (.long q2), (.long q3), (.long q4), (.int p5)] maxLocals)) t := fun t k => pre1 t (by rw [hc2]; exact k)
    have pre4 : ∀ t, Steps p.tables e below (s₁.setTop (mkF m 19 #[.val (.long q1), .second, .val (.long q2), .second, .val (.long q3), .second, .val (.long q4), .second, .val (.int p5), .val (.long q3), .second, .unset, .unset, .unset, .unset, .unset, .unset, .unset] [(.int (p5 &&& (2 : Int32)))])) t → Steps p.tables e below (s₁.setTop (entryFrame m #[(.long q1), (.long q2), (.long q3), (.long q4), (.int p5)] maxLocals)) t := fun t k => by
      refine pre3 _ ?_
      show Steps p.tables e below (s₁.setTop (mkF m 4 #[.val (.long q1), .second, .val (.long q2), .second, .val (.long q3), .second, .val (.long q4), .second, .val (.int p5), .unset, .unset, .unset, .unset, .unset, .unset, .unset, .unset, .unset] [(.int (0 : Int32))])) _
      refine XS.ifYes X0.here hx rfl (pc0 := 4) (pc' := 11) rfl (hb hby at_4) rfl ((if0 _ _).trans (teq (by decide : (0 : Int32) = (0 : Int32))).1) (by decide) (by decide) ?_
      show Steps p.tables e below (s₁.setTop (mkF m 11 #[.val (.long q1), .second, .val (.long q2), .second, .val (.long q3), .second, .val (.long q4), .second, .val (.int p5), .unset, .unset, .unset, .unset, .unset, .unset, .unset, .unset, .unset] [])) _
      refine XS.lload X0.here hx rfl (hb hby at_11) rfl ?_
      show Steps p.tables e below (s₁.setTop (mkF m 13 #[.val (.long q1), .second, .val (.long q2), .second, .val (.long q3), .second, .val (.long q4), .second, .val (.int p5), .unset, .unset, .unset, .unset, .unset, .unset, .unset, .unset, .unset] [(.long q3)])) _
      refine XS.lstore X0.here hx rfl (hb hby at_13) rfl (l' := #[.val (.long q1), .second, .val (.long q2), .second, .val (.long q3), .second, .val (.long q4), .second, .val (.int p5), .val (.long q3), .second, .unset, .unset, .unset, .unset, .unset, .unset, .unset]) rfl ?_
      show Steps p.tables e below (s₁.setTop (mkF m 15 #[.val (.long q1), .second, .val (.long q2), .second, .val (.long q3), .second, .val (.long q4), .second, .val (.int p5), .val (.long q3), .second, .unset, .unset, .unset, .unset, .unset, .unset, .unset] [])) _
      refine XS.iload X0.here hx rfl (hb hby at_15) rfl ?_
      show Steps p.tables e below (s₁.setTop (mkF m 17 #[.val (.long q1), .second, .val (.long q2), .second, .val (.long q3), .second, .val (.long q4), .second, .val (.int p5), .val (.long q3), .second, .unset, .unset, .unset, .unset, .unset, .unset, .unset] [(.int p5)])) _
      refine XS.iconst X0.here hx rfl (hb hby at_17) ?_
      show Steps p.tables e below (s₁.setTop (mkF m 18 #[.val (.long q1), .second, .val (.long q2), .second, .val (.long q3), .second, .val (.long q4), .second, .val (.int p5), .val (.long q3), .second, .unset, .unset, .unset, .unset, .unset, .unset, .unset] [(.int (2 : Int32)), (.int p5)])) _
      refine XS.iand X0.here hx rfl (hb hby at_18) rfl ?_
      exact k
    by_cases hc5 : (p5 &&& (2 : Int32)) = (0 : Int32)
    ·
      have pre6 : ∀ t, Steps p.tables e below (s₁.setTop (mkF m 19 #[.val (.long q1), .second, .val (.long q2), .second, .val (.long q3), .second, .val (.long q4), .second, .val (.int p5), .val (.long q3), .second, .unset, .unset, .unset, .unset, .unset, .unset, .unset] [(.int (0 : Int32))])) t → Steps p.tables e below (s₁.setTop (entryFrame m #[(.long q1), (.long q2), (.long q3), (.long q4), (.int p5)] maxLocals)) t := fun t k => pre4 t (by rw [hc5]; exact k)
      obtain ⟨T7, h7, X7, e7, E7, A7, D7, -, st7⟩ := newO X0 hx hZ hown (hw _ (List.mem_of_getElem? (i := 0) rfl)) (hw _ (List.mem_of_getElem? (i := 1) rfl)) (hw _ (List.mem_of_getElem? (i := 2) rfl)) e0 (g := (mkF m 30 #[.val (.long q1), .second, .val (.long q2), .second, .val (.long q3), .second, .val (.long q4), .second, .val (.int p5), .val (.long q3), .second, .val (.long q4), .second, .unset, .unset, .unset, .unset, .unset] [])) rfl (hb hby at_30) (by decide) (by decide)
      obtain ⟨b7, g7⟩ : ∃ z, z = h0.size := ⟨_, rfl⟩
      rw [← g7] at A7 D7 st7
      have M7 : h0.size ≤ h7.size := Nat.le_trans (Nat.le_refl _) E7.1
      have O7 := Old.ext O0 E7
      have sz_b7 : h0.size ≤ b7 := Nat.le_of_eq g7.symm
      have g_b7 : n0 ≤ b7 := Nat.le_trans (own_oz O0) (Nat.le_trans (Nat.le_refl _) sz_b7)
      have F7_10 : Fld Z h7 b7 "com/example/sablegrid/sablegrid/model/WriteOutcome" "found" "J" (.long (0 : Int64)) := D7 (Or.inr (hw _ (List.mem_of_getElem? (i := 10) rfl))) (ty := .long) (by decide)
      have F7_12 : Fld Z h7 b7 "com/example/sablegrid/sablegrid/model/WriteOutcome" "version" "J" (.long (0 : Int64)) := D7 (Or.inr (hw _ (List.mem_of_getElem? (i := 12) rfl))) (ty := .long) (by decide)
      obtain ⟨_, _, ⟨T8, L8, c8, n8⟩, -, X8, ⟨Lc8, hQ8, l8, y8, z8⟩, st8⟩ := X7.specialBack hx (y := (⟨"com/example/sablegrid/sablegrid/model/WriteOutcome", "<init>", "(JJ)V"⟩ : MethodName)) rfl hown (mvT hZ (hw _ (List.mem_of_getElem? (i := 3) rfl))) (mvT hZ (hw _ (List.mem_of_getElem? (i := 4) rfl))) (mvT hZ (hw _ (List.mem_of_getElem? (i := 5) rfl))) (by decide) (backOf (W := 1) (rm1 l Z a0 hw [] b7 q1 q2 h7 n0 O7 g_b7 A7 F7_10 F7_12) hZ (hw _ (List.mem_of_getElem? (i := 5) rfl)) (hw _ (List.mem_of_getElem? (i := 2) rfl)) (by decide) (by decide)) (g := (mkF m 36 #[.val (.long q1), .second, .val (.long q2), .second, .val (.long q3), .second, .val (.long q4), .second, .val (.int p5), .val (.long q3), .second, .val (.long q4), .second, .unset, .unset, .unset, .unset, .unset] [(.long q2), (.long q1), (.ref b7), (.ref b7)])) rfl (by rw [hml]; rfl) (Steps.refl _) (a := b7) (argsL := [(.long q1), (.long q2)]) (rest := [(.ref b7)]) (lenOf pd0 rfl) rfl (by show 2 * 0 + _ ≤ _; exact Nat.le_of_eq rfl) (hb hby at_36) (fun _ _ => ⟨rfl, e7, (by decide : 1 + 0 ≤ _), (by decide : 2 + 0 ≤ _)⟩)
      dsimp only [Pt.U, Pt.locs, Pt.cells, Pt.slots] at X8 l8 y8 z8 st8 hQ8
      subst l8 y8 z8
      have X8 : Stand p l e room_1 s m #[(.long q1), (.long q2), (.long q3), (.long q4), (.int p5)] below meth c T8 _ 1 2 := X8
      obtain ⟨rfl, Nq9, K10, f11, f12, f13⟩ := hQ8
      have N8 := Fr.app N0 Nq9
      have M8 : h0.size ≤ T8.heap.size := Nat.le_trans M7 K10.1
      have O8 := Old.keep O7 K10 (allS g_b7 all0)
      obtain ⟨T14, h14, X14, e14, E14, A14, D14, -, st14⟩ := newO X8 hx hZ hown (hw _ (List.mem_of_getElem? (i := 0) rfl)) (hw _ (List.mem_of_getElem? (i := 1) rfl)) (hw _ (List.mem_of_getElem? (i := 2) rfl)) rfl (g := (mkF m 41 #[.val (.long q1), .second, .val (.long q2), .second, .val (.long q3), .second, .val (.long q4), .second, .val (.int p5), .val (.long q3), .second, .val (.long q4), .second, .val (.ref b7), .unset, .unset, .unset, .unset] [])) rfl (hb hby at_41) (by decide) (by decide)
      obtain ⟨b14, g14⟩ : ∃ z, z = T8.heap.size := ⟨_, rfl⟩
      rw [← g14] at A14 D14 st14
      have M14 : h0.size ≤ h14.size := Nat.le_trans M8 E14.1
      have O14 := Old.ext O8 E14
      have sz_b14 : T8.heap.size ≤ b14 := Nat.le_of_eq g14.symm
      have g_b14 : n0 ≤ b14 := Nat.le_trans (own_oz O0) (Nat.le_trans M8 sz_b14)
      have F14_10 : Fld Z h14 b14 "com/example/sablegrid/sablegrid/model/WriteOutcome" "found" "J" (.long (0 : Int64)) := D14 (Or.inr (hw _ (List.mem_of_getElem? (i := 10) rfl))) (ty := .long) (by decide)
      have F14_12 : Fld Z h14 b14 "com/example/sablegrid/sablegrid/model/WriteOutcome" "version" "J" (.long (0 : Int64)) := D14 (Or.inr (hw _ (List.mem_of_getElem? (i := 12) rfl))) (ty := .long) (by decide)
      obtain ⟨_, _, ⟨T15, L15, c15, n15⟩, -, X15, ⟨Lc15, hQ15, l15, y15, z15⟩, st15⟩ := X14.specialBack hx (y := (⟨"com/example/sablegrid/sablegrid/model/WriteOutcome", "<init>", "(JJ)V"⟩ : MethodName)) rfl hown (mvT hZ (hw _ (List.mem_of_getElem? (i := 3) rfl))) (mvT hZ (hw _ (List.mem_of_getElem? (i := 4) rfl))) (mvT hZ (hw _ (List.mem_of_getElem? (i := 5) rfl))) (by decide) (backOf (W := 1) (rm1 l Z a0 hw [] b14 q3 q4 h14 n0 O14 g_b14 A14 F14_10 F14_12) hZ (hw _ (List.mem_of_getElem? (i := 5) rfl)) (hw _ (List.mem_of_getElem? (i := 2) rfl)) (by decide) (by decide)) (g := (mkF m 49 #[.val (.long q1), .second, .val (.long q2), .second, .val (.long q3), .second, .val (.long q4), .second, .val (.int p5), .val (.long q3), .second, .val (.long q4), .second, .val (.ref b7), .unset, .unset, .unset, .unset] [(.long q4), (.long q3), (.ref b14), (.ref b14)])) rfl (by rw [hml]; rfl) (Steps.refl _) (a := b14) (argsL := [(.long q3), (.long q4)]) (rest := [(.ref b14)]) (lenOf pd0 rfl) rfl (by show 2 * 0 + _ ≤ _; exact Nat.le_of_eq rfl) (hb hby at_49) (fun _ _ => ⟨rfl, e14, (by decide : 2 + 0 ≤ _), (by decide : 4 + 0 ≤ _)⟩)
      dsimp only [Pt.U, Pt.locs, Pt.cells, Pt.slots] at X15 l15 y15 z15 st15 hQ15
      subst l15 y15 z15
      have X15 : Stand p l e room_1 s m #[(.long q1), (.long q2), (.long q3), (.long q4), (.int p5)] below meth c T15 _ 2 4 := X15
      obtain ⟨rfl, Nq16, K17, f18, f19, f20⟩ := hQ15
      have N15 := Fr.app N8 Nq16
      have M15 : h0.size ≤ T15.heap.size := Nat.le_trans M14 K17.1
      have O15 := Old.keep O14 K17 (allS g_b14 all0)
      have pre21 : ∀ t, Steps p.tables e below (T15.setTop (mkF m 58 #[.val (.long q1), .second, .val (.long q2), .second, .val (.long q3), .second, .val (.long q4), .second, .val (.int p5), .val (.long q3), .second, .val (.long q4), .second, .val (.ref b7), .val (.ref b14), .unset, .unset, .unset] [(.int (lcmpW q1 q3))])) t → Steps p.tables e below (s₁.setTop (entryFrame m #[(.long q1), (.long q2), (.long q3), (.long q4), (.int p5)] maxLocals)) t := fun t k => by
        refine pre6 _ ?_
        show Steps p.tables e below (s₁.setTop (mkF m 19 #[.val (.long q1), .second, .val (.long q2), .second, .val (.long q3), .second, .val (.long q4), .second, .val (.int p5), .val (.long q3), .second, .unset, .unset, .unset, .unset, .unset, .unset, .unset] [(.int (0 : Int32))])) _
        refine XS.ifYes X0.here hx rfl (pc0 := 19) (pc' := 26) rfl (hb hby at_19) rfl ((if0 _ _).trans (teq (by decide : (0 : Int32) = (0 : Int32))).1) (by decide) (by decide) ?_
        show Steps p.tables e below (s₁.setTop (mkF m 26 #[.val (.long q1), .second, .val (.long q2), .second, .val (.long q3), .second, .val (.long q4), .second, .val (.int p5), .val (.long q3), .second, .unset, .unset, .unset, .unset, .unset, .unset, .unset] [])) _
        refine XS.lload X0.here hx rfl (hb hby at_26) rfl ?_
        show Steps p.tables e below (s₁.setTop (mkF m 28 #[.val (.long q1), .second, .val (.long q2), .second, .val (.long q3), .second, .val (.long q4), .second, .val (.int p5), .val (.long q3), .second, .unset, .unset, .unset, .unset, .unset, .unset, .unset] [(.long q4)])) _
        refine XS.lstore X0.here hx rfl (hb hby at_28) rfl (l' := #[.val (.long q1), .second, .val (.long q2), .second, .val (.long q3), .second, .val (.long q4), .second, .val (.int p5), .val (.long q3), .second, .val (.long q4), .second, .unset, .unset, .unset, .unset, .unset]) rfl ?_
        show Steps p.tables e below (s₁.setTop (mkF m 30 #[.val (.long q1), .second, .val (.long q2), .second, .val (.long q3), .second, .val (.long q4), .second, .val (.int p5), .val (.long q3), .second, .val (.long q4), .second, .unset, .unset, .unset, .unset, .unset] [])) _
        refine st7 _ ?_
        show Steps p.tables e below (T7.setTop (mkF m 33 #[.val (.long q1), .second, .val (.long q2), .second, .val (.long q3), .second, .val (.long q4), .second, .val (.int p5), .val (.long q3), .second, .val (.long q4), .second, .unset, .unset, .unset, .unset, .unset] [(.ref b7)])) _
        refine XS.dup X7.here hx rfl (hb hby at_33) rfl rfl ?_
        show Steps p.tables e below (T7.setTop (mkF m 34 #[.val (.long q1), .second, .val (.long q2), .second, .val (.long q3), .second, .val (.long q4), .second, .val (.int p5), .val (.long q3), .second, .val (.long q4), .second, .unset, .unset, .unset, .unset, .unset] [(.ref b7), (.ref b7)])) _
        refine XS.lloadN X7.here hx rfl (hb hby at_34) rfl ?_
        show Steps p.tables e below (T7.setTop (mkF m 35 #[.val (.long q1), .second, .val (.long q2), .second, .val (.long q3), .second, .val (.long q4), .second, .val (.int p5), .val (.long q3), .second, .val (.long q4), .second, .unset, .unset, .unset, .unset, .unset] [(.long q1), (.ref b7), (.ref b7)])) _
        refine XS.lloadN X7.here hx rfl (hb hby at_35) rfl ?_
        show Steps p.tables e below (T7.setTop (mkF m 36 #[.val (.long q1), .second, .val (.long q2), .second, .val (.long q3), .second, .val (.long q4), .second, .val (.int p5), .val (.long q3), .second, .val (.long q4), .second, .unset, .unset, .unset, .unset, .unset] [(.long q2), (.long q1), (.ref b7), (.ref b7)])) _
        refine st8.trans ?_
        show Steps p.tables e below (T8.setTop (mkF m 39 #[.val (.long q1), .second, .val (.long q2), .second, .val (.long q3), .second, .val (.long q4), .second, .val (.int p5), .val (.long q3), .second, .val (.long q4), .second, .unset, .unset, .unset, .unset, .unset] [(.ref b7)])) _
        refine XS.astore X8.here hx rfl (hb hby at_39) rfl rfl (l' := #[.val (.long q1), .second, .val (.long q2), .second, .val (.long q3), .second, .val (.long q4), .second, .val (.int p5), .val (.long q3), .second, .val (.long q4), .second, .val (.ref b7), .unset, .unset, .unset, .unset]) rfl ?_
        show Steps p.tables e below (T8.setTop (mkF m 41 #[.val (.long q1), .second, .val (.long q2), .second, .val (.long q3), .second, .val (.long q4), .second, .val (.int p5), .val (.long q3), .second, .val (.long q4), .second, .val (.ref b7), .unset, .unset, .unset, .unset] [])) _
        refine st14 _ ?_
        show Steps p.tables e below (T14.setTop (mkF m 44 #[.val (.long q1), .second, .val (.long q2), .second, .val (.long q3), .second, .val (.long q4), .second, .val (.int p5), .val (.long q3), .second, .val (.long q4), .second, .val (.ref b7), .unset, .unset, .unset, .unset] [(.ref b14)])) _
        refine XS.dup X14.here hx rfl (hb hby at_44) rfl rfl ?_
        show Steps p.tables e below (T14.setTop (mkF m 45 #[.val (.long q1), .second, .val (.long q2), .second, .val (.long q3), .second, .val (.long q4), .second, .val (.int p5), .val (.long q3), .second, .val (.long q4), .second, .val (.ref b7), .unset, .unset, .unset, .unset] [(.ref b14), (.ref b14)])) _
        refine XS.lload X14.here hx rfl (hb hby at_45) rfl ?_
        show Steps p.tables e below (T14.setTop (mkF m 47 #[.val (.long q1), .second, .val (.long q2), .second, .val (.long q3), .second, .val (.long q4), .second, .val (.int p5), .val (.long q3), .second, .val (.long q4), .second, .val (.ref b7), .unset, .unset, .unset, .unset] [(.long q3), (.ref b14), (.ref b14)])) _
        refine XS.lload X14.here hx rfl (hb hby at_47) rfl ?_
        show Steps p.tables e below (T14.setTop (mkF m 49 #[.val (.long q1), .second, .val (.long q2), .second, .val (.long q3), .second, .val (.long q4), .second, .val (.int p5), .val (.long q3), .second, .val (.long q4), .second, .val (.ref b7), .unset, .unset, .unset, .unset] [(.long q4), (.long q3), (.ref b14), (.ref b14)])) _
        refine st15.trans ?_
        show Steps p.tables e below (T15.setTop (mkF m 52 #[.val (.long q1), .second, .val (.long q2), .second, .val (.long q3), .second, .val (.long q4), .second, .val (.int p5), .val (.long q3), .second, .val (.long q4), .second, .val (.ref b7), .unset, .unset, .unset, .unset] [(.ref b14)])) _
        refine XS.astore X15.here hx rfl (hb hby at_52) rfl rfl (l' := #[.val (.long q1), .second, .val (.long q2), .second, .val (.long q3), .second, .val (.long q4), .second, .val (.int p5), .val (.long q3), .second, .val (.long q4), .second, .val (.ref b7), .val (.ref b14), .unset, .unset, .unset]) rfl ?_
        show Steps p.tables e below (T15.setTop (mkF m 54 #[.val (.long q1), .second, .val (.long q2), .second, .val (.long q3), .second, .val (.long q4), .second, .val (.int p5), .val (.long q3), .second, .val (.long q4), .second, .val (.ref b7), .val (.ref b14), .unset, .unset, .unset] [])) _
        refine XS.lloadN X15.here hx rfl (hb hby at_54) rfl ?_
        show Steps p.tables e below (T15.setTop (mkF m 55 #[.val (.long q1), .second, .val (.long q2), .second, .val (.long q3), .second, .val (.long q4), .second, .val (.int p5), .val (.long q3), .second, .val (.long q4), .second, .val (.ref b7), .val (.ref b14), .unset, .unset, .unset] [(.long q1)])) _
        refine XS.lload X15.here hx rfl (hb hby at_55) rfl ?_
        show Steps p.tables e below (T15.setTop (mkF m 57 #[.val (.long q1), .second, .val (.long q2), .second, .val (.long q3), .second, .val (.long q4), .second, .val (.int p5), .val (.long q3), .second, .val (.long q4), .second, .val (.ref b7), .val (.ref b14), .unset, .unset, .unset] [(.long q3), (.long q1)])) _
        refine XS.lcmp X15.here hx rfl (hb hby at_57) rfl ?_
        exact k
      by_cases hc22 : q1 = q3
      ·
        have pre23 : ∀ t, Steps p.tables e below (T15.setTop (mkF m 65 #[.val (.long q1), .second, .val (.long q2), .second, .val (.long q3), .second, .val (.long q4), .second, .val (.int p5), .val (.long q3), .second, .val (.long q4), .second, .val (.ref b7), .val (.ref b14), .unset, .unset, .unset] [(.int (lcmpW q2 q4))])) t → Steps p.tables e below (s₁.setTop (entryFrame m #[(.long q1), (.long q2), (.long q3), (.long q4), (.int p5)] maxLocals)) t := fun t k => by
          refine pre21 _ ?_
          show Steps p.tables e below (T15.setTop (mkF m 58 #[.val (.long q1), .second, .val (.long q2), .second, .val (.long q3), .second, .val (.long q4), .second, .val (.int p5), .val (.long q3), .second, .val (.long q4), .second, .val (.ref b7), .val (.ref b14), .unset, .unset, .unset] [(.int (lcmpW q1 q3))])) _
          refine XS.ifNo X15.here hx rfl (hb hby at_58) rfl ((if0 _ _).trans (teq ((lw_eq _ _).mpr hc22)).2) ?_
          show Steps p.tables e below (T15.setTop (mkF m 61 #[.val (.long q1), .second, .val (.long q2), .second, .val (.long q3), .second, .val (.long q4), .second, .val (.int p5), .val (.long q3), .second, .val (.long q4), .second, .val (.ref b7), .val (.ref b14), .unset, .unset, .unset] [])) _
          refine XS.lloadN X15.here hx rfl (hb hby at_61) rfl ?_
          show Steps p.tables e below (T15.setTop (mkF m 62 #[.val (.long q1), .second, .val (.long q2), .second, .val (.long q3), .second, .val (.long q4), .second, .val (.int p5), .val (.long q3), .second, .val (.long q4), .second, .val (.ref b7), .val (.ref b14), .unset, .unset, .unset] [(.long q2)])) _
          refine XS.lload X15.here hx rfl (hb hby at_62) rfl ?_
          show Steps p.tables e below (T15.setTop (mkF m 64 #[.val (.long q1), .second, .val (.long q2), .second, .val (.long q3), .second, .val (.long q4), .second, .val (.int p5), .val (.long q3), .second, .val (.long q4), .second, .val (.ref b7), .val (.ref b14), .unset, .unset, .unset] [(.long q4), (.long q2)])) _
          refine XS.lcmp X15.here hx rfl (hb hby at_64) rfl ?_
          exact k
        by_cases hc24 : q2 = q4
        ·
          have pre25 : ∀ t, Steps p.tables e below (T15.setTop (mkF m 85 #[.val (.long q1), .second, .val (.long q2), .second, .val (.long q3), .second, .val (.long q4), .second, .val (.int p5), .val (.long q3), .second, .val (.long q4), .second, .val (.ref b7), .val (.ref b14), .val (.int (1 : Int32)), .val (.int (((p5.toUInt32 >>> ((2 : Int32) &&& 31).toUInt32).toInt32) &&& (3 : Int32))), .unset] [(.int (((p5.toUInt32 >>> ((2 : Int32) &&& 31).toUInt32).toInt32) &&& (3 : Int32)))])) t → Steps p.tables e below (s₁.setTop (entryFrame m #[(.long q1), (.long q2), (.long q3), (.long q4), (.int p5)] maxLocals)) t := fun t k => by
            refine pre23 _ ?_
            show Steps p.tables e below (T15.setTop (mkF m 65 #[.val (.long q1), .second, .val (.long q2), .second, .val (.long q3), .second, .val (.long q4), .second, .val (.int p5), .val (.long q3), .second, .val (.long q4), .second, .val (.ref b7), .val (.ref b14), .unset, .unset, .unset] [(.int (lcmpW q2 q4))])) _
            refine XS.ifNo X15.here hx rfl (hb hby at_65) rfl ((if0 _ _).trans (teq ((lw_eq _ _).mpr hc24)).2) ?_
            show Steps p.tables e below (T15.setTop (mkF m 68 #[.val (.long q1), .second, .val (.long q2), .second, .val (.long q3), .second, .val (.long q4), .second, .val (.int p5), .val (.long q3), .second, .val (.long q4), .second, .val (.ref b7), .val (.ref b14), .unset, .unset, .unset] [])) _
            refine XS.iconst X15.here hx rfl (hb hby at_68) ?_
            show Steps p.tables e below (T15.setTop (mkF m 69 #[.val (.long q1), .second, .val (.long q2), .second, .val (.long q3), .second, .val (.long q4), .second, .val (.int p5), .val (.long q3), .second, .val (.long q4), .second, .val (.ref b7), .val (.ref b14), .unset, .unset, .unset] [(.int (1 : Int32))])) _
            refine XS.goto X15.here hx rfl (pc0 := 69) (pc' := 73) rfl (hb hby at_69) (by decide) (by decide) ?_
            show Steps p.tables e below (T15.setTop (mkF m 73 #[.val (.long q1), .second, .val (.long q2), .second, .val (.long q3), .second, .val (.long q4), .second, .val (.int p5), .val (.long q3), .second, .val (.long q4), .second, .val (.ref b7), .val (.ref b14), .unset, .unset, .unset] [(.int (1 : Int32))])) _
            refine XS.istore X15.here hx rfl (hb hby at_73) rfl (l' := #[.val (.long q1), .second, .val (.long q2), .second, .val (.long q3), .second, .val (.long q4), .second, .val (.int p5), .val (.long q3), .second, .val (.long q4), .second, .val (.ref b7), .val (.ref b14), .val (.int (1 : Int32)), .unset, .unset]) rfl ?_
            show Steps p.tables e below (T15.setTop (mkF m 75 #[.val (.long q1), .second, .val (.long q2), .second, .val (.long q3), .second, .val (.long q4), .second, .val (.int p5), .val (.long q3), .second, .val (.long q4), .second, .val (.ref b7), .val (.ref b14), .val (.int (1 : Int32)), .unset, .unset] [])) _
            refine XS.iload X15.here hx rfl (hb hby at_75) rfl ?_
            show Steps p.tables e below (T15.setTop (mkF m 77 #[.val (.long q1), .second, .val (.long q2), .second, .val (.long q3), .second, .val (.long q4), .second, .val (.int p5), .val (.long q3), .second, .val (.long q4), .second, .val (.ref b7), .val (.ref b14), .val (.int (1 : Int32)), .unset, .unset] [(.int p5)])) _
            refine XS.iconst X15.here hx rfl (hb hby at_77) ?_
            show Steps p.tables e below (T15.setTop (mkF m 78 #[.val (.long q1), .second, .val (.long q2), .second, .val (.long q3), .second, .val (.long q4), .second, .val (.int p5), .val (.long q3), .second, .val (.long q4), .second, .val (.ref b7), .val (.ref b14), .val (.int (1 : Int32)), .unset, .unset] [(.int (2 : Int32)), (.int p5)])) _
            refine XS.iushr X15.here hx rfl (hb hby at_78) rfl ?_
            show Steps p.tables e below (T15.setTop (mkF m 79 #[.val (.long q1), .second, .val (.long q2), .second, .val (.long q3), .second, .val (.long q4), .second, .val (.int p5), .val (.long q3), .second, .val (.long q4), .second, .val (.ref b7), .val (.ref b14), .val (.int (1 : Int32)), .unset, .unset] [(.int ((p5.toUInt32 >>> ((2 : Int32) &&& 31).toUInt32).toInt32))])) _
            refine XS.iconst X15.here hx rfl (hb hby at_79) ?_
            show Steps p.tables e below (T15.setTop (mkF m 80 #[.val (.long q1), .second, .val (.long q2), .second, .val (.long q3), .second, .val (.long q4), .second, .val (.int p5), .val (.long q3), .second, .val (.long q4), .second, .val (.ref b7), .val (.ref b14), .val (.int (1 : Int32)), .unset, .unset] [(.int (3 : Int32)), (.int ((p5.toUInt32 >>> ((2 : Int32) &&& 31).toUInt32).toInt32))])) _
            refine XS.iand X15.here hx rfl (hb hby at_80) rfl ?_
            show Steps p.tables e below (T15.setTop (mkF m 81 #[.val (.long q1), .second, .val (.long q2), .second, .val (.long q3), .second, .val (.long q4), .second, .val (.int p5), .val (.long q3), .second, .val (.long q4), .second, .val (.ref b7), .val (.ref b14), .val (.int (1 : Int32)), .unset, .unset] [(.int (((p5.toUInt32 >>> ((2 : Int32) &&& 31).toUInt32).toInt32) &&& (3 : Int32)))])) _
            refine XS.istore X15.here hx rfl (hb hby at_81) rfl (l' := #[.val (.long q1), .second, .val (.long q2), .second, .val (.long q3), .second, .val (.long q4), .second, .val (.int p5), .val (.long q3), .second, .val (.long q4), .second, .val (.ref b7), .val (.ref b14), .val (.int (1 : Int32)), .val (.int (((p5.toUInt32 >>> ((2 : Int32) &&& 31).toUInt32).toInt32) &&& (3 : Int32))), .unset]) rfl ?_
            show Steps p.tables e below (T15.setTop (mkF m 83 #[.val (.long q1), .second, .val (.long q2), .second, .val (.long q3), .second, .val (.long q4), .second, .val (.int p5), .val (.long q3), .second, .val (.long q4), .second, .val (.ref b7), .val (.ref b14), .val (.int (1 : Int32)), .val (.int (((p5.toUInt32 >>> ((2 : Int32) &&& 31).toUInt32).toInt32) &&& (3 : Int32))), .unset] [])) _
            refine XS.iload X15.here hx rfl (hb hby at_83) rfl ?_
            exact k
          by_cases hc26 : (((p5.toUInt32 >>> ((2 : Int32) &&& 31).toUInt32).toInt32) &&& (3 : Int32)) = (0 : Int32)
          ·
            have pre27 : ∀ t, Steps p.tables e below (T15.setTop (mkF m 85 #[.val (.long q1), .second, .val (.long q2), .second, .val (.long q3), .second, .val (.long q4), .second, .val (.int p5), .val (.long q3), .second, .val (.long q4), .second, .val (.ref b7), .val (.ref b14), .val (.int (1 : Int32)), .val (.int (0 : Int32)), .unset] [(.int (0 : Int32))])) t → Steps p.tables e below (s₁.setTop (entryFrame m #[(.long q1), (.long q2), (.long q3), (.long q4), (.int p5)] maxLocals)) t := fun t k => pre25 t (by rw [hc26]; exact k)
            have lt28 : b7 < T8.heap.size := (Nat.lt_of_lt_of_le A7.lt K10.1)
            have ne29 : b7 ≠ b14 := Nat.ne_of_lt (Nat.lt_of_lt_of_le lt28 sz_b14)
            have f30 := ((f12.ext E14).keep K17 (ninS ne29 nin0))
            have f31 := ((f13.ext E14).keep K17 (ninS ne29 nin0))
            have f33 := ((f11.ext E14).keep K17)
            obtain ⟨cq32, kq32, q32a, q32b, q32c⟩ := isOf hZ rfl f33
            obtain ⟨_, _, ⟨T34, L34, c34, n34⟩, -, X34, ⟨Lc34, hQ34, l34, y34, z34⟩, st34⟩ := X15.virtualBack hx (y := (⟨"com/example/sablegrid/sablegrid/model/WriteOutcome", "equals", "(Ljava/lang/Object;)Z"⟩ : MethodName)) (z := (⟨"com/example/sablegrid/sablegrid/model/WriteOutcome", "equals", "(Ljava/lang/Object;)Z"⟩ : MethodName)) hown (mvT hZ (hw _ (List.mem_of_getElem? (i := 13) rfl))) (mvT hZ (hw _ (List.mem_of_getElem? (i := 14) rfl))) (notFace_of_selects (args := #[]) (mvT hZ (hw _ (List.mem_of_getElem? (i := 16) rfl)))) (mvT hZ (hw _ (List.mem_of_getElem? (i := 16) rfl))) (mvT hZ (hw _ (List.mem_of_getElem? (i := 15) rfl))) (by decide) (backOf (W := 0) (rm2 l Z a0 hw [] b7 b14 q1 q2 q3 q4 T15.heap n0 O15 g_b7 g_b14 f30 f31 f18 f19 f20) hZ (hw _ (List.mem_of_getElem? (i := 17) rfl)) (hw _ (List.mem_of_getElem? (i := 2) rfl)) (by decide) (by decide)) q32a q32c (g := (mkF m 92 #[.val (.long q1), .second, .val (.long q2), .second, .val (.long q3), .second, .val (.long q4), .second, .val (.int p5), .val (.long q3), .second, .val (.long q4), .second, .val (.ref b7), .val (.ref b14), .val (.int (1 : Int32)), .val (.int (0 : Int32)), .unset] [(.ref b14), (.ref b7)])) rfl (by rw [hml]; rfl) (Steps.refl _) (argsL := [(.ref b14)]) (rest := []) (lenOf pd1 rfl) rfl (by show 2 * 0 + _ ≤ _; exact Nat.le_of_eq rfl) (hb hby at_92) (fun _ _ => ⟨rfl, rfl, (by decide : 2 + 0 ≤ _), (by decide : 4 + 0 ≤ _)⟩)
            dsimp only [Pt.U, Pt.locs, Pt.cells, Pt.slots] at X34 l34 y34 z34 st34 hQ34
            subst l34 y34 z34
            have pre35 : ∀ t, Steps p.tables e below (T15.setTop (mkF m 92 #[.val (.long q1), .second, .val (.long q2), .second, .val (.long q3), .second, .val (.long q4), .second, .val (.int p5), .val (.long q3), .second, .val (.long q4), .second, .val (.ref b7), .val (.ref b14), .val (.int (1 : Int32)), .val (.int (0 : Int32)), .unset] [(.ref b14), (.ref b7)])) t → Steps p.tables e below (s₁.setTop (entryFrame m #[(.long q1), (.long q2), (.long q3), (.long q4), (.int p5)] maxLocals)) t := fun t k => by
              refine pre27 _ ?_
              show Steps p.tables e below (T15.setTop (mkF m 85 #[.val (.long q1), .second, .val (.long q2), .second, .val (.long q3), .second, .val (.long q4), .second, .val (.int p5), .val (.long q3), .second, .val (.long q4), .second, .val (.ref b7), .val (.ref b14), .val (.int (1 : Int32)), .val (.int (0 : Int32)), .unset] [(.int (0 : Int32))])) _
              refine XS.ifNo X15.here hx rfl (hb hby at_85) rfl ((if0 _ _).trans (teq (by decide : (0 : Int32) = (0 : Int32))).2) ?_
              show Steps p.tables e below (T15.setTop (mkF m 88 #[.val (.long q1), .second, .val (.long q2), .second, .val (.long q3), .second, .val (.long q4), .second, .val (.int p5), .val (.long q3), .second, .val (.long q4), .second, .val (.ref b7), .val (.ref b14), .val (.int (1 : Int32)), .val (.int (0 : Int32)), .unset] [])) _
              refine XS.aload X15.here hx rfl (hb hby at_88) rfl rfl ?_
              show Steps p.tables e below (T15.setTop (mkF m 90 #[.val (.long q1), .second, .val (.long q2), .second, .val (.long q3), .second, .val (.long q4), .second, .val (.int p5), .val (.long q3), .second, .val (.long q4), .second, .val (.ref b7), .val (.ref b14), .val (.int (1 : Int32)), .val (.int (0 : Int32)), .unset] [(.ref b7)])) _
              refine XS.aload X15.here hx rfl (hb hby at_90) rfl rfl ?_
              exact k
            have X34 : Stand p l e room_1 s m #[(.long q1), (.long q2), (.long q3), (.long q4), (.int p5)] below meth c T34 _ 2 4 := X34
            rcases hQ34 with ⟨hc36, hc37, rfl, Nq38, e39⟩ | ⟨hc40, hc41, rfl, Nq42, e43⟩ | ⟨hc44, rfl, Nq45, e46⟩
            ·
              have N34 := Fr.app N15 Nq38
              obtain ⟨cq47, kq47, q47a, q47b, q47c⟩ := isOf hZ e39 f18
              obtain ⟨_, _, ⟨T48, L48, c48, n48⟩, -, X48, ⟨Lc48, hQ48, l48, y48, z48⟩, st48⟩ := X34.virtualBack hx (y := (⟨"com/example/sablegrid/sablegrid/model/WriteOutcome", "equals", "(Ljava/lang/Object;)Z"⟩ : MethodName)) (z := (⟨"com/example/sablegrid/sablegrid/model/WriteOutcome", "equals", "(Ljava/lang/Object;)Z"⟩ : MethodName)) hown (mvT hZ (hw _ (List.mem_of_getElem? (i := 13) rfl))) (mvT hZ (hw _ (List.mem_of_getElem? (i := 14) rfl))) (notFace_of_selects (args := #[]) (mvT hZ (hw _ (List.mem_of_getElem? (i := 16) rfl)))) (mvT hZ (hw _ (List.mem_of_getElem? (i := 16) rfl))) (mvT hZ (hw _ (List.mem_of_getElem? (i := 15) rfl))) (by decide) (backOf (W := 0) (rm2 l Z a0 hw [] b14 b7 q3 q4 q1 q2 T15.heap n0 O15 g_b14 g_b7 f19 f20 f33 f30 f31) hZ (hw _ (List.mem_of_getElem? (i := 17) rfl)) (hw _ (List.mem_of_getElem? (i := 2) rfl)) (by decide) (by decide)) q47a q47c (g := (mkF m 104 #[.val (.long q1), .second, .val (.long q2), .second, .val (.long q3), .second, .val (.long q4), .second, .val (.int p5), .val (.long q3), .second, .val (.long q4), .second, .val (.ref b7), .val (.ref b14), .val (.int (1 : Int32)), .val (.int (0 : Int32)), .unset] [(.ref b7), (.ref b14)])) rfl (by rw [hml]; rfl) (Steps.refl _) (argsL := [(.ref b7)]) (rest := []) (lenOf pd1 rfl) rfl (by show 2 * 0 + _ ≤ _; exact Nat.le_of_eq rfl) (hb hby at_104) (fun _ _ => ⟨rfl, e39, (by decide : 2 + 0 ≤ _), (by decide : 4 + 0 ≤ _)⟩)
              dsimp only [Pt.U, Pt.locs, Pt.cells, Pt.slots] at X48 l48 y48 z48 st48 hQ48
              subst l48 y48 z48
              have pre49 : ∀ t, Steps p.tables e below (T34.setTop (mkF m 104 #[.val (.long q1), .second, .val (.long q2), .second, .val (.long q3), .second, .val (.long q4), .second, .val (.int p5), .val (.long q3), .second, .val (.long q4), .second, .val (.ref b7), .val (.ref b14), .val (.int (1 : Int32)), .val (.int (0 : Int32)), .unset] [(.ref b7), (.ref b14)])) t → Steps p.tables e below (s₁.setTop (entryFrame m #[(.long q1), (.long q2), (.long q3), (.long q4), (.int p5)] maxLocals)) t := fun t k => by
                refine pre35 _ ?_
                show Steps p.tables e below (T15.setTop (mkF m 92 #[.val (.long q1), .second, .val (.long q2), .second, .val (.long q3), .second, .val (.long q4), .second, .val (.int p5), .val (.long q3), .second, .val (.long q4), .second, .val (.ref b7), .val (.ref b14), .val (.int (1 : Int32)), .val (.int (0 : Int32)), .unset] [(.ref b14), (.ref b7)])) _
                refine st34.trans ?_
                show Steps p.tables e below (T34.setTop (mkF m 95 #[.val (.long q1), .second, .val (.long q2), .second, .val (.long q3), .second, .val (.long q4), .second, .val (.int p5), .val (.long q3), .second, .val (.long q4), .second, .val (.ref b7), .val (.ref b14), .val (.int (1 : Int32)), .val (.int (0 : Int32)), .unset] [(.int (1 : Int32))])) _
                refine XS.iload X34.here hx rfl (hb hby at_95) rfl ?_
                show Steps p.tables e below (T34.setTop (mkF m 97 #[.val (.long q1), .second, .val (.long q2), .second, .val (.long q3), .second, .val (.long q4), .second, .val (.int p5), .val (.long q3), .second, .val (.long q4), .second, .val (.ref b7), .val (.ref b14), .val (.int (1 : Int32)), .val (.int (0 : Int32)), .unset] [(.int (1 : Int32)), (.int (1 : Int32))])) _
                refine XS.icmpNo X34.here hx rfl (hb hby at_97) rfl (teq (by decide : (1 : Int32) = (1 : Int32))).2 ?_
                show Steps p.tables e below (T34.setTop (mkF m 100 #[.val (.long q1), .second, .val (.long q2), .second, .val (.long q3), .second, .val (.long q4), .second, .val (.int p5), .val (.long q3), .second, .val (.long q4), .second, .val (.ref b7), .val (.ref b14), .val (.int (1 : Int32)), .val (.int (0 : Int32)), .unset] [])) _
                refine XS.aload X34.here hx rfl (hb hby at_100) rfl rfl ?_
                show Steps p.tables e below (T34.setTop (mkF m 102 #[.val (.long q1), .second, .val (.long q2), .second, .val (.long q3), .second, .val (.long q4), .second, .val (.int p5), .val (.long q3), .second, .val (.long q4), .second, .val (.ref b7), .val (.ref b14), .val (.int (1 : Int32)), .val (.int (0 : Int32)), .unset] [(.ref b14)])) _
                refine XS.aload X34.here hx rfl (hb hby at_102) rfl rfl ?_
                exact k
              have X48 : Stand p l e room_1 s m #[(.long q1), (.long q2), (.long q3), (.long q4), (.int p5)] below meth c T48 _ 2 4 := X48
              rcases hQ48 with ⟨hc50, hc51, rfl, Nq52, e53⟩ | ⟨hc54, hc55, rfl, Nq56, e57⟩ | ⟨hc58, rfl, Nq59, e60⟩
              ·
                have N48 := Fr.app N34 Nq52
                obtain ⟨fs, hr, hrun, hended, hW, hsame⟩ := X48.leave (v := some (.int (1 : Int32))) (fun h => by rw [hret] at h; cases h)
                refine ⟨_, _, pre49 _ ?_, hrun, hended, _, _, rfl, ?_, ⟨_, rfl⟩, hW, hsame.mono (by decide) (by decide)⟩
                ·
                  show Steps p.tables e below (T34.setTop (mkF m 104 #[.val (.long q1), .second, .val (.long q2), .second, .val (.long q3), .second, .val (.long q4), .second, .val (.int p5), .val (.long q3), .second, .val (.long q4), .second, .val (.ref b7), .val (.ref b14), .val (.int (1 : Int32)), .val (.int (0 : Int32)), .unset] [(.ref b7), (.ref b14)])) _
                  refine st48.trans ?_
                  show Steps p.tables e below (T48.setTop (mkF m 107 #[.val (.long q1), .second, .val (.long q2), .second, .val (.long q3), .second, .val (.long q4), .second, .val (.int p5), .val (.long q3), .second, .val (.long q4), .second, .val (.ref b7), .val (.ref b14), .val (.int (1 : Int32)), .val (.int (0 : Int32)), .unset] [(.int (1 : Int32))])) _
                  refine XS.iload X48.here hx rfl (hb hby at_107) rfl ?_
                  show Steps p.tables e below (T48.setTop (mkF m 109 #[.val (.long q1), .second, .val (.long q2), .second, .val (.long q3), .second, .val (.long q4), .second, .val (.int p5), .val (.long q3), .second, .val (.long q4), .second, .val (.ref b7), .val (.ref b14), .val (.int (1 : Int32)), .val (.int (0 : Int32)), .unset] [(.int (1 : Int32)), (.int (1 : Int32))])) _
                  refine XS.icmpNo X48.here hx rfl (hb hby at_109) rfl (teq (by decide : (1 : Int32) = (1 : Int32))).2 ?_
                  show Steps p.tables e below (T48.setTop (mkF m 112 #[.val (.long q1), .second, .val (.long q2), .second, .val (.long q3), .second, .val (.long q4), .second, .val (.int p5), .val (.long q3), .second, .val (.long q4), .second, .val (.ref b7), .val (.ref b14), .val (.int (1 : Int32)), .val (.int (0 : Int32)), .unset] [])) _
                  refine XS.iconst X48.here hx rfl (hb hby at_112) ?_
                  show Steps p.tables e below (T48.setTop (mkF m 113 #[.val (.long q1), .second, .val (.long q2), .second, .val (.long q3), .second, .val (.long q4), .second, .val (.int p5), .val (.long q3), .second, .val (.long q4), .second, .val (.ref b7), .val (.ref b14), .val (.int (1 : Int32)), .val (.int (0 : Int32)), .unset] [(.int (1 : Int32))])) _
                  refine XS.goto X48.here hx rfl (pc0 := 113) (pc' := 117) rfl (hb hby at_113) (by decide) (by decide) ?_
                  show Steps p.tables e below (T48.setTop (mkF m 117 #[.val (.long q1), .second, .val (.long q2), .second, .val (.long q3), .second, .val (.long q4), .second, .val (.int p5), .val (.long q3), .second, .val (.long q4), .second, .val (.ref b7), .val (.ref b14), .val (.int (1 : Int32)), .val (.int (0 : Int32)), .unset] [(.int (1 : Int32))])) _
                  exact retN X48 hx (t := .boolean) hret (by simp) (hb hby at_117) hr
                ·
                  show Q0 n0 _ T48.heap _
                  rw [e53]
                  exact ⟨rfl, N48⟩
              ·
                exact absurd (hc24).symm hc55
              ·
                exact absurd (hc22).symm hc58
            ·
              exact absurd hc24 hc41
            ·
              exact absurd hc22 hc44
          ·
            have pre61 : ∀ t, Steps p.tables e below (T15.setTop (mkF m 121 #[.val (.long q1), .second, .val (.long q2), .second, .val (.long q3), .second, .val (.long q4), .second, .val (.int p5), .val (.long q3), .second, .val (.long q4), .second, .val (.ref b7), .val (.ref b14), .val (.int (1 : Int32)), .val (.int (((p5.toUInt32 >>> ((2 : Int32) &&& 31).toUInt32).toInt32) &&& (3 : Int32))), .unset] [(.int (1 : Int32)), (.int (((p5.toUInt32 >>> ((2 : Int32) &&& 31).toUInt32).toInt32) &&& (3 : Int32)))])) t → Steps p.tables e below (s₁.setTop (entryFrame m #[(.long q1), (.long q2), (.long q3), (.long q4), (.int p5)] maxLocals)) t := fun t k => by
              refine pre25 _ ?_
              show Steps p.tables e below (T15.setTop (mkF m 85 #[.val (.long q1), .second, .val (.long q2), .second, .val (.long q3), .second, .val (.long q4), .second, .val (.int p5), .val (.long q3), .second, .val (.long q4), .second, .val (.ref b7), .val (.ref b14), .val (.int (1 : Int32)), .val (.int (((p5.toUInt32 >>> ((2 : Int32) &&& 31).toUInt32).toInt32) &&& (3 : Int32))), .unset] [(.int (((p5.toUInt32 >>> ((2 : Int32) &&& 31).toUInt32).toInt32) &&& (3 : Int32)))])) _
              refine XS.ifYes X15.here hx rfl (pc0 := 85) (pc' := 118) rfl (hb hby at_85) rfl ((if0 _ _).trans (feq hc26).2) (by decide) (by decide) ?_
              show Steps p.tables e below (T15.setTop (mkF m 118 #[.val (.long q1), .second, .val (.long q2), .second, .val (.long q3), .second, .val (.long q4), .second, .val (.int p5), .val (.long q3), .second, .val (.long q4), .second, .val (.ref b7), .val (.ref b14), .val (.int (1 : Int32)), .val (.int (((p5.toUInt32 >>> ((2 : Int32) &&& 31).toUInt32).toInt32) &&& (3 : Int32))), .unset] [])) _
              refine XS.iload X15.here hx rfl (hb hby at_118) rfl ?_
              show Steps p.tables e below (T15.setTop (mkF m 120 #[.val (.long q1), .second, .val (.long q2), .second, .val (.long q3), .second, .val (.long q4), .second, .val (.int p5), .val (.long q3), .second, .val (.long q4), .second, .val (.ref b7), .val (.ref b14), .val (.int (1 : Int32)), .val (.int (((p5.toUInt32 >>> ((2 : Int32) &&& 31).toUInt32).toInt32) &&& (3 : Int32))), .unset] [(.int (((p5.toUInt32 >>> ((2 : Int32) &&& 31).toUInt32).toInt32) &&& (3 : Int32)))])) _
              refine XS.iconst X15.here hx rfl (hb hby at_120) ?_
              exact k
            by_cases hc62 : (((p5.toUInt32 >>> ((2 : Int32) &&& 31).toUInt32).toInt32) &&& (3 : Int32)) = (1 : Int32)
            ·
              have pre63 : ∀ t, Steps p.tables e below (T15.setTop (mkF m 121 #[.val (.long q1), .second, .val (.long q2), .second, .val (.long q3), .second, .val (.long q4), .second, .val (.int p5), .val (.long q3), .second, .val (.long q4), .second, .val (.ref b7), .val (.ref b14), .val (.int (1 : Int32)), .val (.int (1 : Int32)), .unset] [(.int (1 : Int32)), (.int (1 : Int32))])) t → Steps p.tables e below (s₁.setTop (entryFrame m #[(.long q1), (.long q2), (.long q3), (.long q4), (.int p5)] maxLocals)) t := fun t k => pre61 t (by rw [hc62]; exact k)
              have f65 := ((f11.ext E14).keep K17)
              obtain ⟨cq64, kq64, q64a, q64b, q64c⟩ := isOf hZ rfl f65
              obtain ⟨_, _, ⟨T66, L66, c66, n66⟩, -, X66, ⟨Lc66, hQ66, l66, y66, z66⟩, st66⟩ := X15.virtualBack hx (y := (⟨"com/example/sablegrid/sablegrid/model/WriteOutcome", "equals", "(Ljava/lang/Object;)Z"⟩ : MethodName)) (z := (⟨"com/example/sablegrid/sablegrid/model/WriteOutcome", "equals", "(Ljava/lang/Object;)Z"⟩ : MethodName)) hown (mvT hZ (hw _ (List.mem_of_getElem? (i := 13) rfl))) (mvT hZ (hw _ (List.mem_of_getElem? (i := 14) rfl))) (notFace_of_selects (args := #[]) (mvT hZ (hw _ (List.mem_of_getElem? (i := 16) rfl)))) (mvT hZ (hw _ (List.mem_of_getElem? (i := 16) rfl))) (mvT hZ (hw _ (List.mem_of_getElem? (i := 15) rfl))) (by decide) (backOf (W := 0) (rm3 l Z a0 hw [] b7 T15.heap n0 O15 g_b7) hZ (hw _ (List.mem_of_getElem? (i := 17) rfl)) (hw _ (List.mem_of_getElem? (i := 2) rfl)) (by decide) (by decide)) q64a q64c (g := (mkF m 127 #[.val (.long q1), .second, .val (.long q2), .second, .val (.long q3), .second, .val (.long q4), .second, .val (.int p5), .val (.long q3), .second, .val (.long q4), .second, .val (.ref b7), .val (.ref b14), .val (.int (1 : Int32)), .val (.int (1 : Int32)), .unset] [.null, (.ref b7)])) rfl (by rw [hml]; rfl) (Steps.refl _) (argsL := [.null]) (rest := []) (lenOf pd1 rfl) rfl (by show 2 * 0 + _ ≤ _; exact Nat.le_of_eq rfl) (hb hby at_127) (fun _ _ => ⟨rfl, rfl, (by decide : 2 + 0 ≤ _), (by decide : 4 + 0 ≤ _)⟩)
              dsimp only [Pt.U, Pt.locs, Pt.cells, Pt.slots] at X66 l66 y66 z66 st66 hQ66
              subst l66 y66 z66
              have X66 : Stand p l e room_1 s m #[(.long q1), (.long q2), (.long q3), (.long q4), (.int p5)] below meth c T66 _ 2 4 := X66
              obtain ⟨rfl, Nq67, e68⟩ := hQ66
              have N66 := Fr.app N15 Nq67
              obtain ⟨fs, hr, hrun, hended, hW, hsame⟩ := X66.leave (v := some (.int (1 : Int32))) (fun h => by rw [hret] at h; cases h)
              refine ⟨_, _, pre63 _ ?_, hrun, hended, _, _, rfl, ?_, ⟨_, rfl⟩, hW, hsame.mono (by decide) (by decide)⟩
              ·
                show Steps p.tables e below (T15.setTop (mkF m 121 #[.val (.long q1), .second, .val (.long q2), .second, .val (.long q3), .second, .val (.long q4), .second, .val (.int p5), .val (.long q3), .second, .val (.long q4), .second, .val (.ref b7), .val (.ref b14), .val (.int (1 : Int32)), .val (.int (1 : Int32)), .unset] [(.int (1 : Int32)), (.int (1 : Int32))])) _
                refine XS.icmpNo X15.here hx rfl (hb hby at_121) rfl (teq (by decide : (1 : Int32) = (1 : Int32))).2 ?_
                show Steps p.tables e below (T15.setTop (mkF m 124 #[.val (.long q1), .second, .val (.long q2), .second, .val (.long q3), .second, .val (.long q4), .second, .val (.int p5), .val (.long q3), .second, .val (.long q4), .second, .val (.ref b7), .val (.ref b14), .val (.int (1 : Int32)), .val (.int (1 : Int32)), .unset] [])) _
                refine XS.aload X15.here hx rfl (hb hby at_124) rfl rfl ?_
                show Steps p.tables e below (T15.setTop (mkF m 126 #[.val (.long q1), .second, .val (.long q2), .second, .val (.long q3), .second, .val (.long q4), .second, .val (.int p5), .val (.long q3), .second, .val (.long q4), .second, .val (.ref b7), .val (.ref b14), .val (.int (1 : Int32)), .val (.int (1 : Int32)), .unset] [(.ref b7)])) _
                refine XS.aconstNull X15.here hx rfl (hb hby at_126) ?_
                show Steps p.tables e below (T15.setTop (mkF m 127 #[.val (.long q1), .second, .val (.long q2), .second, .val (.long q3), .second, .val (.long q4), .second, .val (.int p5), .val (.long q3), .second, .val (.long q4), .second, .val (.ref b7), .val (.ref b14), .val (.int (1 : Int32)), .val (.int (1 : Int32)), .unset] [.null, (.ref b7)])) _
                refine st66.trans ?_
                show Steps p.tables e below (T66.setTop (mkF m 130 #[.val (.long q1), .second, .val (.long q2), .second, .val (.long q3), .second, .val (.long q4), .second, .val (.int p5), .val (.long q3), .second, .val (.long q4), .second, .val (.ref b7), .val (.ref b14), .val (.int (1 : Int32)), .val (.int (1 : Int32)), .unset] [(.int (0 : Int32))])) _
                refine XS.ifNo X66.here hx rfl (hb hby at_130) rfl ((if0 _ _).trans (teq (by decide : (0 : Int32) = (0 : Int32))).2) ?_
                show Steps p.tables e below (T66.setTop (mkF m 133 #[.val (.long q1), .second, .val (.long q2), .second, .val (.long q3), .second, .val (.long q4), .second, .val (.int p5), .val (.long q3), .second, .val (.long q4), .second, .val (.ref b7), .val (.ref b14), .val (.int (1 : Int32)), .val (.int (1 : Int32)), .unset] [])) _
                refine XS.iconst X66.here hx rfl (hb hby at_133) ?_
                show Steps p.tables e below (T66.setTop (mkF m 134 #[.val (.long q1), .second, .val (.long q2), .second, .val (.long q3), .second, .val (.long q4), .second, .val (.int p5), .val (.long q3), .second, .val (.long q4), .second, .val (.ref b7), .val (.ref b14), .val (.int (1 : Int32)), .val (.int (1 : Int32)), .unset] [(.int (1 : Int32))])) _
                refine XS.goto X66.here hx rfl (pc0 := 134) (pc' := 138) rfl (hb hby at_134) (by decide) (by decide) ?_
                show Steps p.tables e below (T66.setTop (mkF m 138 #[.val (.long q1), .second, .val (.long q2), .second, .val (.long q3), .second, .val (.long q4), .second, .val (.int p5), .val (.long q3), .second, .val (.long q4), .second, .val (.ref b7), .val (.ref b14), .val (.int (1 : Int32)), .val (.int (1 : Int32)), .unset] [(.int (1 : Int32))])) _
                exact retN X66 hx (t := .boolean) hret (by simp) (hb hby at_138) hr
              ·
                show Q0 n0 _ T66.heap _
                rw [e68]
                exact ⟨rfl, N66⟩
            ·
              have pre69 : ∀ t, Steps p.tables e below (T15.setTop (mkF m 142 #[.val (.long q1), .second, .val (.long q2), .second, .val (.long q3), .second, .val (.long q4), .second, .val (.int p5), .val (.long q3), .second, .val (.long q4), .second, .val (.ref b7), .val (.ref b14), .val (.int (1 : Int32)), .val (.int (((p5.toUInt32 >>> ((2 : Int32) &&& 31).toUInt32).toInt32) &&& (3 : Int32))), .unset] [(.int (2 : Int32)), (.int (((p5.toUInt32 >>> ((2 : Int32) &&& 31).toUInt32).toInt32) &&& (3 : Int32)))])) t → Steps p.tables e below (s₁.setTop (entryFrame m #[(.long q1), (.long q2), (.long q3), (.long q4), (.int p5)] maxLocals)) t := fun t k => by
                refine pre61 _ ?_
                show Steps p.tables e below (T15.setTop (mkF m 121 #[.val (.long q1), .second, .val (.long q2), .second, .val (.long q3), .second, .val (.long q4), .second, .val (.int p5), .val (.long q3), .second, .val (.long q4), .second, .val (.ref b7), .val (.ref b14), .val (.int (1 : Int32)), .val (.int (((p5.toUInt32 >>> ((2 : Int32) &&& 31).toUInt32).toInt32) &&& (3 : Int32))), .unset] [(.int (1 : Int32)), (.int (((p5.toUInt32 >>> ((2 : Int32) &&& 31).toUInt32).toInt32) &&& (3 : Int32)))])) _
                refine XS.icmpYes X15.here hx rfl (pc0 := 121) (pc' := 139) rfl (hb hby at_121) rfl (feq hc62).2 (by decide) (by decide) ?_
                show Steps p.tables e below (T15.setTop (mkF m 139 #[.val (.long q1), .second, .val (.long q2), .second, .val (.long q3), .second, .val (.long q4), .second, .val (.int p5), .val (.long q3), .second, .val (.long q4), .second, .val (.ref b7), .val (.ref b14), .val (.int (1 : Int32)), .val (.int (((p5.toUInt32 >>> ((2 : Int32) &&& 31).toUInt32).toInt32) &&& (3 : Int32))), .unset] [])) _
                refine XS.iload X15.here hx rfl (hb hby at_139) rfl ?_
                show Steps p.tables e below (T15.setTop (mkF m 141 #[.val (.long q1), .second, .val (.long q2), .second, .val (.long q3), .second, .val (.long q4), .second, .val (.int p5), .val (.long q3), .second, .val (.long q4), .second, .val (.ref b7), .val (.ref b14), .val (.int (1 : Int32)), .val (.int (((p5.toUInt32 >>> ((2 : Int32) &&& 31).toUInt32).toInt32) &&& (3 : Int32))), .unset] [(.int (((p5.toUInt32 >>> ((2 : Int32) &&& 31).toUInt32).toInt32) &&& (3 : Int32)))])) _
                refine XS.iconst X15.here hx rfl (hb hby at_141) ?_
                exact k
              by_cases hc70 : (((p5.toUInt32 >>> ((2 : Int32) &&& 31).toUInt32).toInt32) &&& (3 : Int32)) = (2 : Int32)
              ·
                have pre71 : ∀ t, Steps p.tables e below (T15.setTop (mkF m 142 #[.val (.long q1), .second, .val (.long q2), .second, .val (.long q3), .second, .val (.long q4), .second, .val (.int p5), .val (.long q3), .second, .val (.long q4), .second, .val (.ref b7), .val (.ref b14), .val (.int (1 : Int32)), .val (.int (2 : Int32)), .unset] [(.int (2 : Int32)), (.int (2 : Int32))])) t → Steps p.tables e below (s₁.setTop (entryFrame m #[(.long q1), (.long q2), (.long q3), (.long q4), (.int p5)] maxLocals)) t := fun t k => pre69 t (by rw [hc70]; exact k)
                obtain ⟨_, _, ⟨T72, L72, c72, n72⟩, -, X72, ⟨Lc72, hQ72, l72, y72, z72⟩, st72⟩ := Jvm.LawKit.callS X15 hx (y := (⟨"java/lang/Long", "valueOf", "(J)Ljava/lang/Long;"⟩ : MethodName)) hown (mvT hZ (hw _ (List.mem_of_getElem? (i := 20) rfl))) (mvT hZ (hw _ (List.mem_of_getElem? (i := 21) rfl))) (mvT hZ (hw _ (List.mem_of_getElem? (i := 22) rfl))) (mvT hZ (hw _ (List.mem_of_getElem? (i := 23) rfl))) (by decide) (backOf (W := 0) (rm6 l Z a0 hw w1 cw1 G [] q1 T15.heap n0 O15 ) hZ (hw _ (List.mem_of_getElem? (i := 23) rfl)) (hw _ (List.mem_of_getElem? (i := 22) rfl)) (by decide) (by decide)) (g := (mkF m 146 #[.val (.long q1), .second, .val (.long q2), .second, .val (.long q3), .second, .val (.long q4), .second, .val (.int p5), .val (.long q3), .second, .val (.long q4), .second, .val (.ref b7), .val (.ref b14), .val (.int (1 : Int32)), .val (.int (2 : Int32)), .unset] [(.long q1)])) rfl (by rw [hml]; rfl) (argsL := [(.long q1)]) (rest := []) (lenOf pd4 rfl) rfl (by show 2 * 0 + _ ≤ _; exact Nat.le_of_eq rfl) (hb hby at_146) (fun _ _ => ⟨rfl, rfl, (by decide : 2 + 1 ≤ _), (by decide : 4 + 1 ≤ _)⟩)
                dsimp only [Pt.U, Pt.locs, Pt.cells, Pt.slots] at X72 l72 y72 z72 st72 hQ72
                subst l72 y72 z72
                have pre73 : ∀ t, Steps p.tables e below (T15.setTop (mkF m 146 #[.val (.long q1), .second, .val (.long q2), .second, .val (.long q3), .second, .val (.long q4), .second, .val (.int p5), .val (.long q3), .second, .val (.long q4), .second, .val (.ref b7), .val (.ref b14), .val (.int (1 : Int32)), .val (.int (2 : Int32)), .unset] [(.long q1)])) t → Steps p.tables e below (s₁.setTop (entryFrame m #[(.long q1), (.long q2), (.long q3), (.long q4), (.int p5)] maxLocals)) t := fun t k => by
                  refine pre71 _ ?_
                  show Steps p.tables e below (T15.setTop (mkF m 142 #[.val (.long q1), .second, .val (.long q2), .second, .val (.long q3), .second, .val (.long q4), .second, .val (.int p5), .val (.long q3), .second, .val (.long q4), .second, .val (.ref b7), .val (.ref b14), .val (.int (1 : Int32)), .val (.int (2 : Int32)), .unset] [(.int (2 : Int32)), (.int (2 : Int32))])) _
                  refine XS.icmpNo X15.here hx rfl (hb hby at_142) rfl (teq (by decide : (2 : Int32) = (2 : Int32))).2 ?_
                  show Steps p.tables e below (T15.setTop (mkF m 145 #[.val (.long q1), .second, .val (.long q2), .second, .val (.long q3), .second, .val (.long q4), .second, .val (.int p5), .val (.long q3), .second, .val (.long q4), .second, .val (.ref b7), .val (.ref b14), .val (.int (1 : Int32)), .val (.int (2 : Int32)), .unset] [])) _
                  refine XS.lloadN X15.here hx rfl (hb hby at_145) rfl ?_
                  exact k
                have X72 : Stand p l e room_1 s m #[(.long q1), (.long q2), (.long q3), (.long q4), (.int p5)] below meth c T72 _ 3 5 := X72
                rcases hQ72 with ⟨b74, hc75, rfl, Nq76, K77, sz_b74, f78, f79⟩ | ⟨b80, hc81, hc82, rfl, Nq83, K84, sz_b80, f85, f86⟩ | ⟨v87, hc88, hc89, rfl, Nq90, e91, f92⟩
                ·
                  have N72 := Fr.app N15 Nq76
                  have g_b74 : n0 ≤ b74 := Nat.le_trans (own_oz O15) sz_b74
                  have M72 : h0.size ≤ T72.heap.size := Nat.le_trans M15 K77.1
                  have O72 := Old.keep O15 K77 all0
                  have f94 := (((f11.ext E14).keep K17).keep K77)
                  obtain ⟨cq93, kq93, q93a, q93b, q93c⟩ := isOf hZ rfl f94
                  obtain ⟨_, _, ⟨T95, L95, c95, n95⟩, -, X95, ⟨Lc95, hQ95, l95, y95, z95⟩, st95⟩ := X72.virtualBack hx (y := (⟨"com/example/sablegrid/sablegrid/model/WriteOutcome", "equals", "(Ljava/lang/Object;)Z"⟩ : MethodName)) (z := (⟨"com/example/sablegrid/sablegrid/model/WriteOutcome", "equals", "(Ljava/lang/Object;)Z"⟩ : MethodName)) hown (mvT hZ (hw _ (List.mem_of_getElem? (i := 13) rfl))) (mvT hZ (hw _ (List.mem_of_getElem? (i := 14) rfl))) (notFace_of_selects (args := #[]) (mvT hZ (hw _ (List.mem_of_getElem? (i := 16) rfl)))) (mvT hZ (hw _ (List.mem_of_getElem? (i := 16) rfl))) (mvT hZ (hw _ (List.mem_of_getElem? (i := 15) rfl))) (by decide) (backOf (W := 0) (rm7 l Z a0 hw [] b7 b74 T72.heap n0 O72 g_b7 g_b74 f78) hZ (hw _ (List.mem_of_getElem? (i := 17) rfl)) (hw _ (List.mem_of_getElem? (i := 2) rfl)) (by decide) (by decide)) q93a q93c (g := (mkF m 155 #[.val (.long q1), .second, .val (.long q2), .second, .val (.long q3), .second, .val (.long q4), .second, .val (.int p5), .val (.long q3), .second, .val (.long q4), .second, .val (.ref b7), .val (.ref b14), .val (.int (1 : Int32)), .val (.int (2 : Int32)), .val (.ref b74)] [(.ref b74), (.ref b7)])) rfl (by rw [hml]; rfl) (Steps.refl _) (argsL := [(.ref b74)]) (rest := []) (lenOf pd1 rfl) rfl (by show 2 * 0 + _ ≤ _; exact Nat.le_of_eq rfl) (hb hby at_155) (fun _ _ => ⟨rfl, rfl, (by decide : 3 + 0 ≤ _), (by decide : 5 + 0 ≤ _)⟩)
                  dsimp only [Pt.U, Pt.locs, Pt.cells, Pt.slots] at X95 l95 y95 z95 st95 hQ95
                  subst l95 y95 z95
                  have X95 : Stand p l e room_1 s m #[(.long q1), (.long q2), (.long q3), (.long q4), (.int p5)] below meth c T95 _ 3 5 := X95
                  obtain ⟨rfl, Nq96, e97⟩ := hQ95
                  have N95 := Fr.app N72 Nq96
                  obtain ⟨fs, hr, hrun, hended, hW, hsame⟩ := X95.leave (v := some (.int (1 : Int32))) (fun h => by rw [hret] at h; cases h)
                  refine ⟨_, _, pre73 _ ?_, hrun, hended, _, _, rfl, ?_, ⟨_, rfl⟩, hW, hsame.mono (by decide) (by decide)⟩
                  ·
                    show Steps p.tables e below (T15.setTop (mkF m 146 #[.val (.long q1), .second, .val (.long q2), .second, .val (.long q3), .second, .val (.long q4), .second, .val (.int p5), .val (.long q3), .second, .val (.long q4), .second, .val (.ref b7), .val (.ref b14), .val (.int (1 : Int32)), .val (.int (2 : Int32)), .unset] [(.long q1)])) _
                    refine st72 _ ?_
                    show Steps p.tables e below (T72.setTop (mkF m 149 #[.val (.long q1), .second, .val (.long q2), .second, .val (.long q3), .second, .val (.long q4), .second, .val (.int p5), .val (.long q3), .second, .val (.long q4), .second, .val (.ref b7), .val (.ref b14), .val (.int (1 : Int32)), .val (.int (2 : Int32)), .unset] [(.ref b74)])) _
                    refine XS.astore X72.here hx rfl (hb hby at_149) rfl rfl (l' := #[.val (.long q1), .second, .val (.long q2), .second, .val (.long q3), .second, .val (.long q4), .second, .val (.int p5), .val (.long q3), .second, .val (.long q4), .second, .val (.ref b7), .val (.ref b14), .val (.int (1 : Int32)), .val (.int (2 : Int32)), .val (.ref b74)]) rfl ?_
                    show Steps p.tables e below (T72.setTop (mkF m 151 #[.val (.long q1), .second, .val (.long q2), .second, .val (.long q3), .second, .val (.long q4), .second, .val (.int p5), .val (.long q3), .second, .val (.long q4), .second, .val (.ref b7), .val (.ref b14), .val (.int (1 : Int32)), .val (.int (2 : Int32)), .val (.ref b74)] [])) _
                    refine XS.aload X72.here hx rfl (hb hby at_151) rfl rfl ?_
                    show Steps p.tables e below (T72.setTop (mkF m 153 #[.val (.long q1), .second, .val (.long q2), .second, .val (.long q3), .second, .val (.long q4), .second, .val (.int p5), .val (.long q3), .second, .val (.long q4), .second, .val (.ref b7), .val (.ref b14), .val (.int (1 : Int32)), .val (.int (2 : Int32)), .val (.ref b74)] [(.ref b7)])) _
                    refine XS.aload X72.here hx rfl (hb hby at_153) rfl rfl ?_
                    show Steps p.tables e below (T72.setTop (mkF m 155 #[.val (.long q1), .second, .val (.long q2), .second, .val (.long q3), .second, .val (.long q4), .second, .val (.int p5), .val (.long q3), .second, .val (.long q4), .second, .val (.ref b7), .val (.ref b14), .val (.int (1 : Int32)), .val (.int (2 : Int32)), .val (.ref b74)] [(.ref b74), (.ref b7)])) _
                    refine st95.trans ?_
                    show Steps p.tables e below (T95.setTop (mkF m 158 #[.val (.long q1), .second, .val (.long q2), .second, .val (.long q3), .second, .val (.long q4), .second, .val (.int p5), .val (.long q3), .second, .val (.long q4), .second, .val (.ref b7), .val (.ref b14), .val (.int (1 : Int32)), .val (.int (2 : Int32)), .val (.ref b74)] [(.int (0 : Int32))])) _
                    refine XS.ifNo X95.here hx rfl (hb hby at_158) rfl ((if0 _ _).trans (teq (by decide : (0 : Int32) = (0 : Int32))).2) ?_
                    show Steps p.tables e below (T95.setTop (mkF m 161 #[.val (.long q1), .second, .val (.long q2), .second, .val (.long q3), .second, .val (.long q4), .second, .val (.int p5), .val (.long q3), .second, .val (.long q4), .second, .val (.ref b7), .val (.ref b14), .val (.int (1 : Int32)), .val (.int (2 : Int32)), .val (.ref b74)] [])) _
                    refine XS.iconst X95.here hx rfl (hb hby at_161) ?_
                    show Steps p.tables e below (T95.setTop (mkF m 162 #[.val (.long q1), .second, .val (.long q2), .second, .val (.long q3), .second, .val (.long q4), .second, .val (.int p5), .val (.long q3), .second, .val (.long q4), .second, .val (.ref b7), .val (.ref b14), .val (.int (1 : Int32)), .val (.int (2 : Int32)), .val (.ref b74)] [(.int (1 : Int32))])) _
                    refine XS.goto X95.here hx rfl (pc0 := 162) (pc' := 166) rfl (hb hby at_162) (by decide) (by decide) ?_
                    show Steps p.tables e below (T95.setTop (mkF m 166 #[.val (.long q1), .second, .val (.long q2), .second, .val (.long q3), .second, .val (.long q4), .second, .val (.int p5), .val (.long q3), .second, .val (.long q4), .second, .val (.ref b7), .val (.ref b14), .val (.int (1 : Int32)), .val (.int (2 : Int32)), .val (.ref b74)] [(.int (1 : Int32))])) _
                    exact retN X95 hx (t := .boolean) hret (by simp) (hb hby at_166) hr
                  ·
                    show Q0 n0 _ T95.heap _
                    rw [e97]
                    exact ⟨rfl, N95⟩
                ·
                  have N72 := Fr.app N15 Nq83
                  have g_b80 : n0 ≤ b80 := Nat.le_trans (own_oz O15) sz_b80
                  have M72 : h0.size ≤ T72.heap.size := Nat.le_trans M15 K84.1
                  have O72 := Old.keep O15 K84 all0
                  have f99 := (((f11.ext E14).keep K17).keep K84)
                  obtain ⟨cq98, kq98, q98a, q98b, q98c⟩ := isOf hZ rfl f99
                  obtain ⟨_, _, ⟨T100, L100, c100, n100⟩, -, X100, ⟨Lc100, hQ100, l100, y100, z100⟩, st100⟩ := X72.virtualBack hx (y := (⟨"com/example/sablegrid/sablegrid/model/WriteOutcome", "equals", "(Ljava/lang/Object;)Z"⟩ : MethodName)) (z := (⟨"com/example/sablegrid/sablegrid/model/WriteOutcome", "equals", "(Ljava/lang/Object;)Z"⟩ : MethodName)) hown (mvT hZ (hw _ (List.mem_of_getElem? (i := 13) rfl))) (mvT hZ (hw _ (List.mem_of_getElem? (i := 14) rfl))) (notFace_of_selects (args := #[]) (mvT hZ (hw _ (List.mem_of_getElem? (i := 16) rfl)))) (mvT hZ (hw _ (List.mem_of_getElem? (i := 16) rfl))) (mvT hZ (hw _ (List.mem_of_getElem? (i := 15) rfl))) (by decide) (backOf (W := 0) (rm7 l Z a0 hw [] b7 b80 T72.heap n0 O72 g_b7 g_b80 f85) hZ (hw _ (List.mem_of_getElem? (i := 17) rfl)) (hw _ (List.mem_of_getElem? (i := 2) rfl)) (by decide) (by decide)) q98a q98c (g := (mkF m 155 #[.val (.long q1), .second, .val (.long q2), .second, .val (.long q3), .second, .val (.long q4), .second, .val (.int p5), .val (.long q3), .second, .val (.long q4), .second, .val (.ref b7), .val (.ref b14), .val (.int (1 : Int32)), .val (.int (2 : Int32)), .val (.ref b80)] [(.ref b80), (.ref b7)])) rfl (by rw [hml]; rfl) (Steps.refl _) (argsL := [(.ref b80)]) (rest := []) (lenOf pd1 rfl) rfl (by show 2 * 0 + _ ≤ _; exact Nat.le_of_eq rfl) (hb hby at_155) (fun _ _ => ⟨rfl, rfl, (by decide : 3 + 0 ≤ _), (by decide : 5 + 0 ≤ _)⟩)
                  dsimp only [Pt.U, Pt.locs, Pt.cells, Pt.slots] at X100 l100 y100 z100 st100 hQ100
                  subst l100 y100 z100
                  have X100 : Stand p l e room_1 s m #[(.long q1), (.long q2), (.long q3), (.long q4), (.int p5)] below meth c T100 _ 3 5 := X100
                  obtain ⟨rfl, Nq101, e102⟩ := hQ100
                  have N100 := Fr.app N72 Nq101
                  obtain ⟨fs, hr, hrun, hended, hW, hsame⟩ := X100.leave (v := some (.int (1 : Int32))) (fun h => by rw [hret] at h; cases h)
                  refine ⟨_, _, pre73 _ ?_, hrun, hended, _, _, rfl, ?_, ⟨_, rfl⟩, hW, hsame.mono (by decide) (by decide)⟩
                  ·
                    show Steps p.tables e below (T15.setTop (mkF m 146 #[.val (.long q1), .second, .val (.long q2), .second, .val (.long q3), .second, .val (.long q4), .second, .val (.int p5), .val (.long q3), .second, .val (.long q4), .second, .val (.ref b7), .val (.ref b14), .val (.int (1 : Int32)), .val (.int (2 : Int32)), .unset] [(.long q1)])) _
                    refine st72 _ ?_
                    show Steps p.tables e below (T72.setTop (mkF m 149 #[.val (.long q1), .second, .val (.long q2), .second, .val (.long q3), .second, .val (.long q4), .second, .val (.int p5), .val (.long q3), .second, .val (.long q4), .second, .val (.ref b7), .val (.ref b14), .val (.int (1 : Int32)), .val (.int (2 : Int32)), .unset] [(.ref b80)])) _
                    refine XS.astore X72.here hx rfl (hb hby at_149) rfl rfl (l' := #[.val (.long q1), .second, .val (.long q2), .second, .val (.long q3), .second, .val (.long q4), .second, .val (.int p5), .val (.long q3), .second, .val (.long q4), .second, .val (.ref b7), .val (.ref b14), .val (.int (1 : Int32)), .val (.int (2 : Int32)), .val (.ref b80)]) rfl ?_
                    show Steps p.tables e below (T72.setTop (mkF m 151 #[.val (.long q1), .second, .val (.long q2), .second, .val (.long q3), .second, .val (.long q4), .second, .val (.int p5), .val (.long q3), .second, .val (.long q4), .second, .val (.ref b7), .val (.ref b14), .val (.int (1 : Int32)), .val (.int (2 : Int32)), .val (.ref b80)] [])) _
                    refine XS.aload X72.here hx rfl (hb hby at_151) rfl rfl ?_
                    show Steps p.tables e below (T72.setTop (mkF m 153 #[.val (.long q1), .second, .val (.long q2), .second, .val (.long q3), .second, .val (.long q4), .second, .val (.int p5), .val (.long q3), .second, .val (.long q4), .second, .val (.ref b7), .val (.ref b14), .val (.int (1 : Int32)), .val (.int (2 : Int32)), .val (.ref b80)] [(.ref b7)])) _
                    refine XS.aload X72.here hx rfl (hb hby at_153) rfl rfl ?_
                    show Steps p.tables e below (T72.setTop (mkF m 155 #[.val (.long q1), .second, .val (.long q2), .second, .val (.long q3), .second, .val (.long q4), .second, .val (.int p5), .val (.long q3), .second, .val (.long q4), .second, .val (.ref b7), .val (.ref b14), .val (.int (1 : Int32)), .val (.int (2 : Int32)), .val (.ref b80)] [(.ref b80), (.ref b7)])) _
                    refine st100.trans ?_
                    show Steps p.tables e below (T100.setTop (mkF m 158 #[.val (.long q1), .second, .val (.long q2), .second, .val (.long q3), .second, .val (.long q4), .second, .val (.int p5), .val (.long q3), .second, .val (.long q4), .second, .val (.ref b7), .val (.ref b14), .val (.int (1 : Int32)), .val (.int (2 : Int32)), .val (.ref b80)] [(.int (0 : Int32))])) _
                    refine XS.ifNo X100.here hx rfl (hb hby at_158) rfl ((if0 _ _).trans (teq (by decide : (0 : Int32) = (0 : Int32))).2) ?_
                    show Steps p.tables e below (T100.setTop (mkF m 161 #[.val (.long q1), .second, .val (.long q2), .second, .val (.long q3), .second, .val (.long q4), .second, .val (.int p5), .val (.long q3), .second, .val (.long q4), .second, .val (.ref b7), .val (.ref b14), .val (.int (1 : Int32)), .val (.int (2 : Int32)), .val (.ref b80)] [])) _
                    refine XS.iconst X100.here hx rfl (hb hby at_161) ?_
                    show Steps p.tables e below (T100.setTop (mkF m 162 #[.val (.long q1), .second, .val (.long q2), .second, .val (.long q3), .second, .val (.long q4), .second, .val (.int p5), .val (.long q3), .second, .val (.long q4), .second, .val (.ref b7), .val (.ref b14), .val (.int (1 : Int32)), .val (.int (2 : Int32)), .val (.ref b80)] [(.int (1 : Int32))])) _
                    refine XS.goto X100.here hx rfl (pc0 := 162) (pc' := 166) rfl (hb hby at_162) (by decide) (by decide) ?_
                    show Steps p.tables e below (T100.setTop (mkF m 166 #[.val (.long q1), .second, .val (.long q2), .second, .val (.long q3), .second, .val (.long q4), .second, .val (.int p5), .val (.long q3), .second, .val (.long q4), .second, .val (.ref b7), .val (.ref b14), .val (.int (1 : Int32)), .val (.int (2 : Int32)), .val (.ref b80)] [(.int (1 : Int32))])) _
                    exact retN X100 hx (t := .boolean) hret (by simp) (hb hby at_166) hr
                  ·
                    show Q0 n0 _ T100.heap _
                    rw [e102]
                    exact ⟨rfl, N100⟩
                ·
                  have N72 := Fr.app N15 Nq90
                  have f104 := ((f11.ext E14).keep K17)
                  obtain ⟨cq103, kq103, q103a, q103b, q103c⟩ := isOf hZ e91 f104
                  obtain ⟨_, _, ⟨T105, L105, c105, n105⟩, -, X105, ⟨Lc105, hQ105, l105, y105, z105⟩, st105⟩ := X72.virtualBack hx (y := (⟨"com/example/sablegrid/sablegrid/model/WriteOutcome", "equals", "(Ljava/lang/Object;)Z"⟩ : MethodName)) (z := (⟨"com/example/sablegrid/sablegrid/model/WriteOutcome", "equals", "(Ljava/lang/Object;)Z"⟩ : MethodName)) hown (mvT hZ (hw _ (List.mem_of_getElem? (i := 13) rfl))) (mvT hZ (hw _ (List.mem_of_getElem? (i := 14) rfl))) (notFace_of_selects (args := #[]) (mvT hZ (hw _ (List.mem_of_getElem? (i := 16) rfl)))) (mvT hZ (hw _ (List.mem_of_getElem? (i := 16) rfl))) (mvT hZ (hw _ (List.mem_of_getElem? (i := 15) rfl))) (by decide) (backOf (W := 0) (rm8 l Z a0 hw [] b7 v87 T15.heap n0 O15 g_b7 f92) hZ (hw _ (List.mem_of_getElem? (i := 17) rfl)) (hw _ (List.mem_of_getElem? (i := 2) rfl)) (by decide) (by decide)) q103a q103c (g := (mkF m 155 #[.val (.long q1), .second, .val (.long q2), .second, .val (.long q3), .second, .val (.long q4), .second, .val (.int p5), .val (.long q3), .second, .val (.long q4), .second, .val (.ref b7), .val (.ref b14), .val (.int (1 : Int32)), .val (.int (2 : Int32)), .val (.ref v87)] [(.ref v87), (.ref b7)])) rfl (by rw [hml]; rfl) (Steps.refl _) (argsL := [(.ref v87)]) (rest := []) (lenOf pd1 rfl) rfl (by show 2 * 0 + _ ≤ _; exact Nat.le_of_eq rfl) (hb hby at_155) (fun _ _ => ⟨rfl, e91, (by decide : 3 + 0 ≤ _), (by decide : 5 + 0 ≤ _)⟩)
                  dsimp only [Pt.U, Pt.locs, Pt.cells, Pt.slots] at X105 l105 y105 z105 st105 hQ105
                  subst l105 y105 z105
                  have X105 : Stand p l e room_1 s m #[(.long q1), (.long q2), (.long q3), (.long q4), (.int p5)] below meth c T105 _ 3 5 := X105
                  obtain ⟨rfl, Nq106, e107⟩ := hQ105
                  have N105 := Fr.app N72 Nq106
                  obtain ⟨fs, hr, hrun, hended, hW, hsame⟩ := X105.leave (v := some (.int (1 : Int32))) (fun h => by rw [hret] at h; cases h)
                  refine ⟨_, _, pre73 _ ?_, hrun, hended, _, _, rfl, ?_, ⟨_, rfl⟩, hW, hsame.mono (by decide) (by decide)⟩
                  ·
                    show Steps p.tables e below (T15.setTop (mkF m 146 #[.val (.long q1), .second, .val (.long q2), .second, .val (.long q3), .second, .val (.long q4), .second, .val (.int p5), .val (.long q3), .second, .val (.long q4), .second, .val (.ref b7), .val (.ref b14), .val (.int (1 : Int32)), .val (.int (2 : Int32)), .unset] [(.long q1)])) _
                    refine st72 _ ?_
                    show Steps p.tables e below (T72.setTop (mkF m 149 #[.val (.long q1), .second, .val (.long q2), .second, .val (.long q3), .second, .val (.long q4), .second, .val (.int p5), .val (.long q3), .second, .val (.long q4), .second, .val (.ref b7), .val (.ref b14), .val (.int (1 : Int32)), .val (.int (2 : Int32)), .unset] [(.ref v87)])) _
                    refine XS.astore X72.here hx rfl (hb hby at_149) rfl rfl (l' := #[.val (.long q1), .second, .val (.long q2), .second, .val (.long q3), .second, .val (.long q4), .second, .val (.int p5), .val (.long q3), .second, .val (.long q4), .second, .val (.ref b7), .val (.ref b14), .val (.int (1 : Int32)), .val (.int (2 : Int32)), .val (.ref v87)]) rfl ?_
                    show Steps p.tables e below (T72.setTop (mkF m 151 #[.val (.long q1), .second, .val (.long q2), .second, .val (.long q3), .second, .val (.long q4), .second, .val (.int p5), .val (.long q3), .second, .val (.long q4), .second, .val (.ref b7), .val (.ref b14), .val (.int (1 : Int32)), .val (.int (2 : Int32)), .val (.ref v87)] [])) _
                    refine XS.aload X72.here hx rfl (hb hby at_151) rfl rfl ?_
                    show Steps p.tables e below (T72.setTop (mkF m 153 #[.val (.long q1), .second, .val (.long q2), .second, .val (.long q3), .second, .val (.long q4), .second, .val (.int p5), .val (.long q3), .second, .val (.long q4), .second, .val (.ref b7), .val (.ref b14), .val (.int (1 : Int32)), .val (.int (2 : Int32)), .val (.ref v87)] [(.ref b7)])) _
                    refine XS.aload X72.here hx rfl (hb hby at_153) rfl rfl ?_
                    show Steps p.tables e below (T72.setTop (mkF m 155 #[.val (.long q1), .second, .val (.long q2), .second, .val (.long q3), .second, .val (.long q4), .second, .val (.int p5), .val (.long q3), .second, .val (.long q4), .second, .val (.ref b7), .val (.ref b14), .val (.int (1 : Int32)), .val (.int (2 : Int32)), .val (.ref v87)] [(.ref v87), (.ref b7)])) _
                    refine st105.trans ?_
                    show Steps p.tables e below (T105.setTop (mkF m 158 #[.val (.long q1), .second, .val (.long q2), .second, .val (.long q3), .second, .val (.long q4), .second, .val (.int p5), .val (.long q3), .second, .val (.long q4), .second, .val (.ref b7), .val (.ref b14), .val (.int (1 : Int32)), .val (.int (2 : Int32)), .val (.ref v87)] [(.int (0 : Int32))])) _
                    refine XS.ifNo X105.here hx rfl (hb hby at_158) rfl ((if0 _ _).trans (teq (by decide : (0 : Int32) = (0 : Int32))).2) ?_
                    show Steps p.tables e below (T105.setTop (mkF m 161 #[.val (.long q1), .second, .val (.long q2), .second, .val (.long q3), .second, .val (.long q4), .second, .val (.int p5), .val (.long q3), .second, .val (.long q4), .second, .val (.ref b7), .val (.ref b14), .val (.int (1 : Int32)), .val (.int (2 : Int32)), .val (.ref v87)] [])) _
                    refine XS.iconst X105.here hx rfl (hb hby at_161) ?_
                    show Steps p.tables e below (T105.setTop (mkF m 162 #[.val (.long q1), .second, .val (.long q2), .second, .val (.long q3), .second, .val (.long q4), .second, .val (.int p5), .val (.long q3), .second, .val (.long q4), .second, .val (.ref b7), .val (.ref b14), .val (.int (1 : Int32)), .val (.int (2 : Int32)), .val (.ref v87)] [(.int (1 : Int32))])) _
                    refine XS.goto X105.here hx rfl (pc0 := 162) (pc' := 166) rfl (hb hby at_162) (by decide) (by decide) ?_
                    show Steps p.tables e below (T105.setTop (mkF m 166 #[.val (.long q1), .second, .val (.long q2), .second, .val (.long q3), .second, .val (.long q4), .second, .val (.int p5), .val (.long q3), .second, .val (.long q4), .second, .val (.ref b7), .val (.ref b14), .val (.int (1 : Int32)), .val (.int (2 : Int32)), .val (.ref v87)] [(.int (1 : Int32))])) _
                    exact retN X105 hx (t := .boolean) hret (by simp) (hb hby at_166) hr
                  ·
                    show Q0 n0 _ T105.heap _
                    rw [e107]
                    exact ⟨rfl, N105⟩
              ·
                have hq108 : (((p5.toUInt32 >>> ((2 : Int32) &&& 31).toUInt32).toInt32) &&& (3 : Int32)) = (3 : Int32) := (own_geq (n := 3) (k := (3 : Int32)) (by decide) (by have q0 := own_and (x := ((p5.toUInt32 >>> ((2 : Int32) &&& 31).toUInt32).toInt32)) (k := (3 : Int32)) (n := 3) (by decide) (by decide); have q1 := own_neq (n := 0) (k := (0 : Int32)) (by decide) hc26; have q2 := own_neq (n := 1) (k := (1 : Int32)) (by decide) hc62; have q3 := own_neq (n := 2) (k := (2 : Int32)) (by decide) hc70; omega))
                have pre109 : ∀ t, Steps p.tables e below (T15.setTop (mkF m 142 #[.val (.long q1), .second, .val (.long q2), .second, .val (.long q3), .second, .val (.long q4), .second, .val (.int p5), .val (.long q3), .second, .val (.long q4), .second, .val (.ref b7), .val (.ref b14), .val (.int (1 : Int32)), .val (.int (3 : Int32)), .unset] [(.int (2 : Int32)), (.int (3 : Int32))])) t → Steps p.tables e below (s₁.setTop (entryFrame m #[(.long q1), (.long q2), (.long q3), (.long q4), (.int p5)] maxLocals)) t := fun t k => pre69 t (by rw [hq108]; exact k)
                have f110 := ((f11.ext E14).keep K17)
                have lt111 : b7 < T8.heap.size := (Nat.lt_of_lt_of_le A7.lt K10.1)
                have ne112 : b7 ≠ b14 := Nat.ne_of_lt (Nat.lt_of_lt_of_le lt111 sz_b14)
                have f113 := ((f12.ext E14).keep K17 (ninS ne112 nin0))
                have f114 := ((f13.ext E14).keep K17 (ninS ne112 nin0))
                obtain ⟨cq115, kq115, q115a, q115b, q115c⟩ := isOf hZ rfl f110
                obtain ⟨_, _, ⟨T116, L116, c116, n116⟩, -, X116, ⟨Lc116, hQ116, l116, y116, z116⟩, st116⟩ := X15.virtualBack hx (y := (⟨"com/example/sablegrid/sablegrid/model/WriteOutcome", "equals", "(Ljava/lang/Object;)Z"⟩ : MethodName)) (z := (⟨"com/example/sablegrid/sablegrid/model/WriteOutcome", "equals", "(Ljava/lang/Object;)Z"⟩ : MethodName)) hown (mvT hZ (hw _ (List.mem_of_getElem? (i := 13) rfl))) (mvT hZ (hw _ (List.mem_of_getElem? (i := 14) rfl))) (notFace_of_selects (args := #[]) (mvT hZ (hw _ (List.mem_of_getElem? (i := 16) rfl)))) (mvT hZ (hw _ (List.mem_of_getElem? (i := 16) rfl))) (mvT hZ (hw _ (List.mem_of_getElem? (i := 15) rfl))) (by decide) (backOf (W := 0) (rm9 l Z a0 hw [] b7 q1 q2 T15.heap n0 O15 g_b7 f110 f113 f114) hZ (hw _ (List.mem_of_getElem? (i := 17) rfl)) (hw _ (List.mem_of_getElem? (i := 2) rfl)) (by decide) (by decide)) q115a q115c (g := (mkF m 171 #[.val (.long q1), .second, .val (.long q2), .second, .val (.long q3), .second, .val (.long q4), .second, .val (.int p5), .val (.long q3), .second, .val (.long q4), .second, .val (.ref b7), .val (.ref b14), .val (.int (1 : Int32)), .val (.int (3 : Int32)), .unset] [(.ref b7), (.ref b7)])) rfl (by rw [hml]; rfl) (Steps.refl _) (argsL := [(.ref b7)]) (rest := []) (lenOf pd1 rfl) rfl (by show 2 * 0 + _ ≤ _; exact Nat.le_of_eq rfl) (hb hby at_171) (fun _ _ => ⟨rfl, rfl, (by decide : 2 + 0 ≤ _), (by decide : 4 + 0 ≤ _)⟩)
                dsimp only [Pt.U, Pt.locs, Pt.cells, Pt.slots] at X116 l116 y116 z116 st116 hQ116
                subst l116 y116 z116
                have X116 : Stand p l e room_1 s m #[(.long q1), (.long q2), (.long q3), (.long q4), (.int p5)] below meth c T116 _ 2 4 := X116
                obtain ⟨rfl, Nq117, e118⟩ := hQ116
                have N116 := Fr.app N15 Nq117
                obtain ⟨cq119, kq119, q119a, q119b, q119c⟩ := isOf hZ e118 f18
                obtain ⟨_, _, ⟨T120, L120, c120, n120⟩, -, X120, ⟨Lc120, hQ120, l120, y120, z120⟩, st120⟩ := X116.virtualBack hx (y := (⟨"com/example/sablegrid/sablegrid/model/WriteOutcome", "equals", "(Ljava/lang/Object;)Z"⟩ : MethodName)) (z := (⟨"com/example/sablegrid/sablegrid/model/WriteOutcome", "equals", "(Ljava/lang/Object;)Z"⟩ : MethodName)) hown (mvT hZ (hw _ (List.mem_of_getElem? (i := 13) rfl))) (mvT hZ (hw _ (List.mem_of_getElem? (i := 14) rfl))) (notFace_of_selects (args := #[]) (mvT hZ (hw _ (List.mem_of_getElem? (i := 16) rfl)))) (mvT hZ (hw _ (List.mem_of_getElem? (i := 16) rfl))) (mvT hZ (hw _ (List.mem_of_getElem? (i := 15) rfl))) (by decide) (backOf (W := 0) (rm9 l Z a0 hw [] b14 q3 q4 T15.heap n0 O15 g_b14 f18 f19 f20) hZ (hw _ (List.mem_of_getElem? (i := 17) rfl)) (hw _ (List.mem_of_getElem? (i := 2) rfl)) (by decide) (by decide)) q119a q119c (g := (mkF m 181 #[.val (.long q1), .second, .val (.long q2), .second, .val (.long q3), .second, .val (.long q4), .second, .val (.int p5), .val (.long q3), .second, .val (.long q4), .second, .val (.ref b7), .val (.ref b14), .val (.int (1 : Int32)), .val (.int (3 : Int32)), .unset] [(.ref b14), (.ref b14)])) rfl (by rw [hml]; rfl) (Steps.refl _) (argsL := [(.ref b14)]) (rest := []) (lenOf pd1 rfl) rfl (by show 2 * 0 + _ ≤ _; exact Nat.le_of_eq rfl) (hb hby at_181) (fun _ _ => ⟨rfl, e118, (by decide : 2 + 0 ≤ _), (by decide : 4 + 0 ≤ _)⟩)
                dsimp only [Pt.U, Pt.locs, Pt.cells, Pt.slots] at X120 l120 y120 z120 st120 hQ120
                subst l120 y120 z120
                have X120 : Stand p l e room_1 s m #[(.long q1), (.long q2), (.long q3), (.long q4), (.int p5)] below meth c T120 _ 2 4 := X120
                obtain ⟨rfl, Nq121, e122⟩ := hQ120
                have N120 := Fr.app N116 Nq121
                obtain ⟨fs, hr, hrun, hended, hW, hsame⟩ := X120.leave (v := some (.int (1 : Int32))) (fun h => by rw [hret] at h; cases h)
                refine ⟨_, _, pre109 _ ?_, hrun, hended, _, _, rfl, ?_, ⟨_, rfl⟩, hW, hsame.mono (by decide) (by decide)⟩
                ·
                  show Steps p.tables e below (T15.setTop (mkF m 142 #[.val (.long q1), .second, .val (.long q2), .second, .val (.long q3), .second, .val (.long q4), .second, .val (.int p5), .val (.long q3), .second, .val (.long q4), .second, .val (.ref b7), .val (.ref b14), .val (.int (1 : Int32)), .val (.int (3 : Int32)), .unset] [(.int (2 : Int32)), (.int (3 : Int32))])) _
                  refine XS.icmpYes X15.here hx rfl (pc0 := 142) (pc' := 167) rfl (hb hby at_142) rfl (feq (by decide : ¬ ((3 : Int32) = (2 : Int32)))).2 (by decide) (by decide) ?_
                  show Steps p.tables e below (T15.setTop (mkF m 167 #[.val (.long q1), .second, .val (.long q2), .second, .val (.long q3), .second, .val (.long q4), .second, .val (.int p5), .val (.long q3), .second, .val (.long q4), .second, .val (.ref b7), .val (.ref b14), .val (.int (1 : Int32)), .val (.int (3 : Int32)), .unset] [])) _
                  refine XS.aload X15.here hx rfl (hb hby at_167) rfl rfl ?_
                  show Steps p.tables e below (T15.setTop (mkF m 169 #[.val (.long q1), .second, .val (.long q2), .second, .val (.long q3), .second, .val (.long q4), .second, .val (.int p5), .val (.long q3), .second, .val (.long q4), .second, .val (.ref b7), .val (.ref b14), .val (.int (1 : Int32)), .val (.int (3 : Int32)), .unset] [(.ref b7)])) _
                  refine XS.aload X15.here hx rfl (hb hby at_169) rfl rfl ?_
                  show Steps p.tables e below (T15.setTop (mkF m 171 #[.val (.long q1), .second, .val (.long q2), .second, .val (.long q3), .second, .val (.long q4), .second, .val (.int p5), .val (.long q3), .second, .val (.long q4), .second, .val (.ref b7), .val (.ref b14), .val (.int (1 : Int32)), .val (.int (3 : Int32)), .unset] [(.ref b7), (.ref b7)])) _
                  refine st116.trans ?_
                  show Steps p.tables e below (T116.setTop (mkF m 174 #[.val (.long q1), .second, .val (.long q2), .second, .val (.long q3), .second, .val (.long q4), .second, .val (.int p5), .val (.long q3), .second, .val (.long q4), .second, .val (.ref b7), .val (.ref b14), .val (.int (1 : Int32)), .val (.int (3 : Int32)), .unset] [(.int (1 : Int32))])) _
                  refine XS.ifNo X116.here hx rfl (hb hby at_174) rfl ((if0 _ _).trans (feq (by decide : ¬ ((1 : Int32) = (0 : Int32)))).1) ?_
                  show Steps p.tables e below (T116.setTop (mkF m 177 #[.val (.long q1), .second, .val (.long q2), .second, .val (.long q3), .second, .val (.long q4), .second, .val (.int p5), .val (.long q3), .second, .val (.long q4), .second, .val (.ref b7), .val (.ref b14), .val (.int (1 : Int32)), .val (.int (3 : Int32)), .unset] [])) _
                  refine XS.aload X116.here hx rfl (hb hby at_177) rfl rfl ?_
                  show Steps p.tables e below (T116.setTop (mkF m 179 #[.val (.long q1), .second, .val (.long q2), .second, .val (.long q3), .second, .val (.long q4), .second, .val (.int p5), .val (.long q3), .second, .val (.long q4), .second, .val (.ref b7), .val (.ref b14), .val (.int (1 : Int32)), .val (.int (3 : Int32)), .unset] [(.ref b14)])) _
                  refine XS.aload X116.here hx rfl (hb hby at_179) rfl rfl ?_
                  show Steps p.tables e below (T116.setTop (mkF m 181 #[.val (.long q1), .second, .val (.long q2), .second, .val (.long q3), .second, .val (.long q4), .second, .val (.int p5), .val (.long q3), .second, .val (.long q4), .second, .val (.ref b7), .val (.ref b14), .val (.int (1 : Int32)), .val (.int (3 : Int32)), .unset] [(.ref b14), (.ref b14)])) _
                  refine st120.trans ?_
                  show Steps p.tables e below (T120.setTop (mkF m 184 #[.val (.long q1), .second, .val (.long q2), .second, .val (.long q3), .second, .val (.long q4), .second, .val (.int p5), .val (.long q3), .second, .val (.long q4), .second, .val (.ref b7), .val (.ref b14), .val (.int (1 : Int32)), .val (.int (3 : Int32)), .unset] [(.int (1 : Int32))])) _
                  refine XS.ifNo X120.here hx rfl (hb hby at_184) rfl ((if0 _ _).trans (feq (by decide : ¬ ((1 : Int32) = (0 : Int32)))).1) ?_
                  show Steps p.tables e below (T120.setTop (mkF m 187 #[.val (.long q1), .second, .val (.long q2), .second, .val (.long q3), .second, .val (.long q4), .second, .val (.int p5), .val (.long q3), .second, .val (.long q4), .second, .val (.ref b7), .val (.ref b14), .val (.int (1 : Int32)), .val (.int (3 : Int32)), .unset] [])) _
                  refine XS.iconst X120.here hx rfl (hb hby at_187) ?_
                  show Steps p.tables e below (T120.setTop (mkF m 188 #[.val (.long q1), .second, .val (.long q2), .second, .val (.long q3), .second, .val (.long q4), .second, .val (.int p5), .val (.long q3), .second, .val (.long q4), .second, .val (.ref b7), .val (.ref b14), .val (.int (1 : Int32)), .val (.int (3 : Int32)), .unset] [(.int (1 : Int32))])) _
                  refine XS.goto X120.here hx rfl (pc0 := 188) (pc' := 192) rfl (hb hby at_188) (by decide) (by decide) ?_
                  show Steps p.tables e below (T120.setTop (mkF m 192 #[.val (.long q1), .second, .val (.long q2), .second, .val (.long q3), .second, .val (.long q4), .second, .val (.int p5), .val (.long q3), .second, .val (.long q4), .second, .val (.ref b7), .val (.ref b14), .val (.int (1 : Int32)), .val (.int (3 : Int32)), .unset] [(.int (1 : Int32))])) _
                  exact retN X120 hx (t := .boolean) hret (by simp) (hb hby at_192) hr
                ·
                  show Q0 n0 _ T120.heap _
                  rw [e122]
                  exact ⟨rfl, N120⟩
        ·
          have pre123 : ∀ t, Steps p.tables e below (T15.setTop (mkF m 85 #[.val (.long q1), .second, .val (.long q2), .second, .val (.long q3), .second, .val (.long q4), .second, .val (.int p5), .val (.long q3), .second, .val (.long q4), .second, .val (.ref b7), .val (.ref b14), .val (.int (0 : Int32)), .val (.int (((p5.toUInt32 >>> ((2 : Int32) &&& 31).toUInt32).toInt32) &&& (3 : Int32))), .unset] [(.int (((p5.toUInt32 >>> ((2 : Int32) &&& 31).toUInt32).toInt32) &&& (3 : Int32)))])) t → Steps p.tables e below (s₁.setTop (entryFrame m #[(.long q1), (.long q2), (.long q3), (.long q4), (.int p5)] maxLocals)) t := fun t k => by
            refine pre23 _ ?_
            show Steps p.tables e below (T15.setTop (mkF m 65 #[.val (.long q1), .second, .val (.long q2), .second, .val (.long q3), .second, .val (.long q4), .second, .val (.int p5), .val (.long q3), .second, .val (.long q4), .second, .val (.ref b7), .val (.ref b14), .unset, .unset, .unset] [(.int (lcmpW q2 q4))])) _
            refine XS.ifYes X15.here hx rfl (pc0 := 65) (pc' := 72) rfl (hb hby at_65) rfl ((if0 _ _).trans (feq (fun q => hc24 ((lw_eq _ _).mp q))).2) (by decide) (by decide) ?_
            show Steps p.tables e below (T15.setTop (mkF m 72 #[.val (.long q1), .second, .val (.long q2), .second, .val (.long q3), .second, .val (.long q4), .second, .val (.int p5), .val (.long q3), .second, .val (.long q4), .second, .val (.ref b7), .val (.ref b14), .unset, .unset, .unset] [])) _
            refine XS.iconst X15.here hx rfl (hb hby at_72) ?_
            show Steps p.tables e below (T15.setTop (mkF m 73 #[.val (.long q1), .second, .val (.long q2), .second, .val (.long q3), .second, .val (.long q4), .second, .val (.int p5), .val (.long q3), .second, .val (.long q4), .second, .val (.ref b7), .val (.ref b14), .unset, .unset, .unset] [(.int (0 : Int32))])) _
            refine XS.istore X15.here hx rfl (hb hby at_73) rfl (l' := #[.val (.long q1), .second, .val (.long q2), .second, .val (.long q3), .second, .val (.long q4), .second, .val (.int p5), .val (.long q3), .second, .val (.long q4), .second, .val (.ref b7), .val (.ref b14), .val (.int (0 : Int32)), .unset, .unset]) rfl ?_
            show Steps p.tables e below (T15.setTop (mkF m 75 #[.val (.long q1), .second, .val (.long q2), .second, .val (.long q3), .second, .val (.long q4), .second, .val (.int p5), .val (.long q3), .second, .val (.long q4), .second, .val (.ref b7), .val (.ref b14), .val (.int (0 : Int32)), .unset, .unset] [])) _
            refine XS.iload X15.here hx rfl (hb hby at_75) rfl ?_
            show Steps p.tables e below (T15.setTop (mkF m 77 #[.val (.long q1), .second, .val (.long q2), .second, .val (.long q3), .second, .val (.long q4), .second, .val (.int p5), .val (.long q3), .second, .val (.long q4), .second, .val (.ref b7), .val (.ref b14), .val (.int (0 : Int32)), .unset, .unset] [(.int p5)])) _
            refine XS.iconst X15.here hx rfl (hb hby at_77) ?_
            show Steps p.tables e below (T15.setTop (mkF m 78 #[.val (.long q1), .second, .val (.long q2), .second, .val (.long q3), .second, .val (.long q4), .second, .val (.int p5), .val (.long q3), .second, .val (.long q4), .second, .val (.ref b7), .val (.ref b14), .val (.int (0 : Int32)), .unset, .unset] [(.int (2 : Int32)), (.int p5)])) _
            refine XS.iushr X15.here hx rfl (hb hby at_78) rfl ?_
            show Steps p.tables e below (T15.setTop (mkF m 79 #[.val (.long q1), .second, .val (.long q2), .second, .val (.long q3), .second, .val (.long q4), .second, .val (.int p5), .val (.long q3), .second, .val (.long q4), .second, .val (.ref b7), .val (.ref b14), .val (.int (0 : Int32)), .unset, .unset] [(.int ((p5.toUInt32 >>> ((2 : Int32) &&& 31).toUInt32).toInt32))])) _
            refine XS.iconst X15.here hx rfl (hb hby at_79) ?_
            show Steps p.tables e below (T15.setTop (mkF m 80 #[.val (.long q1), .second, .val (.long q2), .second, .val (.long q3), .second, .val (.long q4), .second, .val (.int p5), .val (.long q3), .second, .val (.long q4), .second, .val (.ref b7), .val (.ref b14), .val (.int (0 : Int32)), .unset, .unset] [(.int (3 : Int32)), (.int ((p5.toUInt32 >>> ((2 : Int32) &&& 31).toUInt32).toInt32))])) _
            refine XS.iand X15.here hx rfl (hb hby at_80) rfl ?_
            show Steps p.tables e below (T15.setTop (mkF m 81 #[.val (.long q1), .second, .val (.long q2), .second, .val (.long q3), .second, .val (.long q4), .second, .val (.int p5), .val (.long q3), .second, .val (.long q4), .second, .val (.ref b7), .val (.ref b14), .val (.int (0 : Int32)), .unset, .unset] [(.int (((p5.toUInt32 >>> ((2 : Int32) &&& 31).toUInt32).toInt32) &&& (3 : Int32)))])) _
            refine XS.istore X15.here hx rfl (hb hby at_81) rfl (l' := #[.val (.long q1), .second, .val (.long q2), .second, .val (.long q3), .second, .val (.long q4), .second, .val (.int p5), .val (.long q3), .second, .val (.long q4), .second, .val (.ref b7), .val (.ref b14), .val (.int (0 : Int32)), .val (.int (((p5.toUInt32 >>> ((2 : Int32) &&& 31).toUInt32).toInt32) &&& (3 : Int32))), .unset]) rfl ?_
            show Steps p.tables e below (T15.setTop (mkF m 83 #[.val (.long q1), .second, .val (.long q2), .second, .val (.long q3), .second, .val (.long q4), .second, .val (.int p5), .val (.long q3), .second, .val (.long q4), .second, .val (.ref b7), .val (.ref b14), .val (.int (0 : Int32)), .val (.int (((p5.toUInt32 >>> ((2 : Int32) &&& 31).toUInt32).toInt32) &&& (3 : Int32))), .unset] [])) _
            refine XS.iload X15.here hx rfl (hb hby at_83) rfl ?_
            exact k
          by_cases hc124 : (((p5.toUInt32 >>> ((2 : Int32) &&& 31).toUInt32).toInt32) &&& (3 : Int32)) = (0 : Int32)
          ·
            have pre125 : ∀ t, Steps p.tables e below (T15.setTop (mkF m 85 #[.val (.long q1), .second, .val (.long q2), .second, .val (.long q3), .second, .val (.long q4), .second, .val (.int p5), .val (.long q3), .second, .val (.long q4), .second, .val (.ref b7), .val (.ref b14), .val (.int (0 : Int32)), .val (.int (0 : Int32)), .unset] [(.int (0 : Int32))])) t → Steps p.tables e below (s₁.setTop (entryFrame m #[(.long q1), (.long q2), (.long q3), (.long q4), (.int p5)] maxLocals)) t := fun t k => pre123 t (by rw [hc124]; exact k)
            have lt126 : b7 < T8.heap.size := (Nat.lt_of_lt_of_le A7.lt K10.1)
            have ne127 : b7 ≠ b14 := Nat.ne_of_lt (Nat.lt_of_lt_of_le lt126 sz_b14)
            have f128 := ((f12.ext E14).keep K17 (ninS ne127 nin0))
            have f129 := ((f13.ext E14).keep K17 (ninS ne127 nin0))
            have f131 := ((f11.ext E14).keep K17)
            obtain ⟨cq130, kq130, q130a, q130b, q130c⟩ := isOf hZ rfl f131
            obtain ⟨_, _, ⟨T132, L132, c132, n132⟩, -, X132, ⟨Lc132, hQ132, l132, y132, z132⟩, st132⟩ := X15.virtualBack hx (y := (⟨"com/example/sablegrid/sablegrid/model/WriteOutcome", "equals", "(Ljava/lang/Object;)Z"⟩ : MethodName)) (z := (⟨"com/example/sablegrid/sablegrid/model/WriteOutcome", "equals", "(Ljava/lang/Object;)Z"⟩ : MethodName)) hown (mvT hZ (hw _ (List.mem_of_getElem? (i := 13) rfl))) (mvT hZ (hw _ (List.mem_of_getElem? (i := 14) rfl))) (notFace_of_selects (args := #[]) (mvT hZ (hw _ (List.mem_of_getElem? (i := 16) rfl)))) (mvT hZ (hw _ (List.mem_of_getElem? (i := 16) rfl))) (mvT hZ (hw _ (List.mem_of_getElem? (i := 15) rfl))) (by decide) (backOf (W := 0) (rm2 l Z a0 hw [] b7 b14 q1 q2 q3 q4 T15.heap n0 O15 g_b7 g_b14 f128 f129 f18 f19 f20) hZ (hw _ (List.mem_of_getElem? (i := 17) rfl)) (hw _ (List.mem_of_getElem? (i := 2) rfl)) (by decide) (by decide)) q130a q130c (g := (mkF m 92 #[.val (.long q1), .second, .val (.long q2), .second, .val (.long q3), .second, .val (.long q4), .second, .val (.int p5), .val (.long q3), .second, .val (.long q4), .second, .val (.ref b7), .val (.ref b14), .val (.int (0 : Int32)), .val (.int (0 : Int32)), .unset] [(.ref b14), (.ref b7)])) rfl (by rw [hml]; rfl) (Steps.refl _) (argsL := [(.ref b14)]) (rest := []) (lenOf pd1 rfl) rfl (by show 2 * 0 + _ ≤ _; exact Nat.le_of_eq rfl) (hb hby at_92) (fun _ _ => ⟨rfl, rfl, (by decide : 2 + 0 ≤ _), (by decide : 4 + 0 ≤ _)⟩)
            dsimp only [Pt.U, Pt.locs, Pt.cells, Pt.slots] at X132 l132 y132 z132 st132 hQ132
            subst l132 y132 z132
            have pre133 : ∀ t, Steps p.tables e below (T15.setTop (mkF m 92 #[.val (.long q1), .second, .val (.long q2), .second, .val (.long q3), .second, .val (.long q4), .second, .val (.int p5), .val (.long q3), .second, .val (.long q4), .second, .val (.ref b7), .val (.ref b14), .val (.int (0 : Int32)), .val (.int (0 : Int32)), .unset] [(.ref b14), (.ref b7)])) t → Steps p.tables e below (s₁.setTop (entryFrame m #[(.long q1), (.long q2), (.long q3), (.long q4), (.int p5)] maxLocals)) t := fun t k => by
              refine pre125 _ ?_
              show Steps p.tables e below (T15.setTop (mkF m 85 #[.val (.long q1), .second, .val (.long q2), .second, .val (.long q3), .second, .val (.long q4), .second, .val (.int p5), .val (.long q3), .second, .val (.long q4), .second, .val (.ref b7), .val (.ref b14), .val (.int (0 : Int32)), .val (.int (0 : Int32)), .unset] [(.int (0 : Int32))])) _
              refine XS.ifNo X15.here hx rfl (hb hby at_85) rfl ((if0 _ _).trans (teq (by decide : (0 : Int32) = (0 : Int32))).2) ?_
              show Steps p.tables e below (T15.setTop (mkF m 88 #[.val (.long q1), .second, .val (.long q2), .second, .val (.long q3), .second, .val (.long q4), .second, .val (.int p5), .val (.long q3), .second, .val (.long q4), .second, .val (.ref b7), .val (.ref b14), .val (.int (0 : Int32)), .val (.int (0 : Int32)), .unset] [])) _
              refine XS.aload X15.here hx rfl (hb hby at_88) rfl rfl ?_
              show Steps p.tables e below (T15.setTop (mkF m 90 #[.val (.long q1), .second, .val (.long q2), .second, .val (.long q3), .second, .val (.long q4), .second, .val (.int p5), .val (.long q3), .second, .val (.long q4), .second, .val (.ref b7), .val (.ref b14), .val (.int (0 : Int32)), .val (.int (0 : Int32)), .unset] [(.ref b7)])) _
              refine XS.aload X15.here hx rfl (hb hby at_90) rfl rfl ?_
              exact k
            have X132 : Stand p l e room_1 s m #[(.long q1), (.long q2), (.long q3), (.long q4), (.int p5)] below meth c T132 _ 2 4 := X132
            rcases hQ132 with ⟨hc134, hc135, rfl, Nq136, e137⟩ | ⟨hc138, hc139, rfl, Nq140, e141⟩ | ⟨hc142, rfl, Nq143, e144⟩
            ·
              exact absurd hc135 hc24
            ·
              have N132 := Fr.app N15 Nq140
              obtain ⟨cq145, kq145, q145a, q145b, q145c⟩ := isOf hZ e141 f18
              obtain ⟨_, _, ⟨T146, L146, c146, n146⟩, -, X146, ⟨Lc146, hQ146, l146, y146, z146⟩, st146⟩ := X132.virtualBack hx (y := (⟨"com/example/sablegrid/sablegrid/model/WriteOutcome", "equals", "(Ljava/lang/Object;)Z"⟩ : MethodName)) (z := (⟨"com/example/sablegrid/sablegrid/model/WriteOutcome", "equals", "(Ljava/lang/Object;)Z"⟩ : MethodName)) hown (mvT hZ (hw _ (List.mem_of_getElem? (i := 13) rfl))) (mvT hZ (hw _ (List.mem_of_getElem? (i := 14) rfl))) (notFace_of_selects (args := #[]) (mvT hZ (hw _ (List.mem_of_getElem? (i := 16) rfl)))) (mvT hZ (hw _ (List.mem_of_getElem? (i := 16) rfl))) (mvT hZ (hw _ (List.mem_of_getElem? (i := 15) rfl))) (by decide) (backOf (W := 0) (rm2 l Z a0 hw [] b14 b7 q3 q4 q1 q2 T15.heap n0 O15 g_b14 g_b7 f19 f20 f131 f128 f129) hZ (hw _ (List.mem_of_getElem? (i := 17) rfl)) (hw _ (List.mem_of_getElem? (i := 2) rfl)) (by decide) (by decide)) q145a q145c (g := (mkF m 104 #[.val (.long q1), .second, .val (.long q2), .second, .val (.long q3), .second, .val (.long q4), .second, .val (.int p5), .val (.long q3), .second, .val (.long q4), .second, .val (.ref b7), .val (.ref b14), .val (.int (0 : Int32)), .val (.int (0 : Int32)), .unset] [(.ref b7), (.ref b14)])) rfl (by rw [hml]; rfl) (Steps.refl _) (argsL := [(.ref b7)]) (rest := []) (lenOf pd1 rfl) rfl (by show 2 * 0 + _ ≤ _; exact Nat.le_of_eq rfl) (hb hby at_104) (fun _ _ => ⟨rfl, e141, (by decide : 2 + 0 ≤ _), (by decide : 4 + 0 ≤ _)⟩)
              dsimp only [Pt.U, Pt.locs, Pt.cells, Pt.slots] at X146 l146 y146 z146 st146 hQ146
              subst l146 y146 z146
              have pre147 : ∀ t, Steps p.tables e below (T132.setTop (mkF m 104 #[.val (.long q1), .second, .val (.long q2), .second, .val (.long q3), .second, .val (.long q4), .second, .val (.int p5), .val (.long q3), .second, .val (.long q4), .second, .val (.ref b7), .val (.ref b14), .val (.int (0 : Int32)), .val (.int (0 : Int32)), .unset] [(.ref b7), (.ref b14)])) t → Steps p.tables e below (s₁.setTop (entryFrame m #[(.long q1), (.long q2), (.long q3), (.long q4), (.int p5)] maxLocals)) t := fun t k => by
                refine pre133 _ ?_
                show Steps p.tables e below (T15.setTop (mkF m 92 #[.val (.long q1), .second, .val (.long q2), .second, .val (.long q3), .second, .val (.long q4), .second, .val (.int p5), .val (.long q3), .second, .val (.long q4), .second, .val (.ref b7), .val (.ref b14), .val (.int (0 : Int32)), .val (.int (0 : Int32)), .unset] [(.ref b14), (.ref b7)])) _
                refine st132.trans ?_
                show Steps p.tables e below (T132.setTop (mkF m 95 #[.val (.long q1), .second, .val (.long q2), .second, .val (.long q3), .second, .val (.long q4), .second, .val (.int p5), .val (.long q3), .second, .val (.long q4), .second, .val (.ref b7), .val (.ref b14), .val (.int (0 : Int32)), .val (.int (0 : Int32)), .unset] [(.int (0 : Int32))])) _
                refine XS.iload X132.here hx rfl (hb hby at_95) rfl ?_
                show Steps p.tables e below (T132.setTop (mkF m 97 #[.val (.long q1), .second, .val (.long q2), .second, .val (.long q3), .second, .val (.long q4), .second, .val (.int p5), .val (.long q3), .second, .val (.long q4), .second, .val (.ref b7), .val (.ref b14), .val (.int (0 : Int32)), .val (.int (0 : Int32)), .unset] [(.int (0 : Int32)), (.int (0 : Int32))])) _
                refine XS.icmpNo X132.here hx rfl (hb hby at_97) rfl (teq (by decide : (0 : Int32) = (0 : Int32))).2 ?_
                show Steps p.tables e below (T132.setTop (mkF m 100 #[.val (.long q1), .second, .val (.long q2), .second, .val (.long q3), .second, .val (.long q4), .second, .val (.int p5), .val (.long q3), .second, .val (.long q4), .second, .val (.ref b7), .val (.ref b14), .val (.int (0 : Int32)), .val (.int (0 : Int32)), .unset] [])) _
                refine XS.aload X132.here hx rfl (hb hby at_100) rfl rfl ?_
                show Steps p.tables e below (T132.setTop (mkF m 102 #[.val (.long q1), .second, .val (.long q2), .second, .val (.long q3), .second, .val (.long q4), .second, .val (.int p5), .val (.long q3), .second, .val (.long q4), .second, .val (.ref b7), .val (.ref b14), .val (.int (0 : Int32)), .val (.int (0 : Int32)), .unset] [(.ref b14)])) _
                refine XS.aload X132.here hx rfl (hb hby at_102) rfl rfl ?_
                exact k
              have X146 : Stand p l e room_1 s m #[(.long q1), (.long q2), (.long q3), (.long q4), (.int p5)] below meth c T146 _ 2 4 := X146
              rcases hQ146 with ⟨hc148, hc149, rfl, Nq150, e151⟩ | ⟨hc152, hc153, rfl, Nq154, e155⟩ | ⟨hc156, rfl, Nq157, e158⟩
              ·
                exact absurd hc149 (Ne.symm hc24)
              ·
                have N146 := Fr.app N132 Nq154
                obtain ⟨fs, hr, hrun, hended, hW, hsame⟩ := X146.leave (v := some (.int (1 : Int32))) (fun h => by rw [hret] at h; cases h)
                refine ⟨_, _, pre147 _ ?_, hrun, hended, _, _, rfl, ?_, ⟨_, rfl⟩, hW, hsame.mono (by decide) (by decide)⟩
                ·
                  show Steps p.tables e below (T132.setTop (mkF m 104 #[.val (.long q1), .second, .val (.long q2), .second, .val (.long q3), .second, .val (.long q4), .second, .val (.int p5), .val (.long q3), .second, .val (.long q4), .second, .val (.ref b7), .val (.ref b14), .val (.int (0 : Int32)), .val (.int (0 : Int32)), .unset] [(.ref b7), (.ref b14)])) _
                  refine st146.trans ?_
                  show Steps p.tables e below (T146.setTop (mkF m 107 #[.val (.long q1), .second, .val (.long q2), .second, .val (.long q3), .second, .val (.long q4), .second, .val (.int p5), .val (.long q3), .second, .val (.long q4), .second, .val (.ref b7), .val (.ref b14), .val (.int (0 : Int32)), .val (.int (0 : Int32)), .unset] [(.int (0 : Int32))])) _
                  refine XS.iload X146.here hx rfl (hb hby at_107) rfl ?_
                  show Steps p.tables e below (T146.setTop (mkF m 109 #[.val (.long q1), .second, .val (.long q2), .second, .val (.long q3), .second, .val (.long q4), .second, .val (.int p5), .val (.long q3), .second, .val (.long q4), .second, .val (.ref b7), .val (.ref b14), .val (.int (0 : Int32)), .val (.int (0 : Int32)), .unset] [(.int (0 : Int32)), (.int (0 : Int32))])) _
                  refine XS.icmpNo X146.here hx rfl (hb hby at_109) rfl (teq (by decide : (0 : Int32) = (0 : Int32))).2 ?_
                  show Steps p.tables e below (T146.setTop (mkF m 112 #[.val (.long q1), .second, .val (.long q2), .second, .val (.long q3), .second, .val (.long q4), .second, .val (.int p5), .val (.long q3), .second, .val (.long q4), .second, .val (.ref b7), .val (.ref b14), .val (.int (0 : Int32)), .val (.int (0 : Int32)), .unset] [])) _
                  refine XS.iconst X146.here hx rfl (hb hby at_112) ?_
                  show Steps p.tables e below (T146.setTop (mkF m 113 #[.val (.long q1), .second, .val (.long q2), .second, .val (.long q3), .second, .val (.long q4), .second, .val (.int p5), .val (.long q3), .second, .val (.long q4), .second, .val (.ref b7), .val (.ref b14), .val (.int (0 : Int32)), .val (.int (0 : Int32)), .unset] [(.int (1 : Int32))])) _
                  refine XS.goto X146.here hx rfl (pc0 := 113) (pc' := 117) rfl (hb hby at_113) (by decide) (by decide) ?_
                  show Steps p.tables e below (T146.setTop (mkF m 117 #[.val (.long q1), .second, .val (.long q2), .second, .val (.long q3), .second, .val (.long q4), .second, .val (.int p5), .val (.long q3), .second, .val (.long q4), .second, .val (.ref b7), .val (.ref b14), .val (.int (0 : Int32)), .val (.int (0 : Int32)), .unset] [(.int (1 : Int32))])) _
                  exact retN X146 hx (t := .boolean) hret (by simp) (hb hby at_117) hr
                ·
                  show Q0 n0 _ T146.heap _
                  rw [e155]
                  exact ⟨rfl, N146⟩
              ·
                exact absurd (hc22).symm hc156
            ·
              exact absurd hc22 hc142
          ·
            have pre159 : ∀ t, Steps p.tables e below (T15.setTop (mkF m 121 #[.val (.long q1), .second, .val (.long q2), .second, .val (.long q3), .second, .val (.long q4), .second, .val (.int p5), .val (.long q3), .second, .val (.long q4), .second, .val (.ref b7), .val (.ref b14), .val (.int (0 : Int32)), .val (.int (((p5.toUInt32 >>> ((2 : Int32) &&& 31).toUInt32).toInt32) &&& (3 : Int32))), .unset] [(.int (1 : Int32)), (.int (((p5.toUInt32 >>> ((2 : Int32) &&& 31).toUInt32).toInt32) &&& (3 : Int32)))])) t → Steps p.tables e below (s₁.setTop (entryFrame m #[(.long q1), (.long q2), (.long q3), (.long q4), (.int p5)] maxLocals)) t := fun t k => by
              refine pre123 _ ?_
              show Steps p.tables e below (T15.setTop (mkF m 85 #[.val (.long q1), .second, .val (.long q2), .second, .val (.long q3), .second, .val (.long q4), .second, .val (.int p5), .val (.long q3), .second, .val (.long q4), .second, .val (.ref b7), .val (.ref b14), .val (.int (0 : Int32)), .val (.int (((p5.toUInt32 >>> ((2 : Int32) &&& 31).toUInt32).toInt32) &&& (3 : Int32))), .unset] [(.int (((p5.toUInt32 >>> ((2 : Int32) &&& 31).toUInt32).toInt32) &&& (3 : Int32)))])) _
              refine XS.ifYes X15.here hx rfl (pc0 := 85) (pc' := 118) rfl (hb hby at_85) rfl ((if0 _ _).trans (feq hc124).2) (by decide) (by decide) ?_
              show Steps p.tables e below (T15.setTop (mkF m 118 #[.val (.long q1), .second, .val (.long q2), .second, .val (.long q3), .second, .val (.long q4), .second, .val (.int p5), .val (.long q3), .second, .val (.long q4), .second, .val (.ref b7), .val (.ref b14), .val (.int (0 : Int32)), .val (.int (((p5.toUInt32 >>> ((2 : Int32) &&& 31).toUInt32).toInt32) &&& (3 : Int32))), .unset] [])) _
              refine XS.iload X15.here hx rfl (hb hby at_118) rfl ?_
              show Steps p.tables e below (T15.setTop (mkF m 120 #[.val (.long q1), .second, .val (.long q2), .second, .val (.long q3), .second, .val (.long q4), .second, .val (.int p5), .val (.long q3), .second, .val (.long q4), .second, .val (.ref b7), .val (.ref b14), .val (.int (0 : Int32)), .val (.int (((p5.toUInt32 >>> ((2 : Int32) &&& 31).toUInt32).toInt32) &&& (3 : Int32))), .unset] [(.int (((p5.toUInt32 >>> ((2 : Int32) &&& 31).toUInt32).toInt32) &&& (3 : Int32)))])) _
              refine XS.iconst X15.here hx rfl (hb hby at_120) ?_
              exact k
            by_cases hc160 : (((p5.toUInt32 >>> ((2 : Int32) &&& 31).toUInt32).toInt32) &&& (3 : Int32)) = (1 : Int32)
            ·
              have pre161 : ∀ t, Steps p.tables e below (T15.setTop (mkF m 121 #[.val (.long q1), .second, .val (.long q2), .second, .val (.long q3), .second, .val (.long q4), .second, .val (.int p5), .val (.long q3), .second, .val (.long q4), .second, .val (.ref b7), .val (.ref b14), .val (.int (0 : Int32)), .val (.int (1 : Int32)), .unset] [(.int (1 : Int32)), (.int (1 : Int32))])) t → Steps p.tables e below (s₁.setTop (entryFrame m #[(.long q1), (.long q2), (.long q3), (.long q4), (.int p5)] maxLocals)) t := fun t k => pre159 t (by rw [hc160]; exact k)
              have f163 := ((f11.ext E14).keep K17)
              obtain ⟨cq162, kq162, q162a, q162b, q162c⟩ := isOf hZ rfl f163
              obtain ⟨_, _, ⟨T164, L164, c164, n164⟩, -, X164, ⟨Lc164, hQ164, l164, y164, z164⟩, st164⟩ := X15.virtualBack hx (y := (⟨"com/example/sablegrid/sablegrid/model/WriteOutcome", "equals", "(Ljava/lang/Object;)Z"⟩ : MethodName)) (z := (⟨"com/example/sablegrid/sablegrid/model/WriteOutcome", "equals", "(Ljava/lang/Object;)Z"⟩ : MethodName)) hown (mvT hZ (hw _ (List.mem_of_getElem? (i := 13) rfl))) (mvT hZ (hw _ (List.mem_of_getElem? (i := 14) rfl))) (notFace_of_selects (args := #[]) (mvT hZ (hw _ (List.mem_of_getElem? (i := 16) rfl)))) (mvT hZ (hw _ (List.mem_of_getElem? (i := 16) rfl))) (mvT hZ (hw _ (List.mem_of_getElem? (i := 15) rfl))) (by decide) (backOf (W := 0) (rm3 l Z a0 hw [] b7 T15.heap n0 O15 g_b7) hZ (hw _ (List.mem_of_getElem? (i := 17) rfl)) (hw _ (List.mem_of_getElem? (i := 2) rfl)) (by decide) (by decide)) q162a q162c (g := (mkF m 127 #[.val (.long q1), .second, .val (.long q2), .second, .val (.long q3), .second, .val (.long q4), .second, .val (.int p5), .val (.long q3), .second, .val (.long q4), .second, .val (.ref b7), .val (.ref b14), .val (.int (0 : Int32)), .val (.int (1 : Int32)), .unset] [.null, (.ref b7)])) rfl (by rw [hml]; rfl) (Steps.refl _) (argsL := [.null]) (rest := []) (lenOf pd1 rfl) rfl (by show 2 * 0 + _ ≤ _; exact Nat.le_of_eq rfl) (hb hby at_127) (fun _ _ => ⟨rfl, rfl, (by decide : 2 + 0 ≤ _), (by decide : 4 + 0 ≤ _)⟩)
              dsimp only [Pt.U, Pt.locs, Pt.cells, Pt.slots] at X164 l164 y164 z164 st164 hQ164
              subst l164 y164 z164
              have X164 : Stand p l e room_1 s m #[(.long q1), (.long q2), (.long q3), (.long q4), (.int p5)] below meth c T164 _ 2 4 := X164
              obtain ⟨rfl, Nq165, e166⟩ := hQ164
              have N164 := Fr.app N15 Nq165
              obtain ⟨fs, hr, hrun, hended, hW, hsame⟩ := X164.leave (v := some (.int (1 : Int32))) (fun h => by rw [hret] at h; cases h)
              refine ⟨_, _, pre161 _ ?_, hrun, hended, _, _, rfl, ?_, ⟨_, rfl⟩, hW, hsame.mono (by decide) (by decide)⟩
              ·
                show Steps p.tables e below (T15.setTop (mkF m 121 #[.val (.long q1), .second, .val (.long q2), .second, .val (.long q3), .second, .val (.long q4), .second, .val (.int p5), .val (.long q3), .second, .val (.long q4), .second, .val (.ref b7), .val (.ref b14), .val (.int (0 : Int32)), .val (.int (1 : Int32)), .unset] [(.int (1 : Int32)), (.int (1 : Int32))])) _
                refine XS.icmpNo X15.here hx rfl (hb hby at_121) rfl (teq (by decide : (1 : Int32) = (1 : Int32))).2 ?_
                show Steps p.tables e below (T15.setTop (mkF m 124 #[.val (.long q1), .second, .val (.long q2), .second, .val (.long q3), .second, .val (.long q4), .second, .val (.int p5), .val (.long q3), .second, .val (.long q4), .second, .val (.ref b7), .val (.ref b14), .val (.int (0 : Int32)), .val (.int (1 : Int32)), .unset] [])) _
                refine XS.aload X15.here hx rfl (hb hby at_124) rfl rfl ?_
                show Steps p.tables e below (T15.setTop (mkF m 126 #[.val (.long q1), .second, .val (.long q2), .second, .val (.long q3), .second, .val (.long q4), .second, .val (.int p5), .val (.long q3), .second, .val (.long q4), .second, .val (.ref b7), .val (.ref b14), .val (.int (0 : Int32)), .val (.int (1 : Int32)), .unset] [(.ref b7)])) _
                refine XS.aconstNull X15.here hx rfl (hb hby at_126) ?_
                show Steps p.tables e below (T15.setTop (mkF m 127 #[.val (.long q1), .second, .val (.long q2), .second, .val (.long q3), .second, .val (.long q4), .second, .val (.int p5), .val (.long q3), .second, .val (.long q4), .second, .val (.ref b7), .val (.ref b14), .val (.int (0 : Int32)), .val (.int (1 : Int32)), .unset] [.null, (.ref b7)])) _
                refine st164.trans ?_
                show Steps p.tables e below (T164.setTop (mkF m 130 #[.val (.long q1), .second, .val (.long q2), .second, .val (.long q3), .second, .val (.long q4), .second, .val (.int p5), .val (.long q3), .second, .val (.long q4), .second, .val (.ref b7), .val (.ref b14), .val (.int (0 : Int32)), .val (.int (1 : Int32)), .unset] [(.int (0 : Int32))])) _
                refine XS.ifNo X164.here hx rfl (hb hby at_130) rfl ((if0 _ _).trans (teq (by decide : (0 : Int32) = (0 : Int32))).2) ?_
                show Steps p.tables e below (T164.setTop (mkF m 133 #[.val (.long q1), .second, .val (.long q2), .second, .val (.long q3), .second, .val (.long q4), .second, .val (.int p5), .val (.long q3), .second, .val (.long q4), .second, .val (.ref b7), .val (.ref b14), .val (.int (0 : Int32)), .val (.int (1 : Int32)), .unset] [])) _
                refine XS.iconst X164.here hx rfl (hb hby at_133) ?_
                show Steps p.tables e below (T164.setTop (mkF m 134 #[.val (.long q1), .second, .val (.long q2), .second, .val (.long q3), .second, .val (.long q4), .second, .val (.int p5), .val (.long q3), .second, .val (.long q4), .second, .val (.ref b7), .val (.ref b14), .val (.int (0 : Int32)), .val (.int (1 : Int32)), .unset] [(.int (1 : Int32))])) _
                refine XS.goto X164.here hx rfl (pc0 := 134) (pc' := 138) rfl (hb hby at_134) (by decide) (by decide) ?_
                show Steps p.tables e below (T164.setTop (mkF m 138 #[.val (.long q1), .second, .val (.long q2), .second, .val (.long q3), .second, .val (.long q4), .second, .val (.int p5), .val (.long q3), .second, .val (.long q4), .second, .val (.ref b7), .val (.ref b14), .val (.int (0 : Int32)), .val (.int (1 : Int32)), .unset] [(.int (1 : Int32))])) _
                exact retN X164 hx (t := .boolean) hret (by simp) (hb hby at_138) hr
              ·
                show Q0 n0 _ T164.heap _
                rw [e166]
                exact ⟨rfl, N164⟩
            ·
              have pre167 : ∀ t, Steps p.tables e below (T15.setTop (mkF m 142 #[.val (.long q1), .second, .val (.long q2), .second, .val (.long q3), .second, .val (.long q4), .second, .val (.int p5), .val (.long q3), .second, .val (.long q4), .second, .val (.ref b7), .val (.ref b14), .val (.int (0 : Int32)), .val (.int (((p5.toUInt32 >>> ((2 : Int32) &&& 31).toUInt32).toInt32) &&& (3 : Int32))), .unset] [(.int (2 : Int32)), (.int (((p5.toUInt32 >>> ((2 : Int32) &&& 31).toUInt32).toInt32) &&& (3 : Int32)))])) t → Steps p.tables e below (s₁.setTop (entryFrame m #[(.long q1), (.long q2), (.long q3), (.long q4), (.int p5)] maxLocals)) t := fun t k => by
                refine pre159 _ ?_
                show Steps p.tables e below (T15.setTop (mkF m 121 #[.val (.long q1), .second, .val (.long q2), .second, .val (.long q3), .second, .val (.long q4), .second, .val (.int p5), .val (.long q3), .second, .val (.long q4), .second, .val (.ref b7), .val (.ref b14), .val (.int (0 : Int32)), .val (.int (((p5.toUInt32 >>> ((2 : Int32) &&& 31).toUInt32).toInt32) &&& (3 : Int32))), .unset] [(.int (1 : Int32)), (.int (((p5.toUInt32 >>> ((2 : Int32) &&& 31).toUInt32).toInt32) &&& (3 : Int32)))])) _
                refine XS.icmpYes X15.here hx rfl (pc0 := 121) (pc' := 139) rfl (hb hby at_121) rfl (feq hc160).2 (by decide) (by decide) ?_
                show Steps p.tables e below (T15.setTop (mkF m 139 #[.val (.long q1), .second, .val (.long q2), .second, .val (.long q3), .second, .val (.long q4), .second, .val (.int p5), .val (.long q3), .second, .val (.long q4), .second, .val (.ref b7), .val (.ref b14), .val (.int (0 : Int32)), .val (.int (((p5.toUInt32 >>> ((2 : Int32) &&& 31).toUInt32).toInt32) &&& (3 : Int32))), .unset] [])) _
                refine XS.iload X15.here hx rfl (hb hby at_139) rfl ?_
                show Steps p.tables e below (T15.setTop (mkF m 141 #[.val (.long q1), .second, .val (.long q2), .second, .val (.long q3), .second, .val (.long q4), .second, .val (.int p5), .val (.long q3), .second, .val (.long q4), .second, .val (.ref b7), .val (.ref b14), .val (.int (0 : Int32)), .val (.int (((p5.toUInt32 >>> ((2 : Int32) &&& 31).toUInt32).toInt32) &&& (3 : Int32))), .unset] [(.int (((p5.toUInt32 >>> ((2 : Int32) &&& 31).toUInt32).toInt32) &&& (3 : Int32)))])) _
                refine XS.iconst X15.here hx rfl (hb hby at_141) ?_
                exact k
              by_cases hc168 : (((p5.toUInt32 >>> ((2 : Int32) &&& 31).toUInt32).toInt32) &&& (3 : Int32)) = (2 : Int32)
              ·
                have pre169 : ∀ t, Steps p.tables e below (T15.setTop (mkF m 142 #[.val (.long q1), .second, .val (.long q2), .second, .val (.long q3), .second, .val (.long q4), .second, .val (.int p5), .val (.long q3), .second, .val (.long q4), .second, .val (.ref b7), .val (.ref b14), .val (.int (0 : Int32)), .val (.int (2 : Int32)), .unset] [(.int (2 : Int32)), (.int (2 : Int32))])) t → Steps p.tables e below (s₁.setTop (entryFrame m #[(.long q1), (.long q2), (.long q3), (.long q4), (.int p5)] maxLocals)) t := fun t k => pre167 t (by rw [hc168]; exact k)
                obtain ⟨_, _, ⟨T170, L170, c170, n170⟩, -, X170, ⟨Lc170, hQ170, l170, y170, z170⟩, st170⟩ := Jvm.LawKit.callS X15 hx (y := (⟨"java/lang/Long", "valueOf", "(J)Ljava/lang/Long;"⟩ : MethodName)) hown (mvT hZ (hw _ (List.mem_of_getElem? (i := 20) rfl))) (mvT hZ (hw _ (List.mem_of_getElem? (i := 21) rfl))) (mvT hZ (hw _ (List.mem_of_getElem? (i := 22) rfl))) (mvT hZ (hw _ (List.mem_of_getElem? (i := 23) rfl))) (by decide) (backOf (W := 0) (rm6 l Z a0 hw w1 cw1 G [] q1 T15.heap n0 O15 ) hZ (hw _ (List.mem_of_getElem? (i := 23) rfl)) (hw _ (List.mem_of_getElem? (i := 22) rfl)) (by decide) (by decide)) (g := (mkF m 146 #[.val (.long q1), .second, .val (.long q2), .second, .val (.long q3), .second, .val (.long q4), .second, .val (.int p5), .val (.long q3), .second, .val (.long q4), .second, .val (.ref b7), .val (.ref b14), .val (.int (0 : Int32)), .val (.int (2 : Int32)), .unset] [(.long q1)])) rfl (by rw [hml]; rfl) (argsL := [(.long q1)]) (rest := []) (lenOf pd4 rfl) rfl (by show 2 * 0 + _ ≤ _; exact Nat.le_of_eq rfl) (hb hby at_146) (fun _ _ => ⟨rfl, rfl, (by decide : 2 + 1 ≤ _), (by decide : 4 + 1 ≤ _)⟩)
                dsimp only [Pt.U, Pt.locs, Pt.cells, Pt.slots] at X170 l170 y170 z170 st170 hQ170
                subst l170 y170 z170
                have pre171 : ∀ t, Steps p.tables e below (T15.setTop (mkF m 146 #[.val (.long q1), .second, .val (.long q2), .second, .val (.long q3), .second, .val (.long q4), .second, .val (.int p5), .val (.long q3), .second, .val (.long q4), .second, .val (.ref b7), .val (.ref b14), .val (.int (0 : Int32)), .val (.int (2 : Int32)), .unset] [(.long q1)])) t → Steps p.tables e below (s₁.setTop (entryFrame m #[(.long q1), (.long q2), (.long q3), (.long q4), (.int p5)] maxLocals)) t := fun t k => by
                  refine pre169 _ ?_
                  show Steps p.tables e below (T15.setTop (mkF m 142 #[.val (.long q1), .second, .val (.long q2), .second, .val (.long q3), .second, .val (.long q4), .second, .val (.int p5), .val (.long q3), .second, .val (.long q4), .second, .val (.ref b7), .val (.ref b14), .val (.int (0 : Int32)), .val (.int (2 : Int32)), .unset] [(.int (2 : Int32)), (.int (2 : Int32))])) _
                  refine XS.icmpNo X15.here hx rfl (hb hby at_142) rfl (teq (by decide : (2 : Int32) = (2 : Int32))).2 ?_
                  show Steps p.tables e below (T15.setTop (mkF m 145 #[.val (.long q1), .second, .val (.long q2), .second, .val (.long q3), .second, .val (.long q4), .second, .val (.int p5), .val (.long q3), .second, .val (.long q4), .second, .val (.ref b7), .val (.ref b14), .val (.int (0 : Int32)), .val (.int (2 : Int32)), .unset] [])) _
                  refine XS.lloadN X15.here hx rfl (hb hby at_145) rfl ?_
                  exact k
                have X170 : Stand p l e room_1 s m #[(.long q1), (.long q2), (.long q3), (.long q4), (.int p5)] below meth c T170 _ 3 5 := X170
                rcases hQ170 with ⟨b172, hc173, rfl, Nq174, K175, sz_b172, f176, f177⟩ | ⟨b178, hc179, hc180, rfl, Nq181, K182, sz_b178, f183, f184⟩ | ⟨v185, hc186, hc187, rfl, Nq188, e189, f190⟩
                ·
                  have N170 := Fr.app N15 Nq174
                  have g_b172 : n0 ≤ b172 := Nat.le_trans (own_oz O15) sz_b172
                  have M170 : h0.size ≤ T170.heap.size := Nat.le_trans M15 K175.1
                  have O170 := Old.keep O15 K175 all0
                  have f192 := (((f11.ext E14).keep K17).keep K175)
                  obtain ⟨cq191, kq191, q191a, q191b, q191c⟩ := isOf hZ rfl f192
                  obtain ⟨_, _, ⟨T193, L193, c193, n193⟩, -, X193, ⟨Lc193, hQ193, l193, y193, z193⟩, st193⟩ := X170.virtualBack hx (y := (⟨"com/example/sablegrid/sablegrid/model/WriteOutcome", "equals", "(Ljava/lang/Object;)Z"⟩ : MethodName)) (z := (⟨"com/example/sablegrid/sablegrid/model/WriteOutcome", "equals", "(Ljava/lang/Object;)Z"⟩ : MethodName)) hown (mvT hZ (hw _ (List.mem_of_getElem? (i := 13) rfl))) (mvT hZ (hw _ (List.mem_of_getElem? (i := 14) rfl))) (notFace_of_selects (args := #[]) (mvT hZ (hw _ (List.mem_of_getElem? (i := 16) rfl)))) (mvT hZ (hw _ (List.mem_of_getElem? (i := 16) rfl))) (mvT hZ (hw _ (List.mem_of_getElem? (i := 15) rfl))) (by decide) (backOf (W := 0) (rm7 l Z a0 hw [] b7 b172 T170.heap n0 O170 g_b7 g_b172 f176) hZ (hw _ (List.mem_of_getElem? (i := 17) rfl)) (hw _ (List.mem_of_getElem? (i := 2) rfl)) (by decide) (by decide)) q191a q191c (g := (mkF m 155 #[.val (.long q1), .second, .val (.long q2), .second, .val (.long q3), .second, .val (.long q4), .second, .val (.int p5), .val (.long q3), .second, .val (.long q4), .second, .val (.ref b7), .val (.ref b14), .val (.int (0 : Int32)), .val (.int (2 : Int32)), .val (.ref b172)] [(.ref b172), (.ref b7)])) rfl (by rw [hml]; rfl) (Steps.refl _) (argsL := [(.ref b172)]) (rest := []) (lenOf pd1 rfl) rfl (by show 2 * 0 + _ ≤ _; exact Nat.le_of_eq rfl) (hb hby at_155) (fun _ _ => ⟨rfl, rfl, (by decide : 3 + 0 ≤ _), (by decide : 5 + 0 ≤ _)⟩)
                  dsimp only [Pt.U, Pt.locs, Pt.cells, Pt.slots] at X193 l193 y193 z193 st193 hQ193
                  subst l193 y193 z193
                  have X193 : Stand p l e room_1 s m #[(.long q1), (.long q2), (.long q3), (.long q4), (.int p5)] below meth c T193 _ 3 5 := X193
                  obtain ⟨rfl, Nq194, e195⟩ := hQ193
                  have N193 := Fr.app N170 Nq194
                  obtain ⟨fs, hr, hrun, hended, hW, hsame⟩ := X193.leave (v := some (.int (1 : Int32))) (fun h => by rw [hret] at h; cases h)
                  refine ⟨_, _, pre171 _ ?_, hrun, hended, _, _, rfl, ?_, ⟨_, rfl⟩, hW, hsame.mono (by decide) (by decide)⟩
                  ·
                    show Steps p.tables e below (T15.setTop (mkF m 146 #[.val (.long q1), .second, .val (.long q2), .second, .val (.long q3), .second, .val (.long q4), .second, .val (.int p5), .val (.long q3), .second, .val (.long q4), .second, .val (.ref b7), .val (.ref b14), .val (.int (0 : Int32)), .val (.int (2 : Int32)), .unset] [(.long q1)])) _
                    refine st170 _ ?_
                    show Steps p.tables e below (T170.setTop (mkF m 149 #[.val (.long q1), .second, .val (.long q2), .second, .val (.long q3), .second, .val (.long q4), .second, .val (.int p5), .val (.long q3), .second, .val (.long q4), .second, .val (.ref b7), .val (.ref b14), .val (.int (0 : Int32)), .val (.int (2 : Int32)), .unset] [(.ref b172)])) _
                    refine XS.astore X170.here hx rfl (hb hby at_149) rfl rfl (l' := #[.val (.long q1), .second, .val (.long q2), .second, .val (.long q3), .second, .val (.long q4), .second, .val (.int p5), .val (.long q3), .second, .val (.long q4), .second, .val (.ref b7), .val (.ref b14), .val (.int (0 : Int32)), .val (.int (2 : Int32)), .val (.ref b172)]) rfl ?_
                    show Steps p.tables e below (T170.setTop (mkF m 151 #[.val (.long q1), .second, .val (.long q2), .second, .val (.long q3), .second, .val (.long q4), .second, .val (.int p5), .val (.long q3), .second, .val (.long q4), .second, .val (.ref b7), .val (.ref b14), .val (.int (0 : Int32)), .val (.int (2 : Int32)), .val (.ref b172)] [])) _
                    refine XS.aload X170.here hx rfl (hb hby at_151) rfl rfl ?_
                    show Steps p.tables e below (T170.setTop (mkF m 153 #[.val (.long q1), .second, .val (.long q2), .second, .val (.long q3), .second, .val (.long q4), .second, .val (.int p5), .val (.long q3), .second, .val (.long q4), .second, .val (.ref b7), .val (.ref b14), .val (.int (0 : Int32)), .val (.int (2 : Int32)), .val (.ref b172)] [(.ref b7)])) _
                    refine XS.aload X170.here hx rfl (hb hby at_153) rfl rfl ?_
                    show Steps p.tables e below (T170.setTop (mkF m 155 #[.val (.long q1), .second, .val (.long q2), .second, .val (.long q3), .second, .val (.long q4), .second, .val (.int p5), .val (.long q3), .second, .val (.long q4), .second, .val (.ref b7), .val (.ref b14), .val (.int (0 : Int32)), .val (.int (2 : Int32)), .val (.ref b172)] [(.ref b172), (.ref b7)])) _
                    refine st193.trans ?_
                    show Steps p.tables e below (T193.setTop (mkF m 158 #[.val (.long q1), .second, .val (.long q2), .second, .val (.long q3), .second, .val (.long q4), .second, .val (.int p5), .val (.long q3), .second, .val (.long q4), .second, .val (.ref b7), .val (.ref b14), .val (.int (0 : Int32)), .val (.int (2 : Int32)), .val (.ref b172)] [(.int (0 : Int32))])) _
                    refine XS.ifNo X193.here hx rfl (hb hby at_158) rfl ((if0 _ _).trans (teq (by decide : (0 : Int32) = (0 : Int32))).2) ?_
                    show Steps p.tables e below (T193.setTop (mkF m 161 #[.val (.long q1), .second, .val (.long q2), .second, .val (.long q3), .second, .val (.long q4), .second, .val (.int p5), .val (.long q3), .second, .val (.long q4), .second, .val (.ref b7), .val (.ref b14), .val (.int (0 : Int32)), .val (.int (2 : Int32)), .val (.ref b172)] [])) _
                    refine XS.iconst X193.here hx rfl (hb hby at_161) ?_
                    show Steps p.tables e below (T193.setTop (mkF m 162 #[.val (.long q1), .second, .val (.long q2), .second, .val (.long q3), .second, .val (.long q4), .second, .val (.int p5), .val (.long q3), .second, .val (.long q4), .second, .val (.ref b7), .val (.ref b14), .val (.int (0 : Int32)), .val (.int (2 : Int32)), .val (.ref b172)] [(.int (1 : Int32))])) _
                    refine XS.goto X193.here hx rfl (pc0 := 162) (pc' := 166) rfl (hb hby at_162) (by decide) (by decide) ?_
                    show Steps p.tables e below (T193.setTop (mkF m 166 #[.val (.long q1), .second, .val (.long q2), .second, .val (.long q3), .second, .val (.long q4), .second, .val (.int p5), .val (.long q3), .second, .val (.long q4), .second, .val (.ref b7), .val (.ref b14), .val (.int (0 : Int32)), .val (.int (2 : Int32)), .val (.ref b172)] [(.int (1 : Int32))])) _
                    exact retN X193 hx (t := .boolean) hret (by simp) (hb hby at_166) hr
                  ·
                    show Q0 n0 _ T193.heap _
                    rw [e195]
                    exact ⟨rfl, N193⟩
                ·
                  have N170 := Fr.app N15 Nq181
                  have g_b178 : n0 ≤ b178 := Nat.le_trans (own_oz O15) sz_b178
                  have M170 : h0.size ≤ T170.heap.size := Nat.le_trans M15 K182.1
                  have O170 := Old.keep O15 K182 all0
                  have f197 := (((f11.ext E14).keep K17).keep K182)
                  obtain ⟨cq196, kq196, q196a, q196b, q196c⟩ := isOf hZ rfl f197
                  obtain ⟨_, _, ⟨T198, L198, c198, n198⟩, -, X198, ⟨Lc198, hQ198, l198, y198, z198⟩, st198⟩ := X170.virtualBack hx (y := (⟨"com/example/sablegrid/sablegrid/model/WriteOutcome", "equals", "(Ljava/lang/Object;)Z"⟩ : MethodName)) (z := (⟨"com/example/sablegrid/sablegrid/model/WriteOutcome", "equals", "(Ljava/lang/Object;)Z"⟩ : MethodName)) hown (mvT hZ (hw _ (List.mem_of_getElem? (i := 13) rfl))) (mvT hZ (hw _ (List.mem_of_getElem? (i := 14) rfl))) (notFace_of_selects (args := #[]) (mvT hZ (hw _ (List.mem_of_getElem? (i := 16) rfl)))) (mvT hZ (hw _ (List.mem_of_getElem? (i := 16) rfl))) (mvT hZ (hw _ (List.mem_of_getElem? (i := 15) rfl))) (by decide) (backOf (W := 0) (rm7 l Z a0 hw [] b7 b178 T170.heap n0 O170 g_b7 g_b178 f183) hZ (hw _ (List.mem_of_getElem? (i := 17) rfl)) (hw _ (List.mem_of_getElem? (i := 2) rfl)) (by decide) (by decide)) q196a q196c (g := (mkF m 155 #[.val (.long q1), .second, .val (.long q2), .second, .val (.long q3), .second, .val (.long q4), .second, .val (.int p5), .val (.long q3), .second, .val (.long q4), .second, .val (.ref b7), .val (.ref b14), .val (.int (0 : Int32)), .val (.int (2 : Int32)), .val (.ref b178)] [(.ref b178), (.ref b7)])) rfl (by rw [hml]; rfl) (Steps.refl _) (argsL := [(.ref b178)]) (rest := []) (lenOf pd1 rfl) rfl (by show 2 * 0 + _ ≤ _; exact Nat.le_of_eq rfl) (hb hby at_155) (fun _ _ => ⟨rfl, rfl, (by decide : 3 + 0 ≤ _), (by decide : 5 + 0 ≤ _)⟩)
                  dsimp only [Pt.U, Pt.locs, Pt.cells, Pt.slots] at X198 l198 y198 z198 st198 hQ198
                  subst l198 y198 z198
                  have X198 : Stand p l e room_1 s m #[(.long q1), (.long q2), (.long q3), (.long q4), (.int p5)] below meth c T198 _ 3 5 := X198
                  obtain ⟨rfl, Nq199, e200⟩ := hQ198
                  have N198 := Fr.app N170 Nq199
                  obtain ⟨fs, hr, hrun, hended, hW, hsame⟩ := X198.leave (v := some (.int (1 : Int32))) (fun h => by rw [hret] at h; cases h)
                  refine ⟨_, _, pre171 _ ?_, hrun, hended, _, _, rfl, ?_, ⟨_, rfl⟩, hW, hsame.mono (by decide) (by decide)⟩
                  ·
                    show Steps p.tables e below (T15.setTop (mkF m 146 #[.val (.long q1), .second, .val (.long q2), .second, .val (.long q3), .second, .val (.long q4), .second, .val (.int p5), .val (.long q3), .second, .val (.long q4), .second, .val (.ref b7), .val (.ref b14), .val (.int (0 : Int32)), .val (.int (2 : Int32)), .unset] [(.long q1)])) _
                    refine st170 _ ?_
                    show Steps p.tables e below (T170.setTop (mkF m 149 #[.val (.long q1), .second, .val (.long q2), .second, .val (.long q3), .second, .val (.long q4), .second, .val (.int p5), .val (.long q3), .second, .val (.long q4), .second, .val (.ref b7), .val (.ref b14), .val (.int (0 : Int32)), .val (.int (2 : Int32)), .unset] [(.ref b178)])) _
                    refine XS.astore X170.here hx rfl (hb hby at_149) rfl rfl (l' := #[.val (.long q1), .second, .val (.long q2), .second, .val (.long q3), .second, .val (.long q4), .second, .val (.int p5), .val (.long q3), .second, .val (.long q4), .second, .val (.ref b7), .val (.ref b14), .val (.int (0 : Int32)), .val (.int (2 : Int32)), .val (.ref b178)]) rfl ?_
                    show Steps p.tables e below (T170.setTop (mkF m 151 #[.val (.long q1), .second, .val (.long q2), .second, .val (.long q3), .second, .val (.long q4), .second, .val (.int p5), .val (.long q3), .second, .val (.long q4), .second, .val (.ref b7), .val (.ref b14), .val (.int (0 : Int32)), .val (.int (2 : Int32)), .val (.ref b178)] [])) _
                    refine XS.aload X170.here hx rfl (hb hby at_151) rfl rfl ?_
                    show Steps p.tables e below (T170.setTop (mkF m 153 #[.val (.long q1), .second, .val (.long q2), .second, .val (.long q3), .second, .val (.long q4), .second, .val (.int p5), .val (.long q3), .second, .val (.long q4), .second, .val (.ref b7), .val (.ref b14), .val (.int (0 : Int32)), .val (.int (2 : Int32)), .val (.ref b178)] [(.ref b7)])) _
                    refine XS.aload X170.here hx rfl (hb hby at_153) rfl rfl ?_
                    show Steps p.tables e below (T170.setTop (mkF m 155 #[.val (.long q1), .second, .val (.long q2), .second, .val (.long q3), .second, .val (.long q4), .second, .val (.int p5), .val (.long q3), .second, .val (.long q4), .second, .val (.ref b7), .val (.ref b14), .val (.int (0 : Int32)), .val (.int (2 : Int32)), .val (.ref b178)] [(.ref b178), (.ref b7)])) _
                    refine st198.trans ?_
                    show Steps p.tables e below (T198.setTop (mkF m 158 #[.val (.long q1), .second, .val (.long q2), .second, .val (.long q3), .second, .val (.long q4), .second, .val (.int p5), .val (.long q3), .second, .val (.long q4), .second, .val (.ref b7), .val (.ref b14), .val (.int (0 : Int32)), .val (.int (2 : Int32)), .val (.ref b178)] [(.int (0 : Int32))])) _
                    refine XS.ifNo X198.here hx rfl (hb hby at_158) rfl ((if0 _ _).trans (teq (by decide : (0 : Int32) = (0 : Int32))).2) ?_
                    show Steps p.tables e below (T198.setTop (mkF m 161 #[.val (.long q1), .second, .val (.long q2), .second, .val (.long q3), .second, .val (.long q4), .second, .val (.int p5), .val (.long q3), .second, .val (.long q4), .second, .val (.ref b7), .val (.ref b14), .val (.int (0 : Int32)), .val (.int (2 : Int32)), .val (.ref b178)] [])) _
                    refine XS.iconst X198.here hx rfl (hb hby at_161) ?_
                    show Steps p.tables e below (T198.setTop (mkF m 162 #[.val (.long q1), .second, .val (.long q2), .second, .val (.long q3), .second, .val (.long q4), .second, .val (.int p5), .val (.long q3), .second, .val (.long q4), .second, .val (.ref b7), .val (.ref b14), .val (.int (0 : Int32)), .val (.int (2 : Int32)), .val (.ref b178)] [(.int (1 : Int32))])) _
                    refine XS.goto X198.here hx rfl (pc0 := 162) (pc' := 166) rfl (hb hby at_162) (by decide) (by decide) ?_
                    show Steps p.tables e below (T198.setTop (mkF m 166 #[.val (.long q1), .second, .val (.long q2), .second, .val (.long q3), .second, .val (.long q4), .second, .val (.int p5), .val (.long q3), .second, .val (.long q4), .second, .val (.ref b7), .val (.ref b14), .val (.int (0 : Int32)), .val (.int (2 : Int32)), .val (.ref b178)] [(.int (1 : Int32))])) _
                    exact retN X198 hx (t := .boolean) hret (by simp) (hb hby at_166) hr
                  ·
                    show Q0 n0 _ T198.heap _
                    rw [e200]
                    exact ⟨rfl, N198⟩
                ·
                  have N170 := Fr.app N15 Nq188
                  have f202 := ((f11.ext E14).keep K17)
                  obtain ⟨cq201, kq201, q201a, q201b, q201c⟩ := isOf hZ e189 f202
                  obtain ⟨_, _, ⟨T203, L203, c203, n203⟩, -, X203, ⟨Lc203, hQ203, l203, y203, z203⟩, st203⟩ := X170.virtualBack hx (y := (⟨"com/example/sablegrid/sablegrid/model/WriteOutcome", "equals", "(Ljava/lang/Object;)Z"⟩ : MethodName)) (z := (⟨"com/example/sablegrid/sablegrid/model/WriteOutcome", "equals", "(Ljava/lang/Object;)Z"⟩ : MethodName)) hown (mvT hZ (hw _ (List.mem_of_getElem? (i := 13) rfl))) (mvT hZ (hw _ (List.mem_of_getElem? (i := 14) rfl))) (notFace_of_selects (args := #[]) (mvT hZ (hw _ (List.mem_of_getElem? (i := 16) rfl)))) (mvT hZ (hw _ (List.mem_of_getElem? (i := 16) rfl))) (mvT hZ (hw _ (List.mem_of_getElem? (i := 15) rfl))) (by decide) (backOf (W := 0) (rm8 l Z a0 hw [] b7 v185 T15.heap n0 O15 g_b7 f190) hZ (hw _ (List.mem_of_getElem? (i := 17) rfl)) (hw _ (List.mem_of_getElem? (i := 2) rfl)) (by decide) (by decide)) q201a q201c (g := (mkF m 155 #[.val (.long q1), .second, .val (.long q2), .second, .val (.long q3), .second, .val (.long q4), .second, .val (.int p5), .val (.long q3), .second, .val (.long q4), .second, .val (.ref b7), .val (.ref b14), .val (.int (0 : Int32)), .val (.int (2 : Int32)), .val (.ref v185)] [(.ref v185), (.ref b7)])) rfl (by rw [hml]; rfl) (Steps.refl _) (argsL := [(.ref v185)]) (rest := []) (lenOf pd1 rfl) rfl (by show 2 * 0 + _ ≤ _; exact Nat.le_of_eq rfl) (hb hby at_155) (fun _ _ => ⟨rfl, e189, (by decide : 3 + 0 ≤ _), (by decide : 5 + 0 ≤ _)⟩)
                  dsimp only [Pt.U, Pt.locs, Pt.cells, Pt.slots] at X203 l203 y203 z203 st203 hQ203
                  subst l203 y203 z203
                  have X203 : Stand p l e room_1 s m #[(.long q1), (.long q2), (.long q3), (.long q4), (.int p5)] below meth c T203 _ 3 5 := X203
                  obtain ⟨rfl, Nq204, e205⟩ := hQ203
                  have N203 := Fr.app N170 Nq204
                  obtain ⟨fs, hr, hrun, hended, hW, hsame⟩ := X203.leave (v := some (.int (1 : Int32))) (fun h => by rw [hret] at h; cases h)
                  refine ⟨_, _, pre171 _ ?_, hrun, hended, _, _, rfl, ?_, ⟨_, rfl⟩, hW, hsame.mono (by decide) (by decide)⟩
                  ·
                    show Steps p.tables e below (T15.setTop (mkF m 146 #[.val (.long q1), .second, .val (.long q2), .second, .val (.long q3), .second, .val (.long q4), .second, .val (.int p5), .val (.long q3), .second, .val (.long q4), .second, .val (.ref b7), .val (.ref b14), .val (.int (0 : Int32)), .val (.int (2 : Int32)), .unset] [(.long q1)])) _
                    refine st170 _ ?_
                    show Steps p.tables e below (T170.setTop (mkF m 149 #[.val (.long q1), .second, .val (.long q2), .second, .val (.long q3), .second, .val (.long q4), .second, .val (.int p5), .val (.long q3), .second, .val (.long q4), .second, .val (.ref b7), .val (.ref b14), .val (.int (0 : Int32)), .val (.int (2 : Int32)), .unset] [(.ref v185)])) _
                    refine XS.astore X170.here hx rfl (hb hby at_149) rfl rfl (l' := #[.val (.long q1), .second, .val (.long q2), .second, .val (.long q3), .second, .val (.long q4), .second, .val (.int p5), .val (.long q3), .second, .val (.long q4), .second, .val (.ref b7), .val (.ref b14), .val (.int (0 : Int32)), .val (.int (2 : Int32)), .val (.ref v185)]) rfl ?_
                    show Steps p.tables e below (T170.setTop (mkF m 151 #[.val (.long q1), .second, .val (.long q2), .second, .val (.long q3), .second, .val (.long q4), .second, .val (.int p5), .val (.long q3), .second, .val (.long q4), .second, .val (.ref b7), .val (.ref b14), .val (.int (0 : Int32)), .val (.int (2 : Int32)), .val (.ref v185)] [])) _
                    refine XS.aload X170.here hx rfl (hb hby at_151) rfl rfl ?_
                    show Steps p.tables e below (T170.setTop (mkF m 153 #[.val (.long q1), .second, .val (.long q2), .second, .val (.long q3), .second, .val (.long q4), .second, .val (.int p5), .val (.long q3), .second, .val (.long q4), .second, .val (.ref b7), .val (.ref b14), .val (.int (0 : Int32)), .val (.int (2 : Int32)), .val (.ref v185)] [(.ref b7)])) _
                    refine XS.aload X170.here hx rfl (hb hby at_153) rfl rfl ?_
                    show Steps p.tables e below (T170.setTop (mkF m 155 #[.val (.long q1), .second, .val (.long q2), .second, .val (.long q3), .second, .val (.long q4), .second, .val (.int p5), .val (.long q3), .second, .val (.long q4), .second, .val (.ref b7), .val (.ref b14), .val (.int (0 : Int32)), .val (.int (2 : Int32)), .val (.ref v185)] [(.ref v185), (.ref b7)])) _
                    refine st203.trans ?_
                    show Steps p.tables e below (T203.setTop (mkF m 158 #[.val (.long q1), .second, .val (.long q2), .second, .val (.long q3), .second, .val (.long q4), .second, .val (.int p5), .val (.long q3), .second, .val (.long q4), .second, .val (.ref b7), .val (.ref b14), .val (.int (0 : Int32)), .val (.int (2 : Int32)), .val (.ref v185)] [(.int (0 : Int32))])) _
                    refine XS.ifNo X203.here hx rfl (hb hby at_158) rfl ((if0 _ _).trans (teq (by decide : (0 : Int32) = (0 : Int32))).2) ?_
                    show Steps p.tables e below (T203.setTop (mkF m 161 #[.val (.long q1), .second, .val (.long q2), .second, .val (.long q3), .second, .val (.long q4), .second, .val (.int p5), .val (.long q3), .second, .val (.long q4), .second, .val (.ref b7), .val (.ref b14), .val (.int (0 : Int32)), .val (.int (2 : Int32)), .val (.ref v185)] [])) _
                    refine XS.iconst X203.here hx rfl (hb hby at_161) ?_
                    show Steps p.tables e below (T203.setTop (mkF m 162 #[.val (.long q1), .second, .val (.long q2), .second, .val (.long q3), .second, .val (.long q4), .second, .val (.int p5), .val (.long q3), .second, .val (.long q4), .second, .val (.ref b7), .val (.ref b14), .val (.int (0 : Int32)), .val (.int (2 : Int32)), .val (.ref v185)] [(.int (1 : Int32))])) _
                    refine XS.goto X203.here hx rfl (pc0 := 162) (pc' := 166) rfl (hb hby at_162) (by decide) (by decide) ?_
                    show Steps p.tables e below (T203.setTop (mkF m 166 #[.val (.long q1), .second, .val (.long q2), .second, .val (.long q3), .second, .val (.long q4), .second, .val (.int p5), .val (.long q3), .second, .val (.long q4), .second, .val (.ref b7), .val (.ref b14), .val (.int (0 : Int32)), .val (.int (2 : Int32)), .val (.ref v185)] [(.int (1 : Int32))])) _
                    exact retN X203 hx (t := .boolean) hret (by simp) (hb hby at_166) hr
                  ·
                    show Q0 n0 _ T203.heap _
                    rw [e205]
                    exact ⟨rfl, N203⟩
              ·
                have hq206 : (((p5.toUInt32 >>> ((2 : Int32) &&& 31).toUInt32).toInt32) &&& (3 : Int32)) = (3 : Int32) := (own_geq (n := 3) (k := (3 : Int32)) (by decide) (by have q0 := own_and (x := ((p5.toUInt32 >>> ((2 : Int32) &&& 31).toUInt32).toInt32)) (k := (3 : Int32)) (n := 3) (by decide) (by decide); have q1 := own_neq (n := 0) (k := (0 : Int32)) (by decide) hc124; have q2 := own_neq (n := 1) (k := (1 : Int32)) (by decide) hc160; have q3 := own_neq (n := 2) (k := (2 : Int32)) (by decide) hc168; omega))
                have pre207 : ∀ t, Steps p.tables e below (T15.setTop (mkF m 142 #[.val (.long q1), .second, .val (.long q2), .second, .val (.long q3), .second, .val (.long q4), .second, .val (.int p5), .val (.long q3), .second, .val (.long q4), .second, .val (.ref b7), .val (.ref b14), .val (.int (0 : Int32)), .val (.int (3 : Int32)), .unset] [(.int (2 : Int32)), (.int (3 : Int32))])) t → Steps p.tables e below (s₁.setTop (entryFrame m #[(.long q1), (.long q2), (.long q3), (.long q4), (.int p5)] maxLocals)) t := fun t k => pre167 t (by rw [hq206]; exact k)
                have f208 := ((f11.ext E14).keep K17)
                have lt209 : b7 < T8.heap.size := (Nat.lt_of_lt_of_le A7.lt K10.1)
                have ne210 : b7 ≠ b14 := Nat.ne_of_lt (Nat.lt_of_lt_of_le lt209 sz_b14)
                have f211 := ((f12.ext E14).keep K17 (ninS ne210 nin0))
                have f212 := ((f13.ext E14).keep K17 (ninS ne210 nin0))
                obtain ⟨cq213, kq213, q213a, q213b, q213c⟩ := isOf hZ rfl f208
                obtain ⟨_, _, ⟨T214, L214, c214, n214⟩, -, X214, ⟨Lc214, hQ214, l214, y214, z214⟩, st214⟩ := X15.virtualBack hx (y := (⟨"com/example/sablegrid/sablegrid/model/WriteOutcome", "equals", "(Ljava/lang/Object;)Z"⟩ : MethodName)) (z := (⟨"com/example/sablegrid/sablegrid/model/WriteOutcome", "equals", "(Ljava/lang/Object;)Z"⟩ : MethodName)) hown (mvT hZ (hw _ (List.mem_of_getElem? (i := 13) rfl))) (mvT hZ (hw _ (List.mem_of_getElem? (i := 14) rfl))) (notFace_of_selects (args := #[]) (mvT hZ (hw _ (List.mem_of_getElem? (i := 16) rfl)))) (mvT hZ (hw _ (List.mem_of_getElem? (i := 16) rfl))) (mvT hZ (hw _ (List.mem_of_getElem? (i := 15) rfl))) (by decide) (backOf (W := 0) (rm9 l Z a0 hw [] b7 q1 q2 T15.heap n0 O15 g_b7 f208 f211 f212) hZ (hw _ (List.mem_of_getElem? (i := 17) rfl)) (hw _ (List.mem_of_getElem? (i := 2) rfl)) (by decide) (by decide)) q213a q213c (g := (mkF m 171 #[.val (.long q1), .second, .val (.long q2), .second, .val (.long q3), .second, .val (.long q4), .second, .val (.int p5), .val (.long q3), .second, .val (.long q4), .second, .val (.ref b7), .val (.ref b14), .val (.int (0 : Int32)), .val (.int (3 : Int32)), .unset] [(.ref b7), (.ref b7)])) rfl (by rw [hml]; rfl) (Steps.refl _) (argsL := [(.ref b7)]) (rest := []) (lenOf pd1 rfl) rfl (by show 2 * 0 + _ ≤ _; exact Nat.le_of_eq rfl) (hb hby at_171) (fun _ _ => ⟨rfl, rfl, (by decide : 2 + 0 ≤ _), (by decide : 4 + 0 ≤ _)⟩)
                dsimp only [Pt.U, Pt.locs, Pt.cells, Pt.slots] at X214 l214 y214 z214 st214 hQ214
                subst l214 y214 z214
                have X214 : Stand p l e room_1 s m #[(.long q1), (.long q2), (.long q3), (.long q4), (.int p5)] below meth c T214 _ 2 4 := X214
                obtain ⟨rfl, Nq215, e216⟩ := hQ214
                have N214 := Fr.app N15 Nq215
                obtain ⟨cq217, kq217, q217a, q217b, q217c⟩ := isOf hZ e216 f18
                obtain ⟨_, _, ⟨T218, L218, c218, n218⟩, -, X218, ⟨Lc218, hQ218, l218, y218, z218⟩, st218⟩ := X214.virtualBack hx (y := (⟨"com/example/sablegrid/sablegrid/model/WriteOutcome", "equals", "(Ljava/lang/Object;)Z"⟩ : MethodName)) (z := (⟨"com/example/sablegrid/sablegrid/model/WriteOutcome", "equals", "(Ljava/lang/Object;)Z"⟩ : MethodName)) hown (mvT hZ (hw _ (List.mem_of_getElem? (i := 13) rfl))) (mvT hZ (hw _ (List.mem_of_getElem? (i := 14) rfl))) (notFace_of_selects (args := #[]) (mvT hZ (hw _ (List.mem_of_getElem? (i := 16) rfl)))) (mvT hZ (hw _ (List.mem_of_getElem? (i := 16) rfl))) (mvT hZ (hw _ (List.mem_of_getElem? (i := 15) rfl))) (by decide) (backOf (W := 0) (rm9 l Z a0 hw [] b14 q3 q4 T15.heap n0 O15 g_b14 f18 f19 f20) hZ (hw _ (List.mem_of_getElem? (i := 17) rfl)) (hw _ (List.mem_of_getElem? (i := 2) rfl)) (by decide) (by decide)) q217a q217c (g := (mkF m 181 #[.val (.long q1), .second, .val (.long q2), .second, .val (.long q3), .second, .val (.long q4), .second, .val (.int p5), .val (.long q3), .second, .val (.long q4), .second, .val (.ref b7), .val (.ref b14), .val (.int (0 : Int32)), .val (.int (3 : Int32)), .unset] [(.ref b14), (.ref b14)])) rfl (by rw [hml]; rfl) (Steps.refl _) (argsL := [(.ref b14)]) (rest := []) (lenOf pd1 rfl) rfl (by show 2 * 0 + _ ≤ _; exact Nat.le_of_eq rfl) (hb hby at_181) (fun _ _ => ⟨rfl, e216, (by decide : 2 + 0 ≤ _), (by decide : 4 + 0 ≤ _)⟩)
                dsimp only [Pt.U, Pt.locs, Pt.cells, Pt.slots] at X218 l218 y218 z218 st218 hQ218
                subst l218 y218 z218
                have X218 : Stand p l e room_1 s m #[(.long q1), (.long q2), (.long q3), (.long q4), (.int p5)] below meth c T218 _ 2 4 := X218
                obtain ⟨rfl, Nq219, e220⟩ := hQ218
                have N218 := Fr.app N214 Nq219
                obtain ⟨fs, hr, hrun, hended, hW, hsame⟩ := X218.leave (v := some (.int (1 : Int32))) (fun h => by rw [hret] at h; cases h)
                refine ⟨_, _, pre207 _ ?_, hrun, hended, _, _, rfl, ?_, ⟨_, rfl⟩, hW, hsame.mono (by decide) (by decide)⟩
                ·
                  show Steps p.tables e below (T15.setTop (mkF m 142 #[.val (.long q1), .second, .val (.long q2), .second, .val (.long q3), .second, .val (.long q4), .second, .val (.int p5), .val (.long q3), .second, .val (.long q4), .second, .val (.ref b7), .val (.ref b14), .val (.int (0 : Int32)), .val (.int (3 : Int32)), .unset] [(.int (2 : Int32)), (.int (3 : Int32))])) _
                  refine XS.icmpYes X15.here hx rfl (pc0 := 142) (pc' := 167) rfl (hb hby at_142) rfl (feq (by decide : ¬ ((3 : Int32) = (2 : Int32)))).2 (by decide) (by decide) ?_
                  show Steps p.tables e below (T15.setTop (mkF m 167 #[.val (.long q1), .second, .val (.long q2), .second, .val (.long q3), .second, .val (.long q4), .second, .val (.int p5), .val (.long q3), .second, .val (.long q4), .second, .val (.ref b7), .val (.ref b14), .val (.int (0 : Int32)), .val (.int (3 : Int32)), .unset] [])) _
                  refine XS.aload X15.here hx rfl (hb hby at_167) rfl rfl ?_
                  show Steps p.tables e below (T15.setTop (mkF m 169 #[.val (.long q1), .second, .val (.long q2), .second, .val (.long q3), .second, .val (.long q4), .second, .val (.int p5), .val (.long q3), .second, .val (.long q4), .second, .val (.ref b7), .val (.ref b14), .val (.int (0 : Int32)), .val (.int (3 : Int32)), .unset] [(.ref b7)])) _
                  refine XS.aload X15.here hx rfl (hb hby at_169) rfl rfl ?_
                  show Steps p.tables e below (T15.setTop (mkF m 171 #[.val (.long q1), .second, .val (.long q2), .second, .val (.long q3), .second, .val (.long q4), .second, .val (.int p5), .val (.long q3), .second, .val (.long q4), .second, .val (.ref b7), .val (.ref b14), .val (.int (0 : Int32)), .val (.int (3 : Int32)), .unset] [(.ref b7), (.ref b7)])) _
                  refine st214.trans ?_
                  show Steps p.tables e below (T214.setTop (mkF m 174 #[.val (.long q1), .second, .val (.long q2), .second, .val (.long q3), .second, .val (.long q4), .second, .val (.int p5), .val (.long q3), .second, .val (.long q4), .second, .val (.ref b7), .val (.ref b14), .val (.int (0 : Int32)), .val (.int (3 : Int32)), .unset] [(.int (1 : Int32))])) _
                  refine XS.ifNo X214.here hx rfl (hb hby at_174) rfl ((if0 _ _).trans (feq (by decide : ¬ ((1 : Int32) = (0 : Int32)))).1) ?_
                  show Steps p.tables e below (T214.setTop (mkF m 177 #[.val (.long q1), .second, .val (.long q2), .second, .val (.long q3), .second, .val (.long q4), .second, .val (.int p5), .val (.long q3), .second, .val (.long q4), .second, .val (.ref b7), .val (.ref b14), .val (.int (0 : Int32)), .val (.int (3 : Int32)), .unset] [])) _
                  refine XS.aload X214.here hx rfl (hb hby at_177) rfl rfl ?_
                  show Steps p.tables e below (T214.setTop (mkF m 179 #[.val (.long q1), .second, .val (.long q2), .second, .val (.long q3), .second, .val (.long q4), .second, .val (.int p5), .val (.long q3), .second, .val (.long q4), .second, .val (.ref b7), .val (.ref b14), .val (.int (0 : Int32)), .val (.int (3 : Int32)), .unset] [(.ref b14)])) _
                  refine XS.aload X214.here hx rfl (hb hby at_179) rfl rfl ?_
                  show Steps p.tables e below (T214.setTop (mkF m 181 #[.val (.long q1), .second, .val (.long q2), .second, .val (.long q3), .second, .val (.long q4), .second, .val (.int p5), .val (.long q3), .second, .val (.long q4), .second, .val (.ref b7), .val (.ref b14), .val (.int (0 : Int32)), .val (.int (3 : Int32)), .unset] [(.ref b14), (.ref b14)])) _
                  refine st218.trans ?_
                  show Steps p.tables e below (T218.setTop (mkF m 184 #[.val (.long q1), .second, .val (.long q2), .second, .val (.long q3), .second, .val (.long q4), .second, .val (.int p5), .val (.long q3), .second, .val (.long q4), .second, .val (.ref b7), .val (.ref b14), .val (.int (0 : Int32)), .val (.int (3 : Int32)), .unset] [(.int (1 : Int32))])) _
                  refine XS.ifNo X218.here hx rfl (hb hby at_184) rfl ((if0 _ _).trans (feq (by decide : ¬ ((1 : Int32) = (0 : Int32)))).1) ?_
                  show Steps p.tables e below (T218.setTop (mkF m 187 #[.val (.long q1), .second, .val (.long q2), .second, .val (.long q3), .second, .val (.long q4), .second, .val (.int p5), .val (.long q3), .second, .val (.long q4), .second, .val (.ref b7), .val (.ref b14), .val (.int (0 : Int32)), .val (.int (3 : Int32)), .unset] [])) _
                  refine XS.iconst X218.here hx rfl (hb hby at_187) ?_
                  show Steps p.tables e below (T218.setTop (mkF m 188 #[.val (.long q1), .second, .val (.long q2), .second, .val (.long q3), .second, .val (.long q4), .second, .val (.int p5), .val (.long q3), .second, .val (.long q4), .second, .val (.ref b7), .val (.ref b14), .val (.int (0 : Int32)), .val (.int (3 : Int32)), .unset] [(.int (1 : Int32))])) _
                  refine XS.goto X218.here hx rfl (pc0 := 188) (pc' := 192) rfl (hb hby at_188) (by decide) (by decide) ?_
                  show Steps p.tables e below (T218.setTop (mkF m 192 #[.val (.long q1), .second, .val (.long q2), .second, .val (.long q3), .second, .val (.long q4), .second, .val (.int p5), .val (.long q3), .second, .val (.long q4), .second, .val (.ref b7), .val (.ref b14), .val (.int (0 : Int32)), .val (.int (3 : Int32)), .unset] [(.int (1 : Int32))])) _
                  exact retN X218 hx (t := .boolean) hret (by simp) (hb hby at_192) hr
                ·
                  show Q0 n0 _ T218.heap _
                  rw [e220]
                  exact ⟨rfl, N218⟩
      ·
        have pre221 : ∀ t, Steps p.tables e below (T15.setTop (mkF m 85 #[.val (.long q1), .second, .val (.long q2), .second, .val (.long q3), .second, .val (.long q4), .second, .val (.int p5), .val (.long q3), .second, .val (.long q4), .second, .val (.ref b7), .val (.ref b14), .val (.int (0 : Int32)), .val (.int (((p5.toUInt32 >>> ((2 : Int32) &&& 31).toUInt32).toInt32) &&& (3 : Int32))), .unset] [(.int (((p5.toUInt32 >>> ((2 : Int32) &&& 31).toUInt32).toInt32) &&& (3 : Int32)))])) t → Steps p.tables e below (s₁.setTop (entryFrame m #[(.long q1), (.long q2), (.long q3), (.long q4), (.int p5)] maxLocals)) t := fun t k => by
          refine pre21 _ ?_
          show Steps p.tables e below (T15.setTop (mkF m 58 #[.val (.long q1), .second, .val (.long q2), .second, .val (.long q3), .second, .val (.long q4), .second, .val (.int p5), .val (.long q3), .second, .val (.long q4), .second, .val (.ref b7), .val (.ref b14), .unset, .unset, .unset] [(.int (lcmpW q1 q3))])) _
          refine XS.ifYes X15.here hx rfl (pc0 := 58) (pc' := 72) rfl (hb hby at_58) rfl ((if0 _ _).trans (feq (fun q => hc22 ((lw_eq _ _).mp q))).2) (by decide) (by decide) ?_
          show Steps p.tables e below (T15.setTop (mkF m 72 #[.val (.long q1), .second, .val (.long q2), .second, .val (.long q3), .second, .val (.long q4), .second, .val (.int p5), .val (.long q3), .second, .val (.long q4), .second, .val (.ref b7), .val (.ref b14), .unset, .unset, .unset] [])) _
          refine XS.iconst X15.here hx rfl (hb hby at_72) ?_
          show Steps p.tables e below (T15.setTop (mkF m 73 #[.val (.long q1), .second, .val (.long q2), .second, .val (.long q3), .second, .val (.long q4), .second, .val (.int p5), .val (.long q3), .second, .val (.long q4), .second, .val (.ref b7), .val (.ref b14), .unset, .unset, .unset] [(.int (0 : Int32))])) _
          refine XS.istore X15.here hx rfl (hb hby at_73) rfl (l' := #[.val (.long q1), .second, .val (.long q2), .second, .val (.long q3), .second, .val (.long q4), .second, .val (.int p5), .val (.long q3), .second, .val (.long q4), .second, .val (.ref b7), .val (.ref b14), .val (.int (0 : Int32)), .unset, .unset]) rfl ?_
          show Steps p.tables e below (T15.setTop (mkF m 75 #[.val (.long q1), .second, .val (.long q2), .second, .val (.long q3), .second, .val (.long q4), .second, .val (.int p5), .val (.long q3), .second, .val (.long q4), .second, .val (.ref b7), .val (.ref b14), .val (.int (0 : Int32)), .unset, .unset] [])) _
          refine XS.iload X15.here hx rfl (hb hby at_75) rfl ?_
          show Steps p.tables e below (T15.setTop (mkF m 77 #[.val (.long q1), .second, .val (.long q2), .second, .val (.long q3), .second, .val (.long q4), .second, .val (.int p5), .val (.long q3), .second, .val (.long q4), .second, .val (.ref b7), .val (.ref b14), .val (.int (0 : Int32)), .unset, .unset] [(.int p5)])) _
          refine XS.iconst X15.here hx rfl (hb hby at_77) ?_
          show Steps p.tables e below (T15.setTop (mkF m 78 #[.val (.long q1), .second, .val (.long q2), .second, .val (.long q3), .second, .val (.long q4), .second, .val (.int p5), .val (.long q3), .second, .val (.long q4), .second, .val (.ref b7), .val (.ref b14), .val (.int (0 : Int32)), .unset, .unset] [(.int (2 : Int32)), (.int p5)])) _
          refine XS.iushr X15.here hx rfl (hb hby at_78) rfl ?_
          show Steps p.tables e below (T15.setTop (mkF m 79 #[.val (.long q1), .second, .val (.long q2), .second, .val (.long q3), .second, .val (.long q4), .second, .val (.int p5), .val (.long q3), .second, .val (.long q4), .second, .val (.ref b7), .val (.ref b14), .val (.int (0 : Int32)), .unset, .unset] [(.int ((p5.toUInt32 >>> ((2 : Int32) &&& 31).toUInt32).toInt32))])) _
          refine XS.iconst X15.here hx rfl (hb hby at_79) ?_
          show Steps p.tables e below (T15.setTop (mkF m 80 #[.val (.long q1), .second, .val (.long q2), .second, .val (.long q3), .second, .val (.long q4), .second, .val (.int p5), .val (.long q3), .second, .val (.long q4), .second, .val (.ref b7), .val (.ref b14), .val (.int (0 : Int32)), .unset, .unset] [(.int (3 : Int32)), (.int ((p5.toUInt32 >>> ((2 : Int32) &&& 31).toUInt32).toInt32))])) _
          refine XS.iand X15.here hx rfl (hb hby at_80) rfl ?_
          show Steps p.tables e below (T15.setTop (mkF m 81 #[.val (.long q1), .second, .val (.long q2), .second, .val (.long q3), .second, .val (.long q4), .second, .val (.int p5), .val (.long q3), .second, .val (.long q4), .second, .val (.ref b7), .val (.ref b14), .val (.int (0 : Int32)), .unset, .unset] [(.int (((p5.toUInt32 >>> ((2 : Int32) &&& 31).toUInt32).toInt32) &&& (3 : Int32)))])) _
          refine XS.istore X15.here hx rfl (hb hby at_81) rfl (l' := #[.val (.long q1), .second, .val (.long q2), .second, .val (.long q3), .second, .val (.long q4), .second, .val (.int p5), .val (.long q3), .second, .val (.long q4), .second, .val (.ref b7), .val (.ref b14), .val (.int (0 : Int32)), .val (.int (((p5.toUInt32 >>> ((2 : Int32) &&& 31).toUInt32).toInt32) &&& (3 : Int32))), .unset]) rfl ?_
          show Steps p.tables e below (T15.setTop (mkF m 83 #[.val (.long q1), .second, .val (.long q2), .second, .val (.long q3), .second, .val (.long q4), .second, .val (.int p5), .val (.long q3), .second, .val (.long q4), .second, .val (.ref b7), .val (.ref b14), .val (.int (0 : Int32)), .val (.int (((p5.toUInt32 >>> ((2 : Int32) &&& 31).toUInt32).toInt32) &&& (3 : Int32))), .unset] [])) _
          refine XS.iload X15.here hx rfl (hb hby at_83) rfl ?_
          exact k
        by_cases hc222 : (((p5.toUInt32 >>> ((2 : Int32) &&& 31).toUInt32).toInt32) &&& (3 : Int32)) = (0 : Int32)
        ·
          have pre223 : ∀ t, Steps p.tables e below (T15.setTop (mkF m 85 #[.val (.long q1), .second, .val (.long q2), .second, .val (.long q3), .second, .val (.long q4), .second, .val (.int p5), .val (.long q3), .second, .val (.long q4), .second, .val (.ref b7), .val (.ref b14), .val (.int (0 : Int32)), .val (.int (0 : Int32)), .unset] [(.int (0 : Int32))])) t → Steps p.tables e below (s₁.setTop (entryFrame m #[(.long q1), (.long q2), (.long q3), (.long q4), (.int p5)] maxLocals)) t := fun t k => pre221 t (by rw [hc222]; exact k)
          have lt224 : b7 < T8.heap.size := (Nat.lt_of_lt_of_le A7.lt K10.1)
          have ne225 : b7 ≠ b14 := Nat.ne_of_lt (Nat.lt_of_lt_of_le lt224 sz_b14)
          have f226 := ((f12.ext E14).keep K17 (ninS ne225 nin0))
          have f227 := ((f13.ext E14).keep K17 (ninS ne225 nin0))
          have f229 := ((f11.ext E14).keep K17)
          obtain ⟨cq228, kq228, q228a, q228b, q228c⟩ := isOf hZ rfl f229
          obtain ⟨_, _, ⟨T230, L230, c230, n230⟩, -, X230, ⟨Lc230, hQ230, l230, y230, z230⟩, st230⟩ := X15.virtualBack hx (y := (⟨"com/example/sablegrid/sablegrid/model/WriteOutcome", "equals", "(Ljava/lang/Object;)Z"⟩ : MethodName)) (z := (⟨"com/example/sablegrid/sablegrid/model/WriteOutcome", "equals", "(Ljava/lang/Object;)Z"⟩ : MethodName)) hown (mvT hZ (hw _ (List.mem_of_getElem? (i := 13) rfl))) (mvT hZ (hw _ (List.mem_of_getElem? (i := 14) rfl))) (notFace_of_selects (args := #[]) (mvT hZ (hw _ (List.mem_of_getElem? (i := 16) rfl)))) (mvT hZ (hw _ (List.mem_of_getElem? (i := 16) rfl))) (mvT hZ (hw _ (List.mem_of_getElem? (i := 15) rfl))) (by decide) (backOf (W := 0) (rm2 l Z a0 hw [] b7 b14 q1 q2 q3 q4 T15.heap n0 O15 g_b7 g_b14 f226 f227 f18 f19 f20) hZ (hw _ (List.mem_of_getElem? (i := 17) rfl)) (hw _ (List.mem_of_getElem? (i := 2) rfl)) (by decide) (by decide)) q228a q228c (g := (mkF m 92 #[.val (.long q1), .second, .val (.long q2), .second, .val (.long q3), .second, .val (.long q4), .second, .val (.int p5), .val (.long q3), .second, .val (.long q4), .second, .val (.ref b7), .val (.ref b14), .val (.int (0 : Int32)), .val (.int (0 : Int32)), .unset] [(.ref b14), (.ref b7)])) rfl (by rw [hml]; rfl) (Steps.refl _) (argsL := [(.ref b14)]) (rest := []) (lenOf pd1 rfl) rfl (by show 2 * 0 + _ ≤ _; exact Nat.le_of_eq rfl) (hb hby at_92) (fun _ _ => ⟨rfl, rfl, (by decide : 2 + 0 ≤ _), (by decide : 4 + 0 ≤ _)⟩)
          dsimp only [Pt.U, Pt.locs, Pt.cells, Pt.slots] at X230 l230 y230 z230 st230 hQ230
          subst l230 y230 z230
          have pre231 : ∀ t, Steps p.tables e below (T15.setTop (mkF m 92 #[.val (.long q1), .second, .val (.long q2), .second, .val (.long q3), .second, .val (.long q4), .second, .val (.int p5), .val (.long q3), .second, .val (.long q4), .second, .val (.ref b7), .val (.ref b14), .val (.int (0 : Int32)), .val (.int (0 : Int32)), .unset] [(.ref b14), (.ref b7)])) t → Steps p.tables e below (s₁.setTop (entryFrame m #[(.long q1), (.long q2), (.long q3), (.long q4), (.int p5)] maxLocals)) t := fun t k => by
            refine pre223 _ ?_
            show Steps p.tables e below (T15.setTop (mkF m 85 #[.val (.long q1), .second, .val (.long q2), .second, .val (.long q3), .second, .val (.long q4), .second, .val (.int p5), .val (.long q3), .second, .val (.long q4), .second, .val (.ref b7), .val (.ref b14), .val (.int (0 : Int32)), .val (.int (0 : Int32)), .unset] [(.int (0 : Int32))])) _
            refine XS.ifNo X15.here hx rfl (hb hby at_85) rfl ((if0 _ _).trans (teq (by decide : (0 : Int32) = (0 : Int32))).2) ?_
            show Steps p.tables e below (T15.setTop (mkF m 88 #[.val (.long q1), .second, .val (.long q2), .second, .val (.long q3), .second, .val (.long q4), .second, .val (.int p5), .val (.long q3), .second, .val (.long q4), .second, .val (.ref b7), .val (.ref b14), .val (.int (0 : Int32)), .val (.int (0 : Int32)), .unset] [])) _
            refine XS.aload X15.here hx rfl (hb hby at_88) rfl rfl ?_
            show Steps p.tables e below (T15.setTop (mkF m 90 #[.val (.long q1), .second, .val (.long q2), .second, .val (.long q3), .second, .val (.long q4), .second, .val (.int p5), .val (.long q3), .second, .val (.long q4), .second, .val (.ref b7), .val (.ref b14), .val (.int (0 : Int32)), .val (.int (0 : Int32)), .unset] [(.ref b7)])) _
            refine XS.aload X15.here hx rfl (hb hby at_90) rfl rfl ?_
            exact k
          have X230 : Stand p l e room_1 s m #[(.long q1), (.long q2), (.long q3), (.long q4), (.int p5)] below meth c T230 _ 2 4 := X230
          rcases hQ230 with ⟨hc232, hc233, rfl, Nq234, e235⟩ | ⟨hc236, hc237, rfl, Nq238, e239⟩ | ⟨hc240, rfl, Nq241, e242⟩
          ·
            exact absurd hc232 hc22
          ·
            exact absurd hc236 hc22
          ·
            have N230 := Fr.app N15 Nq241
            obtain ⟨cq243, kq243, q243a, q243b, q243c⟩ := isOf hZ e242 f18
            obtain ⟨_, _, ⟨T244, L244, c244, n244⟩, -, X244, ⟨Lc244, hQ244, l244, y244, z244⟩, st244⟩ := X230.virtualBack hx (y := (⟨"com/example/sablegrid/sablegrid/model/WriteOutcome", "equals", "(Ljava/lang/Object;)Z"⟩ : MethodName)) (z := (⟨"com/example/sablegrid/sablegrid/model/WriteOutcome", "equals", "(Ljava/lang/Object;)Z"⟩ : MethodName)) hown (mvT hZ (hw _ (List.mem_of_getElem? (i := 13) rfl))) (mvT hZ (hw _ (List.mem_of_getElem? (i := 14) rfl))) (notFace_of_selects (args := #[]) (mvT hZ (hw _ (List.mem_of_getElem? (i := 16) rfl)))) (mvT hZ (hw _ (List.mem_of_getElem? (i := 16) rfl))) (mvT hZ (hw _ (List.mem_of_getElem? (i := 15) rfl))) (by decide) (backOf (W := 0) (rm2 l Z a0 hw [] b14 b7 q3 q4 q1 q2 T15.heap n0 O15 g_b14 g_b7 f19 f20 f229 f226 f227) hZ (hw _ (List.mem_of_getElem? (i := 17) rfl)) (hw _ (List.mem_of_getElem? (i := 2) rfl)) (by decide) (by decide)) q243a q243c (g := (mkF m 104 #[.val (.long q1), .second, .val (.long q2), .second, .val (.long q3), .second, .val (.long q4), .second, .val (.int p5), .val (.long q3), .second, .val (.long q4), .second, .val (.ref b7), .val (.ref b14), .val (.int (0 : Int32)), .val (.int (0 : Int32)), .unset] [(.ref b7), (.ref b14)])) rfl (by rw [hml]; rfl) (Steps.refl _) (argsL := [(.ref b7)]) (rest := []) (lenOf pd1 rfl) rfl (by show 2 * 0 + _ ≤ _; exact Nat.le_of_eq rfl) (hb hby at_104) (fun _ _ => ⟨rfl, e242, (by decide : 2 + 0 ≤ _), (by decide : 4 + 0 ≤ _)⟩)
            dsimp only [Pt.U, Pt.locs, Pt.cells, Pt.slots] at X244 l244 y244 z244 st244 hQ244
            subst l244 y244 z244
            have pre245 : ∀ t, Steps p.tables e below (T230.setTop (mkF m 104 #[.val (.long q1), .second, .val (.long q2), .second, .val (.long q3), .second, .val (.long q4), .second, .val (.int p5), .val (.long q3), .second, .val (.long q4), .second, .val (.ref b7), .val (.ref b14), .val (.int (0 : Int32)), .val (.int (0 : Int32)), .unset] [(.ref b7), (.ref b14)])) t → Steps p.tables e below (s₁.setTop (entryFrame m #[(.long q1), (.long q2), (.long q3), (.long q4), (.int p5)] maxLocals)) t := fun t k => by
              refine pre231 _ ?_
              show Steps p.tables e below (T15.setTop (mkF m 92 #[.val (.long q1), .second, .val (.long q2), .second, .val (.long q3), .second, .val (.long q4), .second, .val (.int p5), .val (.long q3), .second, .val (.long q4), .second, .val (.ref b7), .val (.ref b14), .val (.int (0 : Int32)), .val (.int (0 : Int32)), .unset] [(.ref b14), (.ref b7)])) _
              refine st230.trans ?_
              show Steps p.tables e below (T230.setTop (mkF m 95 #[.val (.long q1), .second, .val (.long q2), .second, .val (.long q3), .second, .val (.long q4), .second, .val (.int p5), .val (.long q3), .second, .val (.long q4), .second, .val (.ref b7), .val (.ref b14), .val (.int (0 : Int32)), .val (.int (0 : Int32)), .unset] [(.int (0 : Int32))])) _
              refine XS.iload X230.here hx rfl (hb hby at_95) rfl ?_
              show Steps p.tables e below (T230.setTop (mkF m 97 #[.val (.long q1), .second, .val (.long q2), .second, .val (.long q3), .second, .val (.long q4), .second, .val (.int p5), .val (.long q3), .second, .val (.long q4), .second, .val (.ref b7), .val (.ref b14), .val (.int (0 : Int32)), .val (.int (0 : Int32)), .unset] [(.int (0 : Int32)), (.int (0 : Int32))])) _
              refine XS.icmpNo X230.here hx rfl (hb hby at_97) rfl (teq (by decide : (0 : Int32) = (0 : Int32))).2 ?_
              show Steps p.tables e below (T230.setTop (mkF m 100 #[.val (.long q1), .second, .val (.long q2), .second, .val (.long q3), .second, .val (.long q4), .second, .val (.int p5), .val (.long q3), .second, .val (.long q4), .second, .val (.ref b7), .val (.ref b14), .val (.int (0 : Int32)), .val (.int (0 : Int32)), .unset] [])) _
              refine XS.aload X230.here hx rfl (hb hby at_100) rfl rfl ?_
              show Steps p.tables e below (T230.setTop (mkF m 102 #[.val (.long q1), .second, .val (.long q2), .second, .val (.long q3), .second, .val (.long q4), .second, .val (.int p5), .val (.long q3), .second, .val (.long q4), .second, .val (.ref b7), .val (.ref b14), .val (.int (0 : Int32)), .val (.int (0 : Int32)), .unset] [(.ref b14)])) _
              refine XS.aload X230.here hx rfl (hb hby at_102) rfl rfl ?_
              exact k
            have X244 : Stand p l e room_1 s m #[(.long q1), (.long q2), (.long q3), (.long q4), (.int p5)] below meth c T244 _ 2 4 := X244
            rcases hQ244 with ⟨hc246, hc247, rfl, Nq248, e249⟩ | ⟨hc250, hc251, rfl, Nq252, e253⟩ | ⟨hc254, rfl, Nq255, e256⟩
            ·
              exact absurd hc246 (Ne.symm hc22)
            ·
              exact absurd hc250 (Ne.symm hc22)
            ·
              have N244 := Fr.app N230 Nq255
              obtain ⟨fs, hr, hrun, hended, hW, hsame⟩ := X244.leave (v := some (.int (1 : Int32))) (fun h => by rw [hret] at h; cases h)
              refine ⟨_, _, pre245 _ ?_, hrun, hended, _, _, rfl, ?_, ⟨_, rfl⟩, hW, hsame.mono (by decide) (by decide)⟩
              ·
                show Steps p.tables e below (T230.setTop (mkF m 104 #[.val (.long q1), .second, .val (.long q2), .second, .val (.long q3), .second, .val (.long q4), .second, .val (.int p5), .val (.long q3), .second, .val (.long q4), .second, .val (.ref b7), .val (.ref b14), .val (.int (0 : Int32)), .val (.int (0 : Int32)), .unset] [(.ref b7), (.ref b14)])) _
                refine st244.trans ?_
                show Steps p.tables e below (T244.setTop (mkF m 107 #[.val (.long q1), .second, .val (.long q2), .second, .val (.long q3), .second, .val (.long q4), .second, .val (.int p5), .val (.long q3), .second, .val (.long q4), .second, .val (.ref b7), .val (.ref b14), .val (.int (0 : Int32)), .val (.int (0 : Int32)), .unset] [(.int (0 : Int32))])) _
                refine XS.iload X244.here hx rfl (hb hby at_107) rfl ?_
                show Steps p.tables e below (T244.setTop (mkF m 109 #[.val (.long q1), .second, .val (.long q2), .second, .val (.long q3), .second, .val (.long q4), .second, .val (.int p5), .val (.long q3), .second, .val (.long q4), .second, .val (.ref b7), .val (.ref b14), .val (.int (0 : Int32)), .val (.int (0 : Int32)), .unset] [(.int (0 : Int32)), (.int (0 : Int32))])) _
                refine XS.icmpNo X244.here hx rfl (hb hby at_109) rfl (teq (by decide : (0 : Int32) = (0 : Int32))).2 ?_
                show Steps p.tables e below (T244.setTop (mkF m 112 #[.val (.long q1), .second, .val (.long q2), .second, .val (.long q3), .second, .val (.long q4), .second, .val (.int p5), .val (.long q3), .second, .val (.long q4), .second, .val (.ref b7), .val (.ref b14), .val (.int (0 : Int32)), .val (.int (0 : Int32)), .unset] [])) _
                refine XS.iconst X244.here hx rfl (hb hby at_112) ?_
                show Steps p.tables e below (T244.setTop (mkF m 113 #[.val (.long q1), .second, .val (.long q2), .second, .val (.long q3), .second, .val (.long q4), .second, .val (.int p5), .val (.long q3), .second, .val (.long q4), .second, .val (.ref b7), .val (.ref b14), .val (.int (0 : Int32)), .val (.int (0 : Int32)), .unset] [(.int (1 : Int32))])) _
                refine XS.goto X244.here hx rfl (pc0 := 113) (pc' := 117) rfl (hb hby at_113) (by decide) (by decide) ?_
                show Steps p.tables e below (T244.setTop (mkF m 117 #[.val (.long q1), .second, .val (.long q2), .second, .val (.long q3), .second, .val (.long q4), .second, .val (.int p5), .val (.long q3), .second, .val (.long q4), .second, .val (.ref b7), .val (.ref b14), .val (.int (0 : Int32)), .val (.int (0 : Int32)), .unset] [(.int (1 : Int32))])) _
                exact retN X244 hx (t := .boolean) hret (by simp) (hb hby at_117) hr
              ·
                show Q0 n0 _ T244.heap _
                rw [e256]
                exact ⟨rfl, N244⟩
        ·
          have pre257 : ∀ t, Steps p.tables e below (T15.setTop (mkF m 121 #[.val (.long q1), .second, .val (.long q2), .second, .val (.long q3), .second, .val (.long q4), .second, .val (.int p5), .val (.long q3), .second, .val (.long q4), .second, .val (.ref b7), .val (.ref b14), .val (.int (0 : Int32)), .val (.int (((p5.toUInt32 >>> ((2 : Int32) &&& 31).toUInt32).toInt32) &&& (3 : Int32))), .unset] [(.int (1 : Int32)), (.int (((p5.toUInt32 >>> ((2 : Int32) &&& 31).toUInt32).toInt32) &&& (3 : Int32)))])) t → Steps p.tables e below (s₁.setTop (entryFrame m #[(.long q1), (.long q2), (.long q3), (.long q4), (.int p5)] maxLocals)) t := fun t k => by
            refine pre221 _ ?_
            show Steps p.tables e below (T15.setTop (mkF m 85 #[.val (.long q1), .second, .val (.long q2), .second, .val (.long q3), .second, .val (.long q4), .second, .val (.int p5), .val (.long q3), .second, .val (.long q4), .second, .val (.ref b7), .val (.ref b14), .val (.int (0 : Int32)), .val (.int (((p5.toUInt32 >>> ((2 : Int32) &&& 31).toUInt32).toInt32) &&& (3 : Int32))), .unset] [(.int (((p5.toUInt32 >>> ((2 : Int32) &&& 31).toUInt32).toInt32) &&& (3 : Int32)))])) _
            refine XS.ifYes X15.here hx rfl (pc0 := 85) (pc' := 118) rfl (hb hby at_85) rfl ((if0 _ _).trans (feq hc222).2) (by decide) (by decide) ?_
            show Steps p.tables e below (T15.setTop (mkF m 118 #[.val (.long q1), .second, .val (.long q2), .second, .val (.long q3), .second, .val (.long q4), .second, .val (.int p5), .val (.long q3), .second, .val (.long q4), .second, .val (.ref b7), .val (.ref b14), .val (.int (0 : Int32)), .val (.int (((p5.toUInt32 >>> ((2 : Int32) &&& 31).toUInt32).toInt32) &&& (3 : Int32))), .unset] [])) _
            refine XS.iload X15.here hx rfl (hb hby at_118) rfl ?_
            show Steps p.tables e below (T15.setTop (mkF m 120 #[.val (.long q1), .second, .val (.long q2), .second, .val (.long q3), .second, .val (.long q4), .second, .val (.int p5), .val (.long q3), .second, .val (.long q4), .second, .val (.ref b7), .val (.ref b14), .val (.int (0 : Int32)), .val (.int (((p5.toUInt32 >>> ((2 : Int32) &&& 31).toUInt32).toInt32) &&& (3 : Int32))), .unset] [(.int (((p5.toUInt32 >>> ((2 : Int32) &&& 31).toUInt32).toInt32) &&& (3 : Int32)))])) _
            refine XS.iconst X15.here hx rfl (hb hby at_120) ?_
            exact k
          by_cases hc258 : (((p5.toUInt32 >>> ((2 : Int32) &&& 31).toUInt32).toInt32) &&& (3 : Int32)) = (1 : Int32)
          ·
            have pre259 : ∀ t, Steps p.tables e below (T15.setTop (mkF m 121 #[.val (.long q1), .second, .val (.long q2), .second, .val (.long q3), .second, .val (.long q4), .second, .val (.int p5), .val (.long q3), .second, .val (.long q4), .second, .val (.ref b7), .val (.ref b14), .val (.int (0 : Int32)), .val (.int (1 : Int32)), .unset] [(.int (1 : Int32)), (.int (1 : Int32))])) t → Steps p.tables e below (s₁.setTop (entryFrame m #[(.long q1), (.long q2), (.long q3), (.long q4), (.int p5)] maxLocals)) t := fun t k => pre257 t (by rw [hc258]; exact k)
            have f261 := ((f11.ext E14).keep K17)
            obtain ⟨cq260, kq260, q260a, q260b, q260c⟩ := isOf hZ rfl f261
            obtain ⟨_, _, ⟨T262, L262, c262, n262⟩, -, X262, ⟨Lc262, hQ262, l262, y262, z262⟩, st262⟩ := X15.virtualBack hx (y := (⟨"com/example/sablegrid/sablegrid/model/WriteOutcome", "equals", "(Ljava/lang/Object;)Z"⟩ : MethodName)) (z := (⟨"com/example/sablegrid/sablegrid/model/WriteOutcome", "equals", "(Ljava/lang/Object;)Z"⟩ : MethodName)) hown (mvT hZ (hw _ (List.mem_of_getElem? (i := 13) rfl))) (mvT hZ (hw _ (List.mem_of_getElem? (i := 14) rfl))) (notFace_of_selects (args := #[]) (mvT hZ (hw _ (List.mem_of_getElem? (i := 16) rfl)))) (mvT hZ (hw _ (List.mem_of_getElem? (i := 16) rfl))) (mvT hZ (hw _ (List.mem_of_getElem? (i := 15) rfl))) (by decide) (backOf (W := 0) (rm3 l Z a0 hw [] b7 T15.heap n0 O15 g_b7) hZ (hw _ (List.mem_of_getElem? (i := 17) rfl)) (hw _ (List.mem_of_getElem? (i := 2) rfl)) (by decide) (by decide)) q260a q260c (g := (mkF m 127 #[.val (.long q1), .second, .val (.long q2), .second, .val (.long q3), .second, .val (.long q4), .second, .val (.int p5), .val (.long q3), .second, .val (.long q4), .second, .val (.ref b7), .val (.ref b14), .val (.int (0 : Int32)), .val (.int (1 : Int32)), .unset] [.null, (.ref b7)])) rfl (by rw [hml]; rfl) (Steps.refl _) (argsL := [.null]) (rest := []) (lenOf pd1 rfl) rfl (by show 2 * 0 + _ ≤ _; exact Nat.le_of_eq rfl) (hb hby at_127) (fun _ _ => ⟨rfl, rfl, (by decide : 2 + 0 ≤ _), (by decide : 4 + 0 ≤ _)⟩)
            dsimp only [Pt.U, Pt.locs, Pt.cells, Pt.slots] at X262 l262 y262 z262 st262 hQ262
            subst l262 y262 z262
            have X262 : Stand p l e room_1 s m #[(.long q1), (.long q2), (.long q3), (.long q4), (.int p5)] below meth c T262 _ 2 4 := X262
            obtain ⟨rfl, Nq263, e264⟩ := hQ262
            have N262 := Fr.app N15 Nq263
            obtain ⟨fs, hr, hrun, hended, hW, hsame⟩ := X262.leave (v := some (.int (1 : Int32))) (fun h => by rw [hret] at h; cases h)
            refine ⟨_, _, pre259 _ ?_, hrun, hended, _, _, rfl, ?_, ⟨_, rfl⟩, hW, hsame.mono (by decide) (by decide)⟩
            ·
              show Steps p.tables e below (T15.setTop (mkF m 121 #[.val (.long q1), .second, .val (.long q2), .second, .val (.long q3), .second, .val (.long q4), .second, .val (.int p5), .val (.long q3), .second, .val (.long q4), .second, .val (.ref b7), .val (.ref b14), .val (.int (0 : Int32)), .val (.int (1 : Int32)), .unset] [(.int (1 : Int32)), (.int (1 : Int32))])) _
              refine XS.icmpNo X15.here hx rfl (hb hby at_121) rfl (teq (by decide : (1 : Int32) = (1 : Int32))).2 ?_
              show Steps p.tables e below (T15.setTop (mkF m 124 #[.val (.long q1), .second, .val (.long q2), .second, .val (.long q3), .second, .val (.long q4), .second, .val (.int p5), .val (.long q3), .second, .val (.long q4), .second, .val (.ref b7), .val (.ref b14), .val (.int (0 : Int32)), .val (.int (1 : Int32)), .unset] [])) _
              refine XS.aload X15.here hx rfl (hb hby at_124) rfl rfl ?_
              show Steps p.tables e below (T15.setTop (mkF m 126 #[.val (.long q1), .second, .val (.long q2), .second, .val (.long q3), .second, .val (.long q4), .second, .val (.int p5), .val (.long q3), .second, .val (.long q4), .second, .val (.ref b7), .val (.ref b14), .val (.int (0 : Int32)), .val (.int (1 : Int32)), .unset] [(.ref b7)])) _
              refine XS.aconstNull X15.here hx rfl (hb hby at_126) ?_
              show Steps p.tables e below (T15.setTop (mkF m 127 #[.val (.long q1), .second, .val (.long q2), .second, .val (.long q3), .second, .val (.long q4), .second, .val (.int p5), .val (.long q3), .second, .val (.long q4), .second, .val (.ref b7), .val (.ref b14), .val (.int (0 : Int32)), .val (.int (1 : Int32)), .unset] [.null, (.ref b7)])) _
              refine st262.trans ?_
              show Steps p.tables e below (T262.setTop (mkF m 130 #[.val (.long q1), .second, .val (.long q2), .second, .val (.long q3), .second, .val (.long q4), .second, .val (.int p5), .val (.long q3), .second, .val (.long q4), .second, .val (.ref b7), .val (.ref b14), .val (.int (0 : Int32)), .val (.int (1 : Int32)), .unset] [(.int (0 : Int32))])) _
              refine XS.ifNo X262.here hx rfl (hb hby at_130) rfl ((if0 _ _).trans (teq (by decide : (0 : Int32) = (0 : Int32))).2) ?_
              show Steps p.tables e below (T262.setTop (mkF m 133 #[.val (.long q1), .second, .val (.long q2), .second, .val (.long q3), .second, .val (.long q4), .second, .val (.int p5), .val (.long q3), .second, .val (.long q4), .second, .val (.ref b7), .val (.ref b14), .val (.int (0 : Int32)), .val (.int (1 : Int32)), .unset] [])) _
              refine XS.iconst X262.here hx rfl (hb hby at_133) ?_
              show Steps p.tables e below (T262.setTop (mkF m 134 #[.val (.long q1), .second, .val (.long q2), .second, .val (.long q3), .second, .val (.long q4), .second, .val (.int p5), .val (.long q3), .second, .val (.long q4), .second, .val (.ref b7), .val (.ref b14), .val (.int (0 : Int32)), .val (.int (1 : Int32)), .unset] [(.int (1 : Int32))])) _
              refine XS.goto X262.here hx rfl (pc0 := 134) (pc' := 138) rfl (hb hby at_134) (by decide) (by decide) ?_
              show Steps p.tables e below (T262.setTop (mkF m 138 #[.val (.long q1), .second, .val (.long q2), .second, .val (.long q3), .second, .val (.long q4), .second, .val (.int p5), .val (.long q3), .second, .val (.long q4), .second, .val (.ref b7), .val (.ref b14), .val (.int (0 : Int32)), .val (.int (1 : Int32)), .unset] [(.int (1 : Int32))])) _
              exact retN X262 hx (t := .boolean) hret (by simp) (hb hby at_138) hr
            ·
              show Q0 n0 _ T262.heap _
              rw [e264]
              exact ⟨rfl, N262⟩
          ·
            have pre265 : ∀ t, Steps p.tables e below (T15.setTop (mkF m 142 #[.val (.long q1), .second, .val (.long q2), .second, .val (.long q3), .second, .val (.long q4), .second, .val (.int p5), .val (.long q3), .second, .val (.long q4), .second, .val (.ref b7), .val (.ref b14), .val (.int (0 : Int32)), .val (.int (((p5.toUInt32 >>> ((2 : Int32) &&& 31).toUInt32).toInt32) &&& (3 : Int32))), .unset] [(.int (2 : Int32)), (.int (((p5.toUInt32 >>> ((2 : Int32) &&& 31).toUInt32).toInt32) &&& (3 : Int32)))])) t → Steps p.tables e below (s₁.setTop (entryFrame m #[(.long q1), (.long q2), (.long q3), (.long q4), (.int p5)] maxLocals)) t := fun t k => by
              refine pre257 _ ?_
              show Steps p.tables e below (T15.setTop (mkF m 121 #[.val (.long q1), .second, .val (.long q2), .second, .val (.long q3), .second, .val (.long q4), .second, .val (.int p5), .val (.long q3), .second, .val (.long q4), .second, .val (.ref b7), .val (.ref b14), .val (.int (0 : Int32)), .val (.int (((p5.toUInt32 >>> ((2 : Int32) &&& 31).toUInt32).toInt32) &&& (3 : Int32))), .unset] [(.int (1 : Int32)), (.int (((p5.toUInt32 >>> ((2 : Int32) &&& 31).toUInt32).toInt32) &&& (3 : Int32)))])) _
              refine XS.icmpYes X15.here hx rfl (pc0 := 121) (pc' := 139) rfl (hb hby at_121) rfl (feq hc258).2 (by decide) (by decide) ?_
              show Steps p.tables e below (T15.setTop (mkF m 139 #[.val (.long q1), .second, .val (.long q2), .second, .val (.long q3), .second, .val (.long q4), .second, .val (.int p5), .val (.long q3), .second, .val (.long q4), .second, .val (.ref b7), .val (.ref b14), .val (.int (0 : Int32)), .val (.int (((p5.toUInt32 >>> ((2 : Int32) &&& 31).toUInt32).toInt32) &&& (3 : Int32))), .unset] [])) _
              refine XS.iload X15.here hx rfl (hb hby at_139) rfl ?_
              show Steps p.tables e below (T15.setTop (mkF m 141 #[.val (.long q1), .second, .val (.long q2), .second, .val (.long q3), .second, .val (.long q4), .second, .val (.int p5), .val (.long q3), .second, .val (.long q4), .second, .val (.ref b7), .val (.ref b14), .val (.int (0 : Int32)), .val (.int (((p5.toUInt32 >>> ((2 : Int32) &&& 31).toUInt32).toInt32) &&& (3 : Int32))), .unset] [(.int (((p5.toUInt32 >>> ((2 : Int32) &&& 31).toUInt32).toInt32) &&& (3 : Int32)))])) _
              refine XS.iconst X15.here hx rfl (hb hby at_141) ?_
              exact k
            by_cases hc266 : (((p5.toUInt32 >>> ((2 : Int32) &&& 31).toUInt32).toInt32) &&& (3 : Int32)) = (2 : Int32)
            ·
              have pre267 : ∀ t, Steps p.tables e below (T15.setTop (mkF m 142 #[.val (.long q1), .second, .val (.long q2), .second, .val (.long q3), .second, .val (.long q4), .second, .val (.int p5), .val (.long q3), .second, .val (.long q4), .second, .val (.ref b7), .val (.ref b14), .val (.int (0 : Int32)), .val (.int (2 : Int32)), .unset] [(.int (2 : Int32)), (.int (2 : Int32))])) t → Steps p.tables e below (s₁.setTop (entryFrame m #[(.long q1), (.long q2), (.long q3), (.long q4), (.int p5)] maxLocals)) t := fun t k => pre265 t (by rw [hc266]; exact k)
              obtain ⟨_, _, ⟨T268, L268, c268, n268⟩, -, X268, ⟨Lc268, hQ268, l268, y268, z268⟩, st268⟩ := Jvm.LawKit.callS X15 hx (y := (⟨"java/lang/Long", "valueOf", "(J)Ljava/lang/Long;"⟩ : MethodName)) hown (mvT hZ (hw _ (List.mem_of_getElem? (i := 20) rfl))) (mvT hZ (hw _ (List.mem_of_getElem? (i := 21) rfl))) (mvT hZ (hw _ (List.mem_of_getElem? (i := 22) rfl))) (mvT hZ (hw _ (List.mem_of_getElem? (i := 23) rfl))) (by decide) (backOf (W := 0) (rm6 l Z a0 hw w1 cw1 G [] q1 T15.heap n0 O15 ) hZ (hw _ (List.mem_of_getElem? (i := 23) rfl)) (hw _ (List.mem_of_getElem? (i := 22) rfl)) (by decide) (by decide)) (g := (mkF m 146 #[.val (.long q1), .second, .val (.long q2), .second, .val (.long q3), .second, .val (.long q4), .second, .val (.int p5), .val (.long q3), .second, .val (.long q4), .second, .val (.ref b7), .val (.ref b14), .val (.int (0 : Int32)), .val (.int (2 : Int32)), .unset] [(.long q1)])) rfl (by rw [hml]; rfl) (argsL := [(.long q1)]) (rest := []) (lenOf pd4 rfl) rfl (by show 2 * 0 + _ ≤ _; exact Nat.le_of_eq rfl) (hb hby at_146) (fun _ _ => ⟨rfl, rfl, (by decide : 2 + 1 ≤ _), (by decide : 4 + 1 ≤ _)⟩)
              dsimp only [Pt.U, Pt.locs, Pt.cells, Pt.slots] at X268 l268 y268 z268 st268 hQ268
              subst l268 y268 z268
              have pre269 : ∀ t, Steps p.tables e below (T15.setTop (mkF m 146 #[.val (.long q1), .second, .val (.long q2), .second, .val (.long q3), .second, .val (.long q4), .second, .val (.int p5), .val (.long q3), .second, .val (.long q4), .second, .val (.ref b7), .val (.ref b14), .val (.int (0 : Int32)), .val (.int (2 : Int32)), .unset] [(.long q1)])) t → Steps p.tables e below (s₁.setTop (entryFrame m #[(.long q1), (.long q2), (.long q3), (.long q4), (.int p5)] maxLocals)) t := fun t k => by
                refine pre267 _ ?_
                show Steps p.tables e below (T15.setTop (mkF m 142 #[.val (.long q1), .second, .val (.long q2), .second, .val (.long q3), .second, .val (.long q4), .second, .val (.int p5), .val (.long q3), .second, .val (.long q4), .second, .val (.ref b7), .val (.ref b14), .val (.int (0 : Int32)), .val (.int (2 : Int32)), .unset] [(.int (2 : Int32)), (.int (2 : Int32))])) _
                refine XS.icmpNo X15.here hx rfl (hb hby at_142) rfl (teq (by decide : (2 : Int32) = (2 : Int32))).2 ?_
                show Steps p.tables e below (T15.setTop (mkF m 145 #[.val (.long q1), .second, .val (.long q2), .second, .val (.long q3), .second, .val (.long q4), .second, .val (.int p5), .val (.long q3), .second, .val (.long q4), .second, .val (.ref b7), .val (.ref b14), .val (.int (0 : Int32)), .val (.int (2 : Int32)), .unset] [])) _
                refine XS.lloadN X15.here hx rfl (hb hby at_145) rfl ?_
                exact k
              have X268 : Stand p l e room_1 s m #[(.long q1), (.long q2), (.long q3), (.long q4), (.int p5)] below meth c T268 _ 3 5 := X268
              rcases hQ268 with ⟨b270, hc271, rfl, Nq272, K273, sz_b270, f274, f275⟩ | ⟨b276, hc277, hc278, rfl, Nq279, K280, sz_b276, f281, f282⟩ | ⟨v283, hc284, hc285, rfl, Nq286, e287, f288⟩
              ·
                have N268 := Fr.app N15 Nq272
                have g_b270 : n0 ≤ b270 := Nat.le_trans (own_oz O15) sz_b270
                have M268 : h0.size ≤ T268.heap.size := Nat.le_trans M15 K273.1
                have O268 := Old.keep O15 K273 all0
                have f290 := (((f11.ext E14).keep K17).keep K273)
                obtain ⟨cq289, kq289, q289a, q289b, q289c⟩ := isOf hZ rfl f290
                obtain ⟨_, _, ⟨T291, L291, c291, n291⟩, -, X291, ⟨Lc291, hQ291, l291, y291, z291⟩, st291⟩ := X268.virtualBack hx (y := (⟨"com/example/sablegrid/sablegrid/model/WriteOutcome", "equals", "(Ljava/lang/Object;)Z"⟩ : MethodName)) (z := (⟨"com/example/sablegrid/sablegrid/model/WriteOutcome", "equals", "(Ljava/lang/Object;)Z"⟩ : MethodName)) hown (mvT hZ (hw _ (List.mem_of_getElem? (i := 13) rfl))) (mvT hZ (hw _ (List.mem_of_getElem? (i := 14) rfl))) (notFace_of_selects (args := #[]) (mvT hZ (hw _ (List.mem_of_getElem? (i := 16) rfl)))) (mvT hZ (hw _ (List.mem_of_getElem? (i := 16) rfl))) (mvT hZ (hw _ (List.mem_of_getElem? (i := 15) rfl))) (by decide) (backOf (W := 0) (rm7 l Z a0 hw [] b7 b270 T268.heap n0 O268 g_b7 g_b270 f274) hZ (hw _ (List.mem_of_getElem? (i := 17) rfl)) (hw _ (List.mem_of_getElem? (i := 2) rfl)) (by decide) (by decide)) q289a q289c (g := (mkF m 155 #[.val (.long q1), .second, .val (.long q2), .second, .val (.long q3), .second, .val (.long q4), .second, .val (.int p5), .val (.long q3), .second, .val (.long q4), .second, .val (.ref b7), .val (.ref b14), .val (.int (0 : Int32)), .val (.int (2 : Int32)), .val (.ref b270)] [(.ref b270), (.ref b7)])) rfl (by rw [hml]; rfl) (Steps.refl _) (argsL := [(.ref b270)]) (rest := []) (lenOf pd1 rfl) rfl (by show 2 * 0 + _ ≤ _; exact Nat.le_of_eq rfl) (hb hby at_155) (fun _ _ => ⟨rfl, rfl, (by decide : 3 + 0 ≤ _), (by decide : 5 + 0 ≤ _)⟩)
                dsimp only [Pt.U, Pt.locs, Pt.cells, Pt.slots] at X291 l291 y291 z291 st291 hQ291
                subst l291 y291 z291
                have X291 : Stand p l e room_1 s m #[(.long q1), (.long q2), (.long q3), (.long q4), (.int p5)] below meth c T291 _ 3 5 := X291
                obtain ⟨rfl, Nq292, e293⟩ := hQ291
                have N291 := Fr.app N268 Nq292
                obtain ⟨fs, hr, hrun, hended, hW, hsame⟩ := X291.leave (v := some (.int (1 : Int32))) (fun h => by rw [hret] at h; cases h)
                refine ⟨_, _, pre269 _ ?_, hrun, hended, _, _, rfl, ?_, ⟨_, rfl⟩, hW, hsame.mono (by decide) (by decide)⟩
                ·
                  show Steps p.tables e below (T15.setTop (mkF m 146 #[.val (.long q1), .second, .val (.long q2), .second, .val (.long q3), .second, .val (.long q4), .second, .val (.int p5), .val (.long q3), .second, .val (.long q4), .second, .val (.ref b7), .val (.ref b14), .val (.int (0 : Int32)), .val (.int (2 : Int32)), .unset] [(.long q1)])) _
                  refine st268 _ ?_
                  show Steps p.tables e below (T268.setTop (mkF m 149 #[.val (.long q1), .second, .val (.long q2), .second, .val (.long q3), .second, .val (.long q4), .second, .val (.int p5), .val (.long q3), .second, .val (.long q4), .second, .val (.ref b7), .val (.ref b14), .val (.int (0 : Int32)), .val (.int (2 : Int32)), .unset] [(.ref b270)])) _
                  refine XS.astore X268.here hx rfl (hb hby at_149) rfl rfl (l' := #[.val (.long q1), .second, .val (.long q2), .second, .val (.long q3), .second, .val (.long q4), .second, .val (.int p5), .val (.long q3), .second, .val (.long q4), .second, .val (.ref b7), .val (.ref b14), .val (.int (0 : Int32)), .val (.int (2 : Int32)), .val (.ref b270)]) rfl ?_
                  show Steps p.tables e below (T268.setTop (mkF m 151 #[.val (.long q1), .second, .val (.long q2), .second, .val (.long q3), .second, .val (.long q4), .second, .val (.int p5), .val (.long q3), .second, .val (.long q4), .second, .val (.ref b7), .val (.ref b14), .val (.int (0 : Int32)), .val (.int (2 : Int32)), .val (.ref b270)] [])) _
                  refine XS.aload X268.here hx rfl (hb hby at_151) rfl rfl ?_
                  show Steps p.tables e below (T268.setTop (mkF m 153 #[.val (.long q1), .second, .val (.long q2), .second, .val (.long q3), .second, .val (.long q4), .second, .val (.int p5), .val (.long q3), .second, .val (.long q4), .second, .val (.ref b7), .val (.ref b14), .val (.int (0 : Int32)), .val (.int (2 : Int32)), .val (.ref b270)] [(.ref b7)])) _
                  refine XS.aload X268.here hx rfl (hb hby at_153) rfl rfl ?_
                  show Steps p.tables e below (T268.setTop (mkF m 155 #[.val (.long q1), .second, .val (.long q2), .second, .val (.long q3), .second, .val (.long q4), .second, .val (.int p5), .val (.long q3), .second, .val (.long q4), .second, .val (.ref b7), .val (.ref b14), .val (.int (0 : Int32)), .val (.int (2 : Int32)), .val (.ref b270)] [(.ref b270), (.ref b7)])) _
                  refine st291.trans ?_
                  show Steps p.tables e below (T291.setTop (mkF m 158 #[.val (.long q1), .second, .val (.long q2), .second, .val (.long q3), .second, .val (.long q4), .second, .val (.int p5), .val (.long q3), .second, .val (.long q4), .second, .val (.ref b7), .val (.ref b14), .val (.int (0 : Int32)), .val (.int (2 : Int32)), .val (.ref b270)] [(.int (0 : Int32))])) _
                  refine XS.ifNo X291.here hx rfl (hb hby at_158) rfl ((if0 _ _).trans (teq (by decide : (0 : Int32) = (0 : Int32))).2) ?_
                  show Steps p.tables e below (T291.setTop (mkF m 161 #[.val (.long q1), .second, .val (.long q2), .second, .val (.long q3), .second, .val (.long q4), .second, .val (.int p5), .val (.long q3), .second, .val (.long q4), .second, .val (.ref b7), .val (.ref b14), .val (.int (0 : Int32)), .val (.int (2 : Int32)), .val (.ref b270)] [])) _
                  refine XS.iconst X291.here hx rfl (hb hby at_161) ?_
                  show Steps p.tables e below (T291.setTop (mkF m 162 #[.val (.long q1), .second, .val (.long q2), .second, .val (.long q3), .second, .val (.long q4), .second, .val (.int p5), .val (.long q3), .second, .val (.long q4), .second, .val (.ref b7), .val (.ref b14), .val (.int (0 : Int32)), .val (.int (2 : Int32)), .val (.ref b270)] [(.int (1 : Int32))])) _
                  refine XS.goto X291.here hx rfl (pc0 := 162) (pc' := 166) rfl (hb hby at_162) (by decide) (by decide) ?_
                  show Steps p.tables e below (T291.setTop (mkF m 166 #[.val (.long q1), .second, .val (.long q2), .second, .val (.long q3), .second, .val (.long q4), .second, .val (.int p5), .val (.long q3), .second, .val (.long q4), .second, .val (.ref b7), .val (.ref b14), .val (.int (0 : Int32)), .val (.int (2 : Int32)), .val (.ref b270)] [(.int (1 : Int32))])) _
                  exact retN X291 hx (t := .boolean) hret (by simp) (hb hby at_166) hr
                ·
                  show Q0 n0 _ T291.heap _
                  rw [e293]
                  exact ⟨rfl, N291⟩
              ·
                have N268 := Fr.app N15 Nq279
                have g_b276 : n0 ≤ b276 := Nat.le_trans (own_oz O15) sz_b276
                have M268 : h0.size ≤ T268.heap.size := Nat.le_trans M15 K280.1
                have O268 := Old.keep O15 K280 all0
                have f295 := (((f11.ext E14).keep K17).keep K280)
                obtain ⟨cq294, kq294, q294a, q294b, q294c⟩ := isOf hZ rfl f295
                obtain ⟨_, _, ⟨T296, L296, c296, n296⟩, -, X296, ⟨Lc296, hQ296, l296, y296, z296⟩, st296⟩ := X268.virtualBack hx (y := (⟨"com/example/sablegrid/sablegrid/model/WriteOutcome", "equals", "(Ljava/lang/Object;)Z"⟩ : MethodName)) (z := (⟨"com/example/sablegrid/sablegrid/model/WriteOutcome", "equals", "(Ljava/lang/Object;)Z"⟩ : MethodName)) hown (mvT hZ (hw _ (List.mem_of_getElem? (i := 13) rfl))) (mvT hZ (hw _ (List.mem_of_getElem? (i := 14) rfl))) (notFace_of_selects (args := #[]) (mvT hZ (hw _ (List.mem_of_getElem? (i := 16) rfl)))) (mvT hZ (hw _ (List.mem_of_getElem? (i := 16) rfl))) (mvT hZ (hw _ (List.mem_of_getElem? (i := 15) rfl))) (by decide) (backOf (W := 0) (rm7 l Z a0 hw [] b7 b276 T268.heap n0 O268 g_b7 g_b276 f281) hZ (hw _ (List.mem_of_getElem? (i := 17) rfl)) (hw _ (List.mem_of_getElem? (i := 2) rfl)) (by decide) (by decide)) q294a q294c (g := (mkF m 155 #[.val (.long q1), .second, .val (.long q2), .second, .val (.long q3), .second, .val (.long q4), .second, .val (.int p5), .val (.long q3), .second, .val (.long q4), .second, .val (.ref b7), .val (.ref b14), .val (.int (0 : Int32)), .val (.int (2 : Int32)), .val (.ref b276)] [(.ref b276), (.ref b7)])) rfl (by rw [hml]; rfl) (Steps.refl _) (argsL := [(.ref b276)]) (rest := []) (lenOf pd1 rfl) rfl (by show 2 * 0 + _ ≤ _; exact Nat.le_of_eq rfl) (hb hby at_155) (fun _ _ => ⟨rfl, rfl, (by decide : 3 + 0 ≤ _), (by decide : 5 + 0 ≤ _)⟩)
                dsimp only [Pt.U, Pt.locs, Pt.cells, Pt.slots] at X296 l296 y296 z296 st296 hQ296
                subst l296 y296 z296
                have X296 : Stand p l e room_1 s m #[(.long q1), (.long q2), (.long q3), (.long q4), (.int p5)] below meth c T296 _ 3 5 := X296
                obtain ⟨rfl, Nq297, e298⟩ := hQ296
                have N296 := Fr.app N268 Nq297
                obtain ⟨fs, hr, hrun, hended, hW, hsame⟩ := X296.leave (v := some (.int (1 : Int32))) (fun h => by rw [hret] at h; cases h)
                refine ⟨_, _, pre269 _ ?_, hrun, hended, _, _, rfl, ?_, ⟨_, rfl⟩, hW, hsame.mono (by decide) (by decide)⟩
                ·
                  show Steps p.tables e below (T15.setTop (mkF m 146 #[.val (.long q1), .second, .val (.long q2), .second, .val (.long q3), .second, .val (.long q4), .second, .val (.int p5), .val (.long q3), .second, .val (.long q4), .second, .val (.ref b7), .val (.ref b14), .val (.int (0 : Int32)), .val (.int (2 : Int32)), .unset] [(.long q1)])) _
                  refine st268 _ ?_
                  show Steps p.tables e below (T268.setTop (mkF m 149 #[.val (.long q1), .second, .val (.long q2), .second, .val (.long q3), .second, .val (.long q4), .second, .val (.int p5), .val (.long q3), .second, .val (.long q4), .second, .val (.ref b7), .val (.ref b14), .val (.int (0 : Int32)), .val (.int (2 : Int32)), .unset] [(.ref b276)])) _
                  refine XS.astore X268.here hx rfl (hb hby at_149) rfl rfl (l' := #[.val (.long q1), .second, .val (.long q2), .second, .val (.long q3), .second, .val (.long q4), .second, .val (.int p5), .val (.long q3), .second, .val (.long q4), .second, .val (.ref b7), .val (.ref b14), .val (.int (0 : Int32)), .val (.int (2 : Int32)), .val (.ref b276)]) rfl ?_
                  show Steps p.tables e below (T268.setTop (mkF m 151 #[.val (.long q1), .second, .val (.long q2), .second, .val (.long q3), .second, .val (.long q4), .second, .val (.int p5), .val (.long q3), .second, .val (.long q4), .second, .val (.ref b7), .val (.ref b14), .val (.int (0 : Int32)), .val (.int (2 : Int32)), .val (.ref b276)] [])) _
                  refine XS.aload X268.here hx rfl (hb hby at_151) rfl rfl ?_
                  show Steps p.tables e below (T268.setTop (mkF m 153 #[.val (.long q1), .second, .val (.long q2), .second, .val (.long q3), .second, .val (.long q4), .second, .val (.int p5), .val (.long q3), .second, .val (.long q4), .second, .val (.ref b7), .val (.ref b14), .val (.int (0 : Int32)), .val (.int (2 : Int32)), .val (.ref b276)] [(.ref b7)])) _
                  refine XS.aload X268.here hx rfl (hb hby at_153) rfl rfl ?_
                  show Steps p.tables e below (T268.setTop (mkF m 155 #[.val (.long q1), .second, .val (.long q2), .second, .val (.long q3), .second, .val (.long q4), .second, .val (.int p5), .val (.long q3), .second, .val (.long q4), .second, .val (.ref b7), .val (.ref b14), .val (.int (0 : Int32)), .val (.int (2 : Int32)), .val (.ref b276)] [(.ref b276), (.ref b7)])) _
                  refine st296.trans ?_
                  show Steps p.tables e below (T296.setTop (mkF m 158 #[.val (.long q1), .second, .val (.long q2), .second, .val (.long q3), .second, .val (.long q4), .second, .val (.int p5), .val (.long q3), .second, .val (.long q4), .second, .val (.ref b7), .val (.ref b14), .val (.int (0 : Int32)), .val (.int (2 : Int32)), .val (.ref b276)] [(.int (0 : Int32))])) _
                  refine XS.ifNo X296.here hx rfl (hb hby at_158) rfl ((if0 _ _).trans (teq (by decide : (0 : Int32) = (0 : Int32))).2) ?_
                  show Steps p.tables e below (T296.setTop (mkF m 161 #[.val (.long q1), .second, .val (.long q2), .second, .val (.long q3), .second, .val (.long q4), .second, .val (.int p5), .val (.long q3), .second, .val (.long q4), .second, .val (.ref b7), .val (.ref b14), .val (.int (0 : Int32)), .val (.int (2 : Int32)), .val (.ref b276)] [])) _
                  refine XS.iconst X296.here hx rfl (hb hby at_161) ?_
                  show Steps p.tables e below (T296.setTop (mkF m 162 #[.val (.long q1), .second, .val (.long q2), .second, .val (.long q3), .second, .val (.long q4), .second, .val (.int p5), .val (.long q3), .second, .val (.long q4), .second, .val (.ref b7), .val (.ref b14), .val (.int (0 : Int32)), .val (.int (2 : Int32)), .val (.ref b276)] [(.int (1 : Int32))])) _
                  refine XS.goto X296.here hx rfl (pc0 := 162) (pc' := 166) rfl (hb hby at_162) (by decide) (by decide) ?_
                  show Steps p.tables e below (T296.setTop (mkF m 166 #[.val (.long q1), .second, .val (.long q2), .second, .val (.long q3), .second, .val (.long q4), .second, .val (.int p5), .val (.long q3), .second, .val (.long q4), .second, .val (.ref b7), .val (.ref b14), .val (.int (0 : Int32)), .val (.int (2 : Int32)), .val (.ref b276)] [(.int (1 : Int32))])) _
                  exact retN X296 hx (t := .boolean) hret (by simp) (hb hby at_166) hr
                ·
                  show Q0 n0 _ T296.heap _
                  rw [e298]
                  exact ⟨rfl, N296⟩
              ·
                have N268 := Fr.app N15 Nq286
                have f300 := ((f11.ext E14).keep K17)
                obtain ⟨cq299, kq299, q299a, q299b, q299c⟩ := isOf hZ e287 f300
                obtain ⟨_, _, ⟨T301, L301, c301, n301⟩, -, X301, ⟨Lc301, hQ301, l301, y301, z301⟩, st301⟩ := X268.virtualBack hx (y := (⟨"com/example/sablegrid/sablegrid/model/WriteOutcome", "equals", "(Ljava/lang/Object;)Z"⟩ : MethodName)) (z := (⟨"com/example/sablegrid/sablegrid/model/WriteOutcome", "equals", "(Ljava/lang/Object;)Z"⟩ : MethodName)) hown (mvT hZ (hw _ (List.mem_of_getElem? (i := 13) rfl))) (mvT hZ (hw _ (List.mem_of_getElem? (i := 14) rfl))) (notFace_of_selects (args := #[]) (mvT hZ (hw _ (List.mem_of_getElem? (i := 16) rfl)))) (mvT hZ (hw _ (List.mem_of_getElem? (i := 16) rfl))) (mvT hZ (hw _ (List.mem_of_getElem? (i := 15) rfl))) (by decide) (backOf (W := 0) (rm8 l Z a0 hw [] b7 v283 T15.heap n0 O15 g_b7 f288) hZ (hw _ (List.mem_of_getElem? (i := 17) rfl)) (hw _ (List.mem_of_getElem? (i := 2) rfl)) (by decide) (by decide)) q299a q299c (g := (mkF m 155 #[.val (.long q1), .second, .val (.long q2), .second, .val (.long q3), .second, .val (.long q4), .second, .val (.int p5), .val (.long q3), .second, .val (.long q4), .second, .val (.ref b7), .val (.ref b14), .val (.int (0 : Int32)), .val (.int (2 : Int32)), .val (.ref v283)] [(.ref v283), (.ref b7)])) rfl (by rw [hml]; rfl) (Steps.refl _) (argsL := [(.ref v283)]) (rest := []) (lenOf pd1 rfl) rfl (by show 2 * 0 + _ ≤ _; exact Nat.le_of_eq rfl) (hb hby at_155) (fun _ _ => ⟨rfl, e287, (by decide : 3 + 0 ≤ _), (by decide : 5 + 0 ≤ _)⟩)
                dsimp only [Pt.U, Pt.locs, Pt.cells, Pt.slots] at X301 l301 y301 z301 st301 hQ301
                subst l301 y301 z301
                have X301 : Stand p l e room_1 s m #[(.long q1), (.long q2), (.long q3), (.long q4), (.int p5)] below meth c T301 _ 3 5 := X301
                obtain ⟨rfl, Nq302, e303⟩ := hQ301
                have N301 := Fr.app N268 Nq302
                obtain ⟨fs, hr, hrun, hended, hW, hsame⟩ := X301.leave (v := some (.int (1 : Int32))) (fun h => by rw [hret] at h; cases h)
                refine ⟨_, _, pre269 _ ?_, hrun, hended, _, _, rfl, ?_, ⟨_, rfl⟩, hW, hsame.mono (by decide) (by decide)⟩
                ·
                  show Steps p.tables e below (T15.setTop (mkF m 146 #[.val (.long q1), .second, .val (.long q2), .second, .val (.long q3), .second, .val (.long q4), .second, .val (.int p5), .val (.long q3), .second, .val (.long q4), .second, .val (.ref b7), .val (.ref b14), .val (.int (0 : Int32)), .val (.int (2 : Int32)), .unset] [(.long q1)])) _
                  refine st268 _ ?_
                  show Steps p.tables e below (T268.setTop (mkF m 149 #[.val (.long q1), .second, .val (.long q2), .second, .val (.long q3), .second, .val (.long q4), .second, .val (.int p5), .val (.long q3), .second, .val (.long q4), .second, .val (.ref b7), .val (.ref b14), .val (.int (0 : Int32)), .val (.int (2 : Int32)), .unset] [(.ref v283)])) _
                  refine XS.astore X268.here hx rfl (hb hby at_149) rfl rfl (l' := #[.val (.long q1), .second, .val (.long q2), .second, .val (.long q3), .second, .val (.long q4), .second, .val (.int p5), .val (.long q3), .second, .val (.long q4), .second, .val (.ref b7), .val (.ref b14), .val (.int (0 : Int32)), .val (.int (2 : Int32)), .val (.ref v283)]) rfl ?_
                  show Steps p.tables e below (T268.setTop (mkF m 151 #[.val (.long q1), .second, .val (.long q2), .second, .val (.long q3), .second, .val (.long q4), .second, .val (.int p5), .val (.long q3), .second, .val (.long q4), .second, .val (.ref b7), .val (.ref b14), .val (.int (0 : Int32)), .val (.int (2 : Int32)), .val (.ref v283)] [])) _
                  refine XS.aload X268.here hx rfl (hb hby at_151) rfl rfl ?_
                  show Steps p.tables e below (T268.setTop (mkF m 153 #[.val (.long q1), .second, .val (.long q2), .second, .val (.long q3), .second, .val (.long q4), .second, .val (.int p5), .val (.long q3), .second, .val (.long q4), .second, .val (.ref b7), .val (.ref b14), .val (.int (0 : Int32)), .val (.int (2 : Int32)), .val (.ref v283)] [(.ref b7)])) _
                  refine XS.aload X268.here hx rfl (hb hby at_153) rfl rfl ?_
                  show Steps p.tables e below (T268.setTop (mkF m 155 #[.val (.long q1), .second, .val (.long q2), .second, .val (.long q3), .second, .val (.long q4), .second, .val (.int p5), .val (.long q3), .second, .val (.long q4), .second, .val (.ref b7), .val (.ref b14), .val (.int (0 : Int32)), .val (.int (2 : Int32)), .val (.ref v283)] [(.ref v283), (.ref b7)])) _
                  refine st301.trans ?_
                  show Steps p.tables e below (T301.setTop (mkF m 158 #[.val (.long q1), .second, .val (.long q2), .second, .val (.long q3), .second, .val (.long q4), .second, .val (.int p5), .val (.long q3), .second, .val (.long q4), .second, .val (.ref b7), .val (.ref b14), .val (.int (0 : Int32)), .val (.int (2 : Int32)), .val (.ref v283)] [(.int (0 : Int32))])) _
                  refine XS.ifNo X301.here hx rfl (hb hby at_158) rfl ((if0 _ _).trans (teq (by decide : (0 : Int32) = (0 : Int32))).2) ?_
                  show Steps p.tables e below (T301.setTop (mkF m 161 #[.val (.long q1), .second, .val (.long q2), .second, .val (.long q3), .second, .val (.long q4), .second, .val (.int p5), .val (.long q3), .second, .val (.long q4), .second, .val (.ref b7), .val (.ref b14), .val (.int (0 : Int32)), .val (.int (2 : Int32)), .val (.ref v283)] [])) _
                  refine XS.iconst X301.here hx rfl (hb hby at_161) ?_
                  show Steps p.tables e below (T301.setTop (mkF m 162 #[.val (.long q1), .second, .val (.long q2), .second, .val (.long q3), .second, .val (.long q4), .second, .val (.int p5), .val (.long q3), .second, .val (.long q4), .second, .val (.ref b7), .val (.ref b14), .val (.int (0 : Int32)), .val (.int (2 : Int32)), .val (.ref v283)] [(.int (1 : Int32))])) _
                  refine XS.goto X301.here hx rfl (pc0 := 162) (pc' := 166) rfl (hb hby at_162) (by decide) (by decide) ?_
                  show Steps p.tables e below (T301.setTop (mkF m 166 #[.val (.long q1), .second, .val (.long q2), .second, .val (.long q3), .second, .val (.long q4), .second, .val (.int p5), .val (.long q3), .second, .val (.long q4), .second, .val (.ref b7), .val (.ref b14), .val (.int (0 : Int32)), .val (.int (2 : Int32)), .val (.ref v283)] [(.int (1 : Int32))])) _
                  exact retN X301 hx (t := .boolean) hret (by simp) (hb hby at_166) hr
                ·
                  show Q0 n0 _ T301.heap _
                  rw [e303]
                  exact ⟨rfl, N301⟩
            ·
              have hq304 : (((p5.toUInt32 >>> ((2 : Int32) &&& 31).toUInt32).toInt32) &&& (3 : Int32)) = (3 : Int32) := (own_geq (n := 3) (k := (3 : Int32)) (by decide) (by have q0 := own_and (x := ((p5.toUInt32 >>> ((2 : Int32) &&& 31).toUInt32).toInt32)) (k := (3 : Int32)) (n := 3) (by decide) (by decide); have q1 := own_neq (n := 0) (k := (0 : Int32)) (by decide) hc222; have q2 := own_neq (n := 1) (k := (1 : Int32)) (by decide) hc258; have q3 := own_neq (n := 2) (k := (2 : Int32)) (by decide) hc266; omega))
              have pre305 : ∀ t, Steps p.tables e below (T15.setTop (mkF m 142 #[.val (.long q1), .second, .val (.long q2), .second, .val (.long q3), .second, .val (.long q4), .second, .val (.int p5), .val (.long q3), .second, .val (.long q4), .second, .val (.ref b7), .val (.ref b14), .val (.int (0 : Int32)), .val (.int (3 : Int32)), .unset] [(.int (2 : Int32)), (.int (3 : Int32))])) t → Steps p.tables e below (s₁.setTop (entryFrame m #[(.long q1), (.long q2), (.long q3), (.long q4), (.int p5)] maxLocals)) t := fun t k => pre265 t (by rw [hq304]; exact k)
              have f306 := ((f11.ext E14).keep K17)
              have lt307 : b7 < T8.heap.size := (Nat.lt_of_lt_of_le A7.lt K10.1)
              have ne308 : b7 ≠ b14 := Nat.ne_of_lt (Nat.lt_of_lt_of_le lt307 sz_b14)
              have f309 := ((f12.ext E14).keep K17 (ninS ne308 nin0))
              have f310 := ((f13.ext E14).keep K17 (ninS ne308 nin0))
              obtain ⟨cq311, kq311, q311a, q311b, q311c⟩ := isOf hZ rfl f306
              obtain ⟨_, _, ⟨T312, L312, c312, n312⟩, -, X312, ⟨Lc312, hQ312, l312, y312, z312⟩, st312⟩ := X15.virtualBack hx (y := (⟨"com/example/sablegrid/sablegrid/model/WriteOutcome", "equals", "(Ljava/lang/Object;)Z"⟩ : MethodName)) (z := (⟨"com/example/sablegrid/sablegrid/model/WriteOutcome", "equals", "(Ljava/lang/Object;)Z"⟩ : MethodName)) hown (mvT hZ (hw _ (List.mem_of_getElem? (i := 13) rfl))) (mvT hZ (hw _ (List.mem_of_getElem? (i := 14) rfl))) (notFace_of_selects (args := #[]) (mvT hZ (hw _ (List.mem_of_getElem? (i := 16) rfl)))) (mvT hZ (hw _ (List.mem_of_getElem? (i := 16) rfl))) (mvT hZ (hw _ (List.mem_of_getElem? (i := 15) rfl))) (by decide) (backOf (W := 0) (rm9 l Z a0 hw [] b7 q1 q2 T15.heap n0 O15 g_b7 f306 f309 f310) hZ (hw _ (List.mem_of_getElem? (i := 17) rfl)) (hw _ (List.mem_of_getElem? (i := 2) rfl)) (by decide) (by decide)) q311a q311c (g := (mkF m 171 #[.val (.long q1), .second, .val (.long q2), .second, .val (.long q3), .second, .val (.long q4), .second, .val (.int p5), .val (.long q3), .second, .val (.long q4), .second, .val (.ref b7), .val (.ref b14), .val (.int (0 : Int32)), .val (.int (3 : Int32)), .unset] [(.ref b7), (.ref b7)])) rfl (by rw [hml]; rfl) (Steps.refl _) (argsL := [(.ref b7)]) (rest := []) (lenOf pd1 rfl) rfl (by show 2 * 0 + _ ≤ _; exact Nat.le_of_eq rfl) (hb hby at_171) (fun _ _ => ⟨rfl, rfl, (by decide : 2 + 0 ≤ _), (by decide : 4 + 0 ≤ _)⟩)
              dsimp only [Pt.U, Pt.locs, Pt.cells, Pt.slots] at X312 l312 y312 z312 st312 hQ312
              subst l312 y312 z312
              have X312 : Stand p l e room_1 s m #[(.long q1), (.long q2), (.long q3), (.long q4), (.int p5)] below meth c T312 _ 2 4 := X312
              obtain ⟨rfl, Nq313, e314⟩ := hQ312
              have N312 := Fr.app N15 Nq313
              obtain ⟨cq315, kq315, q315a, q315b, q315c⟩ := isOf hZ e314 f18
              obtain ⟨_, _, ⟨T316, L316, c316, n316⟩, -, X316, ⟨Lc316, hQ316, l316, y316, z316⟩, st316⟩ := X312.virtualBack hx (y := (⟨"com/example/sablegrid/sablegrid/model/WriteOutcome", "equals", "(Ljava/lang/Object;)Z"⟩ : MethodName)) (z := (⟨"com/example/sablegrid/sablegrid/model/WriteOutcome", "equals", "(Ljava/lang/Object;)Z"⟩ : MethodName)) hown (mvT hZ (hw _ (List.mem_of_getElem? (i := 13) rfl))) (mvT hZ (hw _ (List.mem_of_getElem? (i := 14) rfl))) (notFace_of_selects (args := #[]) (mvT hZ (hw _ (List.mem_of_getElem? (i := 16) rfl)))) (mvT hZ (hw _ (List.mem_of_getElem? (i := 16) rfl))) (mvT hZ (hw _ (List.mem_of_getElem? (i := 15) rfl))) (by decide) (backOf (W := 0) (rm9 l Z a0 hw [] b14 q3 q4 T15.heap n0 O15 g_b14 f18 f19 f20) hZ (hw _ (List.mem_of_getElem? (i := 17) rfl)) (hw _ (List.mem_of_getElem? (i := 2) rfl)) (by decide) (by decide)) q315a q315c (g := (mkF m 181 #[.val (.long q1), .second, .val (.long q2), .second, .val (.long q3), .second, .val (.long q4), .second, .val (.int p5), .val (.long q3), .second, .val (.long q4), .second, .val (.ref b7), .val (.ref b14), .val (.int (0 : Int32)), .val (.int (3 : Int32)), .unset] [(.ref b14), (.ref b14)])) rfl (by rw [hml]; rfl) (Steps.refl _) (argsL := [(.ref b14)]) (rest := []) (lenOf pd1 rfl) rfl (by show 2 * 0 + _ ≤ _; exact Nat.le_of_eq rfl) (hb hby at_181) (fun _ _ => ⟨rfl, e314, (by decide : 2 + 0 ≤ _), (by decide : 4 + 0 ≤ _)⟩)
              dsimp only [Pt.U, Pt.locs, Pt.cells, Pt.slots] at X316 l316 y316 z316 st316 hQ316
              subst l316 y316 z316
              have X316 : Stand p l e room_1 s m #[(.long q1), (.long q2), (.long q3), (.long q4), (.int p5)] below meth c T316 _ 2 4 := X316
              obtain ⟨rfl, Nq317, e318⟩ := hQ316
              have N316 := Fr.app N312 Nq317
              obtain ⟨fs, hr, hrun, hended, hW, hsame⟩ := X316.leave (v := some (.int (1 : Int32))) (fun h => by rw [hret] at h; cases h)
              refine ⟨_, _, pre305 _ ?_, hrun, hended, _, _, rfl, ?_, ⟨_, rfl⟩, hW, hsame.mono (by decide) (by decide)⟩
              ·
                show Steps p.tables e below (T15.setTop (mkF m 142 #[.val (.long q1), .second, .val (.long q2), .second, .val (.long q3), .second, .val (.long q4), .second, .val (.int p5), .val (.long q3), .second, .val (.long q4), .second, .val (.ref b7), .val (.ref b14), .val (.int (0 : Int32)), .val (.int (3 : Int32)), .unset] [(.int (2 : Int32)), (.int (3 : Int32))])) _
                refine XS.icmpYes X15.here hx rfl (pc0 := 142) (pc' := 167) rfl (hb hby at_142) rfl (feq (by decide : ¬ ((3 : Int32) = (2 : Int32)))).2 (by decide) (by decide) ?_
                show Steps p.tables e below (T15.setTop (mkF m 167 #[.val (.long q1), .second, .val (.long q2), .second, .val (.long q3), .second, .val (.long q4), .second, .val (.int p5), .val (.long q3), .second, .val (.long q4), .second, .val (.ref b7), .val (.ref b14), .val (.int (0 : Int32)), .val (.int (3 : Int32)), .unset] [])) _
                refine XS.aload X15.here hx rfl (hb hby at_167) rfl rfl ?_
                show Steps p.tables e below (T15.setTop (mkF m 169 #[.val (.long q1), .second, .val (.long q2), .second, .val (.long q3), .second, .val (.long q4), .second, .val (.int p5), .val (.long q3), .second, .val (.long q4), .second, .val (.ref b7), .val (.ref b14), .val (.int (0 : Int32)), .val (.int (3 : Int32)), .unset] [(.ref b7)])) _
                refine XS.aload X15.here hx rfl (hb hby at_169) rfl rfl ?_
                show Steps p.tables e below (T15.setTop (mkF m 171 #[.val (.long q1), .second, .val (.long q2), .second, .val (.long q3), .second, .val (.long q4), .second, .val (.int p5), .val (.long q3), .second, .val (.long q4), .second, .val (.ref b7), .val (.ref b14), .val (.int (0 : Int32)), .val (.int (3 : Int32)), .unset] [(.ref b7), (.ref b7)])) _
                refine st312.trans ?_
                show Steps p.tables e below (T312.setTop (mkF m 174 #[.val (.long q1), .second, .val (.long q2), .second, .val (.long q3), .second, .val (.long q4), .second, .val (.int p5), .val (.long q3), .second, .val (.long q4), .second, .val (.ref b7), .val (.ref b14), .val (.int (0 : Int32)), .val (.int (3 : Int32)), .unset] [(.int (1 : Int32))])) _
                refine XS.ifNo X312.here hx rfl (hb hby at_174) rfl ((if0 _ _).trans (feq (by decide : ¬ ((1 : Int32) = (0 : Int32)))).1) ?_
                show Steps p.tables e below (T312.setTop (mkF m 177 #[.val (.long q1), .second, .val (.long q2), .second, .val (.long q3), .second, .val (.long q4), .second, .val (.int p5), .val (.long q3), .second, .val (.long q4), .second, .val (.ref b7), .val (.ref b14), .val (.int (0 : Int32)), .val (.int (3 : Int32)), .unset] [])) _
                refine XS.aload X312.here hx rfl (hb hby at_177) rfl rfl ?_
                show Steps p.tables e below (T312.setTop (mkF m 179 #[.val (.long q1), .second, .val (.long q2), .second, .val (.long q3), .second, .val (.long q4), .second, .val (.int p5), .val (.long q3), .second, .val (.long q4), .second, .val (.ref b7), .val (.ref b14), .val (.int (0 : Int32)), .val (.int (3 : Int32)), .unset] [(.ref b14)])) _
                refine XS.aload X312.here hx rfl (hb hby at_179) rfl rfl ?_
                show Steps p.tables e below (T312.setTop (mkF m 181 #[.val (.long q1), .second, .val (.long q2), .second, .val (.long q3), .second, .val (.long q4), .second, .val (.int p5), .val (.long q3), .second, .val (.long q4), .second, .val (.ref b7), .val (.ref b14), .val (.int (0 : Int32)), .val (.int (3 : Int32)), .unset] [(.ref b14), (.ref b14)])) _
                refine st316.trans ?_
                show Steps p.tables e below (T316.setTop (mkF m 184 #[.val (.long q1), .second, .val (.long q2), .second, .val (.long q3), .second, .val (.long q4), .second, .val (.int p5), .val (.long q3), .second, .val (.long q4), .second, .val (.ref b7), .val (.ref b14), .val (.int (0 : Int32)), .val (.int (3 : Int32)), .unset] [(.int (1 : Int32))])) _
                refine XS.ifNo X316.here hx rfl (hb hby at_184) rfl ((if0 _ _).trans (feq (by decide : ¬ ((1 : Int32) = (0 : Int32)))).1) ?_
                show Steps p.tables e below (T316.setTop (mkF m 187 #[.val (.long q1), .second, .val (.long q2), .second, .val (.long q3), .second, .val (.long q4), .second, .val (.int p5), .val (.long q3), .second, .val (.long q4), .second, .val (.ref b7), .val (.ref b14), .val (.int (0 : Int32)), .val (.int (3 : Int32)), .unset] [])) _
                refine XS.iconst X316.here hx rfl (hb hby at_187) ?_
                show Steps p.tables e below (T316.setTop (mkF m 188 #[.val (.long q1), .second, .val (.long q2), .second, .val (.long q3), .second, .val (.long q4), .second, .val (.int p5), .val (.long q3), .second, .val (.long q4), .second, .val (.ref b7), .val (.ref b14), .val (.int (0 : Int32)), .val (.int (3 : Int32)), .unset] [(.int (1 : Int32))])) _
                refine XS.goto X316.here hx rfl (pc0 := 188) (pc' := 192) rfl (hb hby at_188) (by decide) (by decide) ?_
                show Steps p.tables e below (T316.setTop (mkF m 192 #[.val (.long q1), .second, .val (.long q2), .second, .val (.long q3), .second, .val (.long q4), .second, .val (.int p5), .val (.long q3), .second, .val (.long q4), .second, .val (.ref b7), .val (.ref b14), .val (.int (0 : Int32)), .val (.int (3 : Int32)), .unset] [(.int (1 : Int32))])) _
                exact retN X316 hx (t := .boolean) hret (by simp) (hb hby at_192) hr
              ·
                show Q0 n0 _ T316.heap _
                rw [e318]
                exact ⟨rfl, N316⟩
    ·
      obtain ⟨T319, h319, X319, e319, E319, A319, D319, -, st319⟩ := newO X0 hx hZ hown (hw _ (List.mem_of_getElem? (i := 0) rfl)) (hw _ (List.mem_of_getElem? (i := 1) rfl)) (hw _ (List.mem_of_getElem? (i := 2) rfl)) e0 (g := (mkF m 30 #[.val (.long q1), .second, .val (.long q2), .second, .val (.long q3), .second, .val (.long q4), .second, .val (.int p5), .val (.long q3), .second, .val (.long q2), .second, .unset, .unset, .unset, .unset, .unset] [])) rfl (hb hby at_30) (by decide) (by decide)
      obtain ⟨b319, g319⟩ : ∃ z, z = h0.size := ⟨_, rfl⟩
      rw [← g319] at A319 D319 st319
      have M319 : h0.size ≤ h319.size := Nat.le_trans (Nat.le_refl _) E319.1
      have O319 := Old.ext O0 E319
      have sz_b319 : h0.size ≤ b319 := Nat.le_of_eq g319.symm
      have g_b319 : n0 ≤ b319 := Nat.le_trans (own_oz O0) (Nat.le_trans (Nat.le_refl _) sz_b319)
      have F319_10 : Fld Z h319 b319 "com/example/sablegrid/sablegrid/model/WriteOutcome" "found" "J" (.long (0 : Int64)) := D319 (Or.inr (hw _ (List.mem_of_getElem? (i := 10) rfl))) (ty := .long) (by decide)
      have F319_12 : Fld Z h319 b319 "com/example/sablegrid/sablegrid/model/WriteOutcome" "version" "J" (.long (0 : Int64)) := D319 (Or.inr (hw _ (List.mem_of_getElem? (i := 12) rfl))) (ty := .long) (by decide)
      obtain ⟨_, _, ⟨T320, L320, c320, n320⟩, -, X320, ⟨Lc320, hQ320, l320, y320, z320⟩, st320⟩ := X319.specialBack hx (y := (⟨"com/example/sablegrid/sablegrid/model/WriteOutcome", "<init>", "(JJ)V"⟩ : MethodName)) rfl hown (mvT hZ (hw _ (List.mem_of_getElem? (i := 3) rfl))) (mvT hZ (hw _ (List.mem_of_getElem? (i := 4) rfl))) (mvT hZ (hw _ (List.mem_of_getElem? (i := 5) rfl))) (by decide) (backOf (W := 1) (rm1 l Z a0 hw [] b319 q1 q2 h319 n0 O319 g_b319 A319 F319_10 F319_12) hZ (hw _ (List.mem_of_getElem? (i := 5) rfl)) (hw _ (List.mem_of_getElem? (i := 2) rfl)) (by decide) (by decide)) (g := (mkF m 36 #[.val (.long q1), .second, .val (.long q2), .second, .val (.long q3), .second, .val (.long q4), .second, .val (.int p5), .val (.long q3), .second, .val (.long q2), .second, .unset, .unset, .unset, .unset, .unset] [(.long q2), (.long q1), (.ref b319), (.ref b319)])) rfl (by rw [hml]; rfl) (Steps.refl _) (a := b319) (argsL := [(.long q1), (.long q2)]) (rest := [(.ref b319)]) (lenOf pd0 rfl) rfl (by show 2 * 0 + _ ≤ _; exact Nat.le_of_eq rfl) (hb hby at_36) (fun _ _ => ⟨rfl, e319, (by decide : 1 + 0 ≤ _), (by decide : 2 + 0 ≤ _)⟩)
      dsimp only [Pt.U, Pt.locs, Pt.cells, Pt.slots] at X320 l320 y320 z320 st320 hQ320
      subst l320 y320 z320
      have X320 : Stand p l e room_1 s m #[(.long q1), (.long q2), (.long q3), (.long q4), (.int p5)] below meth c T320 _ 1 2 := X320
      obtain ⟨rfl, Nq321, K322, f323, f324, f325⟩ := hQ320
      have N320 := Fr.app N0 Nq321
      have M320 : h0.size ≤ T320.heap.size := Nat.le_trans M319 K322.1
      have O320 := Old.keep O319 K322 (allS g_b319 all0)
      obtain ⟨T326, h326, X326, e326, E326, A326, D326, -, st326⟩ := newO X320 hx hZ hown (hw _ (List.mem_of_getElem? (i := 0) rfl)) (hw _ (List.mem_of_getElem? (i := 1) rfl)) (hw _ (List.mem_of_getElem? (i := 2) rfl)) rfl (g := (mkF m 41 #[.val (.long q1), .second, .val (.long q2), .second, .val (.long q3), .second, .val (.long q4), .second, .val (.int p5), .val (.long q3), .second, .val (.long q2), .second, .val (.ref b319), .unset, .unset, .unset, .unset] [])) rfl (hb hby at_41) (by decide) (by decide)
      obtain ⟨b326, g326⟩ : ∃ z, z = T320.heap.size := ⟨_, rfl⟩
      rw [← g326] at A326 D326 st326
      have M326 : h0.size ≤ h326.size := Nat.le_trans M320 E326.1
      have O326 := Old.ext O320 E326
      have sz_b326 : T320.heap.size ≤ b326 := Nat.le_of_eq g326.symm
      have g_b326 : n0 ≤ b326 := Nat.le_trans (own_oz O0) (Nat.le_trans M320 sz_b326)
      have F326_10 : Fld Z h326 b326 "com/example/sablegrid/sablegrid/model/WriteOutcome" "found" "J" (.long (0 : Int64)) := D326 (Or.inr (hw _ (List.mem_of_getElem? (i := 10) rfl))) (ty := .long) (by decide)
      have F326_12 : Fld Z h326 b326 "com/example/sablegrid/sablegrid/model/WriteOutcome" "version" "J" (.long (0 : Int64)) := D326 (Or.inr (hw _ (List.mem_of_getElem? (i := 12) rfl))) (ty := .long) (by decide)
      obtain ⟨_, _, ⟨T327, L327, c327, n327⟩, -, X327, ⟨Lc327, hQ327, l327, y327, z327⟩, st327⟩ := X326.specialBack hx (y := (⟨"com/example/sablegrid/sablegrid/model/WriteOutcome", "<init>", "(JJ)V"⟩ : MethodName)) rfl hown (mvT hZ (hw _ (List.mem_of_getElem? (i := 3) rfl))) (mvT hZ (hw _ (List.mem_of_getElem? (i := 4) rfl))) (mvT hZ (hw _ (List.mem_of_getElem? (i := 5) rfl))) (by decide) (backOf (W := 1) (rm1 l Z a0 hw [] b326 q3 q2 h326 n0 O326 g_b326 A326 F326_10 F326_12) hZ (hw _ (List.mem_of_getElem? (i := 5) rfl)) (hw _ (List.mem_of_getElem? (i := 2) rfl)) (by decide) (by decide)) (g := (mkF m 49 #[.val (.long q1), .second, .val (.long q2), .second, .val (.long q3), .second, .val (.long q4), .second, .val (.int p5), .val (.long q3), .second, .val (.long q2), .second, .val (.ref b319), .unset, .unset, .unset, .unset] [(.long q2), (.long q3), (.ref b326), (.ref b326)])) rfl (by rw [hml]; rfl) (Steps.refl _) (a := b326) (argsL := [(.long q3), (.long q2)]) (rest := [(.ref b326)]) (lenOf pd0 rfl) rfl (by show 2 * 0 + _ ≤ _; exact Nat.le_of_eq rfl) (hb hby at_49) (fun _ _ => ⟨rfl, e326, (by decide : 2 + 0 ≤ _), (by decide : 4 + 0 ≤ _)⟩)
      dsimp only [Pt.U, Pt.locs, Pt.cells, Pt.slots] at X327 l327 y327 z327 st327 hQ327
      subst l327 y327 z327
      have X327 : Stand p l e room_1 s m #[(.long q1), (.long q2), (.long q3), (.long q4), (.int p5)] below meth c T327 _ 2 4 := X327
      obtain ⟨rfl, Nq328, K329, f330, f331, f332⟩ := hQ327
      have N327 := Fr.app N320 Nq328
      have M327 : h0.size ≤ T327.heap.size := Nat.le_trans M326 K329.1
      have O327 := Old.keep O326 K329 (allS g_b326 all0)
      have pre333 : ∀ t, Steps p.tables e below (T327.setTop (mkF m 58 #[.val (.long q1), .second, .val (.long q2), .second, .val (.long q3), .second, .val (.long q4), .second, .val (.int p5), .val (.long q3), .second, .val (.long q2), .second, .val (.ref b319), .val (.ref b326), .unset, .unset, .unset] [(.int (lcmpW q1 q3))])) t → Steps p.tables e below (s₁.setTop (entryFrame m #[(.long q1), (.long q2), (.long q3), (.long q4), (.int p5)] maxLocals)) t := fun t k => by
        refine pre4 _ ?_
        show Steps p.tables e below (s₁.setTop (mkF m 19 #[.val (.long q1), .second, .val (.long q2), .second, .val (.long q3), .second, .val (.long q4), .second, .val (.int p5), .val (.long q3), .second, .unset, .unset, .unset, .unset, .unset, .unset, .unset] [(.int (p5 &&& (2 : Int32)))])) _
        refine XS.ifNo X0.here hx rfl (hb hby at_19) rfl ((if0 _ _).trans (feq hc5).1) ?_
        show Steps p.tables e below (s₁.setTop (mkF m 22 #[.val (.long q1), .second, .val (.long q2), .second, .val (.long q3), .second, .val (.long q4), .second, .val (.int p5), .val (.long q3), .second, .unset, .unset, .unset, .unset, .unset, .unset, .unset] [])) _
        refine XS.lloadN X0.here hx rfl (hb hby at_22) rfl ?_
        show Steps p.tables e below (s₁.setTop (mkF m 23 #[.val (.long q1), .second, .val (.long q2), .second, .val (.long q3), .second, .val (.long q4), .second, .val (.int p5), .val (.long q3), .second, .unset, .unset, .unset, .unset, .unset, .unset, .unset] [(.long q2)])) _
        refine XS.goto X0.here hx rfl (pc0 := 23) (pc' := 28) rfl (hb hby at_23) (by decide) (by decide) ?_
        show Steps p.tables e below (s₁.setTop (mkF m 28 #[.val (.long q1), .second, .val (.long q2), .second, .val (.long q3), .second, .val (.long q4), .second, .val (.int p5), .val (.long q3), .second, .unset, .unset, .unset, .unset, .unset, .unset, .unset] [(.long q2)])) _
        refine XS.lstore X0.here hx rfl (hb hby at_28) rfl (l' := #[.val (.long q1), .second, .val (.long q2), .second, .val (.long q3), .second, .val (.long q4), .second, .val (.int p5), .val (.long q3), .second, .val (.long q2), .second, .unset, .unset, .unset, .unset, .unset]) rfl ?_
        show Steps p.tables e below (s₁.setTop (mkF m 30 #[.val (.long q1), .second, .val (.long q2), .second, .val (.long q3), .second, .val (.long q4), .second, .val (.int p5), .val (.long q3), .second, .val (.long q2), .second, .unset, .unset, .unset, .unset, .unset] [])) _
        refine st319 _ ?_
        show Steps p.tables e below (T319.setTop (mkF m 33 #[.val (.long q1), .second, .val (.long q2), .second, .val (.long q3), .second, .val (.long q4), .second, .val (.int p5), .val (.long q3), .second, .val (.long q2), .second, .unset, .unset, .unset, .unset, .unset] [(.ref b319)])) _
        refine XS.dup X319.here hx rfl (hb hby at_33) rfl rfl ?_
        show Steps p.tables e below (T319.setTop (mkF m 34 #[.val (.long q1), .second, .val (.long q2), .second, .val (.long q3), .second, .val (.long q4), .second, .val (.int p5), .val (.long q3), .second, .val (.long q2), .second, .unset, .unset, .unset, .unset, .unset] [(.ref b319), (.ref b319)])) _
        refine XS.lloadN X319.here hx rfl (hb hby at_34) rfl ?_
        show Steps p.tables e below (T319.setTop (mkF m 35 #[.val (.long q1), .second, .val (.long q2), .second, .val (.long q3), .second, .val (.long q4), .second, .val (.int p5), .val (.long q3), .second, .val (.long q2), .second, .unset, .unset, .unset, .unset, .unset] [(.long q1), (.ref b319), (.ref b319)])) _
        refine XS.lloadN X319.here hx rfl (hb hby at_35) rfl ?_
        show Steps p.tables e below (T319.setTop (mkF m 36 #[.val (.long q1), .second, .val (.long q2), .second, .val (.long q3), .second, .val (.long q4), .second, .val (.int p5), .val (.long q3), .second, .val (.long q2), .second, .unset, .unset, .unset, .unset, .unset] [(.long q2), (.long q1), (.ref b319), (.ref b319)])) _
        refine st320.trans ?_
        show Steps p.tables e below (T320.setTop (mkF m 39 #[.val (.long q1), .second, .val (.long q2), .second, .val (.long q3), .second, .val (.long q4), .second, .val (.int p5), .val (.long q3), .second, .val (.long q2), .second, .unset, .unset, .unset, .unset, .unset] [(.ref b319)])) _
        refine XS.astore X320.here hx rfl (hb hby at_39) rfl rfl (l' := #[.val (.long q1), .second, .val (.long q2), .second, .val (.long q3), .second, .val (.long q4), .second, .val (.int p5), .val (.long q3), .second, .val (.long q2), .second, .val (.ref b319), .unset, .unset, .unset, .unset]) rfl ?_
        show Steps p.tables e below (T320.setTop (mkF m 41 #[.val (.long q1), .second, .val (.long q2), .second, .val (.long q3), .second, .val (.long q4), .second, .val (.int p5), .val (.long q3), .second, .val (.long q2), .second, .val (.ref b319), .unset, .unset, .unset, .unset] [])) _
        refine st326 _ ?_
        show Steps p.tables e below (T326.setTop (mkF m 44 #[.val (.long q1), .second, .val (.long q2), .second, .val (.long q3), .second, .val (.long q4), .second, .val (.int p5), .val (.long q3), .second, .val (.long q2), .second, .val (.ref b319), .unset, .unset, .unset, .unset] [(.ref b326)])) _
        refine XS.dup X326.here hx rfl (hb hby at_44) rfl rfl ?_
        show Steps p.tables e below (T326.setTop (mkF m 45 #[.val (.long q1), .second, .val (.long q2), .second, .val (.long q3), .second, .val (.long q4), .second, .val (.int p5), .val (.long q3), .second, .val (.long q2), .second, .val (.ref b319), .unset, .unset, .unset, .unset] [(.ref b326), (.ref b326)])) _
        refine XS.lload X326.here hx rfl (hb hby at_45) rfl ?_
        show Steps p.tables e below (T326.setTop (mkF m 47 #[.val (.long q1), .second, .val (.long q2), .second, .val (.long q3), .second, .val (.long q4), .second, .val (.int p5), .val (.long q3), .second, .val (.long q2), .second, .val (.ref b319), .unset, .unset, .unset, .unset] [(.long q3), (.ref b326), (.ref b326)])) _
        refine XS.lload X326.here hx rfl (hb hby at_47) rfl ?_
        show Steps p.tables e below (T326.setTop (mkF m 49 #[.val (.long q1), .second, .val (.long q2), .second, .val (.long q3), .second, .val (.long q4), .second, .val (.int p5), .val (.long q3), .second, .val (.long q2), .second, .val (.ref b319), .unset, .unset, .unset, .unset] [(.long q2), (.long q3), (.ref b326), (.ref b326)])) _
        refine st327.trans ?_
        show Steps p.tables e below (T327.setTop (mkF m 52 #[.val (.long q1), .second, .val (.long q2), .second, .val (.long q3), .second, .val (.long q4), .second, .val (.int p5), .val (.long q3), .second, .val (.long q2), .second, .val (.ref b319), .unset, .unset, .unset, .unset] [(.ref b326)])) _
        refine XS.astore X327.here hx rfl (hb hby at_52) rfl rfl (l' := #[.val (.long q1), .second, .val (.long q2), .second, .val (.long q3), .second, .val (.long q4), .second, .val (.int p5), .val (.long q3), .second, .val (.long q2), .second, .val (.ref b319), .val (.ref b326), .unset, .unset, .unset]) rfl ?_
        show Steps p.tables e below (T327.setTop (mkF m 54 #[.val (.long q1), .second, .val (.long q2), .second, .val (.long q3), .second, .val (.long q4), .second, .val (.int p5), .val (.long q3), .second, .val (.long q2), .second, .val (.ref b319), .val (.ref b326), .unset, .unset, .unset] [])) _
        refine XS.lloadN X327.here hx rfl (hb hby at_54) rfl ?_
        show Steps p.tables e below (T327.setTop (mkF m 55 #[.val (.long q1), .second, .val (.long q2), .second, .val (.long q3), .second, .val (.long q4), .second, .val (.int p5), .val (.long q3), .second, .val (.long q2), .second, .val (.ref b319), .val (.ref b326), .unset, .unset, .unset] [(.long q1)])) _
        refine XS.lload X327.here hx rfl (hb hby at_55) rfl ?_
        show Steps p.tables e below (T327.setTop (mkF m 57 #[.val (.long q1), .second, .val (.long q2), .second, .val (.long q3), .second, .val (.long q4), .second, .val (.int p5), .val (.long q3), .second, .val (.long q2), .second, .val (.ref b319), .val (.ref b326), .unset, .unset, .unset] [(.long q3), (.long q1)])) _
        refine XS.lcmp X327.here hx rfl (hb hby at_57) rfl ?_
        exact k
      by_cases hc334 : q1 = q3
      ·
        have pre335 : ∀ t, Steps p.tables e below (T327.setTop (mkF m 85 #[.val (.long q1), .second, .val (.long q2), .second, .val (.long q3), .second, .val (.long q4), .second, .val (.int p5), .val (.long q3), .second, .val (.long q2), .second, .val (.ref b319), .val (.ref b326), .val (.int (1 : Int32)), .val (.int (((p5.toUInt32 >>> ((2 : Int32) &&& 31).toUInt32).toInt32) &&& (3 : Int32))), .unset] [(.int (((p5.toUInt32 >>> ((2 : Int32) &&& 31).toUInt32).toInt32) &&& (3 : Int32)))])) t → Steps p.tables e below (s₁.setTop (entryFrame m #[(.long q1), (.long q2), (.long q3), (.long q4), (.int p5)] maxLocals)) t := fun t k => by
          refine pre333 _ ?_
          show Steps p.tables e below (T327.setTop (mkF m 58 #[.val (.long q1), .second, .val (.long q2), .second, .val (.long q3), .second, .val (.long q4), .second, .val (.int p5), .val (.long q3), .second, .val (.long q2), .second, .val (.ref b319), .val (.ref b326), .unset, .unset, .unset] [(.int (lcmpW q1 q3))])) _
          refine XS.ifNo X327.here hx rfl (hb hby at_58) rfl ((if0 _ _).trans (teq ((lw_eq _ _).mpr hc334)).2) ?_
          show Steps p.tables e below (T327.setTop (mkF m 61 #[.val (.long q1), .second, .val (.long q2), .second, .val (.long q3), .second, .val (.long q4), .second, .val (.int p5), .val (.long q3), .second, .val (.long q2), .second, .val (.ref b319), .val (.ref b326), .unset, .unset, .unset] [])) _
          refine XS.lloadN X327.here hx rfl (hb hby at_61) rfl ?_
          show Steps p.tables e below (T327.setTop (mkF m 62 #[.val (.long q1), .second, .val (.long q2), .second, .val (.long q3), .second, .val (.long q4), .second, .val (.int p5), .val (.long q3), .second, .val (.long q2), .second, .val (.ref b319), .val (.ref b326), .unset, .unset, .unset] [(.long q2)])) _
          refine XS.lload X327.here hx rfl (hb hby at_62) rfl ?_
          show Steps p.tables e below (T327.setTop (mkF m 64 #[.val (.long q1), .second, .val (.long q2), .second, .val (.long q3), .second, .val (.long q4), .second, .val (.int p5), .val (.long q3), .second, .val (.long q2), .second, .val (.ref b319), .val (.ref b326), .unset, .unset, .unset] [(.long q2), (.long q2)])) _
          refine XS.lcmp X327.here hx rfl (hb hby at_64) rfl ?_
          show Steps p.tables e below (T327.setTop (mkF m 65 #[.val (.long q1), .second, .val (.long q2), .second, .val (.long q3), .second, .val (.long q4), .second, .val (.int p5), .val (.long q3), .second, .val (.long q2), .second, .val (.ref b319), .val (.ref b326), .unset, .unset, .unset] [(.int (lcmpW q2 q2))])) _
          refine XS.ifNo X327.here hx rfl (hb hby at_65) rfl ((if0 _ _).trans (teq ((lw_eq _ _).mpr (rfl : q2 = q2))).2) ?_
          show Steps p.tables e below (T327.setTop (mkF m 68 #[.val (.long q1), .second, .val (.long q2), .second, .val (.long q3), .second, .val (.long q4), .second, .val (.int p5), .val (.long q3), .second, .val (.long q2), .second, .val (.ref b319), .val (.ref b326), .unset, .unset, .unset] [])) _
          refine XS.iconst X327.here hx rfl (hb hby at_68) ?_
          show Steps p.tables e below (T327.setTop (mkF m 69 #[.val (.long q1), .second, .val (.long q2), .second, .val (.long q3), .second, .val (.long q4), .second, .val (.int p5), .val (.long q3), .second, .val (.long q2), .second, .val (.ref b319), .val (.ref b326), .unset, .unset, .unset] [(.int (1 : Int32))])) _
          refine XS.goto X327.here hx rfl (pc0 := 69) (pc' := 73) rfl (hb hby at_69) (by decide) (by decide) ?_
          show Steps p.tables e below (T327.setTop (mkF m 73 #[.val (.long q1), .second, .val (.long q2), .second, .val (.long q3), .second, .val (.long q4), .second, .val (.int p5), .val (.long q3), .second, .val (.long q2), .second, .val (.ref b319), .val (.ref b326), .unset, .unset, .unset] [(.int (1 : Int32))])) _
          refine XS.istore X327.here hx rfl (hb hby at_73) rfl (l' := #[.val (.long q1), .second, .val (.long q2), .second, .val (.long q3), .second, .val (.long q4), .second, .val (.int p5), .val (.long q3), .second, .val (.long q2), .second, .val (.ref b319), .val (.ref b326), .val (.int (1 : Int32)), .unset, .unset]) rfl ?_
          show Steps p.tables e below (T327.setTop (mkF m 75 #[.val (.long q1), .second, .val (.long q2), .second, .val (.long q3), .second, .val (.long q4), .second, .val (.int p5), .val (.long q3), .second, .val (.long q2), .second, .val (.ref b319), .val (.ref b326), .val (.int (1 : Int32)), .unset, .unset] [])) _
          refine XS.iload X327.here hx rfl (hb hby at_75) rfl ?_
          show Steps p.tables e below (T327.setTop (mkF m 77 #[.val (.long q1), .second, .val (.long q2), .second, .val (.long q3), .second, .val (.long q4), .second, .val (.int p5), .val (.long q3), .second, .val (.long q2), .second, .val (.ref b319), .val (.ref b326), .val (.int (1 : Int32)), .unset, .unset] [(.int p5)])) _
          refine XS.iconst X327.here hx rfl (hb hby at_77) ?_
          show Steps p.tables e below (T327.setTop (mkF m 78 #[.val (.long q1), .second, .val (.long q2), .second, .val (.long q3), .second, .val (.long q4), .second, .val (.int p5), .val (.long q3), .second, .val (.long q2), .second, .val (.ref b319), .val (.ref b326), .val (.int (1 : Int32)), .unset, .unset] [(.int (2 : Int32)), (.int p5)])) _
          refine XS.iushr X327.here hx rfl (hb hby at_78) rfl ?_
          show Steps p.tables e below (T327.setTop (mkF m 79 #[.val (.long q1), .second, .val (.long q2), .second, .val (.long q3), .second, .val (.long q4), .second, .val (.int p5), .val (.long q3), .second, .val (.long q2), .second, .val (.ref b319), .val (.ref b326), .val (.int (1 : Int32)), .unset, .unset] [(.int ((p5.toUInt32 >>> ((2 : Int32) &&& 31).toUInt32).toInt32))])) _
          refine XS.iconst X327.here hx rfl (hb hby at_79) ?_
          show Steps p.tables e below (T327.setTop (mkF m 80 #[.val (.long q1), .second, .val (.long q2), .second, .val (.long q3), .second, .val (.long q4), .second, .val (.int p5), .val (.long q3), .second, .val (.long q2), .second, .val (.ref b319), .val (.ref b326), .val (.int (1 : Int32)), .unset, .unset] [(.int (3 : Int32)), (.int ((p5.toUInt32 >>> ((2 : Int32) &&& 31).toUInt32).toInt32))])) _
          refine XS.iand X327.here hx rfl (hb hby at_80) rfl ?_
          show Steps p.tables e below (T327.setTop (mkF m 81 #[.val (.long q1), .second, .val (.long q2), .second, .val (.long q3), .second, .val (.long q4), .second, .val (.int p5), .val (.long q3), .second, .val (.long q2), .second, .val (.ref b319), .val (.ref b326), .val (.int (1 : Int32)), .unset, .unset] [(.int (((p5.toUInt32 >>> ((2 : Int32) &&& 31).toUInt32).toInt32) &&& (3 : Int32)))])) _
          refine XS.istore X327.here hx rfl (hb hby at_81) rfl (l' := #[.val (.long q1), .second, .val (.long q2), .second, .val (.long q3), .second, .val (.long q4), .second, .val (.int p5), .val (.long q3), .second, .val (.long q2), .second, .val (.ref b319), .val (.ref b326), .val (.int (1 : Int32)), .val (.int (((p5.toUInt32 >>> ((2 : Int32) &&& 31).toUInt32).toInt32) &&& (3 : Int32))), .unset]) rfl ?_
          show Steps p.tables e below (T327.setTop (mkF m 83 #[.val (.long q1), .second, .val (.long q2), .second, .val (.long q3), .second, .val (.long q4), .second, .val (.int p5), .val (.long q3), .second, .val (.long q2), .second, .val (.ref b319), .val (.ref b326), .val (.int (1 : Int32)), .val (.int (((p5.toUInt32 >>> ((2 : Int32) &&& 31).toUInt32).toInt32) &&& (3 : Int32))), .unset] [])) _
          refine XS.iload X327.here hx rfl (hb hby at_83) rfl ?_
          exact k
        by_cases hc336 : (((p5.toUInt32 >>> ((2 : Int32) &&& 31).toUInt32).toInt32) &&& (3 : Int32)) = (0 : Int32)
        ·
          have pre337 : ∀ t, Steps p.tables e below (T327.setTop (mkF m 85 #[.val (.long q1), .second, .val (.long q2), .second, .val (.long q3), .second, .val (.long q4), .second, .val (.int p5), .val (.long q3), .second, .val (.long q2), .second, .val (.ref b319), .val (.ref b326), .val (.int (1 : Int32)), .val (.int (0 : Int32)), .unset] [(.int (0 : Int32))])) t → Steps p.tables e below (s₁.setTop (entryFrame m #[(.long q1), (.long q2), (.long q3), (.long q4), (.int p5)] maxLocals)) t := fun t k => pre335 t (by rw [hc336]; exact k)
          have lt338 : b319 < T320.heap.size := (Nat.lt_of_lt_of_le A319.lt K322.1)
          have ne339 : b319 ≠ b326 := Nat.ne_of_lt (Nat.lt_of_lt_of_le lt338 sz_b326)
          have f340 := ((f324.ext E326).keep K329 (ninS ne339 nin0))
          have f341 := ((f325.ext E326).keep K329 (ninS ne339 nin0))
          have f343 := ((f323.ext E326).keep K329)
          obtain ⟨cq342, kq342, q342a, q342b, q342c⟩ := isOf hZ rfl f343
          obtain ⟨_, _, ⟨T344, L344, c344, n344⟩, -, X344, ⟨Lc344, hQ344, l344, y344, z344⟩, st344⟩ := X327.virtualBack hx (y := (⟨"com/example/sablegrid/sablegrid/model/WriteOutcome", "equals", "(Ljava/lang/Object;)Z"⟩ : MethodName)) (z := (⟨"com/example/sablegrid/sablegrid/model/WriteOutcome", "equals", "(Ljava/lang/Object;)Z"⟩ : MethodName)) hown (mvT hZ (hw _ (List.mem_of_getElem? (i := 13) rfl))) (mvT hZ (hw _ (List.mem_of_getElem? (i := 14) rfl))) (notFace_of_selects (args := #[]) (mvT hZ (hw _ (List.mem_of_getElem? (i := 16) rfl)))) (mvT hZ (hw _ (List.mem_of_getElem? (i := 16) rfl))) (mvT hZ (hw _ (List.mem_of_getElem? (i := 15) rfl))) (by decide) (backOf (W := 0) (rm2 l Z a0 hw [] b319 b326 q1 q2 q3 q2 T327.heap n0 O327 g_b319 g_b326 f340 f341 f330 f331 f332) hZ (hw _ (List.mem_of_getElem? (i := 17) rfl)) (hw _ (List.mem_of_getElem? (i := 2) rfl)) (by decide) (by decide)) q342a q342c (g := (mkF m 92 #[.val (.long q1), .second, .val (.long q2), .second, .val (.long q3), .second, .val (.long q4), .second, .val (.int p5), .val (.long q3), .second, .val (.long q2), .second, .val (.ref b319), .val (.ref b326), .val (.int (1 : Int32)), .val (.int (0 : Int32)), .unset] [(.ref b326), (.ref b319)])) rfl (by rw [hml]; rfl) (Steps.refl _) (argsL := [(.ref b326)]) (rest := []) (lenOf pd1 rfl) rfl (by show 2 * 0 + _ ≤ _; exact Nat.le_of_eq rfl) (hb hby at_92) (fun _ _ => ⟨rfl, rfl, (by decide : 2 + 0 ≤ _), (by decide : 4 + 0 ≤ _)⟩)
          dsimp only [Pt.U, Pt.locs, Pt.cells, Pt.slots] at X344 l344 y344 z344 st344 hQ344
          subst l344 y344 z344
          have pre345 : ∀ t, Steps p.tables e below (T327.setTop (mkF m 92 #[.val (.long q1), .second, .val (.long q2), .second, .val (.long q3), .second, .val (.long q4), .second, .val (.int p5), .val (.long q3), .second, .val (.long q2), .second, .val (.ref b319), .val (.ref b326), .val (.int (1 : Int32)), .val (.int (0 : Int32)), .unset] [(.ref b326), (.ref b319)])) t → Steps p.tables e below (s₁.setTop (entryFrame m #[(.long q1), (.long q2), (.long q3), (.long q4), (.int p5)] maxLocals)) t := fun t k => by
            refine pre337 _ ?_
            show Steps p.tables e below (T327.setTop (mkF m 85 #[.val (.long q1), .second, .val (.long q2), .second, .val (.long q3), .second, .val (.long q4), .second, .val (.int p5), .val (.long q3), .second, .val (.long q2), .second, .val (.ref b319), .val (.ref b326), .val (.int (1 : Int32)), .val (.int (0 : Int32)), .unset] [(.int (0 : Int32))])) _
            refine XS.ifNo X327.here hx rfl (hb hby at_85) rfl ((if0 _ _).trans (teq (by decide : (0 : Int32) = (0 : Int32))).2) ?_
            show Steps p.tables e below (T327.setTop (mkF m 88 #[.val (.long q1), .second, .val (.long q2), .second, .val (.long q3), .second, .val (.long q4), .second, .val (.int p5), .val (.long q3), .second, .val (.long q2), .second, .val (.ref b319), .val (.ref b326), .val (.int (1 : Int32)), .val (.int (0 : Int32)), .unset] [])) _
            refine XS.aload X327.here hx rfl (hb hby at_88) rfl rfl ?_
            show Steps p.tables e below (T327.setTop (mkF m 90 #[.val (.long q1), .second, .val (.long q2), .second, .val (.long q3), .second, .val (.long q4), .second, .val (.int p5), .val (.long q3), .second, .val (.long q2), .second, .val (.ref b319), .val (.ref b326), .val (.int (1 : Int32)), .val (.int (0 : Int32)), .unset] [(.ref b319)])) _
            refine XS.aload X327.here hx rfl (hb hby at_90) rfl rfl ?_
            exact k
          have X344 : Stand p l e room_1 s m #[(.long q1), (.long q2), (.long q3), (.long q4), (.int p5)] below meth c T344 _ 2 4 := X344
          rcases hQ344 with ⟨hc346, hc347, rfl, Nq348, e349⟩ | ⟨hc350, hc351, rfl, Nq352, e353⟩ | ⟨hc354, rfl, Nq355, e356⟩
          ·
            have N344 := Fr.app N327 Nq348
            obtain ⟨cq357, kq357, q357a, q357b, q357c⟩ := isOf hZ e349 f330
            obtain ⟨_, _, ⟨T358, L358, c358, n358⟩, -, X358, ⟨Lc358, hQ358, l358, y358, z358⟩, st358⟩ := X344.virtualBack hx (y := (⟨"com/example/sablegrid/sablegrid/model/WriteOutcome", "equals", "(Ljava/lang/Object;)Z"⟩ : MethodName)) (z := (⟨"com/example/sablegrid/sablegrid/model/WriteOutcome", "equals", "(Ljava/lang/Object;)Z"⟩ : MethodName)) hown (mvT hZ (hw _ (List.mem_of_getElem? (i := 13) rfl))) (mvT hZ (hw _ (List.mem_of_getElem? (i := 14) rfl))) (notFace_of_selects (args := #[]) (mvT hZ (hw _ (List.mem_of_getElem? (i := 16) rfl)))) (mvT hZ (hw _ (List.mem_of_getElem? (i := 16) rfl))) (mvT hZ (hw _ (List.mem_of_getElem? (i := 15) rfl))) (by decide) (backOf (W := 0) (rm2 l Z a0 hw [] b326 b319 q3 q2 q1 q2 T327.heap n0 O327 g_b326 g_b319 f331 f332 f343 f340 f341) hZ (hw _ (List.mem_of_getElem? (i := 17) rfl)) (hw _ (List.mem_of_getElem? (i := 2) rfl)) (by decide) (by decide)) q357a q357c (g := (mkF m 104 #[.val (.long q1), .second, .val (.long q2), .second, .val (.long q3), .second, .val (.long q4), .second, .val (.int p5), .val (.long q3), .second, .val (.long q2), .second, .val (.ref b319), .val (.ref b326), .val (.int (1 : Int32)), .val (.int (0 : Int32)), .unset] [(.ref b319), (.ref b326)])) rfl (by rw [hml]; rfl) (Steps.refl _) (argsL := [(.ref b319)]) (rest := []) (lenOf pd1 rfl) rfl (by show 2 * 0 + _ ≤ _; exact Nat.le_of_eq rfl) (hb hby at_104) (fun _ _ => ⟨rfl, e349, (by decide : 2 + 0 ≤ _), (by decide : 4 + 0 ≤ _)⟩)
            dsimp only [Pt.U, Pt.locs, Pt.cells, Pt.slots] at X358 l358 y358 z358 st358 hQ358
            subst l358 y358 z358
            have pre359 : ∀ t, Steps p.tables e below (T344.setTop (mkF m 104 #[.val (.long q1), .second, .val (.long q2), .second, .val (.long q3), .second, .val (.long q4), .second, .val (.int p5), .val (.long q3), .second, .val (.long q2), .second, .val (.ref b319), .val (.ref b326), .val (.int (1 : Int32)), .val (.int (0 : Int32)), .unset] [(.ref b319), (.ref b326)])) t → Steps p.tables e below (s₁.setTop (entryFrame m #[(.long q1), (.long q2), (.long q3), (.long q4), (.int p5)] maxLocals)) t := fun t k => by
              refine pre345 _ ?_
              show Steps p.tables e below (T327.setTop (mkF m 92 #[.val (.long q1), .second, .val (.long q2), .second, .val (.long q3), .second, .val (.long q4), .second, .val (.int p5), .val (.long q3), .second, .val (.long q2), .second, .val (.ref b319), .val (.ref b326), .val (.int (1 : Int32)), .val (.int (0 : Int32)), .unset] [(.ref b326), (.ref b319)])) _
              refine st344.trans ?_
              show Steps p.tables e below (T344.setTop (mkF m 95 #[.val (.long q1), .second, .val (.long q2), .second, .val (.long q3), .second, .val (.long q4), .second, .val (.int p5), .val (.long q3), .second, .val (.long q2), .second, .val (.ref b319), .val (.ref b326), .val (.int (1 : Int32)), .val (.int (0 : Int32)), .unset] [(.int (1 : Int32))])) _
              refine XS.iload X344.here hx rfl (hb hby at_95) rfl ?_
              show Steps p.tables e below (T344.setTop (mkF m 97 #[.val (.long q1), .second, .val (.long q2), .second, .val (.long q3), .second, .val (.long q4), .second, .val (.int p5), .val (.long q3), .second, .val (.long q2), .second, .val (.ref b319), .val (.ref b326), .val (.int (1 : Int32)), .val (.int (0 : Int32)), .unset] [(.int (1 : Int32)), (.int (1 : Int32))])) _
              refine XS.icmpNo X344.here hx rfl (hb hby at_97) rfl (teq (by decide : (1 : Int32) = (1 : Int32))).2 ?_
              show Steps p.tables e below (T344.setTop (mkF m 100 #[.val (.long q1), .second, .val (.long q2), .second, .val (.long q3), .second, .val (.long q4), .second, .val (.int p5), .val (.long q3), .second, .val (.long q2), .second, .val (.ref b319), .val (.ref b326), .val (.int (1 : Int32)), .val (.int (0 : Int32)), .unset] [])) _
              refine XS.aload X344.here hx rfl (hb hby at_100) rfl rfl ?_
              show Steps p.tables e below (T344.setTop (mkF m 102 #[.val (.long q1), .second, .val (.long q2), .second, .val (.long q3), .second, .val (.long q4), .second, .val (.int p5), .val (.long q3), .second, .val (.long q2), .second, .val (.ref b319), .val (.ref b326), .val (.int (1 : Int32)), .val (.int (0 : Int32)), .unset] [(.ref b326)])) _
              refine XS.aload X344.here hx rfl (hb hby at_102) rfl rfl ?_
              exact k
            have X358 : Stand p l e room_1 s m #[(.long q1), (.long q2), (.long q3), (.long q4), (.int p5)] below meth c T358 _ 2 4 := X358
            rcases hQ358 with ⟨hc360, hc361, rfl, Nq362, e363⟩ | ⟨hc364, hc365, rfl, Nq366, e367⟩ | ⟨hc368, rfl, Nq369, e370⟩
            ·
              have N358 := Fr.app N344 Nq362
              obtain ⟨fs, hr, hrun, hended, hW, hsame⟩ := X358.leave (v := some (.int (1 : Int32))) (fun h => by rw [hret] at h; cases h)
              refine ⟨_, _, pre359 _ ?_, hrun, hended, _, _, rfl, ?_, ⟨_, rfl⟩, hW, hsame.mono (by decide) (by decide)⟩
              ·
                show Steps p.tables e below (T344.setTop (mkF m 104 #[.val (.long q1), .second, .val (.long q2), .second, .val (.long q3), .second, .val (.long q4), .second, .val (.int p5), .val (.long q3), .second, .val (.long q2), .second, .val (.ref b319), .val (.ref b326), .val (.int (1 : Int32)), .val (.int (0 : Int32)), .unset] [(.ref b319), (.ref b326)])) _
                refine st358.trans ?_
                show Steps p.tables e below (T358.setTop (mkF m 107 #[.val (.long q1), .second, .val (.long q2), .second, .val (.long q3), .second, .val (.long q4), .second, .val (.int p5), .val (.long q3), .second, .val (.long q2), .second, .val (.ref b319), .val (.ref b326), .val (.int (1 : Int32)), .val (.int (0 : Int32)), .unset] [(.int (1 : Int32))])) _
                refine XS.iload X358.here hx rfl (hb hby at_107) rfl ?_
                show Steps p.tables e below (T358.setTop (mkF m 109 #[.val (.long q1), .second, .val (.long q2), .second, .val (.long q3), .second, .val (.long q4), .second, .val (.int p5), .val (.long q3), .second, .val (.long q2), .second, .val (.ref b319), .val (.ref b326), .val (.int (1 : Int32)), .val (.int (0 : Int32)), .unset] [(.int (1 : Int32)), (.int (1 : Int32))])) _
                refine XS.icmpNo X358.here hx rfl (hb hby at_109) rfl (teq (by decide : (1 : Int32) = (1 : Int32))).2 ?_
                show Steps p.tables e below (T358.setTop (mkF m 112 #[.val (.long q1), .second, .val (.long q2), .second, .val (.long q3), .second, .val (.long q4), .second, .val (.int p5), .val (.long q3), .second, .val (.long q2), .second, .val (.ref b319), .val (.ref b326), .val (.int (1 : Int32)), .val (.int (0 : Int32)), .unset] [])) _
                refine XS.iconst X358.here hx rfl (hb hby at_112) ?_
                show Steps p.tables e below (T358.setTop (mkF m 113 #[.val (.long q1), .second, .val (.long q2), .second, .val (.long q3), .second, .val (.long q4), .second, .val (.int p5), .val (.long q3), .second, .val (.long q2), .second, .val (.ref b319), .val (.ref b326), .val (.int (1 : Int32)), .val (.int (0 : Int32)), .unset] [(.int (1 : Int32))])) _
                refine XS.goto X358.here hx rfl (pc0 := 113) (pc' := 117) rfl (hb hby at_113) (by decide) (by decide) ?_
                show Steps p.tables e below (T358.setTop (mkF m 117 #[.val (.long q1), .second, .val (.long q2), .second, .val (.long q3), .second, .val (.long q4), .second, .val (.int p5), .val (.long q3), .second, .val (.long q2), .second, .val (.ref b319), .val (.ref b326), .val (.int (1 : Int32)), .val (.int (0 : Int32)), .unset] [(.int (1 : Int32))])) _
                exact retN X358 hx (t := .boolean) hret (by simp) (hb hby at_117) hr
              ·
                show Q0 n0 _ T358.heap _
                rw [e363]
                exact ⟨rfl, N358⟩
            ·
              exact absurd (rfl : q2 = q2) hc365
            ·
              exact absurd (hc334).symm hc368
          ·
            exact absurd (rfl : q2 = q2) hc351
          ·
            exact absurd hc334 hc354
        ·
          have pre371 : ∀ t, Steps p.tables e below (T327.setTop (mkF m 121 #[.val (.long q1), .second, .val (.long q2), .second, .val (.long q3), .second, .val (.long q4), .second, .val (.int p5), .val (.long q3), .second, .val (.long q2), .second, .val (.ref b319), .val (.ref b326), .val (.int (1 : Int32)), .val (.int (((p5.toUInt32 >>> ((2 : Int32) &&& 31).toUInt32).toInt32) &&& (3 : Int32))), .unset] [(.int (1 : Int32)), (.int (((p5.toUInt32 >>> ((2 : Int32) &&& 31).toUInt32).toInt32) &&& (3 : Int32)))])) t → Steps p.tables e below (s₁.setTop (entryFrame m #[(.long q1), (.long q2), (.long q3), (.long q4), (.int p5)] maxLocals)) t := fun t k => by
            refine pre335 _ ?_
            show Steps p.tables e below (T327.setTop (mkF m 85 #[.val (.long q1), .second, .val (.long q2), .second, .val (.long q3), .second, .val (.long q4), .second, .val (.int p5), .val (.long q3), .second, .val (.long q2), .second, .val (.ref b319), .val (.ref b326), .val (.int (1 : Int32)), .val (.int (((p5.toUInt32 >>> ((2 : Int32) &&& 31).toUInt32).toInt32) &&& (3 : Int32))), .unset] [(.int (((p5.toUInt32 >>> ((2 : Int32) &&& 31).toUInt32).toInt32) &&& (3 : Int32)))])) _
            refine XS.ifYes X327.here hx rfl (pc0 := 85) (pc' := 118) rfl (hb hby at_85) rfl ((if0 _ _).trans (feq hc336).2) (by decide) (by decide) ?_
            show Steps p.tables e below (T327.setTop (mkF m 118 #[.val (.long q1), .second, .val (.long q2), .second, .val (.long q3), .second, .val (.long q4), .second, .val (.int p5), .val (.long q3), .second, .val (.long q2), .second, .val (.ref b319), .val (.ref b326), .val (.int (1 : Int32)), .val (.int (((p5.toUInt32 >>> ((2 : Int32) &&& 31).toUInt32).toInt32) &&& (3 : Int32))), .unset] [])) _
            refine XS.iload X327.here hx rfl (hb hby at_118) rfl ?_
            show Steps p.tables e below (T327.setTop (mkF m 120 #[.val (.long q1), .second, .val (.long q2), .second, .val (.long q3), .second, .val (.long q4), .second, .val (.int p5), .val (.long q3), .second, .val (.long q2), .second, .val (.ref b319), .val (.ref b326), .val (.int (1 : Int32)), .val (.int (((p5.toUInt32 >>> ((2 : Int32) &&& 31).toUInt32).toInt32) &&& (3 : Int32))), .unset] [(.int (((p5.toUInt32 >>> ((2 : Int32) &&& 31).toUInt32).toInt32) &&& (3 : Int32)))])) _
            refine XS.iconst X327.here hx rfl (hb hby at_120) ?_
            exact k
          by_cases hc372 : (((p5.toUInt32 >>> ((2 : Int32) &&& 31).toUInt32).toInt32) &&& (3 : Int32)) = (1 : Int32)
          ·
            have pre373 : ∀ t, Steps p.tables e below (T327.setTop (mkF m 121 #[.val (.long q1), .second, .val (.long q2), .second, .val (.long q3), .second, .val (.long q4), .second, .val (.int p5), .val (.long q3), .second, .val (.long q2), .second, .val (.ref b319), .val (.ref b326), .val (.int (1 : Int32)), .val (.int (1 : Int32)), .unset] [(.int (1 : Int32)), (.int (1 : Int32))])) t → Steps p.tables e below (s₁.setTop (entryFrame m #[(.long q1), (.long q2), (.long q3), (.long q4), (.int p5)] maxLocals)) t := fun t k => pre371 t (by rw [hc372]; exact k)
            have f375 := ((f323.ext E326).keep K329)
            obtain ⟨cq374, kq374, q374a, q374b, q374c⟩ := isOf hZ rfl f375
            obtain ⟨_, _, ⟨T376, L376, c376, n376⟩, -, X376, ⟨Lc376, hQ376, l376, y376, z376⟩, st376⟩ := X327.virtualBack hx (y := (⟨"com/example/sablegrid/sablegrid/model/WriteOutcome", "equals", "(Ljava/lang/Object;)Z"⟩ : MethodName)) (z := (⟨"com/example/sablegrid/sablegrid/model/WriteOutcome", "equals", "(Ljava/lang/Object;)Z"⟩ : MethodName)) hown (mvT hZ (hw _ (List.mem_of_getElem? (i := 13) rfl))) (mvT hZ (hw _ (List.mem_of_getElem? (i := 14) rfl))) (notFace_of_selects (args := #[]) (mvT hZ (hw _ (List.mem_of_getElem? (i := 16) rfl)))) (mvT hZ (hw _ (List.mem_of_getElem? (i := 16) rfl))) (mvT hZ (hw _ (List.mem_of_getElem? (i := 15) rfl))) (by decide) (backOf (W := 0) (rm3 l Z a0 hw [] b319 T327.heap n0 O327 g_b319) hZ (hw _ (List.mem_of_getElem? (i := 17) rfl)) (hw _ (List.mem_of_getElem? (i := 2) rfl)) (by decide) (by decide)) q374a q374c (g := (mkF m 127 #[.val (.long q1), .second, .val (.long q2), .second, .val (.long q3), .second, .val (.long q4), .second, .val (.int p5), .val (.long q3), .second, .val (.long q2), .second, .val (.ref b319), .val (.ref b326), .val (.int (1 : Int32)), .val (.int (1 : Int32)), .unset] [.null, (.ref b319)])) rfl (by rw [hml]; rfl) (Steps.refl _) (argsL := [.null]) (rest := []) (lenOf pd1 rfl) rfl (by show 2 * 0 + _ ≤ _; exact Nat.le_of_eq rfl) (hb hby at_127) (fun _ _ => ⟨rfl, rfl, (by decide : 2 + 0 ≤ _), (by decide : 4 + 0 ≤ _)⟩)
            dsimp only [Pt.U, Pt.locs, Pt.cells, Pt.slots] at X376 l376 y376 z376 st376 hQ376
            subst l376 y376 z376
            have X376 : Stand p l e room_1 s m #[(.long q1), (.long q2), (.long q3), (.long q4), (.int p5)] below meth c T376 _ 2 4 := X376
            obtain ⟨rfl, Nq377, e378⟩ := hQ376
            have N376 := Fr.app N327 Nq377
            obtain ⟨fs, hr, hrun, hended, hW, hsame⟩ := X376.leave (v := some (.int (1 : Int32))) (fun h => by rw [hret] at h; cases h)
            refine ⟨_, _, pre373 _ ?_, hrun, hended, _, _, rfl, ?_, ⟨_, rfl⟩, hW, hsame.mono (by decide) (by decide)⟩
            ·
              show Steps p.tables e below (T327.setTop (mkF m 121 #[.val (.long q1), .second, .val (.long q2), .second, .val (.long q3), .second, .val (.long q4), .second, .val (.int p5), .val (.long q3), .second, .val (.long q2), .second, .val (.ref b319), .val (.ref b326), .val (.int (1 : Int32)), .val (.int (1 : Int32)), .unset] [(.int (1 : Int32)), (.int (1 : Int32))])) _
              refine XS.icmpNo X327.here hx rfl (hb hby at_121) rfl (teq (by decide : (1 : Int32) = (1 : Int32))).2 ?_
              show Steps p.tables e below (T327.setTop (mkF m 124 #[.val (.long q1), .second, .val (.long q2), .second, .val (.long q3), .second, .val (.long q4), .second, .val (.int p5), .val (.long q3), .second, .val (.long q2), .second, .val (.ref b319), .val (.ref b326), .val (.int (1 : Int32)), .val (.int (1 : Int32)), .unset] [])) _
              refine XS.aload X327.here hx rfl (hb hby at_124) rfl rfl ?_
              show Steps p.tables e below (T327.setTop (mkF m 126 #[.val (.long q1), .second, .val (.long q2), .second, .val (.long q3), .second, .val (.long q4), .second, .val (.int p5), .val (.long q3), .second, .val (.long q2), .second, .val (.ref b319), .val (.ref b326), .val (.int (1 : Int32)), .val (.int (1 : Int32)), .unset] [(.ref b319)])) _
              refine XS.aconstNull X327.here hx rfl (hb hby at_126) ?_
              show Steps p.tables e below (T327.setTop (mkF m 127 #[.val (.long q1), .second, .val (.long q2), .second, .val (.long q3), .second, .val (.long q4), .second, .val (.int p5), .val (.long q3), .second, .val (.long q2), .second, .val (.ref b319), .val (.ref b326), .val (.int (1 : Int32)), .val (.int (1 : Int32)), .unset] [.null, (.ref b319)])) _
              refine st376.trans ?_
              show Steps p.tables e below (T376.setTop (mkF m 130 #[.val (.long q1), .second, .val (.long q2), .second, .val (.long q3), .second, .val (.long q4), .second, .val (.int p5), .val (.long q3), .second, .val (.long q2), .second, .val (.ref b319), .val (.ref b326), .val (.int (1 : Int32)), .val (.int (1 : Int32)), .unset] [(.int (0 : Int32))])) _
              refine XS.ifNo X376.here hx rfl (hb hby at_130) rfl ((if0 _ _).trans (teq (by decide : (0 : Int32) = (0 : Int32))).2) ?_
              show Steps p.tables e below (T376.setTop (mkF m 133 #[.val (.long q1), .second, .val (.long q2), .second, .val (.long q3), .second, .val (.long q4), .second, .val (.int p5), .val (.long q3), .second, .val (.long q2), .second, .val (.ref b319), .val (.ref b326), .val (.int (1 : Int32)), .val (.int (1 : Int32)), .unset] [])) _
              refine XS.iconst X376.here hx rfl (hb hby at_133) ?_
              show Steps p.tables e below (T376.setTop (mkF m 134 #[.val (.long q1), .second, .val (.long q2), .second, .val (.long q3), .second, .val (.long q4), .second, .val (.int p5), .val (.long q3), .second, .val (.long q2), .second, .val (.ref b319), .val (.ref b326), .val (.int (1 : Int32)), .val (.int (1 : Int32)), .unset] [(.int (1 : Int32))])) _
              refine XS.goto X376.here hx rfl (pc0 := 134) (pc' := 138) rfl (hb hby at_134) (by decide) (by decide) ?_
              show Steps p.tables e below (T376.setTop (mkF m 138 #[.val (.long q1), .second, .val (.long q2), .second, .val (.long q3), .second, .val (.long q4), .second, .val (.int p5), .val (.long q3), .second, .val (.long q2), .second, .val (.ref b319), .val (.ref b326), .val (.int (1 : Int32)), .val (.int (1 : Int32)), .unset] [(.int (1 : Int32))])) _
              exact retN X376 hx (t := .boolean) hret (by simp) (hb hby at_138) hr
            ·
              show Q0 n0 _ T376.heap _
              rw [e378]
              exact ⟨rfl, N376⟩
          ·
            have pre379 : ∀ t, Steps p.tables e below (T327.setTop (mkF m 142 #[.val (.long q1), .second, .val (.long q2), .second, .val (.long q3), .second, .val (.long q4), .second, .val (.int p5), .val (.long q3), .second, .val (.long q2), .second, .val (.ref b319), .val (.ref b326), .val (.int (1 : Int32)), .val (.int (((p5.toUInt32 >>> ((2 : Int32) &&& 31).toUInt32).toInt32) &&& (3 : Int32))), .unset] [(.int (2 : Int32)), (.int (((p5.toUInt32 >>> ((2 : Int32) &&& 31).toUInt32).toInt32) &&& (3 : Int32)))])) t → Steps p.tables e below (s₁.setTop (entryFrame m #[(.long q1), (.long q2), (.long q3), (.long q4), (.int p5)] maxLocals)) t := fun t k => by
              refine pre371 _ ?_
              show Steps p.tables e below (T327.setTop (mkF m 121 #[.val (.long q1), .second, .val (.long q2), .second, .val (.long q3), .second, .val (.long q4), .second, .val (.int p5), .val (.long q3), .second, .val (.long q2), .second, .val (.ref b319), .val (.ref b326), .val (.int (1 : Int32)), .val (.int (((p5.toUInt32 >>> ((2 : Int32) &&& 31).toUInt32).toInt32) &&& (3 : Int32))), .unset] [(.int (1 : Int32)), (.int (((p5.toUInt32 >>> ((2 : Int32) &&& 31).toUInt32).toInt32) &&& (3 : Int32)))])) _
              refine XS.icmpYes X327.here hx rfl (pc0 := 121) (pc' := 139) rfl (hb hby at_121) rfl (feq hc372).2 (by decide) (by decide) ?_
              show Steps p.tables e below (T327.setTop (mkF m 139 #[.val (.long q1), .second, .val (.long q2), .second, .val (.long q3), .second, .val (.long q4), .second, .val (.int p5), .val (.long q3), .second, .val (.long q2), .second, .val (.ref b319), .val (.ref b326), .val (.int (1 : Int32)), .val (.int (((p5.toUInt32 >>> ((2 : Int32) &&& 31).toUInt32).toInt32) &&& (3 : Int32))), .unset] [])) _
              refine XS.iload X327.here hx rfl (hb hby at_139) rfl ?_
              show Steps p.tables e below (T327.setTop (mkF m 141 #[.val (.long q1), .second, .val (.long q2), .second, .val (.long q3), .second, .val (.long q4), .second, .val (.int p5), .val (.long q3), .second, .val (.long q2), .second, .val (.ref b319), .val (.ref b326), .val (.int (1 : Int32)), .val (.int (((p5.toUInt32 >>> ((2 : Int32) &&& 31).toUInt32).toInt32) &&& (3 : Int32))), .unset] [(.int (((p5.toUInt32 >>> ((2 : Int32) &&& 31).toUInt32).toInt32) &&& (3 : Int32)))])) _
              refine XS.iconst X327.here hx rfl (hb hby at_141) ?_
              exact k
            by_cases hc380 : (((p5.toUInt32 >>> ((2 : Int32) &&& 31).toUInt32).toInt32) &&& (3 : Int32)) = (2 : Int32)
            ·
              have pre381 : ∀ t, Steps p.tables e below (T327.setTop (mkF m 142 #[.val (.long q1), .second, .val (.long q2), .second, .val (.long q3), .second, .val (.long q4), .second, .val (.int p5), .val (.long q3), .second, .val (.long q2), .second, .val (.ref b319), .val (.ref b326), .val (.int (1 : Int32)), .val (.int (2 : Int32)), .unset] [(.int (2 : Int32)), (.int (2 : Int32))])) t → Steps p.tables e below (s₁.setTop (entryFrame m #[(.long q1), (.long q2), (.long q3), (.long q4), (.int p5)] maxLocals)) t := fun t k => pre379 t (by rw [hc380]; exact k)
              obtain ⟨_, _, ⟨T382, L382, c382, n382⟩, -, X382, ⟨Lc382, hQ382, l382, y382, z382⟩, st382⟩ := Jvm.LawKit.callS X327 hx (y := (⟨"java/lang/Long", "valueOf", "(J)Ljava/lang/Long;"⟩ : MethodName)) hown (mvT hZ (hw _ (List.mem_of_getElem? (i := 20) rfl))) (mvT hZ (hw _ (List.mem_of_getElem? (i := 21) rfl))) (mvT hZ (hw _ (List.mem_of_getElem? (i := 22) rfl))) (mvT hZ (hw _ (List.mem_of_getElem? (i := 23) rfl))) (by decide) (backOf (W := 0) (rm6 l Z a0 hw w1 cw1 G [] q1 T327.heap n0 O327 ) hZ (hw _ (List.mem_of_getElem? (i := 23) rfl)) (hw _ (List.mem_of_getElem? (i := 22) rfl)) (by decide) (by decide)) (g := (mkF m 146 #[.val (.long q1), .second, .val (.long q2), .second, .val (.long q3), .second, .val (.long q4), .second, .val (.int p5), .val (.long q3), .second, .val (.long q2), .second, .val (.ref b319), .val (.ref b326), .val (.int (1 : Int32)), .val (.int (2 : Int32)), .unset] [(.long q1)])) rfl (by rw [hml]; rfl) (argsL := [(.long q1)]) (rest := []) (lenOf pd4 rfl) rfl (by show 2 * 0 + _ ≤ _; exact Nat.le_of_eq rfl) (hb hby at_146) (fun _ _ => ⟨rfl, rfl, (by decide : 2 + 1 ≤ _), (by decide : 4 + 1 ≤ _)⟩)
              dsimp only [Pt.U, Pt.locs, Pt.cells, Pt.slots] at X382 l382 y382 z382 st382 hQ382
              subst l382 y382 z382
              have pre383 : ∀ t, Steps p.tables e below (T327.setTop (mkF m 146 #[.val (.long q1), .second, .val (.long q2), .second, .val (.long q3), .second, .val (.long q4), .second, .val (.int p5), .val (.long q3), .second, .val (.long q2), .second, .val (.ref b319), .val (.ref b326), .val (.int (1 : Int32)), .val (.int (2 : Int32)), .unset] [(.long q1)])) t → Steps p.tables e below (s₁.setTop (entryFrame m #[(.long q1), (.long q2), (.long q3), (.long q4), (.int p5)] maxLocals)) t := fun t k => by
                refine pre381 _ ?_
                show Steps p.tables e below (T327.setTop (mkF m 142 #[.val (.long q1), .second, .val (.long q2), .second, .val (.long q3), .second, .val (.long q4), .second, .val (.int p5), .val (.long q3), .second, .val (.long q2), .second, .val (.ref b319), .val (.ref b326), .val (.int (1 : Int32)), .val (.int (2 : Int32)), .unset] [(.int (2 : Int32)), (.int (2 : Int32))])) _
                refine XS.icmpNo X327.here hx rfl (hb hby at_142) rfl (teq (by decide : (2 : Int32) = (2 : Int32))).2 ?_
                show Steps p.tables e below (T327.setTop (mkF m 145 #[.val (.long q1), .second, .val (.long q2), .second, .val (.long q3), .second, .val (.long q4), .second, .val (.int p5), .val (.long q3), .second, .val (.long q2), .second, .val (.ref b319), .val (.ref b326), .val (.int (1 : Int32)), .val (.int (2 : Int32)), .unset] [])) _
                refine XS.lloadN X327.here hx rfl (hb hby at_145) rfl ?_
                exact k
              have X382 : Stand p l e room_1 s m #[(.long q1), (.long q2), (.long q3), (.long q4), (.int p5)] below meth c T382 _ 3 5 := X382
              rcases hQ382 with ⟨b384, hc385, rfl, Nq386, K387, sz_b384, f388, f389⟩ | ⟨b390, hc391, hc392, rfl, Nq393, K394, sz_b390, f395, f396⟩ | ⟨v397, hc398, hc399, rfl, Nq400, e401, f402⟩
              ·
                have N382 := Fr.app N327 Nq386
                have g_b384 : n0 ≤ b384 := Nat.le_trans (own_oz O327) sz_b384
                have M382 : h0.size ≤ T382.heap.size := Nat.le_trans M327 K387.1
                have O382 := Old.keep O327 K387 all0
                have f404 := (((f323.ext E326).keep K329).keep K387)
                obtain ⟨cq403, kq403, q403a, q403b, q403c⟩ := isOf hZ rfl f404
                obtain ⟨_, _, ⟨T405, L405, c405, n405⟩, -, X405, ⟨Lc405, hQ405, l405, y405, z405⟩, st405⟩ := X382.virtualBack hx (y := (⟨"com/example/sablegrid/sablegrid/model/WriteOutcome", "equals", "(Ljava/lang/Object;)Z"⟩ : MethodName)) (z := (⟨"com/example/sablegrid/sablegrid/model/WriteOutcome", "equals", "(Ljava/lang/Object;)Z"⟩ : MethodName)) hown (mvT hZ (hw _ (List.mem_of_getElem? (i := 13) rfl))) (mvT hZ (hw _ (List.mem_of_getElem? (i := 14) rfl))) (notFace_of_selects (args := #[]) (mvT hZ (hw _ (List.mem_of_getElem? (i := 16) rfl)))) (mvT hZ (hw _ (List.mem_of_getElem? (i := 16) rfl))) (mvT hZ (hw _ (List.mem_of_getElem? (i := 15) rfl))) (by decide) (backOf (W := 0) (rm7 l Z a0 hw [] b319 b384 T382.heap n0 O382 g_b319 g_b384 f388) hZ (hw _ (List.mem_of_getElem? (i := 17) rfl)) (hw _ (List.mem_of_getElem? (i := 2) rfl)) (by decide) (by decide)) q403a q403c (g := (mkF m 155 #[.val (.long q1), .second, .val (.long q2), .second, .val (.long q3), .second, .val (.long q4), .second, .val (.int p5), .val (.long q3), .second, .val (.long q2), .second, .val (.ref b319), .val (.ref b326), .val (.int (1 : Int32)), .val (.int (2 : Int32)), .val (.ref b384)] [(.ref b384), (.ref b319)])) rfl (by rw [hml]; rfl) (Steps.refl _) (argsL := [(.ref b384)]) (rest := []) (lenOf pd1 rfl) rfl (by show 2 * 0 + _ ≤ _; exact Nat.le_of_eq rfl) (hb hby at_155) (fun _ _ => ⟨rfl, rfl, (by decide : 3 + 0 ≤ _), (by decide : 5 + 0 ≤ _)⟩)
                dsimp only [Pt.U, Pt.locs, Pt.cells, Pt.slots] at X405 l405 y405 z405 st405 hQ405
                subst l405 y405 z405
                have X405 : Stand p l e room_1 s m #[(.long q1), (.long q2), (.long q3), (.long q4), (.int p5)] below meth c T405 _ 3 5 := X405
                obtain ⟨rfl, Nq406, e407⟩ := hQ405
                have N405 := Fr.app N382 Nq406
                obtain ⟨fs, hr, hrun, hended, hW, hsame⟩ := X405.leave (v := some (.int (1 : Int32))) (fun h => by rw [hret] at h; cases h)
                refine ⟨_, _, pre383 _ ?_, hrun, hended, _, _, rfl, ?_, ⟨_, rfl⟩, hW, hsame.mono (by decide) (by decide)⟩
                ·
                  show Steps p.tables e below (T327.setTop (mkF m 146 #[.val (.long q1), .second, .val (.long q2), .second, .val (.long q3), .second, .val (.long q4), .second, .val (.int p5), .val (.long q3), .second, .val (.long q2), .second, .val (.ref b319), .val (.ref b326), .val (.int (1 : Int32)), .val (.int (2 : Int32)), .unset] [(.long q1)])) _
                  refine st382 _ ?_
                  show Steps p.tables e below (T382.setTop (mkF m 149 #[.val (.long q1), .second, .val (.long q2), .second, .val (.long q3), .second, .val (.long q4), .second, .val (.int p5), .val (.long q3), .second, .val (.long q2), .second, .val (.ref b319), .val (.ref b326), .val (.int (1 : Int32)), .val (.int (2 : Int32)), .unset] [(.ref b384)])) _
                  refine XS.astore X382.here hx rfl (hb hby at_149) rfl rfl (l' := #[.val (.long q1), .second, .val (.long q2), .second, .val (.long q3), .second, .val (.long q4), .second, .val (.int p5), .val (.long q3), .second, .val (.long q2), .second, .val (.ref b319), .val (.ref b326), .val (.int (1 : Int32)), .val (.int (2 : Int32)), .val (.ref b384)]) rfl ?_
                  show Steps p.tables e below (T382.setTop (mkF m 151 #[.val (.long q1), .second, .val (.long q2), .second, .val (.long q3), .second, .val (.long q4), .second, .val (.int p5), .val (.long q3), .second, .val (.long q2), .second, .val (.ref b319), .val (.ref b326), .val (.int (1 : Int32)), .val (.int (2 : Int32)), .val (.ref b384)] [])) _
                  refine XS.aload X382.here hx rfl (hb hby at_151) rfl rfl ?_
                  show Steps p.tables e below (T382.setTop (mkF m 153 #[.val (.long q1), .second, .val (.long q2), .second, .val (.long q3), .second, .val (.long q4), .second, .val (.int p5), .val (.long q3), .second, .val (.long q2), .second, .val (.ref b319), .val (.ref b326), .val (.int (1 : Int32)), .val (.int (2 : Int32)), .val (.ref b384)] [(.ref b319)])) _
                  refine XS.aload X382.here hx rfl (hb hby at_153) rfl rfl ?_
                  show Steps p.tables e below (T382.setTop (mkF m 155 #[.val (.long q1), .second, .val (.long q2), .second, .val (.long q3), .second, .val (.long q4), .second, .val (.int p5), .val (.long q3), .second, .val (.long q2), .second, .val (.ref b319), .val (.ref b326), .val (.int (1 : Int32)), .val (.int (2 : Int32)), .val (.ref b384)] [(.ref b384), (.ref b319)])) _
                  refine st405.trans ?_
                  show Steps p.tables e below (T405.setTop (mkF m 158 #[.val (.long q1), .second, .val (.long q2), .second, .val (.long q3), .second, .val (.long q4), .second, .val (.int p5), .val (.long q3), .second, .val (.long q2), .second, .val (.ref b319), .val (.ref b326), .val (.int (1 : Int32)), .val (.int (2 : Int32)), .val (.ref b384)] [(.int (0 : Int32))])) _
                  refine XS.ifNo X405.here hx rfl (hb hby at_158) rfl ((if0 _ _).trans (teq (by decide : (0 : Int32) = (0 : Int32))).2) ?_
                  show Steps p.tables e below (T405.setTop (mkF m 161 #[.val (.long q1), .second, .val (.long q2), .second, .val (.long q3), .second, .val (.long q4), .second, .val (.int p5), .val (.long q3), .second, .val (.long q2), .second, .val (.ref b319), .val (.ref b326), .val (.int (1 : Int32)), .val (.int (2 : Int32)), .val (.ref b384)] [])) _
                  refine XS.iconst X405.here hx rfl (hb hby at_161) ?_
                  show Steps p.tables e below (T405.setTop (mkF m 162 #[.val (.long q1), .second, .val (.long q2), .second, .val (.long q3), .second, .val (.long q4), .second, .val (.int p5), .val (.long q3), .second, .val (.long q2), .second, .val (.ref b319), .val (.ref b326), .val (.int (1 : Int32)), .val (.int (2 : Int32)), .val (.ref b384)] [(.int (1 : Int32))])) _
                  refine XS.goto X405.here hx rfl (pc0 := 162) (pc' := 166) rfl (hb hby at_162) (by decide) (by decide) ?_
                  show Steps p.tables e below (T405.setTop (mkF m 166 #[.val (.long q1), .second, .val (.long q2), .second, .val (.long q3), .second, .val (.long q4), .second, .val (.int p5), .val (.long q3), .second, .val (.long q2), .second, .val (.ref b319), .val (.ref b326), .val (.int (1 : Int32)), .val (.int (2 : Int32)), .val (.ref b384)] [(.int (1 : Int32))])) _
                  exact retN X405 hx (t := .boolean) hret (by simp) (hb hby at_166) hr
                ·
                  show Q0 n0 _ T405.heap _
                  rw [e407]
                  exact ⟨rfl, N405⟩
              ·
                have N382 := Fr.app N327 Nq393
                have g_b390 : n0 ≤ b390 := Nat.le_trans (own_oz O327) sz_b390
                have M382 : h0.size ≤ T382.heap.size := Nat.le_trans M327 K394.1
                have O382 := Old.keep O327 K394 all0
                have f409 := (((f323.ext E326).keep K329).keep K394)
                obtain ⟨cq408, kq408, q408a, q408b, q408c⟩ := isOf hZ rfl f409
                obtain ⟨_, _, ⟨T410, L410, c410, n410⟩, -, X410, ⟨Lc410, hQ410, l410, y410, z410⟩, st410⟩ := X382.virtualBack hx (y := (⟨"com/example/sablegrid/sablegrid/model/WriteOutcome", "equals", "(Ljava/lang/Object;)Z"⟩ : MethodName)) (z := (⟨"com/example/sablegrid/sablegrid/model/WriteOutcome", "equals", "(Ljava/lang/Object;)Z"⟩ : MethodName)) hown (mvT hZ (hw _ (List.mem_of_getElem? (i := 13) rfl))) (mvT hZ (hw _ (List.mem_of_getElem? (i := 14) rfl))) (notFace_of_selects (args := #[]) (mvT hZ (hw _ (List.mem_of_getElem? (i := 16) rfl)))) (mvT hZ (hw _ (List.mem_of_getElem? (i := 16) rfl))) (mvT hZ (hw _ (List.mem_of_getElem? (i := 15) rfl))) (by decide) (backOf (W := 0) (rm7 l Z a0 hw [] b319 b390 T382.heap n0 O382 g_b319 g_b390 f395) hZ (hw _ (List.mem_of_getElem? (i := 17) rfl)) (hw _ (List.mem_of_getElem? (i := 2) rfl)) (by decide) (by decide)) q408a q408c (g := (mkF m 155 #[.val (.long q1), .second, .val (.long q2), .second, .val (.long q3), .second, .val (.long q4), .second, .val (.int p5), .val (.long q3), .second, .val (.long q2), .second, .val (.ref b319), .val (.ref b326), .val (.int (1 : Int32)), .val (.int (2 : Int32)), .val (.ref b390)] [(.ref b390), (.ref b319)])) rfl (by rw [hml]; rfl) (Steps.refl _) (argsL := [(.ref b390)]) (rest := []) (lenOf pd1 rfl) rfl (by show 2 * 0 + _ ≤ _; exact Nat.le_of_eq rfl) (hb hby at_155) (fun _ _ => ⟨rfl, rfl, (by decide : 3 + 0 ≤ _), (by decide : 5 + 0 ≤ _)⟩)
                dsimp only [Pt.U, Pt.locs, Pt.cells, Pt.slots] at X410 l410 y410 z410 st410 hQ410
                subst l410 y410 z410
                have X410 : Stand p l e room_1 s m #[(.long q1), (.long q2), (.long q3), (.long q4), (.int p5)] below meth c T410 _ 3 5 := X410
                obtain ⟨rfl, Nq411, e412⟩ := hQ410
                have N410 := Fr.app N382 Nq411
                obtain ⟨fs, hr, hrun, hended, hW, hsame⟩ := X410.leave (v := some (.int (1 : Int32))) (fun h => by rw [hret] at h; cases h)
                refine ⟨_, _, pre383 _ ?_, hrun, hended, _, _, rfl, ?_, ⟨_, rfl⟩, hW, hsame.mono (by decide) (by decide)⟩
                ·
                  show Steps p.tables e below (T327.setTop (mkF m 146 #[.val (.long q1), .second, .val (.long q2), .second, .val (.long q3), .second, .val (.long q4), .second, .val (.int p5), .val (.long q3), .second, .val (.long q2), .second, .val (.ref b319), .val (.ref b326), .val (.int (1 : Int32)), .val (.int (2 : Int32)), .unset] [(.long q1)])) _
                  refine st382 _ ?_
                  show Steps p.tables e below (T382.setTop (mkF m 149 #[.val (.long q1), .second, .val (.long q2), .second, .val (.long q3), .second, .val (.long q4), .second, .val (.int p5), .val (.long q3), .second, .val (.long q2), .second, .val (.ref b319), .val (.ref b326), .val (.int (1 : Int32)), .val (.int (2 : Int32)), .unset] [(.ref b390)])) _
                  refine XS.astore X382.here hx rfl (hb hby at_149) rfl rfl (l' := #[.val (.long q1), .second, .val (.long q2), .second, .val (.long q3), .second, .val (.long q4), .second, .val (.int p5), .val (.long q3), .second, .val (.long q2), .second, .val (.ref b319), .val (.ref b326), .val (.int (1 : Int32)), .val (.int (2 : Int32)), .val (.ref b390)]) rfl ?_
                  show Steps p.tables e below (T382.setTop (mkF m 151 #[.val (.long q1), .second, .val (.long q2), .second, .val (.long q3), .second, .val (.long q4), .second, .val (.int p5), .val (.long q3), .second, .val (.long q2), .second, .val (.ref b319), .val (.ref b326), .val (.int (1 : Int32)), .val (.int (2 : Int32)), .val (.ref b390)] [])) _
                  refine XS.aload X382.here hx rfl (hb hby at_151) rfl rfl ?_
                  show Steps p.tables e below (T382.setTop (mkF m 153 #[.val (.long q1), .second, .val (.long q2), .second, .val (.long q3), .second, .val (.long q4), .second, .val (.int p5), .val (.long q3), .second, .val (.long q2), .second, .val (.ref b319), .val (.ref b326), .val (.int (1 : Int32)), .val (.int (2 : Int32)), .val (.ref b390)] [(.ref b319)])) _
                  refine XS.aload X382.here hx rfl (hb hby at_153) rfl rfl ?_
                  show Steps p.tables e below (T382.setTop (mkF m 155 #[.val (.long q1), .second, .val (.long q2), .second, .val (.long q3), .second, .val (.long q4), .second, .val (.int p5), .val (.long q3), .second, .val (.long q2), .second, .val (.ref b319), .val (.ref b326), .val (.int (1 : Int32)), .val (.int (2 : Int32)), .val (.ref b390)] [(.ref b390), (.ref b319)])) _
                  refine st410.trans ?_
                  show Steps p.tables e below (T410.setTop (mkF m 158 #[.val (.long q1), .second, .val (.long q2), .second, .val (.long q3), .second, .val (.long q4), .second, .val (.int p5), .val (.long q3), .second, .val (.long q2), .second, .val (.ref b319), .val (.ref b326), .val (.int (1 : Int32)), .val (.int (2 : Int32)), .val (.ref b390)] [(.int (0 : Int32))])) _
                  refine XS.ifNo X410.here hx rfl (hb hby at_158) rfl ((if0 _ _).trans (teq (by decide : (0 : Int32) = (0 : Int32))).2) ?_
                  show Steps p.tables e below (T410.setTop (mkF m 161 #[.val (.long q1), .second, .val (.long q2), .second, .val (.long q3), .second, .val (.long q4), .second, .val (.int p5), .val (.long q3), .second, .val (.long q2), .second, .val (.ref b319), .val (.ref b326), .val (.int (1 : Int32)), .val (.int (2 : Int32)), .val (.ref b390)] [])) _
                  refine XS.iconst X410.here hx rfl (hb hby at_161) ?_
                  show Steps p.tables e below (T410.setTop (mkF m 162 #[.val (.long q1), .second, .val (.long q2), .second, .val (.long q3), .second, .val (.long q4), .second, .val (.int p5), .val (.long q3), .second, .val (.long q2), .second, .val (.ref b319), .val (.ref b326), .val (.int (1 : Int32)), .val (.int (2 : Int32)), .val (.ref b390)] [(.int (1 : Int32))])) _
                  refine XS.goto X410.here hx rfl (pc0 := 162) (pc' := 166) rfl (hb hby at_162) (by decide) (by decide) ?_
                  show Steps p.tables e below (T410.setTop (mkF m 166 #[.val (.long q1), .second, .val (.long q2), .second, .val (.long q3), .second, .val (.long q4), .second, .val (.int p5), .val (.long q3), .second, .val (.long q2), .second, .val (.ref b319), .val (.ref b326), .val (.int (1 : Int32)), .val (.int (2 : Int32)), .val (.ref b390)] [(.int (1 : Int32))])) _
                  exact retN X410 hx (t := .boolean) hret (by simp) (hb hby at_166) hr
                ·
                  show Q0 n0 _ T410.heap _
                  rw [e412]
                  exact ⟨rfl, N410⟩
              ·
                have N382 := Fr.app N327 Nq400
                have f414 := ((f323.ext E326).keep K329)
                obtain ⟨cq413, kq413, q413a, q413b, q413c⟩ := isOf hZ e401 f414
                obtain ⟨_, _, ⟨T415, L415, c415, n415⟩, -, X415, ⟨Lc415, hQ415, l415, y415, z415⟩, st415⟩ := X382.virtualBack hx (y := (⟨"com/example/sablegrid/sablegrid/model/WriteOutcome", "equals", "(Ljava/lang/Object;)Z"⟩ : MethodName)) (z := (⟨"com/example/sablegrid/sablegrid/model/WriteOutcome", "equals", "(Ljava/lang/Object;)Z"⟩ : MethodName)) hown (mvT hZ (hw _ (List.mem_of_getElem? (i := 13) rfl))) (mvT hZ (hw _ (List.mem_of_getElem? (i := 14) rfl))) (notFace_of_selects (args := #[]) (mvT hZ (hw _ (List.mem_of_getElem? (i := 16) rfl)))) (mvT hZ (hw _ (List.mem_of_getElem? (i := 16) rfl))) (mvT hZ (hw _ (List.mem_of_getElem? (i := 15) rfl))) (by decide) (backOf (W := 0) (rm8 l Z a0 hw [] b319 v397 T327.heap n0 O327 g_b319 f402) hZ (hw _ (List.mem_of_getElem? (i := 17) rfl)) (hw _ (List.mem_of_getElem? (i := 2) rfl)) (by decide) (by decide)) q413a q413c (g := (mkF m 155 #[.val (.long q1), .second, .val (.long q2), .second, .val (.long q3), .second, .val (.long q4), .second, .val (.int p5), .val (.long q3), .second, .val (.long q2), .second, .val (.ref b319), .val (.ref b326), .val (.int (1 : Int32)), .val (.int (2 : Int32)), .val (.ref v397)] [(.ref v397), (.ref b319)])) rfl (by rw [hml]; rfl) (Steps.refl _) (argsL := [(.ref v397)]) (rest := []) (lenOf pd1 rfl) rfl (by show 2 * 0 + _ ≤ _; exact Nat.le_of_eq rfl) (hb hby at_155) (fun _ _ => ⟨rfl, e401, (by decide : 3 + 0 ≤ _), (by decide : 5 + 0 ≤ _)⟩)
                dsimp only [Pt.U, Pt.locs, Pt.cells, Pt.slots] at X415 l415 y415 z415 st415 hQ415
                subst l415 y415 z415
                have X415 : Stand p l e room_1 s m #[(.long q1), (.long q2), (.long q3), (.long q4), (.int p5)] below meth c T415 _ 3 5 := X415
                obtain ⟨rfl, Nq416, e417⟩ := hQ415
                have N415 := Fr.app N382 Nq416
                obtain ⟨fs, hr, hrun, hended, hW, hsame⟩ := X415.leave (v := some (.int (1 : Int32))) (fun h => by rw [hret] at h; cases h)
                refine ⟨_, _, pre383 _ ?_, hrun, hended, _, _, rfl, ?_, ⟨_, rfl⟩, hW, hsame.mono (by decide) (by decide)⟩
                ·
                  show Steps p.tables e below (T327.setTop (mkF m 146 #[.val (.long q1), .second, .val (.long q2), .second, .val (.long q3), .second, .val (.long q4), .second, .val (.int p5), .val (.long q3), .second, .val (.long q2), .second, .val (.ref b319), .val (.ref b326), .val (.int (1 : Int32)), .val (.int (2 : Int32)), .unset] [(.long q1)])) _
                  refine st382 _ ?_
                  show Steps p.tables e below (T382.setTop (mkF m 149 #[.val (.long q1), .second, .val (.long q2), .second, .val (.long q3), .second, .val (.long q4), .second, .val (.int p5), .val (.long q3), .second, .val (.long q2), .second, .val (.ref b319), .val (.ref b326), .val (.int (1 : Int32)), .val (.int (2 : Int32)), .unset] [(.ref v397)])) _
                  refine XS.astore X382.here hx rfl (hb hby at_149) rfl rfl (l' := #[.val (.long q1), .second, .val (.long q2), .second, .val (.long q3), .second, .val (.long q4), .second, .val (.int p5), .val (.long q3), .second, .val (.long q2), .second, .val (.ref b319), .val (.ref b326), .val (.int (1 : Int32)), .val (.int (2 : Int32)), .val (.ref v397)]) rfl ?_
                  show Steps p.tables e below (T382.setTop (mkF m 151 #[.val (.long q1), .second, .val (.long q2), .second, .val (.long q3), .second, .val (.long q4), .second, .val (.int p5), .val (.long q3), .second, .val (.long q2), .second, .val (.ref b319), .val (.ref b326), .val (.int (1 : Int32)), .val (.int (2 : Int32)), .val (.ref v397)] [])) _
                  refine XS.aload X382.here hx rfl (hb hby at_151) rfl rfl ?_
                  show Steps p.tables e below (T382.setTop (mkF m 153 #[.val (.long q1), .second, .val (.long q2), .second, .val (.long q3), .second, .val (.long q4), .second, .val (.int p5), .val (.long q3), .second, .val (.long q2), .second, .val (.ref b319), .val (.ref b326), .val (.int (1 : Int32)), .val (.int (2 : Int32)), .val (.ref v397)] [(.ref b319)])) _
                  refine XS.aload X382.here hx rfl (hb hby at_153) rfl rfl ?_
                  show Steps p.tables e below (T382.setTop (mkF m 155 #[.val (.long q1), .second, .val (.long q2), .second, .val (.long q3), .second, .val (.long q4), .second, .val (.int p5), .val (.long q3), .second, .val (.long q2), .second, .val (.ref b319), .val (.ref b326), .val (.int (1 : Int32)), .val (.int (2 : Int32)), .val (.ref v397)] [(.ref v397), (.ref b319)])) _
                  refine st415.trans ?_
                  show Steps p.tables e below (T415.setTop (mkF m 158 #[.val (.long q1), .second, .val (.long q2), .second, .val (.long q3), .second, .val (.long q4), .second, .val (.int p5), .val (.long q3), .second, .val (.long q2), .second, .val (.ref b319), .val (.ref b326), .val (.int (1 : Int32)), .val (.int (2 : Int32)), .val (.ref v397)] [(.int (0 : Int32))])) _
                  refine XS.ifNo X415.here hx rfl (hb hby at_158) rfl ((if0 _ _).trans (teq (by decide : (0 : Int32) = (0 : Int32))).2) ?_
                  show Steps p.tables e below (T415.setTop (mkF m 161 #[.val (.long q1), .second, .val (.long q2), .second, .val (.long q3), .second, .val (.long q4), .second, .val (.int p5), .val (.long q3), .second, .val (.long q2), .second, .val (.ref b319), .val (.ref b326), .val (.int (1 : Int32)), .val (.int (2 : Int32)), .val (.ref v397)] [])) _
                  refine XS.iconst X415.here hx rfl (hb hby at_161) ?_
                  show Steps p.tables e below (T415.setTop (mkF m 162 #[.val (.long q1), .second, .val (.long q2), .second, .val (.long q3), .second, .val (.long q4), .second, .val (.int p5), .val (.long q3), .second, .val (.long q2), .second, .val (.ref b319), .val (.ref b326), .val (.int (1 : Int32)), .val (.int (2 : Int32)), .val (.ref v397)] [(.int (1 : Int32))])) _
                  refine XS.goto X415.here hx rfl (pc0 := 162) (pc' := 166) rfl (hb hby at_162) (by decide) (by decide) ?_
                  show Steps p.tables e below (T415.setTop (mkF m 166 #[.val (.long q1), .second, .val (.long q2), .second, .val (.long q3), .second, .val (.long q4), .second, .val (.int p5), .val (.long q3), .second, .val (.long q2), .second, .val (.ref b319), .val (.ref b326), .val (.int (1 : Int32)), .val (.int (2 : Int32)), .val (.ref v397)] [(.int (1 : Int32))])) _
                  exact retN X415 hx (t := .boolean) hret (by simp) (hb hby at_166) hr
                ·
                  show Q0 n0 _ T415.heap _
                  rw [e417]
                  exact ⟨rfl, N415⟩
            ·
              have hq418 : (((p5.toUInt32 >>> ((2 : Int32) &&& 31).toUInt32).toInt32) &&& (3 : Int32)) = (3 : Int32) := (own_geq (n := 3) (k := (3 : Int32)) (by decide) (by have q0 := own_and (x := ((p5.toUInt32 >>> ((2 : Int32) &&& 31).toUInt32).toInt32)) (k := (3 : Int32)) (n := 3) (by decide) (by decide); have q1 := own_neq (n := 0) (k := (0 : Int32)) (by decide) hc336; have q2 := own_neq (n := 1) (k := (1 : Int32)) (by decide) hc372; have q3 := own_neq (n := 2) (k := (2 : Int32)) (by decide) hc380; omega))
              have pre419 : ∀ t, Steps p.tables e below (T327.setTop (mkF m 142 #[.val (.long q1), .second, .val (.long q2), .second, .val (.long q3), .second, .val (.long q4), .second, .val (.int p5), .val (.long q3), .second, .val (.long q2), .second, .val (.ref b319), .val (.ref b326), .val (.int (1 : Int32)), .val (.int (3 : Int32)), .unset] [(.int (2 : Int32)), (.int (3 : Int32))])) t → Steps p.tables e below (s₁.setTop (entryFrame m #[(.long q1), (.long q2), (.long q3), (.long q4), (.int p5)] maxLocals)) t := fun t k => pre379 t (by rw [hq418]; exact k)
              have f420 := ((f323.ext E326).keep K329)
              have lt421 : b319 < T320.heap.size := (Nat.lt_of_lt_of_le A319.lt K322.1)
              have ne422 : b319 ≠ b326 := Nat.ne_of_lt (Nat.lt_of_lt_of_le lt421 sz_b326)
              have f423 := ((f324.ext E326).keep K329 (ninS ne422 nin0))
              have f424 := ((f325.ext E326).keep K329 (ninS ne422 nin0))
              obtain ⟨cq425, kq425, q425a, q425b, q425c⟩ := isOf hZ rfl f420
              obtain ⟨_, _, ⟨T426, L426, c426, n426⟩, -, X426, ⟨Lc426, hQ426, l426, y426, z426⟩, st426⟩ := X327.virtualBack hx (y := (⟨"com/example/sablegrid/sablegrid/model/WriteOutcome", "equals", "(Ljava/lang/Object;)Z"⟩ : MethodName)) (z := (⟨"com/example/sablegrid/sablegrid/model/WriteOutcome", "equals", "(Ljava/lang/Object;)Z"⟩ : MethodName)) hown (mvT hZ (hw _ (List.mem_of_getElem? (i := 13) rfl))) (mvT hZ (hw _ (List.mem_of_getElem? (i := 14) rfl))) (notFace_of_selects (args := #[]) (mvT hZ (hw _ (List.mem_of_getElem? (i := 16) rfl)))) (mvT hZ (hw _ (List.mem_of_getElem? (i := 16) rfl))) (mvT hZ (hw _ (List.mem_of_getElem? (i := 15) rfl))) (by decide) (backOf (W := 0) (rm9 l Z a0 hw [] b319 q1 q2 T327.heap n0 O327 g_b319 f420 f423 f424) hZ (hw _ (List.mem_of_getElem? (i := 17) rfl)) (hw _ (List.mem_of_getElem? (i := 2) rfl)) (by decide) (by decide)) q425a q425c (g := (mkF m 171 #[.val (.long q1), .second, .val (.long q2), .second, .val (.long q3), .second, .val (.long q4), .second, .val (.int p5), .val (.long q3), .second, .val (.long q2), .second, .val (.ref b319), .val (.ref b326), .val (.int (1 : Int32)), .val (.int (3 : Int32)), .unset] [(.ref b319), (.ref b319)])) rfl (by rw [hml]; rfl) (Steps.refl _) (argsL := [(.ref b319)]) (rest := []) (lenOf pd1 rfl) rfl (by show 2 * 0 + _ ≤ _; exact Nat.le_of_eq rfl) (hb hby at_171) (fun _ _ => ⟨rfl, rfl, (by decide : 2 + 0 ≤ _), (by decide : 4 + 0 ≤ _)⟩)
              dsimp only [Pt.U, Pt.locs, Pt.cells, Pt.slots] at X426 l426 y426 z426 st426 hQ426
              subst l426 y426 z426
              have X426 : Stand p l e room_1 s m #[(.long q1), (.long q2), (.long q3), (.long q4), (.int p5)] below meth c T426 _ 2 4 := X426
              obtain ⟨rfl, Nq427, e428⟩ := hQ426
              have N426 := Fr.app N327 Nq427
              obtain ⟨cq429, kq429, q429a, q429b, q429c⟩ := isOf hZ e428 f330
              obtain ⟨_, _, ⟨T430, L430, c430, n430⟩, -, X430, ⟨Lc430, hQ430, l430, y430, z430⟩, st430⟩ := X426.virtualBack hx (y := (⟨"com/example/sablegrid/sablegrid/model/WriteOutcome", "equals", "(Ljava/lang/Object;)Z"⟩ : MethodName)) (z := (⟨"com/example/sablegrid/sablegrid/model/WriteOutcome", "equals", "(Ljava/lang/Object;)Z"⟩ : MethodName)) hown (mvT hZ (hw _ (List.mem_of_getElem? (i := 13) rfl))) (mvT hZ (hw _ (List.mem_of_getElem? (i := 14) rfl))) (notFace_of_selects (args := #[]) (mvT hZ (hw _ (List.mem_of_getElem? (i := 16) rfl)))) (mvT hZ (hw _ (List.mem_of_getElem? (i := 16) rfl))) (mvT hZ (hw _ (List.mem_of_getElem? (i := 15) rfl))) (by decide) (backOf (W := 0) (rm9 l Z a0 hw [] b326 q3 q2 T327.heap n0 O327 g_b326 f330 f331 f332) hZ (hw _ (List.mem_of_getElem? (i := 17) rfl)) (hw _ (List.mem_of_getElem? (i := 2) rfl)) (by decide) (by decide)) q429a q429c (g := (mkF m 181 #[.val (.long q1), .second, .val (.long q2), .second, .val (.long q3), .second, .val (.long q4), .second, .val (.int p5), .val (.long q3), .second, .val (.long q2), .second, .val (.ref b319), .val (.ref b326), .val (.int (1 : Int32)), .val (.int (3 : Int32)), .unset] [(.ref b326), (.ref b326)])) rfl (by rw [hml]; rfl) (Steps.refl _) (argsL := [(.ref b326)]) (rest := []) (lenOf pd1 rfl) rfl (by show 2 * 0 + _ ≤ _; exact Nat.le_of_eq rfl) (hb hby at_181) (fun _ _ => ⟨rfl, e428, (by decide : 2 + 0 ≤ _), (by decide : 4 + 0 ≤ _)⟩)
              dsimp only [Pt.U, Pt.locs, Pt.cells, Pt.slots] at X430 l430 y430 z430 st430 hQ430
              subst l430 y430 z430
              have X430 : Stand p l e room_1 s m #[(.long q1), (.long q2), (.long q3), (.long q4), (.int p5)] below meth c T430 _ 2 4 := X430
              obtain ⟨rfl, Nq431, e432⟩ := hQ430
              have N430 := Fr.app N426 Nq431
              obtain ⟨fs, hr, hrun, hended, hW, hsame⟩ := X430.leave (v := some (.int (1 : Int32))) (fun h => by rw [hret] at h; cases h)
              refine ⟨_, _, pre419 _ ?_, hrun, hended, _, _, rfl, ?_, ⟨_, rfl⟩, hW, hsame.mono (by decide) (by decide)⟩
              ·
                show Steps p.tables e below (T327.setTop (mkF m 142 #[.val (.long q1), .second, .val (.long q2), .second, .val (.long q3), .second, .val (.long q4), .second, .val (.int p5), .val (.long q3), .second, .val (.long q2), .second, .val (.ref b319), .val (.ref b326), .val (.int (1 : Int32)), .val (.int (3 : Int32)), .unset] [(.int (2 : Int32)), (.int (3 : Int32))])) _
                refine XS.icmpYes X327.here hx rfl (pc0 := 142) (pc' := 167) rfl (hb hby at_142) rfl (feq (by decide : ¬ ((3 : Int32) = (2 : Int32)))).2 (by decide) (by decide) ?_
                show Steps p.tables e below (T327.setTop (mkF m 167 #[.val (.long q1), .second, .val (.long q2), .second, .val (.long q3), .second, .val (.long q4), .second, .val (.int p5), .val (.long q3), .second, .val (.long q2), .second, .val (.ref b319), .val (.ref b326), .val (.int (1 : Int32)), .val (.int (3 : Int32)), .unset] [])) _
                refine XS.aload X327.here hx rfl (hb hby at_167) rfl rfl ?_
                show Steps p.tables e below (T327.setTop (mkF m 169 #[.val (.long q1), .second, .val (.long q2), .second, .val (.long q3), .second, .val (.long q4), .second, .val (.int p5), .val (.long q3), .second, .val (.long q2), .second, .val (.ref b319), .val (.ref b326), .val (.int (1 : Int32)), .val (.int (3 : Int32)), .unset] [(.ref b319)])) _
                refine XS.aload X327.here hx rfl (hb hby at_169) rfl rfl ?_
                show Steps p.tables e below (T327.setTop (mkF m 171 #[.val (.long q1), .second, .val (.long q2), .second, .val (.long q3), .second, .val (.long q4), .second, .val (.int p5), .val (.long q3), .second, .val (.long q2), .second, .val (.ref b319), .val (.ref b326), .val (.int (1 : Int32)), .val (.int (3 : Int32)), .unset] [(.ref b319), (.ref b319)])) _
                refine st426.trans ?_
                show Steps p.tables e below (T426.setTop (mkF m 174 #[.val (.long q1), .second, .val (.long q2), .second, .val (.long q3), .second, .val (.long q4), .second, .val (.int p5), .val (.long q3), .second, .val (.long q2), .second, .val (.ref b319), .val (.ref b326), .val (.int (1 : Int32)), .val (.int (3 : Int32)), .unset] [(.int (1 : Int32))])) _
                refine XS.ifNo X426.here hx rfl (hb hby at_174) rfl ((if0 _ _).trans (feq (by decide : ¬ ((1 : Int32) = (0 : Int32)))).1) ?_
                show Steps p.tables e below (T426.setTop (mkF m 177 #[.val (.long q1), .second, .val (.long q2), .second, .val (.long q3), .second, .val (.long q4), .second, .val (.int p5), .val (.long q3), .second, .val (.long q2), .second, .val (.ref b319), .val (.ref b326), .val (.int (1 : Int32)), .val (.int (3 : Int32)), .unset] [])) _
                refine XS.aload X426.here hx rfl (hb hby at_177) rfl rfl ?_
                show Steps p.tables e below (T426.setTop (mkF m 179 #[.val (.long q1), .second, .val (.long q2), .second, .val (.long q3), .second, .val (.long q4), .second, .val (.int p5), .val (.long q3), .second, .val (.long q2), .second, .val (.ref b319), .val (.ref b326), .val (.int (1 : Int32)), .val (.int (3 : Int32)), .unset] [(.ref b326)])) _
                refine XS.aload X426.here hx rfl (hb hby at_179) rfl rfl ?_
                show Steps p.tables e below (T426.setTop (mkF m 181 #[.val (.long q1), .second, .val (.long q2), .second, .val (.long q3), .second, .val (.long q4), .second, .val (.int p5), .val (.long q3), .second, .val (.long q2), .second, .val (.ref b319), .val (.ref b326), .val (.int (1 : Int32)), .val (.int (3 : Int32)), .unset] [(.ref b326), (.ref b326)])) _
                refine st430.trans ?_
                show Steps p.tables e below (T430.setTop (mkF m 184 #[.val (.long q1), .second, .val (.long q2), .second, .val (.long q3), .second, .val (.long q4), .second, .val (.int p5), .val (.long q3), .second, .val (.long q2), .second, .val (.ref b319), .val (.ref b326), .val (.int (1 : Int32)), .val (.int (3 : Int32)), .unset] [(.int (1 : Int32))])) _
                refine XS.ifNo X430.here hx rfl (hb hby at_184) rfl ((if0 _ _).trans (feq (by decide : ¬ ((1 : Int32) = (0 : Int32)))).1) ?_
                show Steps p.tables e below (T430.setTop (mkF m 187 #[.val (.long q1), .second, .val (.long q2), .second, .val (.long q3), .second, .val (.long q4), .second, .val (.int p5), .val (.long q3), .second, .val (.long q2), .second, .val (.ref b319), .val (.ref b326), .val (.int (1 : Int32)), .val (.int (3 : Int32)), .unset] [])) _
                refine XS.iconst X430.here hx rfl (hb hby at_187) ?_
                show Steps p.tables e below (T430.setTop (mkF m 188 #[.val (.long q1), .second, .val (.long q2), .second, .val (.long q3), .second, .val (.long q4), .second, .val (.int p5), .val (.long q3), .second, .val (.long q2), .second, .val (.ref b319), .val (.ref b326), .val (.int (1 : Int32)), .val (.int (3 : Int32)), .unset] [(.int (1 : Int32))])) _
                refine XS.goto X430.here hx rfl (pc0 := 188) (pc' := 192) rfl (hb hby at_188) (by decide) (by decide) ?_
                show Steps p.tables e below (T430.setTop (mkF m 192 #[.val (.long q1), .second, .val (.long q2), .second, .val (.long q3), .second, .val (.long q4), .second, .val (.int p5), .val (.long q3), .second, .val (.long q2), .second, .val (.ref b319), .val (.ref b326), .val (.int (1 : Int32)), .val (.int (3 : Int32)), .unset] [(.int (1 : Int32))])) _
                exact retN X430 hx (t := .boolean) hret (by simp) (hb hby at_192) hr
              ·
                show Q0 n0 _ T430.heap _
                rw [e432]
                exact ⟨rfl, N430⟩
      ·
        have pre433 : ∀ t, Steps p.tables e below (T327.setTop (mkF m 85 #[.val (.long q1), .second, .val (.long q2), .second, .val (.long q3), .second, .val (.long q4), .second, .val (.int p5), .val (.long q3), .second, .val (.long q2), .second, .val (.ref b319), .val (.ref b326), .val (.int (0 : Int32)), .val (.int (((p5.toUInt32 >>> ((2 : Int32) &&& 31).toUInt32).toInt32) &&& (3 : Int32))), .unset] [(.int (((p5.toUInt32 >>> ((2 : Int32) &&& 31).toUInt32).toInt32) &&& (3 : Int32)))])) t → Steps p.tables e below (s₁.setTop (entryFrame m #[(.long q1), (.long q2), (.long q3), (.long q4), (.int p5)] maxLocals)) t := fun t k => by
          refine pre333 _ ?_
          show Steps p.tables e below (T327.setTop (mkF m 58 #[.val (.long q1), .second, .val (.long q2), .second, .val (.long q3), .second, .val (.long q4), .second, .val (.int p5), .val (.long q3), .second, .val (.long q2), .second, .val (.ref b319), .val (.ref b326), .unset, .unset, .unset] [(.int (lcmpW q1 q3))])) _
          refine XS.ifYes X327.here hx rfl (pc0 := 58) (pc' := 72) rfl (hb hby at_58) rfl ((if0 _ _).trans (feq (fun q => hc334 ((lw_eq _ _).mp q))).2) (by decide) (by decide) ?_
          show Steps p.tables e below (T327.setTop (mkF m 72 #[.val (.long q1), .second, .val (.long q2), .second, .val (.long q3), .second, .val (.long q4), .second, .val (.int p5), .val (.long q3), .second, .val (.long q2), .second, .val (.ref b319), .val (.ref b326), .unset, .unset, .unset] [])) _
          refine XS.iconst X327.here hx rfl (hb hby at_72) ?_
          show Steps p.tables e below (T327.setTop (mkF m 73 #[.val (.long q1), .second, .val (.long q2), .second, .val (.long q3), .second, .val (.long q4), .second, .val (.int p5), .val (.long q3), .second, .val (.long q2), .second, .val (.ref b319), .val (.ref b326), .unset, .unset, .unset] [(.int (0 : Int32))])) _
          refine XS.istore X327.here hx rfl (hb hby at_73) rfl (l' := #[.val (.long q1), .second, .val (.long q2), .second, .val (.long q3), .second, .val (.long q4), .second, .val (.int p5), .val (.long q3), .second, .val (.long q2), .second, .val (.ref b319), .val (.ref b326), .val (.int (0 : Int32)), .unset, .unset]) rfl ?_
          show Steps p.tables e below (T327.setTop (mkF m 75 #[.val (.long q1), .second, .val (.long q2), .second, .val (.long q3), .second, .val (.long q4), .second, .val (.int p5), .val (.long q3), .second, .val (.long q2), .second, .val (.ref b319), .val (.ref b326), .val (.int (0 : Int32)), .unset, .unset] [])) _
          refine XS.iload X327.here hx rfl (hb hby at_75) rfl ?_
          show Steps p.tables e below (T327.setTop (mkF m 77 #[.val (.long q1), .second, .val (.long q2), .second, .val (.long q3), .second, .val (.long q4), .second, .val (.int p5), .val (.long q3), .second, .val (.long q2), .second, .val (.ref b319), .val (.ref b326), .val (.int (0 : Int32)), .unset, .unset] [(.int p5)])) _
          refine XS.iconst X327.here hx rfl (hb hby at_77) ?_
          show Steps p.tables e below (T327.setTop (mkF m 78 #[.val (.long q1), .second, .val (.long q2), .second, .val (.long q3), .second, .val (.long q4), .second, .val (.int p5), .val (.long q3), .second, .val (.long q2), .second, .val (.ref b319), .val (.ref b326), .val (.int (0 : Int32)), .unset, .unset] [(.int (2 : Int32)), (.int p5)])) _
          refine XS.iushr X327.here hx rfl (hb hby at_78) rfl ?_
          show Steps p.tables e below (T327.setTop (mkF m 79 #[.val (.long q1), .second, .val (.long q2), .second, .val (.long q3), .second, .val (.long q4), .second, .val (.int p5), .val (.long q3), .second, .val (.long q2), .second, .val (.ref b319), .val (.ref b326), .val (.int (0 : Int32)), .unset, .unset] [(.int ((p5.toUInt32 >>> ((2 : Int32) &&& 31).toUInt32).toInt32))])) _
          refine XS.iconst X327.here hx rfl (hb hby at_79) ?_
          show Steps p.tables e below (T327.setTop (mkF m 80 #[.val (.long q1), .second, .val (.long q2), .second, .val (.long q3), .second, .val (.long q4), .second, .val (.int p5), .val (.long q3), .second, .val (.long q2), .second, .val (.ref b319), .val (.ref b326), .val (.int (0 : Int32)), .unset, .unset] [(.int (3 : Int32)), (.int ((p5.toUInt32 >>> ((2 : Int32) &&& 31).toUInt32).toInt32))])) _
          refine XS.iand X327.here hx rfl (hb hby at_80) rfl ?_
          show Steps p.tables e below (T327.setTop (mkF m 81 #[.val (.long q1), .second, .val (.long q2), .second, .val (.long q3), .second, .val (.long q4), .second, .val (.int p5), .val (.long q3), .second, .val (.long q2), .second, .val (.ref b319), .val (.ref b326), .val (.int (0 : Int32)), .unset, .unset] [(.int (((p5.toUInt32 >>> ((2 : Int32) &&& 31).toUInt32).toInt32) &&& (3 : Int32)))])) _
          refine XS.istore X327.here hx rfl (hb hby at_81) rfl (l' := #[.val (.long q1), .second, .val (.long q2), .second, .val (.long q3), .second, .val (.long q4), .second, .val (.int p5), .val (.long q3), .second, .val (.long q2), .second, .val (.ref b319), .val (.ref b326), .val (.int (0 : Int32)), .val (.int (((p5.toUInt32 >>> ((2 : Int32) &&& 31).toUInt32).toInt32) &&& (3 : Int32))), .unset]) rfl ?_
          show Steps p.tables e below (T327.setTop (mkF m 83 #[.val (.long q1), .second, .val (.long q2), .second, .val (.long q3), .second, .val (.long q4), .second, .val (.int p5), .val (.long q3), .second, .val (.long q2), .second, .val (.ref b319), .val (.ref b326), .val (.int (0 : Int32)), .val (.int (((p5.toUInt32 >>> ((2 : Int32) &&& 31).toUInt32).toInt32) &&& (3 : Int32))), .unset] [])) _
          refine XS.iload X327.here hx rfl (hb hby at_83) rfl ?_
          exact k
        by_cases hc434 : (((p5.toUInt32 >>> ((2 : Int32) &&& 31).toUInt32).toInt32) &&& (3 : Int32)) = (0 : Int32)
        ·
          have pre435 : ∀ t, Steps p.tables e below (T327.setTop (mkF m 85 #[.val (.long q1), .second, .val (.long q2), .second, .val (.long q3), .second, .val (.long q4), .second, .val (.int p5), .val (.long q3), .second, .val (.long q2), .second, .val (.ref b319), .val (.ref b326), .val (.int (0 : Int32)), .val (.int (0 : Int32)), .unset] [(.int (0 : Int32))])) t → Steps p.tables e below (s₁.setTop (entryFrame m #[(.long q1), (.long q2), (.long q3), (.long q4), (.int p5)] maxLocals)) t := fun t k => pre433 t (by rw [hc434]; exact k)
          have lt436 : b319 < T320.heap.size := (Nat.lt_of_lt_of_le A319.lt K322.1)
          have ne437 : b319 ≠ b326 := Nat.ne_of_lt (Nat.lt_of_lt_of_le lt436 sz_b326)
          have f438 := ((f324.ext E326).keep K329 (ninS ne437 nin0))
          have f439 := ((f325.ext E326).keep K329 (ninS ne437 nin0))
          have f441 := ((f323.ext E326).keep K329)
          obtain ⟨cq440, kq440, q440a, q440b, q440c⟩ := isOf hZ rfl f441
          obtain ⟨_, _, ⟨T442, L442, c442, n442⟩, -, X442, ⟨Lc442, hQ442, l442, y442, z442⟩, st442⟩ := X327.virtualBack hx (y := (⟨"com/example/sablegrid/sablegrid/model/WriteOutcome", "equals", "(Ljava/lang/Object;)Z"⟩ : MethodName)) (z := (⟨"com/example/sablegrid/sablegrid/model/WriteOutcome", "equals", "(Ljava/lang/Object;)Z"⟩ : MethodName)) hown (mvT hZ (hw _ (List.mem_of_getElem? (i := 13) rfl))) (mvT hZ (hw _ (List.mem_of_getElem? (i := 14) rfl))) (notFace_of_selects (args := #[]) (mvT hZ (hw _ (List.mem_of_getElem? (i := 16) rfl)))) (mvT hZ (hw _ (List.mem_of_getElem? (i := 16) rfl))) (mvT hZ (hw _ (List.mem_of_getElem? (i := 15) rfl))) (by decide) (backOf (W := 0) (rm2 l Z a0 hw [] b319 b326 q1 q2 q3 q2 T327.heap n0 O327 g_b319 g_b326 f438 f439 f330 f331 f332) hZ (hw _ (List.mem_of_getElem? (i := 17) rfl)) (hw _ (List.mem_of_getElem? (i := 2) rfl)) (by decide) (by decide)) q440a q440c (g := (mkF m 92 #[.val (.long q1), .second, .val (.long q2), .second, .val (.long q3), .second, .val (.long q4), .second, .val (.int p5), .val (.long q3), .second, .val (.long q2), .second, .val (.ref b319), .val (.ref b326), .val (.int (0 : Int32)), .val (.int (0 : Int32)), .unset] [(.ref b326), (.ref b319)])) rfl (by rw [hml]; rfl) (Steps.refl _) (argsL := [(.ref b326)]) (rest := []) (lenOf pd1 rfl) rfl (by show 2 * 0 + _ ≤ _; exact Nat.le_of_eq rfl) (hb hby at_92) (fun _ _ => ⟨rfl, rfl, (by decide : 2 + 0 ≤ _), (by decide : 4 + 0 ≤ _)⟩)
          dsimp only [Pt.U, Pt.locs, Pt.cells, Pt.slots] at X442 l442 y442 z442 st442 hQ442
          subst l442 y442 z442
          have pre443 : ∀ t, Steps p.tables e below (T327.setTop (mkF m 92 #[.val (.long q1), .second, .val (.long q2), .second, .val (.long q3), .second, .val (.long q4), .second, .val (.int p5), .val (.long q3), .second, .val (.long q2), .second, .val (.ref b319), .val (.ref b326), .val (.int (0 : Int32)), .val (.int (0 : Int32)), .unset] [(.ref b326), (.ref b319)])) t → Steps p.tables e below (s₁.setTop (entryFrame m #[(.long q1), (.long q2), (.long q3), (.long q4), (.int p5)] maxLocals)) t := fun t k => by
            refine pre435 _ ?_
            show Steps p.tables e below (T327.setTop (mkF m 85 #[.val (.long q1), .second, .val (.long q2), .second, .val (.long q3), .second, .val (.long q4), .second, .val (.int p5), .val (.long q3), .second, .val (.long q2), .second, .val (.ref b319), .val (.ref b326), .val (.int (0 : Int32)), .val (.int (0 : Int32)), .unset] [(.int (0 : Int32))])) _
            refine XS.ifNo X327.here hx rfl (hb hby at_85) rfl ((if0 _ _).trans (teq (by decide : (0 : Int32) = (0 : Int32))).2) ?_
            show Steps p.tables e below (T327.setTop (mkF m 88 #[.val (.long q1), .second, .val (.long q2), .second, .val (.long q3), .second, .val (.long q4), .second, .val (.int p5), .val (.long q3), .second, .val (.long q2), .second, .val (.ref b319), .val (.ref b326), .val (.int (0 : Int32)), .val (.int (0 : Int32)), .unset] [])) _
            refine XS.aload X327.here hx rfl (hb hby at_88) rfl rfl ?_
            show Steps p.tables e below (T327.setTop (mkF m 90 #[.val (.long q1), .second, .val (.long q2), .second, .val (.long q3), .second, .val (.long q4), .second, .val (.int p5), .val (.long q3), .second, .val (.long q2), .second, .val (.ref b319), .val (.ref b326), .val (.int (0 : Int32)), .val (.int (0 : Int32)), .unset] [(.ref b319)])) _
            refine XS.aload X327.here hx rfl (hb hby at_90) rfl rfl ?_
            exact k
          have X442 : Stand p l e room_1 s m #[(.long q1), (.long q2), (.long q3), (.long q4), (.int p5)] below meth c T442 _ 2 4 := X442
          rcases hQ442 with ⟨hc444, hc445, rfl, Nq446, e447⟩ | ⟨hc448, hc449, rfl, Nq450, e451⟩ | ⟨hc452, rfl, Nq453, e454⟩
          ·
            exact absurd hc444 hc334
          ·
            exact absurd hc448 hc334
          ·
            have N442 := Fr.app N327 Nq453
            obtain ⟨cq455, kq455, q455a, q455b, q455c⟩ := isOf hZ e454 f330
            obtain ⟨_, _, ⟨T456, L456, c456, n456⟩, -, X456, ⟨Lc456, hQ456, l456, y456, z456⟩, st456⟩ := X442.virtualBack hx (y := (⟨"com/example/sablegrid/sablegrid/model/WriteOutcome", "equals", "(Ljava/lang/Object;)Z"⟩ : MethodName)) (z := (⟨"com/example/sablegrid/sablegrid/model/WriteOutcome", "equals", "(Ljava/lang/Object;)Z"⟩ : MethodName)) hown (mvT hZ (hw _ (List.mem_of_getElem? (i := 13) rfl))) (mvT hZ (hw _ (List.mem_of_getElem? (i := 14) rfl))) (notFace_of_selects (args := #[]) (mvT hZ (hw _ (List.mem_of_getElem? (i := 16) rfl)))) (mvT hZ (hw _ (List.mem_of_getElem? (i := 16) rfl))) (mvT hZ (hw _ (List.mem_of_getElem? (i := 15) rfl))) (by decide) (backOf (W := 0) (rm2 l Z a0 hw [] b326 b319 q3 q2 q1 q2 T327.heap n0 O327 g_b326 g_b319 f331 f332 f441 f438 f439) hZ (hw _ (List.mem_of_getElem? (i := 17) rfl)) (hw _ (List.mem_of_getElem? (i := 2) rfl)) (by decide) (by decide)) q455a q455c (g := (mkF m 104 #[.val (.long q1), .second, .val (.long q2), .second, .val (.long q3), .second, .val (.long q4), .second, .val (.int p5), .val (.long q3), .second, .val (.long q2), .second, .val (.ref b319), .val (.ref b326), .val (.int (0 : Int32)), .val (.int (0 : Int32)), .unset] [(.ref b319), (.ref b326)])) rfl (by rw [hml]; rfl) (Steps.refl _) (argsL := [(.ref b319)]) (rest := []) (lenOf pd1 rfl) rfl (by show 2 * 0 + _ ≤ _; exact Nat.le_of_eq rfl) (hb hby at_104) (fun _ _ => ⟨rfl, e454, (by decide : 2 + 0 ≤ _), (by decide : 4 + 0 ≤ _)⟩)
            dsimp only [Pt.U, Pt.locs, Pt.cells, Pt.slots] at X456 l456 y456 z456 st456 hQ456
            subst l456 y456 z456
            have pre457 : ∀ t, Steps p.tables e below (T442.setTop (mkF m 104 #[.val (.long q1), .second, .val (.long q2), .second, .val (.long q3), .second, .val (.long q4), .second, .val (.int p5), .val (.long q3), .second, .val (.long q2), .second, .val (.ref b319), .val (.ref b326), .val (.int (0 : Int32)), .val (.int (0 : Int32)), .unset] [(.ref b319), (.ref b326)])) t → Steps p.tables e below (s₁.setTop (entryFrame m #[(.long q1), (.long q2), (.long q3), (.long q4), (.int p5)] maxLocals)) t := fun t k => by
              refine pre443 _ ?_
              show Steps p.tables e below (T327.setTop (mkF m 92 #[.val (.long q1), .second, .val (.long q2), .second, .val (.long q3), .second, .val (.long q4), .second, .val (.int p5), .val (.long q3), .second, .val (.long q2), .second, .val (.ref b319), .val (.ref b326), .val (.int (0 : Int32)), .val (.int (0 : Int32)), .unset] [(.ref b326), (.ref b319)])) _
              refine st442.trans ?_
              show Steps p.tables e below (T442.setTop (mkF m 95 #[.val (.long q1), .second, .val (.long q2), .second, .val (.long q3), .second, .val (.long q4), .second, .val (.int p5), .val (.long q3), .second, .val (.long q2), .second, .val (.ref b319), .val (.ref b326), .val (.int (0 : Int32)), .val (.int (0 : Int32)), .unset] [(.int (0 : Int32))])) _
              refine XS.iload X442.here hx rfl (hb hby at_95) rfl ?_
              show Steps p.tables e below (T442.setTop (mkF m 97 #[.val (.long q1), .second, .val (.long q2), .second, .val (.long q3), .second, .val (.long q4), .second, .val (.int p5), .val (.long q3), .second, .val (.long q2), .second, .val (.ref b319), .val (.ref b326), .val (.int (0 : Int32)), .val (.int (0 : Int32)), .unset] [(.int (0 : Int32)), (.int (0 : Int32))])) _
              refine XS.icmpNo X442.here hx rfl (hb hby at_97) rfl (teq (by decide : (0 : Int32) = (0 : Int32))).2 ?_
              show Steps p.tables e below (T442.setTop (mkF m 100 #[.val (.long q1), .second, .val (.long q2), .second, .val (.long q3), .second, .val (.long q4), .second, .val (.int p5), .val (.long q3), .second, .val (.long q2), .second, .val (.ref b319), .val (.ref b326), .val (.int (0 : Int32)), .val (.int (0 : Int32)), .unset] [])) _
              refine XS.aload X442.here hx rfl (hb hby at_100) rfl rfl ?_
              show Steps p.tables e below (T442.setTop (mkF m 102 #[.val (.long q1), .second, .val (.long q2), .second, .val (.long q3), .second, .val (.long q4), .second, .val (.int p5), .val (.long q3), .second, .val (.long q2), .second, .val (.ref b319), .val (.ref b326), .val (.int (0 : Int32)), .val (.int (0 : Int32)), .unset] [(.ref b326)])) _
              refine XS.aload X442.here hx rfl (hb hby at_102) rfl rfl ?_
              exact k
            have X456 : Stand p l e room_1 s m #[(.long q1), (.long q2), (.long q3), (.long q4), (.int p5)] below meth c T456 _ 2 4 := X456
            rcases hQ456 with ⟨hc458, hc459, rfl, Nq460, e461⟩ | ⟨hc462, hc463, rfl, Nq464, e465⟩ | ⟨hc466, rfl, Nq467, e468⟩
            ·
              exact absurd hc458 (Ne.symm hc334)
            ·
              exact absurd hc462 (Ne.symm hc334)
            ·
              have N456 := Fr.app N442 Nq467
              obtain ⟨fs, hr, hrun, hended, hW, hsame⟩ := X456.leave (v := some (.int (1 : Int32))) (fun h => by rw [hret] at h; cases h)
              refine ⟨_, _, pre457 _ ?_, hrun, hended, _, _, rfl, ?_, ⟨_, rfl⟩, hW, hsame.mono (by decide) (by decide)⟩
              ·
                show Steps p.tables e below (T442.setTop (mkF m 104 #[.val (.long q1), .second, .val (.long q2), .second, .val (.long q3), .second, .val (.long q4), .second, .val (.int p5), .val (.long q3), .second, .val (.long q2), .second, .val (.ref b319), .val (.ref b326), .val (.int (0 : Int32)), .val (.int (0 : Int32)), .unset] [(.ref b319), (.ref b326)])) _
                refine st456.trans ?_
                show Steps p.tables e below (T456.setTop (mkF m 107 #[.val (.long q1), .second, .val (.long q2), .second, .val (.long q3), .second, .val (.long q4), .second, .val (.int p5), .val (.long q3), .second, .val (.long q2), .second, .val (.ref b319), .val (.ref b326), .val (.int (0 : Int32)), .val (.int (0 : Int32)), .unset] [(.int (0 : Int32))])) _
                refine XS.iload X456.here hx rfl (hb hby at_107) rfl ?_
                show Steps p.tables e below (T456.setTop (mkF m 109 #[.val (.long q1), .second, .val (.long q2), .second, .val (.long q3), .second, .val (.long q4), .second, .val (.int p5), .val (.long q3), .second, .val (.long q2), .second, .val (.ref b319), .val (.ref b326), .val (.int (0 : Int32)), .val (.int (0 : Int32)), .unset] [(.int (0 : Int32)), (.int (0 : Int32))])) _
                refine XS.icmpNo X456.here hx rfl (hb hby at_109) rfl (teq (by decide : (0 : Int32) = (0 : Int32))).2 ?_
                show Steps p.tables e below (T456.setTop (mkF m 112 #[.val (.long q1), .second, .val (.long q2), .second, .val (.long q3), .second, .val (.long q4), .second, .val (.int p5), .val (.long q3), .second, .val (.long q2), .second, .val (.ref b319), .val (.ref b326), .val (.int (0 : Int32)), .val (.int (0 : Int32)), .unset] [])) _
                refine XS.iconst X456.here hx rfl (hb hby at_112) ?_
                show Steps p.tables e below (T456.setTop (mkF m 113 #[.val (.long q1), .second, .val (.long q2), .second, .val (.long q3), .second, .val (.long q4), .second, .val (.int p5), .val (.long q3), .second, .val (.long q2), .second, .val (.ref b319), .val (.ref b326), .val (.int (0 : Int32)), .val (.int (0 : Int32)), .unset] [(.int (1 : Int32))])) _
                refine XS.goto X456.here hx rfl (pc0 := 113) (pc' := 117) rfl (hb hby at_113) (by decide) (by decide) ?_
                show Steps p.tables e below (T456.setTop (mkF m 117 #[.val (.long q1), .second, .val (.long q2), .second, .val (.long q3), .second, .val (.long q4), .second, .val (.int p5), .val (.long q3), .second, .val (.long q2), .second, .val (.ref b319), .val (.ref b326), .val (.int (0 : Int32)), .val (.int (0 : Int32)), .unset] [(.int (1 : Int32))])) _
                exact retN X456 hx (t := .boolean) hret (by simp) (hb hby at_117) hr
              ·
                show Q0 n0 _ T456.heap _
                rw [e468]
                exact ⟨rfl, N456⟩
        ·
          have pre469 : ∀ t, Steps p.tables e below (T327.setTop (mkF m 121 #[.val (.long q1), .second, .val (.long q2), .second, .val (.long q3), .second, .val (.long q4), .second, .val (.int p5), .val (.long q3), .second, .val (.long q2), .second, .val (.ref b319), .val (.ref b326), .val (.int (0 : Int32)), .val (.int (((p5.toUInt32 >>> ((2 : Int32) &&& 31).toUInt32).toInt32) &&& (3 : Int32))), .unset] [(.int (1 : Int32)), (.int (((p5.toUInt32 >>> ((2 : Int32) &&& 31).toUInt32).toInt32) &&& (3 : Int32)))])) t → Steps p.tables e below (s₁.setTop (entryFrame m #[(.long q1), (.long q2), (.long q3), (.long q4), (.int p5)] maxLocals)) t := fun t k => by
            refine pre433 _ ?_
            show Steps p.tables e below (T327.setTop (mkF m 85 #[.val (.long q1), .second, .val (.long q2), .second, .val (.long q3), .second, .val (.long q4), .second, .val (.int p5), .val (.long q3), .second, .val (.long q2), .second, .val (.ref b319), .val (.ref b326), .val (.int (0 : Int32)), .val (.int (((p5.toUInt32 >>> ((2 : Int32) &&& 31).toUInt32).toInt32) &&& (3 : Int32))), .unset] [(.int (((p5.toUInt32 >>> ((2 : Int32) &&& 31).toUInt32).toInt32) &&& (3 : Int32)))])) _
            refine XS.ifYes X327.here hx rfl (pc0 := 85) (pc' := 118) rfl (hb hby at_85) rfl ((if0 _ _).trans (feq hc434).2) (by decide) (by decide) ?_
            show Steps p.tables e below (T327.setTop (mkF m 118 #[.val (.long q1), .second, .val (.long q2), .second, .val (.long q3), .second, .val (.long q4), .second, .val (.int p5), .val (.long q3), .second, .val (.long q2), .second, .val (.ref b319), .val (.ref b326), .val (.int (0 : Int32)), .val (.int (((p5.toUInt32 >>> ((2 : Int32) &&& 31).toUInt32).toInt32) &&& (3 : Int32))), .unset] [])) _
            refine XS.iload X327.here hx rfl (hb hby at_118) rfl ?_
            show Steps p.tables e below (T327.setTop (mkF m 120 #[.val (.long q1), .second, .val (.long q2), .second, .val (.long q3), .second, .val (.long q4), .second, .val (.int p5), .val (.long q3), .second, .val (.long q2), .second, .val (.ref b319), .val (.ref b326), .val (.int (0 : Int32)), .val (.int (((p5.toUInt32 >>> ((2 : Int32) &&& 31).toUInt32).toInt32) &&& (3 : Int32))), .unset] [(.int (((p5.toUInt32 >>> ((2 : Int32) &&& 31).toUInt32).toInt32) &&& (3 : Int32)))])) _
            refine XS.iconst X327.here hx rfl (hb hby at_120) ?_
            exact k
          by_cases hc470 : (((p5.toUInt32 >>> ((2 : Int32) &&& 31).toUInt32).toInt32) &&& (3 : Int32)) = (1 : Int32)
          ·
            have pre471 : ∀ t, Steps p.tables e below (T327.setTop (mkF m 121 #[.val (.long q1), .second, .val (.long q2), .second, .val (.long q3), .second, .val (.long q4), .second, .val (.int p5), .val (.long q3), .second, .val (.long q2), .second, .val (.ref b319), .val (.ref b326), .val (.int (0 : Int32)), .val (.int (1 : Int32)), .unset] [(.int (1 : Int32)), (.int (1 : Int32))])) t → Steps p.tables e below (s₁.setTop (entryFrame m #[(.long q1), (.long q2), (.long q3), (.long q4), (.int p5)] maxLocals)) t := fun t k => pre469 t (by rw [hc470]; exact k)
            have f473 := ((f323.ext E326).keep K329)
            obtain ⟨cq472, kq472, q472a, q472b, q472c⟩ := isOf hZ rfl f473
            obtain ⟨_, _, ⟨T474, L474, c474, n474⟩, -, X474, ⟨Lc474, hQ474, l474, y474, z474⟩, st474⟩ := X327.virtualBack hx (y := (⟨"com/example/sablegrid/sablegrid/model/WriteOutcome", "equals", "(Ljava/lang/Object;)Z"⟩ : MethodName)) (z := (⟨"com/example/sablegrid/sablegrid/model/WriteOutcome", "equals", "(Ljava/lang/Object;)Z"⟩ : MethodName)) hown (mvT hZ (hw _ (List.mem_of_getElem? (i := 13) rfl))) (mvT hZ (hw _ (List.mem_of_getElem? (i := 14) rfl))) (notFace_of_selects (args := #[]) (mvT hZ (hw _ (List.mem_of_getElem? (i := 16) rfl)))) (mvT hZ (hw _ (List.mem_of_getElem? (i := 16) rfl))) (mvT hZ (hw _ (List.mem_of_getElem? (i := 15) rfl))) (by decide) (backOf (W := 0) (rm3 l Z a0 hw [] b319 T327.heap n0 O327 g_b319) hZ (hw _ (List.mem_of_getElem? (i := 17) rfl)) (hw _ (List.mem_of_getElem? (i := 2) rfl)) (by decide) (by decide)) q472a q472c (g := (mkF m 127 #[.val (.long q1), .second, .val (.long q2), .second, .val (.long q3), .second, .val (.long q4), .second, .val (.int p5), .val (.long q3), .second, .val (.long q2), .second, .val (.ref b319), .val (.ref b326), .val (.int (0 : Int32)), .val (.int (1 : Int32)), .unset] [.null, (.ref b319)])) rfl (by rw [hml]; rfl) (Steps.refl _) (argsL := [.null]) (rest := []) (lenOf pd1 rfl) rfl (by show 2 * 0 + _ ≤ _; exact Nat.le_of_eq rfl) (hb hby at_127) (fun _ _ => ⟨rfl, rfl, (by decide : 2 + 0 ≤ _), (by decide : 4 + 0 ≤ _)⟩)
            dsimp only [Pt.U, Pt.locs, Pt.cells, Pt.slots] at X474 l474 y474 z474 st474 hQ474
            subst l474 y474 z474
            have X474 : Stand p l e room_1 s m #[(.long q1), (.long q2), (.long q3), (.long q4), (.int p5)] below meth c T474 _ 2 4 := X474
            obtain ⟨rfl, Nq475, e476⟩ := hQ474
            have N474 := Fr.app N327 Nq475
            obtain ⟨fs, hr, hrun, hended, hW, hsame⟩ := X474.leave (v := some (.int (1 : Int32))) (fun h => by rw [hret] at h; cases h)
            refine ⟨_, _, pre471 _ ?_, hrun, hended, _, _, rfl, ?_, ⟨_, rfl⟩, hW, hsame.mono (by decide) (by decide)⟩
            ·
              show Steps p.tables e below (T327.setTop (mkF m 121 #[.val (.long q1), .second, .val (.long q2), .second, .val (.long q3), .second, .val (.long q4), .second, .val (.int p5), .val (.long q3), .second, .val (.long q2), .second, .val (.ref b319), .val (.ref b326), .val (.int (0 : Int32)), .val (.int (1 : Int32)), .unset] [(.int (1 : Int32)), (.int (1 : Int32))])) _
              refine XS.icmpNo X327.here hx rfl (hb hby at_121) rfl (teq (by decide : (1 : Int32) = (1 : Int32))).2 ?_
              show Steps p.tables e below (T327.setTop (mkF m 124 #[.val (.long q1), .second, .val (.long q2), .second, .val (.long q3), .second, .val (.long q4), .second, .val (.int p5), .val (.long q3), .second, .val (.long q2), .second, .val (.ref b319), .val (.ref b326), .val (.int (0 : Int32)), .val (.int (1 : Int32)), .unset] [])) _
              refine XS.aload X327.here hx rfl (hb hby at_124) rfl rfl ?_
              show Steps p.tables e below (T327.setTop (mkF m 126 #[.val (.long q1), .second, .val (.long q2), .second, .val (.long q3), .second, .val (.long q4), .second, .val (.int p5), .val (.long q3), .second, .val (.long q2), .second, .val (.ref b319), .val (.ref b326), .val (.int (0 : Int32)), .val (.int (1 : Int32)), .unset] [(.ref b319)])) _
              refine XS.aconstNull X327.here hx rfl (hb hby at_126) ?_
              show Steps p.tables e below (T327.setTop (mkF m 127 #[.val (.long q1), .second, .val (.long q2), .second, .val (.long q3), .second, .val (.long q4), .second, .val (.int p5), .val (.long q3), .second, .val (.long q2), .second, .val (.ref b319), .val (.ref b326), .val (.int (0 : Int32)), .val (.int (1 : Int32)), .unset] [.null, (.ref b319)])) _
              refine st474.trans ?_
              show Steps p.tables e below (T474.setTop (mkF m 130 #[.val (.long q1), .second, .val (.long q2), .second, .val (.long q3), .second, .val (.long q4), .second, .val (.int p5), .val (.long q3), .second, .val (.long q2), .second, .val (.ref b319), .val (.ref b326), .val (.int (0 : Int32)), .val (.int (1 : Int32)), .unset] [(.int (0 : Int32))])) _
              refine XS.ifNo X474.here hx rfl (hb hby at_130) rfl ((if0 _ _).trans (teq (by decide : (0 : Int32) = (0 : Int32))).2) ?_
              show Steps p.tables e below (T474.setTop (mkF m 133 #[.val (.long q1), .second, .val (.long q2), .second, .val (.long q3), .second, .val (.long q4), .second, .val (.int p5), .val (.long q3), .second, .val (.long q2), .second, .val (.ref b319), .val (.ref b326), .val (.int (0 : Int32)), .val (.int (1 : Int32)), .unset] [])) _
              refine XS.iconst X474.here hx rfl (hb hby at_133) ?_
              show Steps p.tables e below (T474.setTop (mkF m 134 #[.val (.long q1), .second, .val (.long q2), .second, .val (.long q3), .second, .val (.long q4), .second, .val (.int p5), .val (.long q3), .second, .val (.long q2), .second, .val (.ref b319), .val (.ref b326), .val (.int (0 : Int32)), .val (.int (1 : Int32)), .unset] [(.int (1 : Int32))])) _
              refine XS.goto X474.here hx rfl (pc0 := 134) (pc' := 138) rfl (hb hby at_134) (by decide) (by decide) ?_
              show Steps p.tables e below (T474.setTop (mkF m 138 #[.val (.long q1), .second, .val (.long q2), .second, .val (.long q3), .second, .val (.long q4), .second, .val (.int p5), .val (.long q3), .second, .val (.long q2), .second, .val (.ref b319), .val (.ref b326), .val (.int (0 : Int32)), .val (.int (1 : Int32)), .unset] [(.int (1 : Int32))])) _
              exact retN X474 hx (t := .boolean) hret (by simp) (hb hby at_138) hr
            ·
              show Q0 n0 _ T474.heap _
              rw [e476]
              exact ⟨rfl, N474⟩
          ·
            have pre477 : ∀ t, Steps p.tables e below (T327.setTop (mkF m 142 #[.val (.long q1), .second, .val (.long q2), .second, .val (.long q3), .second, .val (.long q4), .second, .val (.int p5), .val (.long q3), .second, .val (.long q2), .second, .val (.ref b319), .val (.ref b326), .val (.int (0 : Int32)), .val (.int (((p5.toUInt32 >>> ((2 : Int32) &&& 31).toUInt32).toInt32) &&& (3 : Int32))), .unset] [(.int (2 : Int32)), (.int (((p5.toUInt32 >>> ((2 : Int32) &&& 31).toUInt32).toInt32) &&& (3 : Int32)))])) t → Steps p.tables e below (s₁.setTop (entryFrame m #[(.long q1), (.long q2), (.long q3), (.long q4), (.int p5)] maxLocals)) t := fun t k => by
              refine pre469 _ ?_
              show Steps p.tables e below (T327.setTop (mkF m 121 #[.val (.long q1), .second, .val (.long q2), .second, .val (.long q3), .second, .val (.long q4), .second, .val (.int p5), .val (.long q3), .second, .val (.long q2), .second, .val (.ref b319), .val (.ref b326), .val (.int (0 : Int32)), .val (.int (((p5.toUInt32 >>> ((2 : Int32) &&& 31).toUInt32).toInt32) &&& (3 : Int32))), .unset] [(.int (1 : Int32)), (.int (((p5.toUInt32 >>> ((2 : Int32) &&& 31).toUInt32).toInt32) &&& (3 : Int32)))])) _
              refine XS.icmpYes X327.here hx rfl (pc0 := 121) (pc' := 139) rfl (hb hby at_121) rfl (feq hc470).2 (by decide) (by decide) ?_
              show Steps p.tables e below (T327.setTop (mkF m 139 #[.val (.long q1), .second, .val (.long q2), .second, .val (.long q3), .second, .val (.long q4), .second, .val (.int p5), .val (.long q3), .second, .val (.long q2), .second, .val (.ref b319), .val (.ref b326), .val (.int (0 : Int32)), .val (.int (((p5.toUInt32 >>> ((2 : Int32) &&& 31).toUInt32).toInt32) &&& (3 : Int32))), .unset] [])) _
              refine XS.iload X327.here hx rfl (hb hby at_139) rfl ?_
              show Steps p.tables e below (T327.setTop (mkF m 141 #[.val (.long q1), .second, .val (.long q2), .second, .val (.long q3), .second, .val (.long q4), .second, .val (.int p5), .val (.long q3), .second, .val (.long q2), .second, .val (.ref b319), .val (.ref b326), .val (.int (0 : Int32)), .val (.int (((p5.toUInt32 >>> ((2 : Int32) &&& 31).toUInt32).toInt32) &&& (3 : Int32))), .unset] [(.int (((p5.toUInt32 >>> ((2 : Int32) &&& 31).toUInt32).toInt32) &&& (3 : Int32)))])) _
              refine XS.iconst X327.here hx rfl (hb hby at_141) ?_
              exact k
            by_cases hc478 : (((p5.toUInt32 >>> ((2 : Int32) &&& 31).toUInt32).toInt32) &&& (3 : Int32)) = (2 : Int32)
            ·
              have pre479 : ∀ t, Steps p.tables e below (T327.setTop (mkF m 142 #[.val (.long q1), .second, .val (.long q2), .second, .val (.long q3), .second, .val (.long q4), .second, .val (.int p5), .val (.long q3), .second, .val (.long q2), .second, .val (.ref b319), .val (.ref b326), .val (.int (0 : Int32)), .val (.int (2 : Int32)), .unset] [(.int (2 : Int32)), (.int (2 : Int32))])) t → Steps p.tables e below (s₁.setTop (entryFrame m #[(.long q1), (.long q2), (.long q3), (.long q4), (.int p5)] maxLocals)) t := fun t k => pre477 t (by rw [hc478]; exact k)
              obtain ⟨_, _, ⟨T480, L480, c480, n480⟩, -, X480, ⟨Lc480, hQ480, l480, y480, z480⟩, st480⟩ := Jvm.LawKit.callS X327 hx (y := (⟨"java/lang/Long", "valueOf", "(J)Ljava/lang/Long;"⟩ : MethodName)) hown (mvT hZ (hw _ (List.mem_of_getElem? (i := 20) rfl))) (mvT hZ (hw _ (List.mem_of_getElem? (i := 21) rfl))) (mvT hZ (hw _ (List.mem_of_getElem? (i := 22) rfl))) (mvT hZ (hw _ (List.mem_of_getElem? (i := 23) rfl))) (by decide) (backOf (W := 0) (rm6 l Z a0 hw w1 cw1 G [] q1 T327.heap n0 O327 ) hZ (hw _ (List.mem_of_getElem? (i := 23) rfl)) (hw _ (List.mem_of_getElem? (i := 22) rfl)) (by decide) (by decide)) (g := (mkF m 146 #[.val (.long q1), .second, .val (.long q2), .second, .val (.long q3), .second, .val (.long q4), .second, .val (.int p5), .val (.long q3), .second, .val (.long q2), .second, .val (.ref b319), .val (.ref b326), .val (.int (0 : Int32)), .val (.int (2 : Int32)), .unset] [(.long q1)])) rfl (by rw [hml]; rfl) (argsL := [(.long q1)]) (rest := []) (lenOf pd4 rfl) rfl (by show 2 * 0 + _ ≤ _; exact Nat.le_of_eq rfl) (hb hby at_146) (fun _ _ => ⟨rfl, rfl, (by decide : 2 + 1 ≤ _), (by decide : 4 + 1 ≤ _)⟩)
              dsimp only [Pt.U, Pt.locs, Pt.cells, Pt.slots] at X480 l480 y480 z480 st480 hQ480
              subst l480 y480 z480
              have pre481 : ∀ t, Steps p.tables e below (T327.setTop (mkF m 146 #[.val (.long q1), .second, .val (.long q2), .second, .val (.long q3), .second, .val (.long q4), .second, .val (.int p5), .val (.long q3), .second, .val (.long q2), .second, .val (.ref b319), .val (.ref b326), .val (.int (0 : Int32)), .val (.int (2 : Int32)), .unset] [(.long q1)])) t → Steps p.tables e below (s₁.setTop (entryFrame m #[(.long q1), (.long q2), (.long q3), (.long q4), (.int p5)] maxLocals)) t := fun t k => by
                refine pre479 _ ?_
                show Steps p.tables e below (T327.setTop (mkF m 142 #[.val (.long q1), .second, .val (.long q2), .second, .val (.long q3), .second, .val (.long q4), .second, .val (.int p5), .val (.long q3), .second, .val (.long q2), .second, .val (.ref b319), .val (.ref b326), .val (.int (0 : Int32)), .val (.int (2 : Int32)), .unset] [(.int (2 : Int32)), (.int (2 : Int32))])) _
                refine XS.icmpNo X327.here hx rfl (hb hby at_142) rfl (teq (by decide : (2 : Int32) = (2 : Int32))).2 ?_
                show Steps p.tables e below (T327.setTop (mkF m 145 #[.val (.long q1), .second, .val (.long q2), .second, .val (.long q3), .second, .val (.long q4), .second, .val (.int p5), .val (.long q3), .second, .val (.long q2), .second, .val (.ref b319), .val (.ref b326), .val (.int (0 : Int32)), .val (.int (2 : Int32)), .unset] [])) _
                refine XS.lloadN X327.here hx rfl (hb hby at_145) rfl ?_
                exact k
              have X480 : Stand p l e room_1 s m #[(.long q1), (.long q2), (.long q3), (.long q4), (.int p5)] below meth c T480 _ 3 5 := X480
              rcases hQ480 with ⟨b482, hc483, rfl, Nq484, K485, sz_b482, f486, f487⟩ | ⟨b488, hc489, hc490, rfl, Nq491, K492, sz_b488, f493, f494⟩ | ⟨v495, hc496, hc497, rfl, Nq498, e499, f500⟩
              ·
                have N480 := Fr.app N327 Nq484
                have g_b482 : n0 ≤ b482 := Nat.le_trans (own_oz O327) sz_b482
                have M480 : h0.size ≤ T480.heap.size := Nat.le_trans M327 K485.1
                have O480 := Old.keep O327 K485 all0
                have f502 := (((f323.ext E326).keep K329).keep K485)
                obtain ⟨cq501, kq501, q501a, q501b, q501c⟩ := isOf hZ rfl f502
                obtain ⟨_, _, ⟨T503, L503, c503, n503⟩, -, X503, ⟨Lc503, hQ503, l503, y503, z503⟩, st503⟩ := X480.virtualBack hx (y := (⟨"com/example/sablegrid/sablegrid/model/WriteOutcome", "equals", "(Ljava/lang/Object;)Z"⟩ : MethodName)) (z := (⟨"com/example/sablegrid/sablegrid/model/WriteOutcome", "equals", "(Ljava/lang/Object;)Z"⟩ : MethodName)) hown (mvT hZ (hw _ (List.mem_of_getElem? (i := 13) rfl))) (mvT hZ (hw _ (List.mem_of_getElem? (i := 14) rfl))) (notFace_of_selects (args := #[]) (mvT hZ (hw _ (List.mem_of_getElem? (i := 16) rfl)))) (mvT hZ (hw _ (List.mem_of_getElem? (i := 16) rfl))) (mvT hZ (hw _ (List.mem_of_getElem? (i := 15) rfl))) (by decide) (backOf (W := 0) (rm7 l Z a0 hw [] b319 b482 T480.heap n0 O480 g_b319 g_b482 f486) hZ (hw _ (List.mem_of_getElem? (i := 17) rfl)) (hw _ (List.mem_of_getElem? (i := 2) rfl)) (by decide) (by decide)) q501a q501c (g := (mkF m 155 #[.val (.long q1), .second, .val (.long q2), .second, .val (.long q3), .second, .val (.long q4), .second, .val (.int p5), .val (.long q3), .second, .val (.long q2), .second, .val (.ref b319), .val (.ref b326), .val (.int (0 : Int32)), .val (.int (2 : Int32)), .val (.ref b482)] [(.ref b482), (.ref b319)])) rfl (by rw [hml]; rfl) (Steps.refl _) (argsL := [(.ref b482)]) (rest := []) (lenOf pd1 rfl) rfl (by show 2 * 0 + _ ≤ _; exact Nat.le_of_eq rfl) (hb hby at_155) (fun _ _ => ⟨rfl, rfl, (by decide : 3 + 0 ≤ _), (by decide : 5 + 0 ≤ _)⟩)
                dsimp only [Pt.U, Pt.locs, Pt.cells, Pt.slots] at X503 l503 y503 z503 st503 hQ503
                subst l503 y503 z503
                have X503 : Stand p l e room_1 s m #[(.long q1), (.long q2), (.long q3), (.long q4), (.int p5)] below meth c T503 _ 3 5 := X503
                obtain ⟨rfl, Nq504, e505⟩ := hQ503
                have N503 := Fr.app N480 Nq504
                obtain ⟨fs, hr, hrun, hended, hW, hsame⟩ := X503.leave (v := some (.int (1 : Int32))) (fun h => by rw [hret] at h; cases h)
                refine ⟨_, _, pre481 _ ?_, hrun, hended, _, _, rfl, ?_, ⟨_, rfl⟩, hW, hsame.mono (by decide) (by decide)⟩
                ·
                  show Steps p.tables e below (T327.setTop (mkF m 146 #[.val (.long q1), .second, .val (.long q2), .second, .val (.long q3), .second, .val (.long q4), .second, .val (.int p5), .val (.long q3), .second, .val (.long q2), .second, .val (.ref b319), .val (.ref b326), .val (.int (0 : Int32)), .val (.int (2 : Int32)), .unset] [(.long q1)])) _
                  refine st480 _ ?_
                  show Steps p.tables e below (T480.setTop (mkF m 149 #[.val (.long q1), .second, .val (.long q2), .second, .val (.long q3), .second, .val (.long q4), .second, .val (.int p5), .val (.long q3), .second, .val (.long q2), .second, .val (.ref b319), .val (.ref b326), .val (.int (0 : Int32)), .val (.int (2 : Int32)), .unset] [(.ref b482)])) _
                  refine XS.astore X480.here hx rfl (hb hby at_149) rfl rfl (l' := #[.val (.long q1), .second, .val (.long q2), .second, .val (.long q3), .second, .val (.long q4), .second, .val (.int p5), .val (.long q3), .second, .val (.long q2), .second, .val (.ref b319), .val (.ref b326), .val (.int (0 : Int32)), .val (.int (2 : Int32)), .val (.ref b482)]) rfl ?_
                  show Steps p.tables e below (T480.setTop (mkF m 151 #[.val (.long q1), .second, .val (.long q2), .second, .val (.long q3), .second, .val (.long q4), .second, .val (.int p5), .val (.long q3), .second, .val (.long q2), .second, .val (.ref b319), .val (.ref b326), .val (.int (0 : Int32)), .val (.int (2 : Int32)), .val (.ref b482)] [])) _
                  refine XS.aload X480.here hx rfl (hb hby at_151) rfl rfl ?_
                  show Steps p.tables e below (T480.setTop (mkF m 153 #[.val (.long q1), .second, .val (.long q2), .second, .val (.long q3), .second, .val (.long q4), .second, .val (.int p5), .val (.long q3), .second, .val (.long q2), .second, .val (.ref b319), .val (.ref b326), .val (.int (0 : Int32)), .val (.int (2 : Int32)), .val (.ref b482)] [(.ref b319)])) _
                  refine XS.aload X480.here hx rfl (hb hby at_153) rfl rfl ?_
                  show Steps p.tables e below (T480.setTop (mkF m 155 #[.val (.long q1), .second, .val (.long q2), .second, .val (.long q3), .second, .val (.long q4), .second, .val (.int p5), .val (.long q3), .second, .val (.long q2), .second, .val (.ref b319), .val (.ref b326), .val (.int (0 : Int32)), .val (.int (2 : Int32)), .val (.ref b482)] [(.ref b482), (.ref b319)])) _
                  refine st503.trans ?_
                  show Steps p.tables e below (T503.setTop (mkF m 158 #[.val (.long q1), .second, .val (.long q2), .second, .val (.long q3), .second, .val (.long q4), .second, .val (.int p5), .val (.long q3), .second, .val (.long q2), .second, .val (.ref b319), .val (.ref b326), .val (.int (0 : Int32)), .val (.int (2 : Int32)), .val (.ref b482)] [(.int (0 : Int32))])) _
                  refine XS.ifNo X503.here hx rfl (hb hby at_158) rfl ((if0 _ _).trans (teq (by decide : (0 : Int32) = (0 : Int32))).2) ?_
                  show Steps p.tables e below (T503.setTop (mkF m 161 #[.val (.long q1), .second, .val (.long q2), .second, .val (.long q3), .second, .val (.long q4), .second, .val (.int p5), .val (.long q3), .second, .val (.long q2), .second, .val (.ref b319), .val (.ref b326), .val (.int (0 : Int32)), .val (.int (2 : Int32)), .val (.ref b482)] [])) _
                  refine XS.iconst X503.here hx rfl (hb hby at_161) ?_
                  show Steps p.tables e below (T503.setTop (mkF m 162 #[.val (.long q1), .second, .val (.long q2), .second, .val (.long q3), .second, .val (.long q4), .second, .val (.int p5), .val (.long q3), .second, .val (.long q2), .second, .val (.ref b319), .val (.ref b326), .val (.int (0 : Int32)), .val (.int (2 : Int32)), .val (.ref b482)] [(.int (1 : Int32))])) _
                  refine XS.goto X503.here hx rfl (pc0 := 162) (pc' := 166) rfl (hb hby at_162) (by decide) (by decide) ?_
                  show Steps p.tables e below (T503.setTop (mkF m 166 #[.val (.long q1), .second, .val (.long q2), .second, .val (.long q3), .second, .val (.long q4), .second, .val (.int p5), .val (.long q3), .second, .val (.long q2), .second, .val (.ref b319), .val (.ref b326), .val (.int (0 : Int32)), .val (.int (2 : Int32)), .val (.ref b482)] [(.int (1 : Int32))])) _
                  exact retN X503 hx (t := .boolean) hret (by simp) (hb hby at_166) hr
                ·
                  show Q0 n0 _ T503.heap _
                  rw [e505]
                  exact ⟨rfl, N503⟩
              ·
                have N480 := Fr.app N327 Nq491
                have g_b488 : n0 ≤ b488 := Nat.le_trans (own_oz O327) sz_b488
                have M480 : h0.size ≤ T480.heap.size := Nat.le_trans M327 K492.1
                have O480 := Old.keep O327 K492 all0
                have f507 := (((f323.ext E326).keep K329).keep K492)
                obtain ⟨cq506, kq506, q506a, q506b, q506c⟩ := isOf hZ rfl f507
                obtain ⟨_, _, ⟨T508, L508, c508, n508⟩, -, X508, ⟨Lc508, hQ508, l508, y508, z508⟩, st508⟩ := X480.virtualBack hx (y := (⟨"com/example/sablegrid/sablegrid/model/WriteOutcome", "equals", "(Ljava/lang/Object;)Z"⟩ : MethodName)) (z := (⟨"com/example/sablegrid/sablegrid/model/WriteOutcome", "equals", "(Ljava/lang/Object;)Z"⟩ : MethodName)) hown (mvT hZ (hw _ (List.mem_of_getElem? (i := 13) rfl))) (mvT hZ (hw _ (List.mem_of_getElem? (i := 14) rfl))) (notFace_of_selects (args := #[]) (mvT hZ (hw _ (List.mem_of_getElem? (i := 16) rfl)))) (mvT hZ (hw _ (List.mem_of_getElem? (i := 16) rfl))) (mvT hZ (hw _ (List.mem_of_getElem? (i := 15) rfl))) (by decide) (backOf (W := 0) (rm7 l Z a0 hw [] b319 b488 T480.heap n0 O480 g_b319 g_b488 f493) hZ (hw _ (List.mem_of_getElem? (i := 17) rfl)) (hw _ (List.mem_of_getElem? (i := 2) rfl)) (by decide) (by decide)) q506a q506c (g := (mkF m 155 #[.val (.long q1), .second, .val (.long q2), .second, .val (.long q3), .second, .val (.long q4), .second, .val (.int p5), .val (.long q3), .second, .val (.long q2), .second, .val (.ref b319), .val (.ref b326), .val (.int (0 : Int32)), .val (.int (2 : Int32)), .val (.ref b488)] [(.ref b488), (.ref b319)])) rfl (by rw [hml]; rfl) (Steps.refl _) (argsL := [(.ref b488)]) (rest := []) (lenOf pd1 rfl) rfl (by show 2 * 0 + _ ≤ _; exact Nat.le_of_eq rfl) (hb hby at_155) (fun _ _ => ⟨rfl, rfl, (by decide : 3 + 0 ≤ _), (by decide : 5 + 0 ≤ _)⟩)
                dsimp only [Pt.U, Pt.locs, Pt.cells, Pt.slots] at X508 l508 y508 z508 st508 hQ508
                subst l508 y508 z508
                have X508 : Stand p l e room_1 s m #[(.long q1), (.long q2), (.long q3), (.long q4), (.int p5)] below meth c T508 _ 3 5 := X508
                obtain ⟨rfl, Nq509, e510⟩ := hQ508
                have N508 := Fr.app N480 Nq509
                obtain ⟨fs, hr, hrun, hended, hW, hsame⟩ := X508.leave (v := some (.int (1 : Int32))) (fun h => by rw [hret] at h; cases h)
                refine ⟨_, _, pre481 _ ?_, hrun, hended, _, _, rfl, ?_, ⟨_, rfl⟩, hW, hsame.mono (by decide) (by decide)⟩
                ·
                  show Steps p.tables e below (T327.setTop (mkF m 146 #[.val (.long q1), .second, .val (.long q2), .second, .val (.long q3), .second, .val (.long q4), .second, .val (.int p5), .val (.long q3), .second, .val (.long q2), .second, .val (.ref b319), .val (.ref b326), .val (.int (0 : Int32)), .val (.int (2 : Int32)), .unset] [(.long q1)])) _
                  refine st480 _ ?_
                  show Steps p.tables e below (T480.setTop (mkF m 149 #[.val (.long q1), .second, .val (.long q2), .second, .val (.long q3), .second, .val (.long q4), .second, .val (.int p5), .val (.long q3), .second, .val (.long q2), .second, .val (.ref b319), .val (.ref b326), .val (.int (0 : Int32)), .val (.int (2 : Int32)), .unset] [(.ref b488)])) _
                  refine XS.astore X480.here hx rfl (hb hby at_149) rfl rfl (l' := #[.val (.long q1), .second, .val (.long q2), .second, .val (.long q3), .second, .val (.long q4), .second, .val (.int p5), .val (.long q3), .second, .val (.long q2), .second, .val (.ref b319), .val (.ref b326), .val (.int (0 : Int32)), .val (.int (2 : Int32)), .val (.ref b488)]) rfl ?_
                  show Steps p.tables e below (T480.setTop (mkF m 151 #[.val (.long q1), .second, .val (.long q2), .second, .val (.long q3), .second, .val (.long q4), .second, .val (.int p5), .val (.long q3), .second, .val (.long q2), .second, .val (.ref b319), .val (.ref b326), .val (.int (0 : Int32)), .val (.int (2 : Int32)), .val (.ref b488)] [])) _
                  refine XS.aload X480.here hx rfl (hb hby at_151) rfl rfl ?_
                  show Steps p.tables e below (T480.setTop (mkF m 153 #[.val (.long q1), .second, .val (.long q2), .second, .val (.long q3), .second, .val (.long q4), .second, .val (.int p5), .val (.long q3), .second, .val (.long q2), .second, .val (.ref b319), .val (.ref b326), .val (.int (0 : Int32)), .val (.int (2 : Int32)), .val (.ref b488)] [(.ref b319)])) _
                  refine XS.aload X480.here hx rfl (hb hby at_153) rfl rfl ?_
                  show Steps p.tables e below (T480.setTop (mkF m 155 #[.val (.long q1), .second, .val (.long q2), .second, .val (.long q3), .second, .val (.long q4), .second, .val (.int p5), .val (.long q3), .second, .val (.long q2), .second, .val (.ref b319), .val (.ref b326), .val (.int (0 : Int32)), .val (.int (2 : Int32)), .val (.ref b488)] [(.ref b488), (.ref b319)])) _
                  refine st508.trans ?_
                  show Steps p.tables e below (T508.setTop (mkF m 158 #[.val (.long q1), .second, .val (.long q2), .second, .val (.long q3), .second, .val (.long q4), .second, .val (.int p5), .val (.long q3), .second, .val (.long q2), .second, .val (.ref b319), .val (.ref b326), .val (.int (0 : Int32)), .val (.int (2 : Int32)), .val (.ref b488)] [(.int (0 : Int32))])) _
                  refine XS.ifNo X508.here hx rfl (hb hby at_158) rfl ((if0 _ _).trans (teq (by decide : (0 : Int32) = (0 : Int32))).2) ?_
                  show Steps p.tables e below (T508.setTop (mkF m 161 #[.val (.long q1), .second, .val (.long q2), .second, .val (.long q3), .second, .val (.long q4), .second, .val (.int p5), .val (.long q3), .second, .val (.long q2), .second, .val (.ref b319), .val (.ref b326), .val (.int (0 : Int32)), .val (.int (2 : Int32)), .val (.ref b488)] [])) _
                  refine XS.iconst X508.here hx rfl (hb hby at_161) ?_
                  show Steps p.tables e below (T508.setTop (mkF m 162 #[.val (.long q1), .second, .val (.long q2), .second, .val (.long q3), .second, .val (.long q4), .second, .val (.int p5), .val (.long q3), .second, .val (.long q2), .second, .val (.ref b319), .val (.ref b326), .val (.int (0 : Int32)), .val (.int (2 : Int32)), .val (.ref b488)] [(.int (1 : Int32))])) _
                  refine XS.goto X508.here hx rfl (pc0 := 162) (pc' := 166) rfl (hb hby at_162) (by decide) (by decide) ?_
                  show Steps p.tables e below (T508.setTop (mkF m 166 #[.val (.long q1), .second, .val (.long q2), .second, .val (.long q3), .second, .val (.long q4), .second, .val (.int p5), .val (.long q3), .second, .val (.long q2), .second, .val (.ref b319), .val (.ref b326), .val (.int (0 : Int32)), .val (.int (2 : Int32)), .val (.ref b488)] [(.int (1 : Int32))])) _
                  exact retN X508 hx (t := .boolean) hret (by simp) (hb hby at_166) hr
                ·
                  show Q0 n0 _ T508.heap _
                  rw [e510]
                  exact ⟨rfl, N508⟩
              ·
                have N480 := Fr.app N327 Nq498
                have f512 := ((f323.ext E326).keep K329)
                obtain ⟨cq511, kq511, q511a, q511b, q511c⟩ := isOf hZ e499 f512
                obtain ⟨_, _, ⟨T513, L513, c513, n513⟩, -, X513, ⟨Lc513, hQ513, l513, y513, z513⟩, st513⟩ := X480.virtualBack hx (y := (⟨"com/example/sablegrid/sablegrid/model/WriteOutcome", "equals", "(Ljava/lang/Object;)Z"⟩ : MethodName)) (z := (⟨"com/example/sablegrid/sablegrid/model/WriteOutcome", "equals", "(Ljava/lang/Object;)Z"⟩ : MethodName)) hown (mvT hZ (hw _ (List.mem_of_getElem? (i := 13) rfl))) (mvT hZ (hw _ (List.mem_of_getElem? (i := 14) rfl))) (notFace_of_selects (args := #[]) (mvT hZ (hw _ (List.mem_of_getElem? (i := 16) rfl)))) (mvT hZ (hw _ (List.mem_of_getElem? (i := 16) rfl))) (mvT hZ (hw _ (List.mem_of_getElem? (i := 15) rfl))) (by decide) (backOf (W := 0) (rm8 l Z a0 hw [] b319 v495 T327.heap n0 O327 g_b319 f500) hZ (hw _ (List.mem_of_getElem? (i := 17) rfl)) (hw _ (List.mem_of_getElem? (i := 2) rfl)) (by decide) (by decide)) q511a q511c (g := (mkF m 155 #[.val (.long q1), .second, .val (.long q2), .second, .val (.long q3), .second, .val (.long q4), .second, .val (.int p5), .val (.long q3), .second, .val (.long q2), .second, .val (.ref b319), .val (.ref b326), .val (.int (0 : Int32)), .val (.int (2 : Int32)), .val (.ref v495)] [(.ref v495), (.ref b319)])) rfl (by rw [hml]; rfl) (Steps.refl _) (argsL := [(.ref v495)]) (rest := []) (lenOf pd1 rfl) rfl (by show 2 * 0 + _ ≤ _; exact Nat.le_of_eq rfl) (hb hby at_155) (fun _ _ => ⟨rfl, e499, (by decide : 3 + 0 ≤ _), (by decide : 5 + 0 ≤ _)⟩)
                dsimp only [Pt.U, Pt.locs, Pt.cells, Pt.slots] at X513 l513 y513 z513 st513 hQ513
                subst l513 y513 z513
                have X513 : Stand p l e room_1 s m #[(.long q1), (.long q2), (.long q3), (.long q4), (.int p5)] below meth c T513 _ 3 5 := X513
                obtain ⟨rfl, Nq514, e515⟩ := hQ513
                have N513 := Fr.app N480 Nq514
                obtain ⟨fs, hr, hrun, hended, hW, hsame⟩ := X513.leave (v := some (.int (1 : Int32))) (fun h => by rw [hret] at h; cases h)
                refine ⟨_, _, pre481 _ ?_, hrun, hended, _, _, rfl, ?_, ⟨_, rfl⟩, hW, hsame.mono (by decide) (by decide)⟩
                ·
                  show Steps p.tables e below (T327.setTop (mkF m 146 #[.val (.long q1), .second, .val (.long q2), .second, .val (.long q3), .second, .val (.long q4), .second, .val (.int p5), .val (.long q3), .second, .val (.long q2), .second, .val (.ref b319), .val (.ref b326), .val (.int (0 : Int32)), .val (.int (2 : Int32)), .unset] [(.long q1)])) _
                  refine st480 _ ?_
                  show Steps p.tables e below (T480.setTop (mkF m 149 #[.val (.long q1), .second, .val (.long q2), .second, .val (.long q3), .second, .val (.long q4), .second, .val (.int p5), .val (.long q3), .second, .val (.long q2), .second, .val (.ref b319), .val (.ref b326), .val (.int (0 : Int32)), .val (.int (2 : Int32)), .unset] [(.ref v495)])) _
                  refine XS.astore X480.here hx rfl (hb hby at_149) rfl rfl (l' := #[.val (.long q1), .second, .val (.long q2), .second, .val (.long q3), .second, .val (.long q4), .second, .val (.int p5), .val (.long q3), .second, .val (.long q2), .second, .val (.ref b319), .val (.ref b326), .val (.int (0 : Int32)), .val (.int (2 : Int32)), .val (.ref v495)]) rfl ?_
                  show Steps p.tables e below (T480.setTop (mkF m 151 #[.val (.long q1), .second, .val (.long q2), .second, .val (.long q3), .second, .val (.long q4), .second, .val (.int p5), .val (.long q3), .second, .val (.long q2), .second, .val (.ref b319), .val (.ref b326), .val (.int (0 : Int32)), .val (.int (2 : Int32)), .val (.ref v495)] [])) _
                  refine XS.aload X480.here hx rfl (hb hby at_151) rfl rfl ?_
                  show Steps p.tables e below (T480.setTop (mkF m 153 #[.val (.long q1), .second, .val (.long q2), .second, .val (.long q3), .second, .val (.long q4), .second, .val (.int p5), .val (.long q3), .second, .val (.long q2), .second, .val (.ref b319), .val (.ref b326), .val (.int (0 : Int32)), .val (.int (2 : Int32)), .val (.ref v495)] [(.ref b319)])) _
                  refine XS.aload X480.here hx rfl (hb hby at_153) rfl rfl ?_
                  show Steps p.tables e below (T480.setTop (mkF m 155 #[.val (.long q1), .second, .val (.long q2), .second, .val (.long q3), .second, .val (.long q4), .second, .val (.int p5), .val (.long q3), .second, .val (.long q2), .second, .val (.ref b319), .val (.ref b326), .val (.int (0 : Int32)), .val (.int (2 : Int32)), .val (.ref v495)] [(.ref v495), (.ref b319)])) _
                  refine st513.trans ?_
                  show Steps p.tables e below (T513.setTop (mkF m 158 #[.val (.long q1), .second, .val (.long q2), .second, .val (.long q3), .second, .val (.long q4), .second, .val (.int p5), .val (.long q3), .second, .val (.long q2), .second, .val (.ref b319), .val (.ref b326), .val (.int (0 : Int32)), .val (.int (2 : Int32)), .val (.ref v495)] [(.int (0 : Int32))])) _
                  refine XS.ifNo X513.here hx rfl (hb hby at_158) rfl ((if0 _ _).trans (teq (by decide : (0 : Int32) = (0 : Int32))).2) ?_
                  show Steps p.tables e below (T513.setTop (mkF m 161 #[.val (.long q1), .second, .val (.long q2), .second, .val (.long q3), .second, .val (.long q4), .second, .val (.int p5), .val (.long q3), .second, .val (.long q2), .second, .val (.ref b319), .val (.ref b326), .val (.int (0 : Int32)), .val (.int (2 : Int32)), .val (.ref v495)] [])) _
                  refine XS.iconst X513.here hx rfl (hb hby at_161) ?_
                  show Steps p.tables e below (T513.setTop (mkF m 162 #[.val (.long q1), .second, .val (.long q2), .second, .val (.long q3), .second, .val (.long q4), .second, .val (.int p5), .val (.long q3), .second, .val (.long q2), .second, .val (.ref b319), .val (.ref b326), .val (.int (0 : Int32)), .val (.int (2 : Int32)), .val (.ref v495)] [(.int (1 : Int32))])) _
                  refine XS.goto X513.here hx rfl (pc0 := 162) (pc' := 166) rfl (hb hby at_162) (by decide) (by decide) ?_
                  show Steps p.tables e below (T513.setTop (mkF m 166 #[.val (.long q1), .second, .val (.long q2), .second, .val (.long q3), .second, .val (.long q4), .second, .val (.int p5), .val (.long q3), .second, .val (.long q2), .second, .val (.ref b319), .val (.ref b326), .val (.int (0 : Int32)), .val (.int (2 : Int32)), .val (.ref v495)] [(.int (1 : Int32))])) _
                  exact retN X513 hx (t := .boolean) hret (by simp) (hb hby at_166) hr
                ·
                  show Q0 n0 _ T513.heap _
                  rw [e515]
                  exact ⟨rfl, N513⟩
            ·
              have hq516 : (((p5.toUInt32 >>> ((2 : Int32) &&& 31).toUInt32).toInt32) &&& (3 : Int32)) = (3 : Int32) := (own_geq (n := 3) (k := (3 : Int32)) (by decide) (by have q0 := own_and (x := ((p5.toUInt32 >>> ((2 : Int32) &&& 31).toUInt32).toInt32)) (k := (3 : Int32)) (n := 3) (by decide) (by decide); have q1 := own_neq (n := 0) (k := (0 : Int32)) (by decide) hc434; have q2 := own_neq (n := 1) (k := (1 : Int32)) (by decide) hc470; have q3 := own_neq (n := 2) (k := (2 : Int32)) (by decide) hc478; omega))
              have pre517 : ∀ t, Steps p.tables e below (T327.setTop (mkF m 142 #[.val (.long q1), .second, .val (.long q2), .second, .val (.long q3), .second, .val (.long q4), .second, .val (.int p5), .val (.long q3), .second, .val (.long q2), .second, .val (.ref b319), .val (.ref b326), .val (.int (0 : Int32)), .val (.int (3 : Int32)), .unset] [(.int (2 : Int32)), (.int (3 : Int32))])) t → Steps p.tables e below (s₁.setTop (entryFrame m #[(.long q1), (.long q2), (.long q3), (.long q4), (.int p5)] maxLocals)) t := fun t k => pre477 t (by rw [hq516]; exact k)
              have f518 := ((f323.ext E326).keep K329)
              have lt519 : b319 < T320.heap.size := (Nat.lt_of_lt_of_le A319.lt K322.1)
              have ne520 : b319 ≠ b326 := Nat.ne_of_lt (Nat.lt_of_lt_of_le lt519 sz_b326)
              have f521 := ((f324.ext E326).keep K329 (ninS ne520 nin0))
              have f522 := ((f325.ext E326).keep K329 (ninS ne520 nin0))
              obtain ⟨cq523, kq523, q523a, q523b, q523c⟩ := isOf hZ rfl f518
              obtain ⟨_, _, ⟨T524, L524, c524, n524⟩, -, X524, ⟨Lc524, hQ524, l524, y524, z524⟩, st524⟩ := X327.virtualBack hx (y := (⟨"com/example/sablegrid/sablegrid/model/WriteOutcome", "equals", "(Ljava/lang/Object;)Z"⟩ : MethodName)) (z := (⟨"com/example/sablegrid/sablegrid/model/WriteOutcome", "equals", "(Ljava/lang/Object;)Z"⟩ : MethodName)) hown (mvT hZ (hw _ (List.mem_of_getElem? (i := 13) rfl))) (mvT hZ (hw _ (List.mem_of_getElem? (i := 14) rfl))) (notFace_of_selects (args := #[]) (mvT hZ (hw _ (List.mem_of_getElem? (i := 16) rfl)))) (mvT hZ (hw _ (List.mem_of_getElem? (i := 16) rfl))) (mvT hZ (hw _ (List.mem_of_getElem? (i := 15) rfl))) (by decide) (backOf (W := 0) (rm9 l Z a0 hw [] b319 q1 q2 T327.heap n0 O327 g_b319 f518 f521 f522) hZ (hw _ (List.mem_of_getElem? (i := 17) rfl)) (hw _ (List.mem_of_getElem? (i := 2) rfl)) (by decide) (by decide)) q523a q523c (g := (mkF m 171 #[.val (.long q1), .second, .val (.long q2), .second, .val (.long q3), .second, .val (.long q4), .second, .val (.int p5), .val (.long q3), .second, .val (.long q2), .second, .val (.ref b319), .val (.ref b326), .val (.int (0 : Int32)), .val (.int (3 : Int32)), .unset] [(.ref b319), (.ref b319)])) rfl (by rw [hml]; rfl) (Steps.refl _) (argsL := [(.ref b319)]) (rest := []) (lenOf pd1 rfl) rfl (by show 2 * 0 + _ ≤ _; exact Nat.le_of_eq rfl) (hb hby at_171) (fun _ _ => ⟨rfl, rfl, (by decide : 2 + 0 ≤ _), (by decide : 4 + 0 ≤ _)⟩)
              dsimp only [Pt.U, Pt.locs, Pt.cells, Pt.slots] at X524 l524 y524 z524 st524 hQ524
              subst l524 y524 z524
              have X524 : Stand p l e room_1 s m #[(.long q1), (.long q2), (.long q3), (.long q4), (.int p5)] below meth c T524 _ 2 4 := X524
              obtain ⟨rfl, Nq525, e526⟩ := hQ524
              have N524 := Fr.app N327 Nq525
              obtain ⟨cq527, kq527, q527a, q527b, q527c⟩ := isOf hZ e526 f330
              obtain ⟨_, _, ⟨T528, L528, c528, n528⟩, -, X528, ⟨Lc528, hQ528, l528, y528, z528⟩, st528⟩ := X524.virtualBack hx (y := (⟨"com/example/sablegrid/sablegrid/model/WriteOutcome", "equals", "(Ljava/lang/Object;)Z"⟩ : MethodName)) (z := (⟨"com/example/sablegrid/sablegrid/model/WriteOutcome", "equals", "(Ljava/lang/Object;)Z"⟩ : MethodName)) hown (mvT hZ (hw _ (List.mem_of_getElem? (i := 13) rfl))) (mvT hZ (hw _ (List.mem_of_getElem? (i := 14) rfl))) (notFace_of_selects (args := #[]) (mvT hZ (hw _ (List.mem_of_getElem? (i := 16) rfl)))) (mvT hZ (hw _ (List.mem_of_getElem? (i := 16) rfl))) (mvT hZ (hw _ (List.mem_of_getElem? (i := 15) rfl))) (by decide) (backOf (W := 0) (rm9 l Z a0 hw [] b326 q3 q2 T327.heap n0 O327 g_b326 f330 f331 f332) hZ (hw _ (List.mem_of_getElem? (i := 17) rfl)) (hw _ (List.mem_of_getElem? (i := 2) rfl)) (by decide) (by decide)) q527a q527c (g := (mkF m 181 #[.val (.long q1), .second, .val (.long q2), .second, .val (.long q3), .second, .val (.long q4), .second, .val (.int p5), .val (.long q3), .second, .val (.long q2), .second, .val (.ref b319), .val (.ref b326), .val (.int (0 : Int32)), .val (.int (3 : Int32)), .unset] [(.ref b326), (.ref b326)])) rfl (by rw [hml]; rfl) (Steps.refl _) (argsL := [(.ref b326)]) (rest := []) (lenOf pd1 rfl) rfl (by show 2 * 0 + _ ≤ _; exact Nat.le_of_eq rfl) (hb hby at_181) (fun _ _ => ⟨rfl, e526, (by decide : 2 + 0 ≤ _), (by decide : 4 + 0 ≤ _)⟩)
              dsimp only [Pt.U, Pt.locs, Pt.cells, Pt.slots] at X528 l528 y528 z528 st528 hQ528
              subst l528 y528 z528
              have X528 : Stand p l e room_1 s m #[(.long q1), (.long q2), (.long q3), (.long q4), (.int p5)] below meth c T528 _ 2 4 := X528
              obtain ⟨rfl, Nq529, e530⟩ := hQ528
              have N528 := Fr.app N524 Nq529
              obtain ⟨fs, hr, hrun, hended, hW, hsame⟩ := X528.leave (v := some (.int (1 : Int32))) (fun h => by rw [hret] at h; cases h)
              refine ⟨_, _, pre517 _ ?_, hrun, hended, _, _, rfl, ?_, ⟨_, rfl⟩, hW, hsame.mono (by decide) (by decide)⟩
              ·
                show Steps p.tables e below (T327.setTop (mkF m 142 #[.val (.long q1), .second, .val (.long q2), .second, .val (.long q3), .second, .val (.long q4), .second, .val (.int p5), .val (.long q3), .second, .val (.long q2), .second, .val (.ref b319), .val (.ref b326), .val (.int (0 : Int32)), .val (.int (3 : Int32)), .unset] [(.int (2 : Int32)), (.int (3 : Int32))])) _
                refine XS.icmpYes X327.here hx rfl (pc0 := 142) (pc' := 167) rfl (hb hby at_142) rfl (feq (by decide : ¬ ((3 : Int32) = (2 : Int32)))).2 (by decide) (by decide) ?_
                show Steps p.tables e below (T327.setTop (mkF m 167 #[.val (.long q1), .second, .val (.long q2), .second, .val (.long q3), .second, .val (.long q4), .second, .val (.int p5), .val (.long q3), .second, .val (.long q2), .second, .val (.ref b319), .val (.ref b326), .val (.int (0 : Int32)), .val (.int (3 : Int32)), .unset] [])) _
                refine XS.aload X327.here hx rfl (hb hby at_167) rfl rfl ?_
                show Steps p.tables e below (T327.setTop (mkF m 169 #[.val (.long q1), .second, .val (.long q2), .second, .val (.long q3), .second, .val (.long q4), .second, .val (.int p5), .val (.long q3), .second, .val (.long q2), .second, .val (.ref b319), .val (.ref b326), .val (.int (0 : Int32)), .val (.int (3 : Int32)), .unset] [(.ref b319)])) _
                refine XS.aload X327.here hx rfl (hb hby at_169) rfl rfl ?_
                show Steps p.tables e below (T327.setTop (mkF m 171 #[.val (.long q1), .second, .val (.long q2), .second, .val (.long q3), .second, .val (.long q4), .second, .val (.int p5), .val (.long q3), .second, .val (.long q2), .second, .val (.ref b319), .val (.ref b326), .val (.int (0 : Int32)), .val (.int (3 : Int32)), .unset] [(.ref b319), (.ref b319)])) _
                refine st524.trans ?_
                show Steps p.tables e below (T524.setTop (mkF m 174 #[.val (.long q1), .second, .val (.long q2), .second, .val (.long q3), .second, .val (.long q4), .second, .val (.int p5), .val (.long q3), .second, .val (.long q2), .second, .val (.ref b319), .val (.ref b326), .val (.int (0 : Int32)), .val (.int (3 : Int32)), .unset] [(.int (1 : Int32))])) _
                refine XS.ifNo X524.here hx rfl (hb hby at_174) rfl ((if0 _ _).trans (feq (by decide : ¬ ((1 : Int32) = (0 : Int32)))).1) ?_
                show Steps p.tables e below (T524.setTop (mkF m 177 #[.val (.long q1), .second, .val (.long q2), .second, .val (.long q3), .second, .val (.long q4), .second, .val (.int p5), .val (.long q3), .second, .val (.long q2), .second, .val (.ref b319), .val (.ref b326), .val (.int (0 : Int32)), .val (.int (3 : Int32)), .unset] [])) _
                refine XS.aload X524.here hx rfl (hb hby at_177) rfl rfl ?_
                show Steps p.tables e below (T524.setTop (mkF m 179 #[.val (.long q1), .second, .val (.long q2), .second, .val (.long q3), .second, .val (.long q4), .second, .val (.int p5), .val (.long q3), .second, .val (.long q2), .second, .val (.ref b319), .val (.ref b326), .val (.int (0 : Int32)), .val (.int (3 : Int32)), .unset] [(.ref b326)])) _
                refine XS.aload X524.here hx rfl (hb hby at_179) rfl rfl ?_
                show Steps p.tables e below (T524.setTop (mkF m 181 #[.val (.long q1), .second, .val (.long q2), .second, .val (.long q3), .second, .val (.long q4), .second, .val (.int p5), .val (.long q3), .second, .val (.long q2), .second, .val (.ref b319), .val (.ref b326), .val (.int (0 : Int32)), .val (.int (3 : Int32)), .unset] [(.ref b326), (.ref b326)])) _
                refine st528.trans ?_
                show Steps p.tables e below (T528.setTop (mkF m 184 #[.val (.long q1), .second, .val (.long q2), .second, .val (.long q3), .second, .val (.long q4), .second, .val (.int p5), .val (.long q3), .second, .val (.long q2), .second, .val (.ref b319), .val (.ref b326), .val (.int (0 : Int32)), .val (.int (3 : Int32)), .unset] [(.int (1 : Int32))])) _
                refine XS.ifNo X528.here hx rfl (hb hby at_184) rfl ((if0 _ _).trans (feq (by decide : ¬ ((1 : Int32) = (0 : Int32)))).1) ?_
                show Steps p.tables e below (T528.setTop (mkF m 187 #[.val (.long q1), .second, .val (.long q2), .second, .val (.long q3), .second, .val (.long q4), .second, .val (.int p5), .val (.long q3), .second, .val (.long q2), .second, .val (.ref b319), .val (.ref b326), .val (.int (0 : Int32)), .val (.int (3 : Int32)), .unset] [])) _
                refine XS.iconst X528.here hx rfl (hb hby at_187) ?_
                show Steps p.tables e below (T528.setTop (mkF m 188 #[.val (.long q1), .second, .val (.long q2), .second, .val (.long q3), .second, .val (.long q4), .second, .val (.int p5), .val (.long q3), .second, .val (.long q2), .second, .val (.ref b319), .val (.ref b326), .val (.int (0 : Int32)), .val (.int (3 : Int32)), .unset] [(.int (1 : Int32))])) _
                refine XS.goto X528.here hx rfl (pc0 := 188) (pc' := 192) rfl (hb hby at_188) (by decide) (by decide) ?_
                show Steps p.tables e below (T528.setTop (mkF m 192 #[.val (.long q1), .second, .val (.long q2), .second, .val (.long q3), .second, .val (.long q4), .second, .val (.int p5), .val (.long q3), .second, .val (.long q2), .second, .val (.ref b319), .val (.ref b326), .val (.int (0 : Int32)), .val (.int (3 : Int32)), .unset] [(.int (1 : Int32))])) _
                exact retN X528 hx (t := .boolean) hret (by simp) (hb hby at_192) hr
              ·
                show Q0 n0 _ T528.heap _
                rw [e530]
                exact ⟨rfl, N528⟩
  ·
    have hq531 : (p5 &&& (1 : Int32)) = (1 : Int32) := (own_geq (n := 1) (k := (1 : Int32)) (by decide) (by have q0 := own_and (x := p5) (k := (1 : Int32)) (n := 1) (by decide) (by decide); have q1 := own_neq (n := 0) (k := (0 : Int32)) (by decide) hc2; omega))
    have pre532 : ∀ t, Steps p.tables e below (s₁.setTop (mkF m 4 #[.val (.long q1), .second, .val (.long q2), .second, .val (.long q3), .second, .val (.long q4), .second, .val (.int p5), .unset, .unset, .unset, .unset, .unset, .unset, .unset, .unset, .unset] [(.int (1 : Int32))])) t → Steps p.tables e below (s₁.setTop (entryFrame m #[(.long q1), (.long q2), (.long q3), (.long q4), (.int p5)] maxLocals)) t := fun t k => pre1 t (by rw [hq531]; exact k)
    have pre533 : ∀ t, Steps p.tables e below (s₁.setTop (mkF m 19 #[.val (.long q1), .second, .val (.long q2), .second, .val (.long q3), .second, .val (.long q4), .second, .val (.int p5), .val (.long q1), .second, .unset, .unset, .unset, .unset, .unset, .unset, .unset] [(.int (p5 &&& (2 : Int32)))])) t → Steps p.tables e below (s₁.setTop (entryFrame m #[(.long q1), (.long q2), (.long q3), (.long q4), (.int p5)] maxLocals)) t := fun t k => by
      refine pre532 _ ?_
      show Steps p.tables e below (s₁.setTop (mkF m 4 #[.val (.long q1), .second, .val (.long q2), .second, .val (.long q3), .second, .val (.long q4), .second, .val (.int p5), .unset, .unset, .unset, .unset, .unset, .unset, .unset, .unset, .unset] [(.int (1 : Int32))])) _
      refine XS.ifNo X0.here hx rfl (hb hby at_4) rfl ((if0 _ _).trans (feq (by decide : ¬ ((1 : Int32) = (0 : Int32)))).1) ?_
      show Steps p.tables e below (s₁.setTop (mkF m 7 #[.val (.long q1), .second, .val (.long q2), .second, .val (.long q3), .second, .val (.long q4), .second, .val (.int p5), .unset, .unset, .unset, .unset, .unset, .unset, .unset, .unset, .unset] [])) _
      refine XS.lloadN X0.here hx rfl (hb hby at_7) rfl ?_
      show Steps p.tables e below (s₁.setTop (mkF m 8 #[.val (.long q1), .second, .val (.long q2), .second, .val (.long q3), .second, .val (.long q4), .second, .val (.int p5), .unset, .unset, .unset, .unset, .unset, .unset, .unset, .unset, .unset] [(.long q1)])) _
      refine XS.goto X0.here hx rfl (pc0 := 8) (pc' := 13) rfl (hb hby at_8) (by decide) (by decide) ?_
      show Steps p.tables e below (s₁.setTop (mkF m 13 #[.val (.long q1), .second, .val (.long q2), .second, .val (.long q3), .second, .val (.long q4), .second, .val (.int p5), .unset, .unset, .unset, .unset, .unset, .unset, .unset, .unset, .unset] [(.long q1)])) _
      refine XS.lstore X0.here hx rfl (hb hby at_13) rfl (l' := #[.val (.long q1), .second, .val (.long q2), .second, .val (.long q3), .second, .val (.long q4), .second, .val (.int p5), .val (.long q1), .second, .unset, .unset, .unset, .unset, .unset, .unset, .unset]) rfl ?_
      show Steps p.tables e below (s₁.setTop (mkF m 15 #[.val (.long q1), .second, .val (.long q2), .second, .val (.long q3), .second, .val (.long q4), .second, .val (.int p5), .val (.long q1), .second, .unset, .unset, .unset, .unset, .unset, .unset, .unset] [])) _
      refine XS.iload X0.here hx rfl (hb hby at_15) rfl ?_
      show Steps p.tables e below (s₁.setTop (mkF m 17 #[.val (.long q1), .second, .val (.long q2), .second, .val (.long q3), .second, .val (.long q4), .second, .val (.int p5), .val (.long q1), .second, .unset, .unset, .unset, .unset, .unset, .unset, .unset] [(.int p5)])) _
      refine XS.iconst X0.here hx rfl (hb hby at_17) ?_
      show Steps p.tables e below (s₁.setTop (mkF m 18 #[.val (.long q1), .second, .val (.long q2), .second, .val (.long q3), .second, .val (.long q4), .second, .val (.int p5), .val (.long q1), .second, .unset, .unset, .unset, .unset, .unset, .unset, .unset] [(.int (2 : Int32)), (.int p5)])) _
      refine XS.iand X0.here hx rfl (hb hby at_18) rfl ?_
      exact k
    by_cases hc534 : (p5 &&& (2 : Int32)) = (0 : Int32)
    ·
      have pre535 : ∀ t, Steps p.tables e below (s₁.setTop (mkF m 19 #[.val (.long q1), .second, .val (.long q2), .second, .val (.long q3), .second, .val (.long q4), .second, .val (.int p5), .val (.long q1), .second, .unset, .unset, .unset, .unset, .unset, .unset, .unset] [(.int (0 : Int32))])) t → Steps p.tables e below (s₁.setTop (entryFrame m #[(.long q1), (.long q2), (.long q3), (.long q4), (.int p5)] maxLocals)) t := fun t k => pre533 t (by rw [hc534]; exact k)
      obtain ⟨T536, h536, X536, e536, E536, A536, D536, -, st536⟩ := newO X0 hx hZ hown (hw _ (List.mem_of_getElem? (i := 0) rfl)) (hw _ (List.mem_of_getElem? (i := 1) rfl)) (hw _ (List.mem_of_getElem? (i := 2) rfl)) e0 (g := (mkF m 30 #[.val (.long q1), .second, .val (.long q2), .second, .val (.long q3), .second, .val (.long q4), .second, .val (.int p5), .val (.long q1), .second, .val (.long q4), .second, .unset, .unset, .unset, .unset, .unset] [])) rfl (hb hby at_30) (by decide) (by decide)
      obtain ⟨b536, g536⟩ : ∃ z, z = h0.size := ⟨_, rfl⟩
      rw [← g536] at A536 D536 st536
      have M536 : h0.size ≤ h536.size := Nat.le_trans (Nat.le_refl _) E536.1
      have O536 := Old.ext O0 E536
      have sz_b536 : h0.size ≤ b536 := Nat.le_of_eq g536.symm
      have g_b536 : n0 ≤ b536 := Nat.le_trans (own_oz O0) (Nat.le_trans (Nat.le_refl _) sz_b536)
      have F536_10 : Fld Z h536 b536 "com/example/sablegrid/sablegrid/model/WriteOutcome" "found" "J" (.long (0 : Int64)) := D536 (Or.inr (hw _ (List.mem_of_getElem? (i := 10) rfl))) (ty := .long) (by decide)
      have F536_12 : Fld Z h536 b536 "com/example/sablegrid/sablegrid/model/WriteOutcome" "version" "J" (.long (0 : Int64)) := D536 (Or.inr (hw _ (List.mem_of_getElem? (i := 12) rfl))) (ty := .long) (by decide)
      obtain ⟨_, _, ⟨T537, L537, c537, n537⟩, -, X537, ⟨Lc537, hQ537, l537, y537, z537⟩, st537⟩ := X536.specialBack hx (y := (⟨"com/example/sablegrid/sablegrid/model/WriteOutcome", "<init>", "(JJ)V"⟩ : MethodName)) rfl hown (mvT hZ (hw _ (List.mem_of_getElem? (i := 3) rfl))) (mvT hZ (hw _ (List.mem_of_getElem? (i := 4) rfl))) (mvT hZ (hw _ (List.mem_of_getElem? (i := 5) rfl))) (by decide) (backOf (W := 1) (rm1 l Z a0 hw [] b536 q1 q2 h536 n0 O536 g_b536 A536 F536_10 F536_12) hZ (hw _ (List.mem_of_getElem? (i := 5) rfl)) (hw _ (List.mem_of_getElem? (i := 2) rfl)) (by decide) (by decide)) (g := (mkF m 36 #[.val (.long q1), .second, .val (.long q2), .second, .val (.long q3), .second, .val (.long q4), .second, .val (.int p5), .val (.long q1), .second, .val (.long q4), .second, .unset, .unset, .unset, .unset, .unset] [(.long q2), (.long q1), (.ref b536), (.ref b536)])) rfl (by rw [hml]; rfl) (Steps.refl _) (a := b536) (argsL := [(.long q1), (.long q2)]) (rest := [(.ref b536)]) (lenOf pd0 rfl) rfl (by show 2 * 0 + _ ≤ _; exact Nat.le_of_eq rfl) (hb hby at_36) (fun _ _ => ⟨rfl, e536, (by decide : 1 + 0 ≤ _), (by decide : 2 + 0 ≤ _)⟩)
      dsimp only [Pt.U, Pt.locs, Pt.cells, Pt.slots] at X537 l537 y537 z537 st537 hQ537
      subst l537 y537 z537
      have X537 : Stand p l e room_1 s m #[(.long q1), (.long q2), (.long q3), (.long q4), (.int p5)] below meth c T537 _ 1 2 := X537
      obtain ⟨rfl, Nq538, K539, f540, f541, f542⟩ := hQ537
      have N537 := Fr.app N0 Nq538
      have M537 : h0.size ≤ T537.heap.size := Nat.le_trans M536 K539.1
      have O537 := Old.keep O536 K539 (allS g_b536 all0)
      obtain ⟨T543, h543, X543, e543, E543, A543, D543, -, st543⟩ := newO X537 hx hZ hown (hw _ (List.mem_of_getElem? (i := 0) rfl)) (hw _ (List.mem_of_getElem? (i := 1) rfl)) (hw _ (List.mem_of_getElem? (i := 2) rfl)) rfl (g := (mkF m 41 #[.val (.long q1), .second, .val (.long q2), .second, .val (.long q3), .second, .val (.long q4), .second, .val (.int p5), .val (.long q1), .second, .val (.long q4), .second, .val (.ref b536), .unset, .unset, .unset, .unset] [])) rfl (hb hby at_41) (by decide) (by decide)
      obtain ⟨b543, g543⟩ : ∃ z, z = T537.heap.size := ⟨_, rfl⟩
      rw [← g543] at A543 D543 st543
      have M543 : h0.size ≤ h543.size := Nat.le_trans M537 E543.1
      have O543 := Old.ext O537 E543
      have sz_b543 : T537.heap.size ≤ b543 := Nat.le_of_eq g543.symm
      have g_b543 : n0 ≤ b543 := Nat.le_trans (own_oz O0) (Nat.le_trans M537 sz_b543)
      have F543_10 : Fld Z h543 b543 "com/example/sablegrid/sablegrid/model/WriteOutcome" "found" "J" (.long (0 : Int64)) := D543 (Or.inr (hw _ (List.mem_of_getElem? (i := 10) rfl))) (ty := .long) (by decide)
      have F543_12 : Fld Z h543 b543 "com/example/sablegrid/sablegrid/model/WriteOutcome" "version" "J" (.long (0 : Int64)) := D543 (Or.inr (hw _ (List.mem_of_getElem? (i := 12) rfl))) (ty := .long) (by decide)
      obtain ⟨_, _, ⟨T544, L544, c544, n544⟩, -, X544, ⟨Lc544, hQ544, l544, y544, z544⟩, st544⟩ := X543.specialBack hx (y := (⟨"com/example/sablegrid/sablegrid/model/WriteOutcome", "<init>", "(JJ)V"⟩ : MethodName)) rfl hown (mvT hZ (hw _ (List.mem_of_getElem? (i := 3) rfl))) (mvT hZ (hw _ (List.mem_of_getElem? (i := 4) rfl))) (mvT hZ (hw _ (List.mem_of_getElem? (i := 5) rfl))) (by decide) (backOf (W := 1) (rm1 l Z a0 hw [] b543 q1 q4 h543 n0 O543 g_b543 A543 F543_10 F543_12) hZ (hw _ (List.mem_of_getElem? (i := 5) rfl)) (hw _ (List.mem_of_getElem? (i := 2) rfl)) (by decide) (by decide)) (g := (mkF m 49 #[.val (.long q1), .second, .val (.long q2), .second, .val (.long q3), .second, .val (.long q4), .second, .val (.int p5), .val (.long q1), .second, .val (.long q4), .second, .val (.ref b536), .unset, .unset, .unset, .unset] [(.long q4), (.long q1), (.ref b543), (.ref b543)])) rfl (by rw [hml]; rfl) (Steps.refl _) (a := b543) (argsL := [(.long q1), (.long q4)]) (rest := [(.ref b543)]) (lenOf pd0 rfl) rfl (by show 2 * 0 + _ ≤ _; exact Nat.le_of_eq rfl) (hb hby at_49) (fun _ _ => ⟨rfl, e543, (by decide : 2 + 0 ≤ _), (by decide : 4 + 0 ≤ _)⟩)
      dsimp only [Pt.U, Pt.locs, Pt.cells, Pt.slots] at X544 l544 y544 z544 st544 hQ544
      subst l544 y544 z544
      have X544 : Stand p l e room_1 s m #[(.long q1), (.long q2), (.long q3), (.long q4), (.int p5)] below meth c T544 _ 2 4 := X544
      obtain ⟨rfl, Nq545, K546, f547, f548, f549⟩ := hQ544
      have N544 := Fr.app N537 Nq545
      have M544 : h0.size ≤ T544.heap.size := Nat.le_trans M543 K546.1
      have O544 := Old.keep O543 K546 (allS g_b543 all0)
      have pre550 : ∀ t, Steps p.tables e below (T544.setTop (mkF m 65 #[.val (.long q1), .second, .val (.long q2), .second, .val (.long q3), .second, .val (.long q4), .second, .val (.int p5), .val (.long q1), .second, .val (.long q4), .second, .val (.ref b536), .val (.ref b543), .unset, .unset, .unset] [(.int (lcmpW q2 q4))])) t → Steps p.tables e below (s₁.setTop (entryFrame m #[(.long q1), (.long q2), (.long q3), (.long q4), (.int p5)] maxLocals)) t := fun t k => by
        refine pre535 _ ?_
        show Steps p.tables e below (s₁.setTop (mkF m 19 #[.val (.long q1), .second, .val (.long q2), .second, .val (.long q3), .second, .val (.long q4), .second, .val (.int p5), .val (.long q1), .second, .unset, .unset, .unset, .unset, .unset, .unset, .unset] [(.int (0 : Int32))])) _
        refine XS.ifYes X0.here hx rfl (pc0 := 19) (pc' := 26) rfl (hb hby at_19) rfl ((if0 _ _).trans (teq (by decide : (0 : Int32) = (0 : Int32))).1) (by decide) (by decide) ?_
        show Steps p.tables e below (s₁.setTop (mkF m 26 #[.val (.long q1), .second, .val (.long q2), .second, .val (.long q3), .second, .val (.long q4), .second, .val (.int p5), .val (.long q1), .second, .unset, .unset, .unset, .unset, .unset, .unset, .unset] [])) _
        refine XS.lload X0.here hx rfl (hb hby at_26) rfl ?_
        show Steps p.tables e below (s₁.setTop (mkF m 28 #[.val (.long q1), .second, .val (.long q2), .second, .val (.long q3), .second, .val (.long q4), .second, .val (.int p5), .val (.long q1), .second, .unset, .unset, .unset, .unset, .unset, .unset, .unset] [(.long q4)])) _
        refine XS.lstore X0.here hx rfl (hb hby at_28) rfl (l' := #[.val (.long q1), .second, .val (.long q2), .second, .val (.long q3), .second, .val (.long q4), .second, .val (.int p5), .val (.long q1), .second, .val (.long q4), .second, .unset, .unset, .unset, .unset, .unset]) rfl ?_
        show Steps p.tables e below (s₁.setTop (mkF m 30 #[.val (.long q1), .second, .val (.long q2), .second, .val (.long q3), .second, .val (.long q4), .second, .val (.int p5), .val (.long q1), .second, .val (.long q4), .second, .unset, .unset, .unset, .unset, .unset] [])) _
        refine st536 _ ?_
        show Steps p.tables e below (T536.setTop (mkF m 33 #[.val (.long q1), .second, .val (.long q2), .second, .val (.long q3), .second, .val (.long q4), .second, .val (.int p5), .val (.long q1), .second, .val (.long q4), .second, .unset, .unset, .unset, .unset, .unset] [(.ref b536)])) _
        refine XS.dup X536.here hx rfl (hb hby at_33) rfl rfl ?_
        show Steps p.tables e below (T536.setTop (mkF m 34 #[.val (.long q1), .second, .val (.long q2), .second, .val (.long q3), .second, .val (.long q4), .second, .val (.int p5), .val (.long q1), .second, .val (.long q4), .second, .unset, .unset, .unset, .unset, .unset] [(.ref b536), (.ref b536)])) _
        refine XS.lloadN X536.here hx rfl (hb hby at_34) rfl ?_
        show Steps p.tables e below (T536.setTop (mkF m 35 #[.val (.long q1), .second, .val (.long q2), .second, .val (.long q3), .second, .val (.long q4), .second, .val (.int p5), .val (.long q1), .second, .val (.long q4), .second, .unset, .unset, .unset, .unset, .unset] [(.long q1), (.ref b536), (.ref b536)])) _
        refine XS.lloadN X536.here hx rfl (hb hby at_35) rfl ?_
        show Steps p.tables e below (T536.setTop (mkF m 36 #[.val (.long q1), .second, .val (.long q2), .second, .val (.long q3), .second, .val (.long q4), .second, .val (.int p5), .val (.long q1), .second, .val (.long q4), .second, .unset, .unset, .unset, .unset, .unset] [(.long q2), (.long q1), (.ref b536), (.ref b536)])) _
        refine st537.trans ?_
        show Steps p.tables e below (T537.setTop (mkF m 39 #[.val (.long q1), .second, .val (.long q2), .second, .val (.long q3), .second, .val (.long q4), .second, .val (.int p5), .val (.long q1), .second, .val (.long q4), .second, .unset, .unset, .unset, .unset, .unset] [(.ref b536)])) _
        refine XS.astore X537.here hx rfl (hb hby at_39) rfl rfl (l' := #[.val (.long q1), .second, .val (.long q2), .second, .val (.long q3), .second, .val (.long q4), .second, .val (.int p5), .val (.long q1), .second, .val (.long q4), .second, .val (.ref b536), .unset, .unset, .unset, .unset]) rfl ?_
        show Steps p.tables e below (T537.setTop (mkF m 41 #[.val (.long q1), .second, .val (.long q2), .second, .val (.long q3), .second, .val (.long q4), .second, .val (.int p5), .val (.long q1), .second, .val (.long q4), .second, .val (.ref b536), .unset, .unset, .unset, .unset] [])) _
        refine st543 _ ?_
        show Steps p.tables e below (T543.setTop (mkF m 44 #[.val (.long q1), .second, .val (.long q2), .second, .val (.long q3), .second, .val (.long q4), .second, .val (.int p5), .val (.long q1), .second, .val (.long q4), .second, .val (.ref b536), .unset, .unset, .unset, .unset] [(.ref b543)])) _
        refine XS.dup X543.here hx rfl (hb hby at_44) rfl rfl ?_
        show Steps p.tables e below (T543.setTop (mkF m 45 #[.val (.long q1), .second, .val (.long q2), .second, .val (.long q3), .second, .val (.long q4), .second, .val (.int p5), .val (.long q1), .second, .val (.long q4), .second, .val (.ref b536), .unset, .unset, .unset, .unset] [(.ref b543), (.ref b543)])) _
        refine XS.lload X543.here hx rfl (hb hby at_45) rfl ?_
        show Steps p.tables e below (T543.setTop (mkF m 47 #[.val (.long q1), .second, .val (.long q2), .second, .val (.long q3), .second, .val (.long q4), .second, .val (.int p5), .val (.long q1), .second, .val (.long q4), .second, .val (.ref b536), .unset, .unset, .unset, .unset] [(.long q1), (.ref b543), (.ref b543)])) _
        refine XS.lload X543.here hx rfl (hb hby at_47) rfl ?_
        show Steps p.tables e below (T543.setTop (mkF m 49 #[.val (.long q1), .second, .val (.long q2), .second, .val (.long q3), .second, .val (.long q4), .second, .val (.int p5), .val (.long q1), .second, .val (.long q4), .second, .val (.ref b536), .unset, .unset, .unset, .unset] [(.long q4), (.long q1), (.ref b543), (.ref b543)])) _
        refine st544.trans ?_
        show Steps p.tables e below (T544.setTop (mkF m 52 #[.val (.long q1), .second, .val (.long q2), .second, .val (.long q3), .second, .val (.long q4), .second, .val (.int p5), .val (.long q1), .second, .val (.long q4), .second, .val (.ref b536), .unset, .unset, .unset, .unset] [(.ref b543)])) _
        refine XS.astore X544.here hx rfl (hb hby at_52) rfl rfl (l' := #[.val (.long q1), .second, .val (.long q2), .second, .val (.long q3), .second, .val (.long q4), .second, .val (.int p5), .val (.long q1), .second, .val (.long q4), .second, .val (.ref b536), .val (.ref b543), .unset, .unset, .unset]) rfl ?_
        show Steps p.tables e below (T544.setTop (mkF m 54 #[.val (.long q1), .second, .val (.long q2), .second, .val (.long q3), .second, .val (.long q4), .second, .val (.int p5), .val (.long q1), .second, .val (.long q4), .second, .val (.ref b536), .val (.ref b543), .unset, .unset, .unset] [])) _
        refine XS.lloadN X544.here hx rfl (hb hby at_54) rfl ?_
        show Steps p.tables e below (T544.setTop (mkF m 55 #[.val (.long q1), .second, .val (.long q2), .second, .val (.long q3), .second, .val (.long q4), .second, .val (.int p5), .val (.long q1), .second, .val (.long q4), .second, .val (.ref b536), .val (.ref b543), .unset, .unset, .unset] [(.long q1)])) _
        refine XS.lload X544.here hx rfl (hb hby at_55) rfl ?_
        show Steps p.tables e below (T544.setTop (mkF m 57 #[.val (.long q1), .second, .val (.long q2), .second, .val (.long q3), .second, .val (.long q4), .second, .val (.int p5), .val (.long q1), .second, .val (.long q4), .second, .val (.ref b536), .val (.ref b543), .unset, .unset, .unset] [(.long q1), (.long q1)])) _
        refine XS.lcmp X544.here hx rfl (hb hby at_57) rfl ?_
        show Steps p.tables e below (T544.setTop (mkF m 58 #[.val (.long q1), .second, .val (.long q2), .second, .val (.long q3), .second, .val (.long q4), .second, .val (.int p5), .val (.long q1), .second, .val (.long q4), .second, .val (.ref b536), .val (.ref b543), .unset, .unset, .unset] [(.int (lcmpW q1 q1))])) _
        refine XS.ifNo X544.here hx rfl (hb hby at_58) rfl ((if0 _ _).trans (teq ((lw_eq _ _).mpr (rfl : q1 = q1))).2) ?_
        show Steps p.tables e below (T544.setTop (mkF m 61 #[.val (.long q1), .second, .val (.long q2), .second, .val (.long q3), .second, .val (.long q4), .second, .val (.int p5), .val (.long q1), .second, .val (.long q4), .second, .val (.ref b536), .val (.ref b543), .unset, .unset, .unset] [])) _
        refine XS.lloadN X544.here hx rfl (hb hby at_61) rfl ?_
        show Steps p.tables e below (T544.setTop (mkF m 62 #[.val (.long q1), .second, .val (.long q2), .second, .val (.long q3), .second, .val (.long q4), .second, .val (.int p5), .val (.long q1), .second, .val (.long q4), .second, .val (.ref b536), .val (.ref b543), .unset, .unset, .unset] [(.long q2)])) _
        refine XS.lload X544.here hx rfl (hb hby at_62) rfl ?_
        show Steps p.tables e below (T544.setTop (mkF m 64 #[.val (.long q1), .second, .val (.long q2), .second, .val (.long q3), .second, .val (.long q4), .second, .val (.int p5), .val (.long q1), .second, .val (.long q4), .second, .val (.ref b536), .val (.ref b543), .unset, .unset, .unset] [(.long q4), (.long q2)])) _
        refine XS.lcmp X544.here hx rfl (hb hby at_64) rfl ?_
        exact k
      by_cases hc551 : q2 = q4
      ·
        have pre552 : ∀ t, Steps p.tables e below (T544.setTop (mkF m 85 #[.val (.long q1), .second, .val (.long q2), .second, .val (.long q3), .second, .val (.long q4), .second, .val (.int p5), .val (.long q1), .second, .val (.long q4), .second, .val (.ref b536), .val (.ref b543), .val (.int (1 : Int32)), .val (.int (((p5.toUInt32 >>> ((2 : Int32) &&& 31).toUInt32).toInt32) &&& (3 : Int32))), .unset] [(.int (((p5.toUInt32 >>> ((2 : Int32) &&& 31).toUInt32).toInt32) &&& (3 : Int32)))])) t → Steps p.tables e below (s₁.setTop (entryFrame m #[(.long q1), (.long q2), (.long q3), (.long q4), (.int p5)] maxLocals)) t := fun t k => by
          refine pre550 _ ?_
          show Steps p.tables e below (T544.setTop (mkF m 65 #[.val (.long q1), .second, .val (.long q2), .second, .val (.long q3), .second, .val (.long q4), .second, .val (.int p5), .val (.long q1), .second, .val (.long q4), .second, .val (.ref b536), .val (.ref b543), .unset, .unset, .unset] [(.int (lcmpW q2 q4))])) _
          refine XS.ifNo X544.here hx rfl (hb hby at_65) rfl ((if0 _ _).trans (teq ((lw_eq _ _).mpr hc551)).2) ?_
          show Steps p.tables e below (T544.setTop (mkF m 68 #[.val (.long q1), .second, .val (.long q2), .second, .val (.long q3), .second, .val (.long q4), .second, .val (.int p5), .val (.long q1), .second, .val (.long q4), .second, .val (.ref b536), .val (.ref b543), .unset, .unset, .unset] [])) _
          refine XS.iconst X544.here hx rfl (hb hby at_68) ?_
          show Steps p.tables e below (T544.setTop (mkF m 69 #[.val (.long q1), .second, .val (.long q2), .second, .val (.long q3), .second, .val (.long q4), .second, .val (.int p5), .val (.long q1), .second, .val (.long q4), .second, .val (.ref b536), .val (.ref b543), .unset, .unset, .unset] [(.int (1 : Int32))])) _
          refine XS.goto X544.here hx rfl (pc0 := 69) (pc' := 73) rfl (hb hby at_69) (by decide) (by decide) ?_
          show Steps p.tables e below (T544.setTop (mkF m 73 #[.val (.long q1), .second, .val (.long q2), .second, .val (.long q3), .second, .val (.long q4), .second, .val (.int p5), .val (.long q1), .second, .val (.long q4), .second, .val (.ref b536), .val (.ref b543), .unset, .unset, .unset] [(.int (1 : Int32))])) _
          refine XS.istore X544.here hx rfl (hb hby at_73) rfl (l' := #[.val (.long q1), .second, .val (.long q2), .second, .val (.long q3), .second, .val (.long q4), .second, .val (.int p5), .val (.long q1), .second, .val (.long q4), .second, .val (.ref b536), .val (.ref b543), .val (.int (1 : Int32)), .unset, .unset]) rfl ?_
          show Steps p.tables e below (T544.setTop (mkF m 75 #[.val (.long q1), .second, .val (.long q2), .second, .val (.long q3), .second, .val (.long q4), .second, .val (.int p5), .val (.long q1), .second, .val (.long q4), .second, .val (.ref b536), .val (.ref b543), .val (.int (1 : Int32)), .unset, .unset] [])) _
          refine XS.iload X544.here hx rfl (hb hby at_75) rfl ?_
          show Steps p.tables e below (T544.setTop (mkF m 77 #[.val (.long q1), .second, .val (.long q2), .second, .val (.long q3), .second, .val (.long q4), .second, .val (.int p5), .val (.long q1), .second, .val (.long q4), .second, .val (.ref b536), .val (.ref b543), .val (.int (1 : Int32)), .unset, .unset] [(.int p5)])) _
          refine XS.iconst X544.here hx rfl (hb hby at_77) ?_
          show Steps p.tables e below (T544.setTop (mkF m 78 #[.val (.long q1), .second, .val (.long q2), .second, .val (.long q3), .second, .val (.long q4), .second, .val (.int p5), .val (.long q1), .second, .val (.long q4), .second, .val (.ref b536), .val (.ref b543), .val (.int (1 : Int32)), .unset, .unset] [(.int (2 : Int32)), (.int p5)])) _
          refine XS.iushr X544.here hx rfl (hb hby at_78) rfl ?_
          show Steps p.tables e below (T544.setTop (mkF m 79 #[.val (.long q1), .second, .val (.long q2), .second, .val (.long q3), .second, .val (.long q4), .second, .val (.int p5), .val (.long q1), .second, .val (.long q4), .second, .val (.ref b536), .val (.ref b543), .val (.int (1 : Int32)), .unset, .unset] [(.int ((p5.toUInt32 >>> ((2 : Int32) &&& 31).toUInt32).toInt32))])) _
          refine XS.iconst X544.here hx rfl (hb hby at_79) ?_
          show Steps p.tables e below (T544.setTop (mkF m 80 #[.val (.long q1), .second, .val (.long q2), .second, .val (.long q3), .second, .val (.long q4), .second, .val (.int p5), .val (.long q1), .second, .val (.long q4), .second, .val (.ref b536), .val (.ref b543), .val (.int (1 : Int32)), .unset, .unset] [(.int (3 : Int32)), (.int ((p5.toUInt32 >>> ((2 : Int32) &&& 31).toUInt32).toInt32))])) _
          refine XS.iand X544.here hx rfl (hb hby at_80) rfl ?_
          show Steps p.tables e below (T544.setTop (mkF m 81 #[.val (.long q1), .second, .val (.long q2), .second, .val (.long q3), .second, .val (.long q4), .second, .val (.int p5), .val (.long q1), .second, .val (.long q4), .second, .val (.ref b536), .val (.ref b543), .val (.int (1 : Int32)), .unset, .unset] [(.int (((p5.toUInt32 >>> ((2 : Int32) &&& 31).toUInt32).toInt32) &&& (3 : Int32)))])) _
          refine XS.istore X544.here hx rfl (hb hby at_81) rfl (l' := #[.val (.long q1), .second, .val (.long q2), .second, .val (.long q3), .second, .val (.long q4), .second, .val (.int p5), .val (.long q1), .second, .val (.long q4), .second, .val (.ref b536), .val (.ref b543), .val (.int (1 : Int32)), .val (.int (((p5.toUInt32 >>> ((2 : Int32) &&& 31).toUInt32).toInt32) &&& (3 : Int32))), .unset]) rfl ?_
          show Steps p.tables e below (T544.setTop (mkF m 83 #[.val (.long q1), .second, .val (.long q2), .second, .val (.long q3), .second, .val (.long q4), .second, .val (.int p5), .val (.long q1), .second, .val (.long q4), .second, .val (.ref b536), .val (.ref b543), .val (.int (1 : Int32)), .val (.int (((p5.toUInt32 >>> ((2 : Int32) &&& 31).toUInt32).toInt32) &&& (3 : Int32))), .unset] [])) _
          refine XS.iload X544.here hx rfl (hb hby at_83) rfl ?_
          exact k
        by_cases hc553 : (((p5.toUInt32 >>> ((2 : Int32) &&& 31).toUInt32).toInt32) &&& (3 : Int32)) = (0 : Int32)
        ·
          have pre554 : ∀ t, Steps p.tables e below (T544.setTop (mkF m 85 #[.val (.long q1), .second, .val (.long q2), .second, .val (.long q3), .second, .val (.long q4), .second, .val (.int p5), .val (.long q1), .second, .val (.long q4), .second, .val (.ref b536), .val (.ref b543), .val (.int (1 : Int32)), .val (.int (0 : Int32)), .unset] [(.int (0 : Int32))])) t → Steps p.tables e below (s₁.setTop (entryFrame m #[(.long q1), (.long q2), (.long q3), (.long q4), (.int p5)] maxLocals)) t := fun t k => pre552 t (by rw [hc553]; exact k)
          have lt555 : b536 < T537.heap.size := (Nat.lt_of_lt_of_le A536.lt K539.1)
          have ne556 : b536 ≠ b543 := Nat.ne_of_lt (Nat.lt_of_lt_of_le lt555 sz_b543)
          have f557 := ((f541.ext E543).keep K546 (ninS ne556 nin0))
          have f558 := ((f542.ext E543).keep K546 (ninS ne556 nin0))
          have f560 := ((f540.ext E543).keep K546)
          obtain ⟨cq559, kq559, q559a, q559b, q559c⟩ := isOf hZ rfl f560
          obtain ⟨_, _, ⟨T561, L561, c561, n561⟩, -, X561, ⟨Lc561, hQ561, l561, y561, z561⟩, st561⟩ := X544.virtualBack hx (y := (⟨"com/example/sablegrid/sablegrid/model/WriteOutcome", "equals", "(Ljava/lang/Object;)Z"⟩ : MethodName)) (z := (⟨"com/example/sablegrid/sablegrid/model/WriteOutcome", "equals", "(Ljava/lang/Object;)Z"⟩ : MethodName)) hown (mvT hZ (hw _ (List.mem_of_getElem? (i := 13) rfl))) (mvT hZ (hw _ (List.mem_of_getElem? (i := 14) rfl))) (notFace_of_selects (args := #[]) (mvT hZ (hw _ (List.mem_of_getElem? (i := 16) rfl)))) (mvT hZ (hw _ (List.mem_of_getElem? (i := 16) rfl))) (mvT hZ (hw _ (List.mem_of_getElem? (i := 15) rfl))) (by decide) (backOf (W := 0) (rm2 l Z a0 hw [] b536 b543 q1 q2 q1 q4 T544.heap n0 O544 g_b536 g_b543 f557 f558 f547 f548 f549) hZ (hw _ (List.mem_of_getElem? (i := 17) rfl)) (hw _ (List.mem_of_getElem? (i := 2) rfl)) (by decide) (by decide)) q559a q559c (g := (mkF m 92 #[.val (.long q1), .second, .val (.long q2), .second, .val (.long q3), .second, .val (.long q4), .second, .val (.int p5), .val (.long q1), .second, .val (.long q4), .second, .val (.ref b536), .val (.ref b543), .val (.int (1 : Int32)), .val (.int (0 : Int32)), .unset] [(.ref b543), (.ref b536)])) rfl (by rw [hml]; rfl) (Steps.refl _) (argsL := [(.ref b543)]) (rest := []) (lenOf pd1 rfl) rfl (by show 2 * 0 + _ ≤ _; exact Nat.le_of_eq rfl) (hb hby at_92) (fun _ _ => ⟨rfl, rfl, (by decide : 2 + 0 ≤ _), (by decide : 4 + 0 ≤ _)⟩)
          dsimp only [Pt.U, Pt.locs, Pt.cells, Pt.slots] at X561 l561 y561 z561 st561 hQ561
          subst l561 y561 z561
          have pre562 : ∀ t, Steps p.tables e below (T544.setTop (mkF m 92 #[.val (.long q1), .second, .val (.long q2), .second, .val (.long q3), .second, .val (.long q4), .second, .val (.int p5), .val (.long q1), .second, .val (.long q4), .second, .val (.ref b536), .val (.ref b543), .val (.int (1 : Int32)), .val (.int (0 : Int32)), .unset] [(.ref b543), (.ref b536)])) t → Steps p.tables e below (s₁.setTop (entryFrame m #[(.long q1), (.long q2), (.long q3), (.long q4), (.int p5)] maxLocals)) t := fun t k => by
            refine pre554 _ ?_
            show Steps p.tables e below (T544.setTop (mkF m 85 #[.val (.long q1), .second, .val (.long q2), .second, .val (.long q3), .second, .val (.long q4), .second, .val (.int p5), .val (.long q1), .second, .val (.long q4), .second, .val (.ref b536), .val (.ref b543), .val (.int (1 : Int32)), .val (.int (0 : Int32)), .unset] [(.int (0 : Int32))])) _
            refine XS.ifNo X544.here hx rfl (hb hby at_85) rfl ((if0 _ _).trans (teq (by decide : (0 : Int32) = (0 : Int32))).2) ?_
            show Steps p.tables e below (T544.setTop (mkF m 88 #[.val (.long q1), .second, .val (.long q2), .second, .val (.long q3), .second, .val (.long q4), .second, .val (.int p5), .val (.long q1), .second, .val (.long q4), .second, .val (.ref b536), .val (.ref b543), .val (.int (1 : Int32)), .val (.int (0 : Int32)), .unset] [])) _
            refine XS.aload X544.here hx rfl (hb hby at_88) rfl rfl ?_
            show Steps p.tables e below (T544.setTop (mkF m 90 #[.val (.long q1), .second, .val (.long q2), .second, .val (.long q3), .second, .val (.long q4), .second, .val (.int p5), .val (.long q1), .second, .val (.long q4), .second, .val (.ref b536), .val (.ref b543), .val (.int (1 : Int32)), .val (.int (0 : Int32)), .unset] [(.ref b536)])) _
            refine XS.aload X544.here hx rfl (hb hby at_90) rfl rfl ?_
            exact k
          have X561 : Stand p l e room_1 s m #[(.long q1), (.long q2), (.long q3), (.long q4), (.int p5)] below meth c T561 _ 2 4 := X561
          rcases hQ561 with ⟨hc563, hc564, rfl, Nq565, e566⟩ | ⟨hc567, hc568, rfl, Nq569, e570⟩ | ⟨hc571, rfl, Nq572, e573⟩
          ·
            have N561 := Fr.app N544 Nq565
            obtain ⟨cq574, kq574, q574a, q574b, q574c⟩ := isOf hZ e566 f547
            obtain ⟨_, _, ⟨T575, L575, c575, n575⟩, -, X575, ⟨Lc575, hQ575, l575, y575, z575⟩, st575⟩ := X561.virtualBack hx (y := (⟨"com/example/sablegrid/sablegrid/model/WriteOutcome", "equals", "(Ljava/lang/Object;)Z"⟩ : MethodName)) (z := (⟨"com/example/sablegrid/sablegrid/model/WriteOutcome", "equals", "(Ljava/lang/Object;)Z"⟩ : MethodName)) hown (mvT hZ (hw _ (List.mem_of_getElem? (i := 13) rfl))) (mvT hZ (hw _ (List.mem_of_getElem? (i := 14) rfl))) (notFace_of_selects (args := #[]) (mvT hZ (hw _ (List.mem_of_getElem? (i := 16) rfl)))) (mvT hZ (hw _ (List.mem_of_getElem? (i := 16) rfl))) (mvT hZ (hw _ (List.mem_of_getElem? (i := 15) rfl))) (by decide) (backOf (W := 0) (rm2 l Z a0 hw [] b543 b536 q1 q4 q1 q2 T544.heap n0 O544 g_b543 g_b536 f548 f549 f560 f557 f558) hZ (hw _ (List.mem_of_getElem? (i := 17) rfl)) (hw _ (List.mem_of_getElem? (i := 2) rfl)) (by decide) (by decide)) q574a q574c (g := (mkF m 104 #[.val (.long q1), .second, .val (.long q2), .second, .val (.long q3), .second, .val (.long q4), .second, .val (.int p5), .val (.long q1), .second, .val (.long q4), .second, .val (.ref b536), .val (.ref b543), .val (.int (1 : Int32)), .val (.int (0 : Int32)), .unset] [(.ref b536), (.ref b543)])) rfl (by rw [hml]; rfl) (Steps.refl _) (argsL := [(.ref b536)]) (rest := []) (lenOf pd1 rfl) rfl (by show 2 * 0 + _ ≤ _; exact Nat.le_of_eq rfl) (hb hby at_104) (fun _ _ => ⟨rfl, e566, (by decide : 2 + 0 ≤ _), (by decide : 4 + 0 ≤ _)⟩)
            dsimp only [Pt.U, Pt.locs, Pt.cells, Pt.slots] at X575 l575 y575 z575 st575 hQ575
            subst l575 y575 z575
            have pre576 : ∀ t, Steps p.tables e below (T561.setTop (mkF m 104 #[.val (.long q1), .second, .val (.long q2), .second, .val (.long q3), .second, .val (.long q4), .second, .val (.int p5), .val (.long q1), .second, .val (.long q4), .second, .val (.ref b536), .val (.ref b543), .val (.int (1 : Int32)), .val (.int (0 : Int32)), .unset] [(.ref b536), (.ref b543)])) t → Steps p.tables e below (s₁.setTop (entryFrame m #[(.long q1), (.long q2), (.long q3), (.long q4), (.int p5)] maxLocals)) t := fun t k => by
              refine pre562 _ ?_
              show Steps p.tables e below (T544.setTop (mkF m 92 #[.val (.long q1), .second, .val (.long q2), .second, .val (.long q3), .second, .val (.long q4), .second, .val (.int p5), .val (.long q1), .second, .val (.long q4), .second, .val (.ref b536), .val (.ref b543), .val (.int (1 : Int32)), .val (.int (0 : Int32)), .unset] [(.ref b543), (.ref b536)])) _
              refine st561.trans ?_
              show Steps p.tables e below (T561.setTop (mkF m 95 #[.val (.long q1), .second, .val (.long q2), .second, .val (.long q3), .second, .val (.long q4), .second, .val (.int p5), .val (.long q1), .second, .val (.long q4), .second, .val (.ref b536), .val (.ref b543), .val (.int (1 : Int32)), .val (.int (0 : Int32)), .unset] [(.int (1 : Int32))])) _
              refine XS.iload X561.here hx rfl (hb hby at_95) rfl ?_
              show Steps p.tables e below (T561.setTop (mkF m 97 #[.val (.long q1), .second, .val (.long q2), .second, .val (.long q3), .second, .val (.long q4), .second, .val (.int p5), .val (.long q1), .second, .val (.long q4), .second, .val (.ref b536), .val (.ref b543), .val (.int (1 : Int32)), .val (.int (0 : Int32)), .unset] [(.int (1 : Int32)), (.int (1 : Int32))])) _
              refine XS.icmpNo X561.here hx rfl (hb hby at_97) rfl (teq (by decide : (1 : Int32) = (1 : Int32))).2 ?_
              show Steps p.tables e below (T561.setTop (mkF m 100 #[.val (.long q1), .second, .val (.long q2), .second, .val (.long q3), .second, .val (.long q4), .second, .val (.int p5), .val (.long q1), .second, .val (.long q4), .second, .val (.ref b536), .val (.ref b543), .val (.int (1 : Int32)), .val (.int (0 : Int32)), .unset] [])) _
              refine XS.aload X561.here hx rfl (hb hby at_100) rfl rfl ?_
              show Steps p.tables e below (T561.setTop (mkF m 102 #[.val (.long q1), .second, .val (.long q2), .second, .val (.long q3), .second, .val (.long q4), .second, .val (.int p5), .val (.long q1), .second, .val (.long q4), .second, .val (.ref b536), .val (.ref b543), .val (.int (1 : Int32)), .val (.int (0 : Int32)), .unset] [(.ref b543)])) _
              refine XS.aload X561.here hx rfl (hb hby at_102) rfl rfl ?_
              exact k
            have X575 : Stand p l e room_1 s m #[(.long q1), (.long q2), (.long q3), (.long q4), (.int p5)] below meth c T575 _ 2 4 := X575
            rcases hQ575 with ⟨hc577, hc578, rfl, Nq579, e580⟩ | ⟨hc581, hc582, rfl, Nq583, e584⟩ | ⟨hc585, rfl, Nq586, e587⟩
            ·
              have N575 := Fr.app N561 Nq579
              obtain ⟨fs, hr, hrun, hended, hW, hsame⟩ := X575.leave (v := some (.int (1 : Int32))) (fun h => by rw [hret] at h; cases h)
              refine ⟨_, _, pre576 _ ?_, hrun, hended, _, _, rfl, ?_, ⟨_, rfl⟩, hW, hsame.mono (by decide) (by decide)⟩
              ·
                show Steps p.tables e below (T561.setTop (mkF m 104 #[.val (.long q1), .second, .val (.long q2), .second, .val (.long q3), .second, .val (.long q4), .second, .val (.int p5), .val (.long q1), .second, .val (.long q4), .second, .val (.ref b536), .val (.ref b543), .val (.int (1 : Int32)), .val (.int (0 : Int32)), .unset] [(.ref b536), (.ref b543)])) _
                refine st575.trans ?_
                show Steps p.tables e below (T575.setTop (mkF m 107 #[.val (.long q1), .second, .val (.long q2), .second, .val (.long q3), .second, .val (.long q4), .second, .val (.int p5), .val (.long q1), .second, .val (.long q4), .second, .val (.ref b536), .val (.ref b543), .val (.int (1 : Int32)), .val (.int (0 : Int32)), .unset] [(.int (1 : Int32))])) _
                refine XS.iload X575.here hx rfl (hb hby at_107) rfl ?_
                show Steps p.tables e below (T575.setTop (mkF m 109 #[.val (.long q1), .second, .val (.long q2), .second, .val (.long q3), .second, .val (.long q4), .second, .val (.int p5), .val (.long q1), .second, .val (.long q4), .second, .val (.ref b536), .val (.ref b543), .val (.int (1 : Int32)), .val (.int (0 : Int32)), .unset] [(.int (1 : Int32)), (.int (1 : Int32))])) _
                refine XS.icmpNo X575.here hx rfl (hb hby at_109) rfl (teq (by decide : (1 : Int32) = (1 : Int32))).2 ?_
                show Steps p.tables e below (T575.setTop (mkF m 112 #[.val (.long q1), .second, .val (.long q2), .second, .val (.long q3), .second, .val (.long q4), .second, .val (.int p5), .val (.long q1), .second, .val (.long q4), .second, .val (.ref b536), .val (.ref b543), .val (.int (1 : Int32)), .val (.int (0 : Int32)), .unset] [])) _
                refine XS.iconst X575.here hx rfl (hb hby at_112) ?_
                show Steps p.tables e below (T575.setTop (mkF m 113 #[.val (.long q1), .second, .val (.long q2), .second, .val (.long q3), .second, .val (.long q4), .second, .val (.int p5), .val (.long q1), .second, .val (.long q4), .second, .val (.ref b536), .val (.ref b543), .val (.int (1 : Int32)), .val (.int (0 : Int32)), .unset] [(.int (1 : Int32))])) _
                refine XS.goto X575.here hx rfl (pc0 := 113) (pc' := 117) rfl (hb hby at_113) (by decide) (by decide) ?_
                show Steps p.tables e below (T575.setTop (mkF m 117 #[.val (.long q1), .second, .val (.long q2), .second, .val (.long q3), .second, .val (.long q4), .second, .val (.int p5), .val (.long q1), .second, .val (.long q4), .second, .val (.ref b536), .val (.ref b543), .val (.int (1 : Int32)), .val (.int (0 : Int32)), .unset] [(.int (1 : Int32))])) _
                exact retN X575 hx (t := .boolean) hret (by simp) (hb hby at_117) hr
              ·
                show Q0 n0 _ T575.heap _
                rw [e580]
                exact ⟨rfl, N575⟩
            ·
              exact absurd (hc551).symm hc582
            ·
              exact absurd (rfl : q1 = q1) hc585
          ·
            exact absurd hc551 hc568
          ·
            exact absurd (rfl : q1 = q1) hc571
        ·
          have pre588 : ∀ t, Steps p.tables e below (T544.setTop (mkF m 121 #[.val (.long q1), .second, .val (.long q2), .second, .val (.long q3), .second, .val (.long q4), .second, .val (.int p5), .val (.long q1), .second, .val (.long q4), .second, .val (.ref b536), .val (.ref b543), .val (.int (1 : Int32)), .val (.int (((p5.toUInt32 >>> ((2 : Int32) &&& 31).toUInt32).toInt32) &&& (3 : Int32))), .unset] [(.int (1 : Int32)), (.int (((p5.toUInt32 >>> ((2 : Int32) &&& 31).toUInt32).toInt32) &&& (3 : Int32)))])) t → Steps p.tables e below (s₁.setTop (entryFrame m #[(.long q1), (.long q2), (.long q3), (.long q4), (.int p5)] maxLocals)) t := fun t k => by
            refine pre552 _ ?_
            show Steps p.tables e below (T544.setTop (mkF m 85 #[.val (.long q1), .second, .val (.long q2), .second, .val (.long q3), .second, .val (.long q4), .second, .val (.int p5), .val (.long q1), .second, .val (.long q4), .second, .val (.ref b536), .val (.ref b543), .val (.int (1 : Int32)), .val (.int (((p5.toUInt32 >>> ((2 : Int32) &&& 31).toUInt32).toInt32) &&& (3 : Int32))), .unset] [(.int (((p5.toUInt32 >>> ((2 : Int32) &&& 31).toUInt32).toInt32) &&& (3 : Int32)))])) _
            refine XS.ifYes X544.here hx rfl (pc0 := 85) (pc' := 118) rfl (hb hby at_85) rfl ((if0 _ _).trans (feq hc553).2) (by decide) (by decide) ?_
            show Steps p.tables e below (T544.setTop (mkF m 118 #[.val (.long q1), .second, .val (.long q2), .second, .val (.long q3), .second, .val (.long q4), .second, .val (.int p5), .val (.long q1), .second, .val (.long q4), .second, .val (.ref b536), .val (.ref b543), .val (.int (1 : Int32)), .val (.int (((p5.toUInt32 >>> ((2 : Int32) &&& 31).toUInt32).toInt32) &&& (3 : Int32))), .unset] [])) _
            refine XS.iload X544.here hx rfl (hb hby at_118) rfl ?_
            show Steps p.tables e below (T544.setTop (mkF m 120 #[.val (.long q1), .second, .val (.long q2), .second, .val (.long q3), .second, .val (.long q4), .second, .val (.int p5), .val (.long q1), .second, .val (.long q4), .second, .val (.ref b536), .val (.ref b543), .val (.int (1 : Int32)), .val (.int (((p5.toUInt32 >>> ((2 : Int32) &&& 31).toUInt32).toInt32) &&& (3 : Int32))), .unset] [(.int (((p5.toUInt32 >>> ((2 : Int32) &&& 31).toUInt32).toInt32) &&& (3 : Int32)))])) _
            refine XS.iconst X544.here hx rfl (hb hby at_120) ?_
            exact k
          by_cases hc589 : (((p5.toUInt32 >>> ((2 : Int32) &&& 31).toUInt32).toInt32) &&& (3 : Int32)) = (1 : Int32)
          ·
            have pre590 : ∀ t, Steps p.tables e below (T544.setTop (mkF m 121 #[.val (.long q1), .second, .val (.long q2), .second, .val (.long q3), .second, .val (.long q4), .second, .val (.int p5), .val (.long q1), .second, .val (.long q4), .second, .val (.ref b536), .val (.ref b543), .val (.int (1 : Int32)), .val (.int (1 : Int32)), .unset] [(.int (1 : Int32)), (.int (1 : Int32))])) t → Steps p.tables e below (s₁.setTop (entryFrame m #[(.long q1), (.long q2), (.long q3), (.long q4), (.int p5)] maxLocals)) t := fun t k => pre588 t (by rw [hc589]; exact k)
            have f592 := ((f540.ext E543).keep K546)
            obtain ⟨cq591, kq591, q591a, q591b, q591c⟩ := isOf hZ rfl f592
            obtain ⟨_, _, ⟨T593, L593, c593, n593⟩, -, X593, ⟨Lc593, hQ593, l593, y593, z593⟩, st593⟩ := X544.virtualBack hx (y := (⟨"com/example/sablegrid/sablegrid/model/WriteOutcome", "equals", "(Ljava/lang/Object;)Z"⟩ : MethodName)) (z := (⟨"com/example/sablegrid/sablegrid/model/WriteOutcome", "equals", "(Ljava/lang/Object;)Z"⟩ : MethodName)) hown (mvT hZ (hw _ (List.mem_of_getElem? (i := 13) rfl))) (mvT hZ (hw _ (List.mem_of_getElem? (i := 14) rfl))) (notFace_of_selects (args := #[]) (mvT hZ (hw _ (List.mem_of_getElem? (i := 16) rfl)))) (mvT hZ (hw _ (List.mem_of_getElem? (i := 16) rfl))) (mvT hZ (hw _ (List.mem_of_getElem? (i := 15) rfl))) (by decide) (backOf (W := 0) (rm3 l Z a0 hw [] b536 T544.heap n0 O544 g_b536) hZ (hw _ (List.mem_of_getElem? (i := 17) rfl)) (hw _ (List.mem_of_getElem? (i := 2) rfl)) (by decide) (by decide)) q591a q591c (g := (mkF m 127 #[.val (.long q1), .second, .val (.long q2), .second, .val (.long q3), .second, .val (.long q4), .second, .val (.int p5), .val (.long q1), .second, .val (.long q4), .second, .val (.ref b536), .val (.ref b543), .val (.int (1 : Int32)), .val (.int (1 : Int32)), .unset] [.null, (.ref b536)])) rfl (by rw [hml]; rfl) (Steps.refl _) (argsL := [.null]) (rest := []) (lenOf pd1 rfl) rfl (by show 2 * 0 + _ ≤ _; exact Nat.le_of_eq rfl) (hb hby at_127) (fun _ _ => ⟨rfl, rfl, (by decide : 2 + 0 ≤ _), (by decide : 4 + 0 ≤ _)⟩)
            dsimp only [Pt.U, Pt.locs, Pt.cells, Pt.slots] at X593 l593 y593 z593 st593 hQ593
            subst l593 y593 z593
            have X593 : Stand p l e room_1 s m #[(.long q1), (.long q2), (.long q3), (.long q4), (.int p5)] below meth c T593 _ 2 4 := X593
            obtain ⟨rfl, Nq594, e595⟩ := hQ593
            have N593 := Fr.app N544 Nq594
            obtain ⟨fs, hr, hrun, hended, hW, hsame⟩ := X593.leave (v := some (.int (1 : Int32))) (fun h => by rw [hret] at h; cases h)
            refine ⟨_, _, pre590 _ ?_, hrun, hended, _, _, rfl, ?_, ⟨_, rfl⟩, hW, hsame.mono (by decide) (by decide)⟩
            ·
              show Steps p.tables e below (T544.setTop (mkF m 121 #[.val (.long q1), .second, .val (.long q2), .second, .val (.long q3), .second, .val (.long q4), .second, .val (.int p5), .val (.long q1), .second, .val (.long q4), .second, .val (.ref b536), .val (.ref b543), .val (.int (1 : Int32)), .val (.int (1 : Int32)), .unset] [(.int (1 : Int32)), (.int (1 : Int32))])) _
              refine XS.icmpNo X544.here hx rfl (hb hby at_121) rfl (teq (by decide : (1 : Int32) = (1 : Int32))).2 ?_
              show Steps p.tables e below (T544.setTop (mkF m 124 #[.val (.long q1), .second, .val (.long q2), .second, .val (.long q3), .second, .val (.long q4), .second, .val (.int p5), .val (.long q1), .second, .val (.long q4), .second, .val (.ref b536), .val (.ref b543), .val (.int (1 : Int32)), .val (.int (1 : Int32)), .unset] [])) _
              refine XS.aload X544.here hx rfl (hb hby at_124) rfl rfl ?_
              show Steps p.tables e below (T544.setTop (mkF m 126 #[.val (.long q1), .second, .val (.long q2), .second, .val (.long q3), .second, .val (.long q4), .second, .val (.int p5), .val (.long q1), .second, .val (.long q4), .second, .val (.ref b536), .val (.ref b543), .val (.int (1 : Int32)), .val (.int (1 : Int32)), .unset] [(.ref b536)])) _
              refine XS.aconstNull X544.here hx rfl (hb hby at_126) ?_
              show Steps p.tables e below (T544.setTop (mkF m 127 #[.val (.long q1), .second, .val (.long q2), .second, .val (.long q3), .second, .val (.long q4), .second, .val (.int p5), .val (.long q1), .second, .val (.long q4), .second, .val (.ref b536), .val (.ref b543), .val (.int (1 : Int32)), .val (.int (1 : Int32)), .unset] [.null, (.ref b536)])) _
              refine st593.trans ?_
              show Steps p.tables e below (T593.setTop (mkF m 130 #[.val (.long q1), .second, .val (.long q2), .second, .val (.long q3), .second, .val (.long q4), .second, .val (.int p5), .val (.long q1), .second, .val (.long q4), .second, .val (.ref b536), .val (.ref b543), .val (.int (1 : Int32)), .val (.int (1 : Int32)), .unset] [(.int (0 : Int32))])) _
              refine XS.ifNo X593.here hx rfl (hb hby at_130) rfl ((if0 _ _).trans (teq (by decide : (0 : Int32) = (0 : Int32))).2) ?_
              show Steps p.tables e below (T593.setTop (mkF m 133 #[.val (.long q1), .second, .val (.long q2), .second, .val (.long q3), .second, .val (.long q4), .second, .val (.int p5), .val (.long q1), .second, .val (.long q4), .second, .val (.ref b536), .val (.ref b543), .val (.int (1 : Int32)), .val (.int (1 : Int32)), .unset] [])) _
              refine XS.iconst X593.here hx rfl (hb hby at_133) ?_
              show Steps p.tables e below (T593.setTop (mkF m 134 #[.val (.long q1), .second, .val (.long q2), .second, .val (.long q3), .second, .val (.long q4), .second, .val (.int p5), .val (.long q1), .second, .val (.long q4), .second, .val (.ref b536), .val (.ref b543), .val (.int (1 : Int32)), .val (.int (1 : Int32)), .unset] [(.int (1 : Int32))])) _
              refine XS.goto X593.here hx rfl (pc0 := 134) (pc' := 138) rfl (hb hby at_134) (by decide) (by decide) ?_
              show Steps p.tables e below (T593.setTop (mkF m 138 #[.val (.long q1), .second, .val (.long q2), .second, .val (.long q3), .second, .val (.long q4), .second, .val (.int p5), .val (.long q1), .second, .val (.long q4), .second, .val (.ref b536), .val (.ref b543), .val (.int (1 : Int32)), .val (.int (1 : Int32)), .unset] [(.int (1 : Int32))])) _
              exact retN X593 hx (t := .boolean) hret (by simp) (hb hby at_138) hr
            ·
              show Q0 n0 _ T593.heap _
              rw [e595]
              exact ⟨rfl, N593⟩
          ·
            have pre596 : ∀ t, Steps p.tables e below (T544.setTop (mkF m 142 #[.val (.long q1), .second, .val (.long q2), .second, .val (.long q3), .second, .val (.long q4), .second, .val (.int p5), .val (.long q1), .second, .val (.long q4), .second, .val (.ref b536), .val (.ref b543), .val (.int (1 : Int32)), .val (.int (((p5.toUInt32 >>> ((2 : Int32) &&& 31).toUInt32).toInt32) &&& (3 : Int32))), .unset] [(.int (2 : Int32)), (.int (((p5.toUInt32 >>> ((2 : Int32) &&& 31).toUInt32).toInt32) &&& (3 : Int32)))])) t → Steps p.tables e below (s₁.setTop (entryFrame m #[(.long q1), (.long q2), (.long q3), (.long q4), (.int p5)] maxLocals)) t := fun t k => by
              refine pre588 _ ?_
              show Steps p.tables e below (T544.setTop (mkF m 121 #[.val (.long q1), .second, .val (.long q2), .second, .val (.long q3), .second, .val (.long q4), .second, .val (.int p5), .val (.long q1), .second, .val (.long q4), .second, .val (.ref b536), .val (.ref b543), .val (.int (1 : Int32)), .val (.int (((p5.toUInt32 >>> ((2 : Int32) &&& 31).toUInt32).toInt32) &&& (3 : Int32))), .unset] [(.int (1 : Int32)), (.int (((p5.toUInt32 >>> ((2 : Int32) &&& 31).toUInt32).toInt32) &&& (3 : Int32)))])) _
              refine XS.icmpYes X544.here hx rfl (pc0 := 121) (pc' := 139) rfl (hb hby at_121) rfl (feq hc589).2 (by decide) (by decide) ?_
              show Steps p.tables e below (T544.setTop (mkF m 139 #[.val (.long q1), .second, .val (.long q2), .second, .val (.long q3), .second, .val (.long q4), .second, .val (.int p5), .val (.long q1), .second, .val (.long q4), .second, .val (.ref b536), .val (.ref b543), .val (.int (1 : Int32)), .val (.int (((p5.toUInt32 >>> ((2 : Int32) &&& 31).toUInt32).toInt32) &&& (3 : Int32))), .unset] [])) _
              refine XS.iload X544.here hx rfl (hb hby at_139) rfl ?_
              show Steps p.tables e below (T544.setTop (mkF m 141 #[.val (.long q1), .second, .val (.long q2), .second, .val (.long q3), .second, .val (.long q4), .second, .val (.int p5), .val (.long q1), .second, .val (.long q4), .second, .val (.ref b536), .val (.ref b543), .val (.int (1 : Int32)), .val (.int (((p5.toUInt32 >>> ((2 : Int32) &&& 31).toUInt32).toInt32) &&& (3 : Int32))), .unset] [(.int (((p5.toUInt32 >>> ((2 : Int32) &&& 31).toUInt32).toInt32) &&& (3 : Int32)))])) _
              refine XS.iconst X544.here hx rfl (hb hby at_141) ?_
              exact k
            by_cases hc597 : (((p5.toUInt32 >>> ((2 : Int32) &&& 31).toUInt32).toInt32) &&& (3 : Int32)) = (2 : Int32)
            ·
              have pre598 : ∀ t, Steps p.tables e below (T544.setTop (mkF m 142 #[.val (.long q1), .second, .val (.long q2), .second, .val (.long q3), .second, .val (.long q4), .second, .val (.int p5), .val (.long q1), .second, .val (.long q4), .second, .val (.ref b536), .val (.ref b543), .val (.int (1 : Int32)), .val (.int (2 : Int32)), .unset] [(.int (2 : Int32)), (.int (2 : Int32))])) t → Steps p.tables e below (s₁.setTop (entryFrame m #[(.long q1), (.long q2), (.long q3), (.long q4), (.int p5)] maxLocals)) t := fun t k => pre596 t (by rw [hc597]; exact k)
              obtain ⟨_, _, ⟨T599, L599, c599, n599⟩, -, X599, ⟨Lc599, hQ599, l599, y599, z599⟩, st599⟩ := Jvm.LawKit.callS X544 hx (y := (⟨"java/lang/Long", "valueOf", "(J)Ljava/lang/Long;"⟩ : MethodName)) hown (mvT hZ (hw _ (List.mem_of_getElem? (i := 20) rfl))) (mvT hZ (hw _ (List.mem_of_getElem? (i := 21) rfl))) (mvT hZ (hw _ (List.mem_of_getElem? (i := 22) rfl))) (mvT hZ (hw _ (List.mem_of_getElem? (i := 23) rfl))) (by decide) (backOf (W := 0) (rm6 l Z a0 hw w1 cw1 G [] q1 T544.heap n0 O544 ) hZ (hw _ (List.mem_of_getElem? (i := 23) rfl)) (hw _ (List.mem_of_getElem? (i := 22) rfl)) (by decide) (by decide)) (g := (mkF m 146 #[.val (.long q1), .second, .val (.long q2), .second, .val (.long q3), .second, .val (.long q4), .second, .val (.int p5), .val (.long q1), .second, .val (.long q4), .second, .val (.ref b536), .val (.ref b543), .val (.int (1 : Int32)), .val (.int (2 : Int32)), .unset] [(.long q1)])) rfl (by rw [hml]; rfl) (argsL := [(.long q1)]) (rest := []) (lenOf pd4 rfl) rfl (by show 2 * 0 + _ ≤ _; exact Nat.le_of_eq rfl) (hb hby at_146) (fun _ _ => ⟨rfl, rfl, (by decide : 2 + 1 ≤ _), (by decide : 4 + 1 ≤ _)⟩)
              dsimp only [Pt.U, Pt.locs, Pt.cells, Pt.slots] at X599 l599 y599 z599 st599 hQ599
              subst l599 y599 z599
              have pre600 : ∀ t, Steps p.tables e below (T544.setTop (mkF m 146 #[.val (.long q1), .second, .val (.long q2), .second, .val (.long q3), .second, .val (.long q4), .second, .val (.int p5), .val (.long q1), .second, .val (.long q4), .second, .val (.ref b536), .val (.ref b543), .val (.int (1 : Int32)), .val (.int (2 : Int32)), .unset] [(.long q1)])) t → Steps p.tables e below (s₁.setTop (entryFrame m #[(.long q1), (.long q2), (.long q3), (.long q4), (.int p5)] maxLocals)) t := fun t k => by
                refine pre598 _ ?_
                show Steps p.tables e below (T544.setTop (mkF m 142 #[.val (.long q1), .second, .val (.long q2), .second, .val (.long q3), .second, .val (.long q4), .second, .val (.int p5), .val (.long q1), .second, .val (.long q4), .second, .val (.ref b536), .val (.ref b543), .val (.int (1 : Int32)), .val (.int (2 : Int32)), .unset] [(.int (2 : Int32)), (.int (2 : Int32))])) _
                refine XS.icmpNo X544.here hx rfl (hb hby at_142) rfl (teq (by decide : (2 : Int32) = (2 : Int32))).2 ?_
                show Steps p.tables e below (T544.setTop (mkF m 145 #[.val (.long q1), .second, .val (.long q2), .second, .val (.long q3), .second, .val (.long q4), .second, .val (.int p5), .val (.long q1), .second, .val (.long q4), .second, .val (.ref b536), .val (.ref b543), .val (.int (1 : Int32)), .val (.int (2 : Int32)), .unset] [])) _
                refine XS.lloadN X544.here hx rfl (hb hby at_145) rfl ?_
                exact k
              have X599 : Stand p l e room_1 s m #[(.long q1), (.long q2), (.long q3), (.long q4), (.int p5)] below meth c T599 _ 3 5 := X599
              rcases hQ599 with ⟨b601, hc602, rfl, Nq603, K604, sz_b601, f605, f606⟩ | ⟨b607, hc608, hc609, rfl, Nq610, K611, sz_b607, f612, f613⟩ | ⟨v614, hc615, hc616, rfl, Nq617, e618, f619⟩
              ·
                have N599 := Fr.app N544 Nq603
                have g_b601 : n0 ≤ b601 := Nat.le_trans (own_oz O544) sz_b601
                have M599 : h0.size ≤ T599.heap.size := Nat.le_trans M544 K604.1
                have O599 := Old.keep O544 K604 all0
                have f621 := (((f540.ext E543).keep K546).keep K604)
                obtain ⟨cq620, kq620, q620a, q620b, q620c⟩ := isOf hZ rfl f621
                obtain ⟨_, _, ⟨T622, L622, c622, n622⟩, -, X622, ⟨Lc622, hQ622, l622, y622, z622⟩, st622⟩ := X599.virtualBack hx (y := (⟨"com/example/sablegrid/sablegrid/model/WriteOutcome", "equals", "(Ljava/lang/Object;)Z"⟩ : MethodName)) (z := (⟨"com/example/sablegrid/sablegrid/model/WriteOutcome", "equals", "(Ljava/lang/Object;)Z"⟩ : MethodName)) hown (mvT hZ (hw _ (List.mem_of_getElem? (i := 13) rfl))) (mvT hZ (hw _ (List.mem_of_getElem? (i := 14) rfl))) (notFace_of_selects (args := #[]) (mvT hZ (hw _ (List.mem_of_getElem? (i := 16) rfl)))) (mvT hZ (hw _ (List.mem_of_getElem? (i := 16) rfl))) (mvT hZ (hw _ (List.mem_of_getElem? (i := 15) rfl))) (by decide) (backOf (W := 0) (rm7 l Z a0 hw [] b536 b601 T599.heap n0 O599 g_b536 g_b601 f605) hZ (hw _ (List.mem_of_getElem? (i := 17) rfl)) (hw _ (List.mem_of_getElem? (i := 2) rfl)) (by decide) (by decide)) q620a q620c (g := (mkF m 155 #[.val (.long q1), .second, .val (.long q2), .second, .val (.long q3), .second, .val (.long q4), .second, .val (.int p5), .val (.long q1), .second, .val (.long q4), .second, .val (.ref b536), .val (.ref b543), .val (.int (1 : Int32)), .val (.int (2 : Int32)), .val (.ref b601)] [(.ref b601), (.ref b536)])) rfl (by rw [hml]; rfl) (Steps.refl _) (argsL := [(.ref b601)]) (rest := []) (lenOf pd1 rfl) rfl (by show 2 * 0 + _ ≤ _; exact Nat.le_of_eq rfl) (hb hby at_155) (fun _ _ => ⟨rfl, rfl, (by decide : 3 + 0 ≤ _), (by decide : 5 + 0 ≤ _)⟩)
                dsimp only [Pt.U, Pt.locs, Pt.cells, Pt.slots] at X622 l622 y622 z622 st622 hQ622
                subst l622 y622 z622
                have X622 : Stand p l e room_1 s m #[(.long q1), (.long q2), (.long q3), (.long q4), (.int p5)] below meth c T622 _ 3 5 := X622
                obtain ⟨rfl, Nq623, e624⟩ := hQ622
                have N622 := Fr.app N599 Nq623
                obtain ⟨fs, hr, hrun, hended, hW, hsame⟩ := X622.leave (v := some (.int (1 : Int32))) (fun h => by rw [hret] at h; cases h)
                refine ⟨_, _, pre600 _ ?_, hrun, hended, _, _, rfl, ?_, ⟨_, rfl⟩, hW, hsame.mono (by decide) (by decide)⟩
                ·
                  show Steps p.tables e below (T544.setTop (mkF m 146 #[.val (.long q1), .second, .val (.long q2), .second, .val (.long q3), .second, .val (.long q4), .second, .val (.int p5), .val (.long q1), .second, .val (.long q4), .second, .val (.ref b536), .val (.ref b543), .val (.int (1 : Int32)), .val (.int (2 : Int32)), .unset] [(.long q1)])) _
                  refine st599 _ ?_
                  show Steps p.tables e below (T599.setTop (mkF m 149 #[.val (.long q1), .second, .val (.long q2), .second, .val (.long q3), .second, .val (.long q4), .second, .val (.int p5), .val (.long q1), .second, .val (.long q4), .second, .val (.ref b536), .val (.ref b543), .val (.int (1 : Int32)), .val (.int (2 : Int32)), .unset] [(.ref b601)])) _
                  refine XS.astore X599.here hx rfl (hb hby at_149) rfl rfl (l' := #[.val (.long q1), .second, .val (.long q2), .second, .val (.long q3), .second, .val (.long q4), .second, .val (.int p5), .val (.long q1), .second, .val (.long q4), .second, .val (.ref b536), .val (.ref b543), .val (.int (1 : Int32)), .val (.int (2 : Int32)), .val (.ref b601)]) rfl ?_
                  show Steps p.tables e below (T599.setTop (mkF m 151 #[.val (.long q1), .second, .val (.long q2), .second, .val (.long q3), .second, .val (.long q4), .second, .val (.int p5), .val (.long q1), .second, .val (.long q4), .second, .val (.ref b536), .val (.ref b543), .val (.int (1 : Int32)), .val (.int (2 : Int32)), .val (.ref b601)] [])) _
                  refine XS.aload X599.here hx rfl (hb hby at_151) rfl rfl ?_
                  show Steps p.tables e below (T599.setTop (mkF m 153 #[.val (.long q1), .second, .val (.long q2), .second, .val (.long q3), .second, .val (.long q4), .second, .val (.int p5), .val (.long q1), .second, .val (.long q4), .second, .val (.ref b536), .val (.ref b543), .val (.int (1 : Int32)), .val (.int (2 : Int32)), .val (.ref b601)] [(.ref b536)])) _
                  refine XS.aload X599.here hx rfl (hb hby at_153) rfl rfl ?_
                  show Steps p.tables e below (T599.setTop (mkF m 155 #[.val (.long q1), .second, .val (.long q2), .second, .val (.long q3), .second, .val (.long q4), .second, .val (.int p5), .val (.long q1), .second, .val (.long q4), .second, .val (.ref b536), .val (.ref b543), .val (.int (1 : Int32)), .val (.int (2 : Int32)), .val (.ref b601)] [(.ref b601), (.ref b536)])) _
                  refine st622.trans ?_
                  show Steps p.tables e below (T622.setTop (mkF m 158 #[.val (.long q1), .second, .val (.long q2), .second, .val (.long q3), .second, .val (.long q4), .second, .val (.int p5), .val (.long q1), .second, .val (.long q4), .second, .val (.ref b536), .val (.ref b543), .val (.int (1 : Int32)), .val (.int (2 : Int32)), .val (.ref b601)] [(.int (0 : Int32))])) _
                  refine XS.ifNo X622.here hx rfl (hb hby at_158) rfl ((if0 _ _).trans (teq (by decide : (0 : Int32) = (0 : Int32))).2) ?_
                  show Steps p.tables e below (T622.setTop (mkF m 161 #[.val (.long q1), .second, .val (.long q2), .second, .val (.long q3), .second, .val (.long q4), .second, .val (.int p5), .val (.long q1), .second, .val (.long q4), .second, .val (.ref b536), .val (.ref b543), .val (.int (1 : Int32)), .val (.int (2 : Int32)), .val (.ref b601)] [])) _
                  refine XS.iconst X622.here hx rfl (hb hby at_161) ?_
                  show Steps p.tables e below (T622.setTop (mkF m 162 #[.val (.long q1), .second, .val (.long q2), .second, .val (.long q3), .second, .val (.long q4), .second, .val (.int p5), .val (.long q1), .second, .val (.long q4), .second, .val (.ref b536), .val (.ref b543), .val (.int (1 : Int32)), .val (.int (2 : Int32)), .val (.ref b601)] [(.int (1 : Int32))])) _
                  refine XS.goto X622.here hx rfl (pc0 := 162) (pc' := 166) rfl (hb hby at_162) (by decide) (by decide) ?_
                  show Steps p.tables e below (T622.setTop (mkF m 166 #[.val (.long q1), .second, .val (.long q2), .second, .val (.long q3), .second, .val (.long q4), .second, .val (.int p5), .val (.long q1), .second, .val (.long q4), .second, .val (.ref b536), .val (.ref b543), .val (.int (1 : Int32)), .val (.int (2 : Int32)), .val (.ref b601)] [(.int (1 : Int32))])) _
                  exact retN X622 hx (t := .boolean) hret (by simp) (hb hby at_166) hr
                ·
                  show Q0 n0 _ T622.heap _
                  rw [e624]
                  exact ⟨rfl, N622⟩
              ·
                have N599 := Fr.app N544 Nq610
                have g_b607 : n0 ≤ b607 := Nat.le_trans (own_oz O544) sz_b607
                have M599 : h0.size ≤ T599.heap.size := Nat.le_trans M544 K611.1
                have O599 := Old.keep O544 K611 all0
                have f626 := (((f540.ext E543).keep K546).keep K611)
                obtain ⟨cq625, kq625, q625a, q625b, q625c⟩ := isOf hZ rfl f626
                obtain ⟨_, _, ⟨T627, L627, c627, n627⟩, -, X627, ⟨Lc627, hQ627, l627, y627, z627⟩, st627⟩ := X599.virtualBack hx (y := (⟨"com/example/sablegrid/sablegrid/model/WriteOutcome", "equals", "(Ljava/lang/Object;)Z"⟩ : MethodName)) (z := (⟨"com/example/sablegrid/sablegrid/model/WriteOutcome", "equals", "(Ljava/lang/Object;)Z"⟩ : MethodName)) hown (mvT hZ (hw _ (List.mem_of_getElem? (i := 13) rfl))) (mvT hZ (hw _ (List.mem_of_getElem? (i := 14) rfl))) (notFace_of_selects (args := #[]) (mvT hZ (hw _ (List.mem_of_getElem? (i := 16) rfl)))) (mvT hZ (hw _ (List.mem_of_getElem? (i := 16) rfl))) (mvT hZ (hw _ (List.mem_of_getElem? (i := 15) rfl))) (by decide) (backOf (W := 0) (rm7 l Z a0 hw [] b536 b607 T599.heap n0 O599 g_b536 g_b607 f612) hZ (hw _ (List.mem_of_getElem? (i := 17) rfl)) (hw _ (List.mem_of_getElem? (i := 2) rfl)) (by decide) (by decide)) q625a q625c (g := (mkF m 155 #[.val (.long q1), .second, .val (.long q2), .second, .val (.long q3), .second, .val (.long q4), .second, .val (.int p5), .val (.long q1), .second, .val (.long q4), .second, .val (.ref b536), .val (.ref b543), .val (.int (1 : Int32)), .val (.int (2 : Int32)), .val (.ref b607)] [(.ref b607), (.ref b536)])) rfl (by rw [hml]; rfl) (Steps.refl _) (argsL := [(.ref b607)]) (rest := []) (lenOf pd1 rfl) rfl (by show 2 * 0 + _ ≤ _; exact Nat.le_of_eq rfl) (hb hby at_155) (fun _ _ => ⟨rfl, rfl, (by decide : 3 + 0 ≤ _), (by decide : 5 + 0 ≤ _)⟩)
                dsimp only [Pt.U, Pt.locs, Pt.cells, Pt.slots] at X627 l627 y627 z627 st627 hQ627
                subst l627 y627 z627
                have X627 : Stand p l e room_1 s m #[(.long q1), (.long q2), (.long q3), (.long q4), (.int p5)] below meth c T627 _ 3 5 := X627
                obtain ⟨rfl, Nq628, e629⟩ := hQ627
                have N627 := Fr.app N599 Nq628
                obtain ⟨fs, hr, hrun, hended, hW, hsame⟩ := X627.leave (v := some (.int (1 : Int32))) (fun h => by rw [hret] at h; cases h)
                refine ⟨_, _, pre600 _ ?_, hrun, hended, _, _, rfl, ?_, ⟨_, rfl⟩, hW, hsame.mono (by decide) (by decide)⟩
                ·
                  show Steps p.tables e below (T544.setTop (mkF m 146 #[.val (.long q1), .second, .val (.long q2), .second, .val (.long q3), .second, .val (.long q4), .second, .val (.int p5), .val (.long q1), .second, .val (.long q4), .second, .val (.ref b536), .val (.ref b543), .val (.int (1 : Int32)), .val (.int (2 : Int32)), .unset] [(.long q1)])) _
                  refine st599 _ ?_
                  show Steps p.tables e below (T599.setTop (mkF m 149 #[.val (.long q1), .second, .val (.long q2), .second, .val (.long q3), .second, .val (.long q4), .second, .val (.int p5), .val (.long q1), .second, .val (.long q4), .second, .val (.ref b536), .val (.ref b543), .val (.int (1 : Int32)), .val (.int (2 : Int32)), .unset] [(.ref b607)])) _
                  refine XS.astore X599.here hx rfl (hb hby at_149) rfl rfl (l' := #[.val (.long q1), .second, .val (.long q2), .second, .val (.long q3), .second, .val (.long q4), .second, .val (.int p5), .val (.long q1), .second, .val (.long q4), .second, .val (.ref b536), .val (.ref b543), .val (.int (1 : Int32)), .val (.int (2 : Int32)), .val (.ref b607)]) rfl ?_
                  show Steps p.tables e below (T599.setTop (mkF m 151 #[.val (.long q1), .second, .val (.long q2), .second, .val (.long q3), .second, .val (.long q4), .second, .val (.int p5), .val (.long q1), .second, .val (.long q4), .second, .val (.ref b536), .val (.ref b543), .val (.int (1 : Int32)), .val (.int (2 : Int32)), .val (.ref b607)] [])) _
                  refine XS.aload X599.here hx rfl (hb hby at_151) rfl rfl ?_
                  show Steps p.tables e below (T599.setTop (mkF m 153 #[.val (.long q1), .second, .val (.long q2), .second, .val (.long q3), .second, .val (.long q4), .second, .val (.int p5), .val (.long q1), .second, .val (.long q4), .second, .val (.ref b536), .val (.ref b543), .val (.int (1 : Int32)), .val (.int (2 : Int32)), .val (.ref b607)] [(.ref b536)])) _
                  refine XS.aload X599.here hx rfl (hb hby at_153) rfl rfl ?_
                  show Steps p.tables e below (T599.setTop (mkF m 155 #[.val (.long q1), .second, .val (.long q2), .second, .val (.long q3), .second, .val (.long q4), .second, .val (.int p5), .val (.long q1), .second, .val (.long q4), .second, .val (.ref b536), .val (.ref b543), .val (.int (1 : Int32)), .val (.int (2 : Int32)), .val (.ref b607)] [(.ref b607), (.ref b536)])) _
                  refine st627.trans ?_
                  show Steps p.tables e below (T627.setTop (mkF m 158 #[.val (.long q1), .second, .val (.long q2), .second, .val (.long q3), .second, .val (.long q4), .second, .val (.int p5), .val (.long q1), .second, .val (.long q4), .second, .val (.ref b536), .val (.ref b543), .val (.int (1 : Int32)), .val (.int (2 : Int32)), .val (.ref b607)] [(.int (0 : Int32))])) _
                  refine XS.ifNo X627.here hx rfl (hb hby at_158) rfl ((if0 _ _).trans (teq (by decide : (0 : Int32) = (0 : Int32))).2) ?_
                  show Steps p.tables e below (T627.setTop (mkF m 161 #[.val (.long q1), .second, .val (.long q2), .second, .val (.long q3), .second, .val (.long q4), .second, .val (.int p5), .val (.long q1), .second, .val (.long q4), .second, .val (.ref b536), .val (.ref b543), .val (.int (1 : Int32)), .val (.int (2 : Int32)), .val (.ref b607)] [])) _
                  refine XS.iconst X627.here hx rfl (hb hby at_161) ?_
                  show Steps p.tables e below (T627.setTop (mkF m 162 #[.val (.long q1), .second, .val (.long q2), .second, .val (.long q3), .second, .val (.long q4), .second, .val (.int p5), .val (.long q1), .second, .val (.long q4), .second, .val (.ref b536), .val (.ref b543), .val (.int (1 : Int32)), .val (.int (2 : Int32)), .val (.ref b607)] [(.int (1 : Int32))])) _
                  refine XS.goto X627.here hx rfl (pc0 := 162) (pc' := 166) rfl (hb hby at_162) (by decide) (by decide) ?_
                  show Steps p.tables e below (T627.setTop (mkF m 166 #[.val (.long q1), .second, .val (.long q2), .second, .val (.long q3), .second, .val (.long q4), .second, .val (.int p5), .val (.long q1), .second, .val (.long q4), .second, .val (.ref b536), .val (.ref b543), .val (.int (1 : Int32)), .val (.int (2 : Int32)), .val (.ref b607)] [(.int (1 : Int32))])) _
                  exact retN X627 hx (t := .boolean) hret (by simp) (hb hby at_166) hr
                ·
                  show Q0 n0 _ T627.heap _
                  rw [e629]
                  exact ⟨rfl, N627⟩
              ·
                have N599 := Fr.app N544 Nq617
                have f631 := ((f540.ext E543).keep K546)
                obtain ⟨cq630, kq630, q630a, q630b, q630c⟩ := isOf hZ e618 f631
                obtain ⟨_, _, ⟨T632, L632, c632, n632⟩, -, X632, ⟨Lc632, hQ632, l632, y632, z632⟩, st632⟩ := X599.virtualBack hx (y := (⟨"com/example/sablegrid/sablegrid/model/WriteOutcome", "equals", "(Ljava/lang/Object;)Z"⟩ : MethodName)) (z := (⟨"com/example/sablegrid/sablegrid/model/WriteOutcome", "equals", "(Ljava/lang/Object;)Z"⟩ : MethodName)) hown (mvT hZ (hw _ (List.mem_of_getElem? (i := 13) rfl))) (mvT hZ (hw _ (List.mem_of_getElem? (i := 14) rfl))) (notFace_of_selects (args := #[]) (mvT hZ (hw _ (List.mem_of_getElem? (i := 16) rfl)))) (mvT hZ (hw _ (List.mem_of_getElem? (i := 16) rfl))) (mvT hZ (hw _ (List.mem_of_getElem? (i := 15) rfl))) (by decide) (backOf (W := 0) (rm8 l Z a0 hw [] b536 v614 T544.heap n0 O544 g_b536 f619) hZ (hw _ (List.mem_of_getElem? (i := 17) rfl)) (hw _ (List.mem_of_getElem? (i := 2) rfl)) (by decide) (by decide)) q630a q630c (g := (mkF m 155 #[.val (.long q1), .second, .val (.long q2), .second, .val (.long q3), .second, .val (.long q4), .second, .val (.int p5), .val (.long q1), .second, .val (.long q4), .second, .val (.ref b536), .val (.ref b543), .val (.int (1 : Int32)), .val (.int (2 : Int32)), .val (.ref v614)] [(.ref v614), (.ref b536)])) rfl (by rw [hml]; rfl) (Steps.refl _) (argsL := [(.ref v614)]) (rest := []) (lenOf pd1 rfl) rfl (by show 2 * 0 + _ ≤ _; exact Nat.le_of_eq rfl) (hb hby at_155) (fun _ _ => ⟨rfl, e618, (by decide : 3 + 0 ≤ _), (by decide : 5 + 0 ≤ _)⟩)
                dsimp only [Pt.U, Pt.locs, Pt.cells, Pt.slots] at X632 l632 y632 z632 st632 hQ632
                subst l632 y632 z632
                have X632 : Stand p l e room_1 s m #[(.long q1), (.long q2), (.long q3), (.long q4), (.int p5)] below meth c T632 _ 3 5 := X632
                obtain ⟨rfl, Nq633, e634⟩ := hQ632
                have N632 := Fr.app N599 Nq633
                obtain ⟨fs, hr, hrun, hended, hW, hsame⟩ := X632.leave (v := some (.int (1 : Int32))) (fun h => by rw [hret] at h; cases h)
                refine ⟨_, _, pre600 _ ?_, hrun, hended, _, _, rfl, ?_, ⟨_, rfl⟩, hW, hsame.mono (by decide) (by decide)⟩
                ·
                  show Steps p.tables e below (T544.setTop (mkF m 146 #[.val (.long q1), .second, .val (.long q2), .second, .val (.long q3), .second, .val (.long q4), .second, .val (.int p5), .val (.long q1), .second, .val (.long q4), .second, .val (.ref b536), .val (.ref b543), .val (.int (1 : Int32)), .val (.int (2 : Int32)), .unset] [(.long q1)])) _
                  refine st599 _ ?_
                  show Steps p.tables e below (T599.setTop (mkF m 149 #[.val (.long q1), .second, .val (.long q2), .second, .val (.long q3), .second, .val (.long q4), .second, .val (.int p5), .val (.long q1), .second, .val (.long q4), .second, .val (.ref b536), .val (.ref b543), .val (.int (1 : Int32)), .val (.int (2 : Int32)), .unset] [(.ref v614)])) _
                  refine XS.astore X599.here hx rfl (hb hby at_149) rfl rfl (l' := #[.val (.long q1), .second, .val (.long q2), .second, .val (.long q3), .second, .val (.long q4), .second, .val (.int p5), .val (.long q1), .second, .val (.long q4), .second, .val (.ref b536), .val (.ref b543), .val (.int (1 : Int32)), .val (.int (2 : Int32)), .val (.ref v614)]) rfl ?_
                  show Steps p.tables e below (T599.setTop (mkF m 151 #[.val (.long q1), .second, .val (.long q2), .second, .val (.long q3), .second, .val (.long q4), .second, .val (.int p5), .val (.long q1), .second, .val (.long q4), .second, .val (.ref b536), .val (.ref b543), .val (.int (1 : Int32)), .val (.int (2 : Int32)), .val (.ref v614)] [])) _
                  refine XS.aload X599.here hx rfl (hb hby at_151) rfl rfl ?_
                  show Steps p.tables e below (T599.setTop (mkF m 153 #[.val (.long q1), .second, .val (.long q2), .second, .val (.long q3), .second, .val (.long q4), .second, .val (.int p5), .val (.long q1), .second, .val (.long q4), .second, .val (.ref b536), .val (.ref b543), .val (.int (1 : Int32)), .val (.int (2 : Int32)), .val (.ref v614)] [(.ref b536)])) _
                  refine XS.aload X599.here hx rfl (hb hby at_153) rfl rfl ?_
                  show Steps p.tables e below (T599.setTop (mkF m 155 #[.val (.long q1), .second, .val (.long q2), .second, .val (.long q3), .second, .val (.long q4), .second, .val (.int p5), .val (.long q1), .second, .val (.long q4), .second, .val (.ref b536), .val (.ref b543), .val (.int (1 : Int32)), .val (.int (2 : Int32)), .val (.ref v614)] [(.ref v614), (.ref b536)])) _
                  refine st632.trans ?_
                  show Steps p.tables e below (T632.setTop (mkF m 158 #[.val (.long q1), .second, .val (.long q2), .second, .val (.long q3), .second, .val (.long q4), .second, .val (.int p5), .val (.long q1), .second, .val (.long q4), .second, .val (.ref b536), .val (.ref b543), .val (.int (1 : Int32)), .val (.int (2 : Int32)), .val (.ref v614)] [(.int (0 : Int32))])) _
                  refine XS.ifNo X632.here hx rfl (hb hby at_158) rfl ((if0 _ _).trans (teq (by decide : (0 : Int32) = (0 : Int32))).2) ?_
                  show Steps p.tables e below (T632.setTop (mkF m 161 #[.val (.long q1), .second, .val (.long q2), .second, .val (.long q3), .second, .val (.long q4), .second, .val (.int p5), .val (.long q1), .second, .val (.long q4), .second, .val (.ref b536), .val (.ref b543), .val (.int (1 : Int32)), .val (.int (2 : Int32)), .val (.ref v614)] [])) _
                  refine XS.iconst X632.here hx rfl (hb hby at_161) ?_
                  show Steps p.tables e below (T632.setTop (mkF m 162 #[.val (.long q1), .second, .val (.long q2), .second, .val (.long q3), .second, .val (.long q4), .second, .val (.int p5), .val (.long q1), .second, .val (.long q4), .second, .val (.ref b536), .val (.ref b543), .val (.int (1 : Int32)), .val (.int (2 : Int32)), .val (.ref v614)] [(.int (1 : Int32))])) _
                  refine XS.goto X632.here hx rfl (pc0 := 162) (pc' := 166) rfl (hb hby at_162) (by decide) (by decide) ?_
                  show Steps p.tables e below (T632.setTop (mkF m 166 #[.val (.long q1), .second, .val (.long q2), .second, .val (.long q3), .second, .val (.long q4), .second, .val (.int p5), .val (.long q1), .second, .val (.long q4), .second, .val (.ref b536), .val (.ref b543), .val (.int (1 : Int32)), .val (.int (2 : Int32)), .val (.ref v614)] [(.int (1 : Int32))])) _
                  exact retN X632 hx (t := .boolean) hret (by simp) (hb hby at_166) hr
                ·
                  show Q0 n0 _ T632.heap _
                  rw [e634]
                  exact ⟨rfl, N632⟩
            ·
              have hq635 : (((p5.toUInt32 >>> ((2 : Int32) &&& 31).toUInt32).toInt32) &&& (3 : Int32)) = (3 : Int32) := (own_geq (n := 3) (k := (3 : Int32)) (by decide) (by have q0 := own_and (x := ((p5.toUInt32 >>> ((2 : Int32) &&& 31).toUInt32).toInt32)) (k := (3 : Int32)) (n := 3) (by decide) (by decide); have q1 := own_neq (n := 0) (k := (0 : Int32)) (by decide) hc553; have q2 := own_neq (n := 1) (k := (1 : Int32)) (by decide) hc589; have q3 := own_neq (n := 2) (k := (2 : Int32)) (by decide) hc597; omega))
              have pre636 : ∀ t, Steps p.tables e below (T544.setTop (mkF m 142 #[.val (.long q1), .second, .val (.long q2), .second, .val (.long q3), .second, .val (.long q4), .second, .val (.int p5), .val (.long q1), .second, .val (.long q4), .second, .val (.ref b536), .val (.ref b543), .val (.int (1 : Int32)), .val (.int (3 : Int32)), .unset] [(.int (2 : Int32)), (.int (3 : Int32))])) t → Steps p.tables e below (s₁.setTop (entryFrame m #[(.long q1), (.long q2), (.long q3), (.long q4), (.int p5)] maxLocals)) t := fun t k => pre596 t (by rw [hq635]; exact k)
              have f637 := ((f540.ext E543).keep K546)
              have lt638 : b536 < T537.heap.size := (Nat.lt_of_lt_of_le A536.lt K539.1)
              have ne639 : b536 ≠ b543 := Nat.ne_of_lt (Nat.lt_of_lt_of_le lt638 sz_b543)
              have f640 := ((f541.ext E543).keep K546 (ninS ne639 nin0))
              have f641 := ((f542.ext E543).keep K546 (ninS ne639 nin0))
              obtain ⟨cq642, kq642, q642a, q642b, q642c⟩ := isOf hZ rfl f637
              obtain ⟨_, _, ⟨T643, L643, c643, n643⟩, -, X643, ⟨Lc643, hQ643, l643, y643, z643⟩, st643⟩ := X544.virtualBack hx (y := (⟨"com/example/sablegrid/sablegrid/model/WriteOutcome", "equals", "(Ljava/lang/Object;)Z"⟩ : MethodName)) (z := (⟨"com/example/sablegrid/sablegrid/model/WriteOutcome", "equals", "(Ljava/lang/Object;)Z"⟩ : MethodName)) hown (mvT hZ (hw _ (List.mem_of_getElem? (i := 13) rfl))) (mvT hZ (hw _ (List.mem_of_getElem? (i := 14) rfl))) (notFace_of_selects (args := #[]) (mvT hZ (hw _ (List.mem_of_getElem? (i := 16) rfl)))) (mvT hZ (hw _ (List.mem_of_getElem? (i := 16) rfl))) (mvT hZ (hw _ (List.mem_of_getElem? (i := 15) rfl))) (by decide) (backOf (W := 0) (rm9 l Z a0 hw [] b536 q1 q2 T544.heap n0 O544 g_b536 f637 f640 f641) hZ (hw _ (List.mem_of_getElem? (i := 17) rfl)) (hw _ (List.mem_of_getElem? (i := 2) rfl)) (by decide) (by decide)) q642a q642c (g := (mkF m 171 #[.val (.long q1), .second, .val (.long q2), .second, .val (.long q3), .second, .val (.long q4), .second, .val (.int p5), .val (.long q1), .second, .val (.long q4), .second, .val (.ref b536), .val (.ref b543), .val (.int (1 : Int32)), .val (.int (3 : Int32)), .unset] [(.ref b536), (.ref b536)])) rfl (by rw [hml]; rfl) (Steps.refl _) (argsL := [(.ref b536)]) (rest := []) (lenOf pd1 rfl) rfl (by show 2 * 0 + _ ≤ _; exact Nat.le_of_eq rfl) (hb hby at_171) (fun _ _ => ⟨rfl, rfl, (by decide : 2 + 0 ≤ _), (by decide : 4 + 0 ≤ _)⟩)
              dsimp only [Pt.U, Pt.locs, Pt.cells, Pt.slots] at X643 l643 y643 z643 st643 hQ643
              subst l643 y643 z643
              have X643 : Stand p l e room_1 s m #[(.long q1), (.long q2), (.long q3), (.long q4), (.int p5)] below meth c T643 _ 2 4 := X643
              obtain ⟨rfl, Nq644, e645⟩ := hQ643
              have N643 := Fr.app N544 Nq644
              obtain ⟨cq646, kq646, q646a, q646b, q646c⟩ := isOf hZ e645 f547
              obtain ⟨_, _, ⟨T647, L647, c647, n647⟩, -, X647, ⟨Lc647, hQ647, l647, y647, z647⟩, st647⟩ := X643.virtualBack hx (y := (⟨"com/example/sablegrid/sablegrid/model/WriteOutcome", "equals", "(Ljava/lang/Object;)Z"⟩ : MethodName)) (z := (⟨"com/example/sablegrid/sablegrid/model/WriteOutcome", "equals", "(Ljava/lang/Object;)Z"⟩ : MethodName)) hown (mvT hZ (hw _ (List.mem_of_getElem? (i := 13) rfl))) (mvT hZ (hw _ (List.mem_of_getElem? (i := 14) rfl))) (notFace_of_selects (args := #[]) (mvT hZ (hw _ (List.mem_of_getElem? (i := 16) rfl)))) (mvT hZ (hw _ (List.mem_of_getElem? (i := 16) rfl))) (mvT hZ (hw _ (List.mem_of_getElem? (i := 15) rfl))) (by decide) (backOf (W := 0) (rm9 l Z a0 hw [] b543 q1 q4 T544.heap n0 O544 g_b543 f547 f548 f549) hZ (hw _ (List.mem_of_getElem? (i := 17) rfl)) (hw _ (List.mem_of_getElem? (i := 2) rfl)) (by decide) (by decide)) q646a q646c (g := (mkF m 181 #[.val (.long q1), .second, .val (.long q2), .second, .val (.long q3), .second, .val (.long q4), .second, .val (.int p5), .val (.long q1), .second, .val (.long q4), .second, .val (.ref b536), .val (.ref b543), .val (.int (1 : Int32)), .val (.int (3 : Int32)), .unset] [(.ref b543), (.ref b543)])) rfl (by rw [hml]; rfl) (Steps.refl _) (argsL := [(.ref b543)]) (rest := []) (lenOf pd1 rfl) rfl (by show 2 * 0 + _ ≤ _; exact Nat.le_of_eq rfl) (hb hby at_181) (fun _ _ => ⟨rfl, e645, (by decide : 2 + 0 ≤ _), (by decide : 4 + 0 ≤ _)⟩)
              dsimp only [Pt.U, Pt.locs, Pt.cells, Pt.slots] at X647 l647 y647 z647 st647 hQ647
              subst l647 y647 z647
              have X647 : Stand p l e room_1 s m #[(.long q1), (.long q2), (.long q3), (.long q4), (.int p5)] below meth c T647 _ 2 4 := X647
              obtain ⟨rfl, Nq648, e649⟩ := hQ647
              have N647 := Fr.app N643 Nq648
              obtain ⟨fs, hr, hrun, hended, hW, hsame⟩ := X647.leave (v := some (.int (1 : Int32))) (fun h => by rw [hret] at h; cases h)
              refine ⟨_, _, pre636 _ ?_, hrun, hended, _, _, rfl, ?_, ⟨_, rfl⟩, hW, hsame.mono (by decide) (by decide)⟩
              ·
                show Steps p.tables e below (T544.setTop (mkF m 142 #[.val (.long q1), .second, .val (.long q2), .second, .val (.long q3), .second, .val (.long q4), .second, .val (.int p5), .val (.long q1), .second, .val (.long q4), .second, .val (.ref b536), .val (.ref b543), .val (.int (1 : Int32)), .val (.int (3 : Int32)), .unset] [(.int (2 : Int32)), (.int (3 : Int32))])) _
                refine XS.icmpYes X544.here hx rfl (pc0 := 142) (pc' := 167) rfl (hb hby at_142) rfl (feq (by decide : ¬ ((3 : Int32) = (2 : Int32)))).2 (by decide) (by decide) ?_
                show Steps p.tables e below (T544.setTop (mkF m 167 #[.val (.long q1), .second, .val (.long q2), .second, .val (.long q3), .second, .val (.long q4), .second, .val (.int p5), .val (.long q1), .second, .val (.long q4), .second, .val (.ref b536), .val (.ref b543), .val (.int (1 : Int32)), .val (.int (3 : Int32)), .unset] [])) _
                refine XS.aload X544.here hx rfl (hb hby at_167) rfl rfl ?_
                show Steps p.tables e below (T544.setTop (mkF m 169 #[.val (.long q1), .second, .val (.long q2), .second, .val (.long q3), .second, .val (.long q4), .second, .val (.int p5), .val (.long q1), .second, .val (.long q4), .second, .val (.ref b536), .val (.ref b543), .val (.int (1 : Int32)), .val (.int (3 : Int32)), .unset] [(.ref b536)])) _
                refine XS.aload X544.here hx rfl (hb hby at_169) rfl rfl ?_
                show Steps p.tables e below (T544.setTop (mkF m 171 #[.val (.long q1), .second, .val (.long q2), .second, .val (.long q3), .second, .val (.long q4), .second, .val (.int p5), .val (.long q1), .second, .val (.long q4), .second, .val (.ref b536), .val (.ref b543), .val (.int (1 : Int32)), .val (.int (3 : Int32)), .unset] [(.ref b536), (.ref b536)])) _
                refine st643.trans ?_
                show Steps p.tables e below (T643.setTop (mkF m 174 #[.val (.long q1), .second, .val (.long q2), .second, .val (.long q3), .second, .val (.long q4), .second, .val (.int p5), .val (.long q1), .second, .val (.long q4), .second, .val (.ref b536), .val (.ref b543), .val (.int (1 : Int32)), .val (.int (3 : Int32)), .unset] [(.int (1 : Int32))])) _
                refine XS.ifNo X643.here hx rfl (hb hby at_174) rfl ((if0 _ _).trans (feq (by decide : ¬ ((1 : Int32) = (0 : Int32)))).1) ?_
                show Steps p.tables e below (T643.setTop (mkF m 177 #[.val (.long q1), .second, .val (.long q2), .second, .val (.long q3), .second, .val (.long q4), .second, .val (.int p5), .val (.long q1), .second, .val (.long q4), .second, .val (.ref b536), .val (.ref b543), .val (.int (1 : Int32)), .val (.int (3 : Int32)), .unset] [])) _
                refine XS.aload X643.here hx rfl (hb hby at_177) rfl rfl ?_
                show Steps p.tables e below (T643.setTop (mkF m 179 #[.val (.long q1), .second, .val (.long q2), .second, .val (.long q3), .second, .val (.long q4), .second, .val (.int p5), .val (.long q1), .second, .val (.long q4), .second, .val (.ref b536), .val (.ref b543), .val (.int (1 : Int32)), .val (.int (3 : Int32)), .unset] [(.ref b543)])) _
                refine XS.aload X643.here hx rfl (hb hby at_179) rfl rfl ?_
                show Steps p.tables e below (T643.setTop (mkF m 181 #[.val (.long q1), .second, .val (.long q2), .second, .val (.long q3), .second, .val (.long q4), .second, .val (.int p5), .val (.long q1), .second, .val (.long q4), .second, .val (.ref b536), .val (.ref b543), .val (.int (1 : Int32)), .val (.int (3 : Int32)), .unset] [(.ref b543), (.ref b543)])) _
                refine st647.trans ?_
                show Steps p.tables e below (T647.setTop (mkF m 184 #[.val (.long q1), .second, .val (.long q2), .second, .val (.long q3), .second, .val (.long q4), .second, .val (.int p5), .val (.long q1), .second, .val (.long q4), .second, .val (.ref b536), .val (.ref b543), .val (.int (1 : Int32)), .val (.int (3 : Int32)), .unset] [(.int (1 : Int32))])) _
                refine XS.ifNo X647.here hx rfl (hb hby at_184) rfl ((if0 _ _).trans (feq (by decide : ¬ ((1 : Int32) = (0 : Int32)))).1) ?_
                show Steps p.tables e below (T647.setTop (mkF m 187 #[.val (.long q1), .second, .val (.long q2), .second, .val (.long q3), .second, .val (.long q4), .second, .val (.int p5), .val (.long q1), .second, .val (.long q4), .second, .val (.ref b536), .val (.ref b543), .val (.int (1 : Int32)), .val (.int (3 : Int32)), .unset] [])) _
                refine XS.iconst X647.here hx rfl (hb hby at_187) ?_
                show Steps p.tables e below (T647.setTop (mkF m 188 #[.val (.long q1), .second, .val (.long q2), .second, .val (.long q3), .second, .val (.long q4), .second, .val (.int p5), .val (.long q1), .second, .val (.long q4), .second, .val (.ref b536), .val (.ref b543), .val (.int (1 : Int32)), .val (.int (3 : Int32)), .unset] [(.int (1 : Int32))])) _
                refine XS.goto X647.here hx rfl (pc0 := 188) (pc' := 192) rfl (hb hby at_188) (by decide) (by decide) ?_
                show Steps p.tables e below (T647.setTop (mkF m 192 #[.val (.long q1), .second, .val (.long q2), .second, .val (.long q3), .second, .val (.long q4), .second, .val (.int p5), .val (.long q1), .second, .val (.long q4), .second, .val (.ref b536), .val (.ref b543), .val (.int (1 : Int32)), .val (.int (3 : Int32)), .unset] [(.int (1 : Int32))])) _
                exact retN X647 hx (t := .boolean) hret (by simp) (hb hby at_192) hr
              ·
                show Q0 n0 _ T647.heap _
                rw [e649]
                exact ⟨rfl, N647⟩
      ·
        have pre650 : ∀ t, Steps p.tables e below (T544.setTop (mkF m 85 #[.val (.long q1), .second, .val (.long q2), .second, .val (.long q3), .second, .val (.long q4), .second, .val (.int p5), .val (.long q1), .second, .val (.long q4), .second, .val (.ref b536), .val (.ref b543), .val (.int (0 : Int32)), .val (.int (((p5.toUInt32 >>> ((2 : Int32) &&& 31).toUInt32).toInt32) &&& (3 : Int32))), .unset] [(.int (((p5.toUInt32 >>> ((2 : Int32) &&& 31).toUInt32).toInt32) &&& (3 : Int32)))])) t → Steps p.tables e below (s₁.setTop (entryFrame m #[(.long q1), (.long q2), (.long q3), (.long q4), (.int p5)] maxLocals)) t := fun t k => by
          refine pre550 _ ?_
          show Steps p.tables e below (T544.setTop (mkF m 65 #[.val (.long q1), .second, .val (.long q2), .second, .val (.long q3), .second, .val (.long q4), .second, .val (.int p5), .val (.long q1), .second, .val (.long q4), .second, .val (.ref b536), .val (.ref b543), .unset, .unset, .unset] [(.int (lcmpW q2 q4))])) _
          refine XS.ifYes X544.here hx rfl (pc0 := 65) (pc' := 72) rfl (hb hby at_65) rfl ((if0 _ _).trans (feq (fun q => hc551 ((lw_eq _ _).mp q))).2) (by decide) (by decide) ?_
          show Steps p.tables e below (T544.setTop (mkF m 72 #[.val (.long q1), .second, .val (.long q2), .second, .val (.long q3), .second, .val (.long q4), .second, .val (.int p5), .val (.long q1), .second, .val (.long q4), .second, .val (.ref b536), .val (.ref b543), .unset, .unset, .unset] [])) _
          refine XS.iconst X544.here hx rfl (hb hby at_72) ?_
          show Steps p.tables e below (T544.setTop (mkF m 73 #[.val (.long q1), .second, .val (.long q2), .second, .val (.long q3), .second, .val (.long q4), .second, .val (.int p5), .val (.long q1), .second, .val (.long q4), .second, .val (.ref b536), .val (.ref b543), .unset, .unset, .unset] [(.int (0 : Int32))])) _
          refine XS.istore X544.here hx rfl (hb hby at_73) rfl (l' := #[.val (.long q1), .second, .val (.long q2), .second, .val (.long q3), .second, .val (.long q4), .second, .val (.int p5), .val (.long q1), .second, .val (.long q4), .second, .val (.ref b536), .val (.ref b543), .val (.int (0 : Int32)), .unset, .unset]) rfl ?_
          show Steps p.tables e below (T544.setTop (mkF m 75 #[.val (.long q1), .second, .val (.long q2), .second, .val (.long q3), .second, .val (.long q4), .second, .val (.int p5), .val (.long q1), .second, .val (.long q4), .second, .val (.ref b536), .val (.ref b543), .val (.int (0 : Int32)), .unset, .unset] [])) _
          refine XS.iload X544.here hx rfl (hb hby at_75) rfl ?_
          show Steps p.tables e below (T544.setTop (mkF m 77 #[.val (.long q1), .second, .val (.long q2), .second, .val (.long q3), .second, .val (.long q4), .second, .val (.int p5), .val (.long q1), .second, .val (.long q4), .second, .val (.ref b536), .val (.ref b543), .val (.int (0 : Int32)), .unset, .unset] [(.int p5)])) _
          refine XS.iconst X544.here hx rfl (hb hby at_77) ?_
          show Steps p.tables e below (T544.setTop (mkF m 78 #[.val (.long q1), .second, .val (.long q2), .second, .val (.long q3), .second, .val (.long q4), .second, .val (.int p5), .val (.long q1), .second, .val (.long q4), .second, .val (.ref b536), .val (.ref b543), .val (.int (0 : Int32)), .unset, .unset] [(.int (2 : Int32)), (.int p5)])) _
          refine XS.iushr X544.here hx rfl (hb hby at_78) rfl ?_
          show Steps p.tables e below (T544.setTop (mkF m 79 #[.val (.long q1), .second, .val (.long q2), .second, .val (.long q3), .second, .val (.long q4), .second, .val (.int p5), .val (.long q1), .second, .val (.long q4), .second, .val (.ref b536), .val (.ref b543), .val (.int (0 : Int32)), .unset, .unset] [(.int ((p5.toUInt32 >>> ((2 : Int32) &&& 31).toUInt32).toInt32))])) _
          refine XS.iconst X544.here hx rfl (hb hby at_79) ?_
          show Steps p.tables e below (T544.setTop (mkF m 80 #[.val (.long q1), .second, .val (.long q2), .second, .val (.long q3), .second, .val (.long q4), .second, .val (.int p5), .val (.long q1), .second, .val (.long q4), .second, .val (.ref b536), .val (.ref b543), .val (.int (0 : Int32)), .unset, .unset] [(.int (3 : Int32)), (.int ((p5.toUInt32 >>> ((2 : Int32) &&& 31).toUInt32).toInt32))])) _
          refine XS.iand X544.here hx rfl (hb hby at_80) rfl ?_
          show Steps p.tables e below (T544.setTop (mkF m 81 #[.val (.long q1), .second, .val (.long q2), .second, .val (.long q3), .second, .val (.long q4), .second, .val (.int p5), .val (.long q1), .second, .val (.long q4), .second, .val (.ref b536), .val (.ref b543), .val (.int (0 : Int32)), .unset, .unset] [(.int (((p5.toUInt32 >>> ((2 : Int32) &&& 31).toUInt32).toInt32) &&& (3 : Int32)))])) _
          refine XS.istore X544.here hx rfl (hb hby at_81) rfl (l' := #[.val (.long q1), .second, .val (.long q2), .second, .val (.long q3), .second, .val (.long q4), .second, .val (.int p5), .val (.long q1), .second, .val (.long q4), .second, .val (.ref b536), .val (.ref b543), .val (.int (0 : Int32)), .val (.int (((p5.toUInt32 >>> ((2 : Int32) &&& 31).toUInt32).toInt32) &&& (3 : Int32))), .unset]) rfl ?_
          show Steps p.tables e below (T544.setTop (mkF m 83 #[.val (.long q1), .second, .val (.long q2), .second, .val (.long q3), .second, .val (.long q4), .second, .val (.int p5), .val (.long q1), .second, .val (.long q4), .second, .val (.ref b536), .val (.ref b543), .val (.int (0 : Int32)), .val (.int (((p5.toUInt32 >>> ((2 : Int32) &&& 31).toUInt32).toInt32) &&& (3 : Int32))), .unset] [])) _
          refine XS.iload X544.here hx rfl (hb hby at_83) rfl ?_
          exact k
        by_cases hc651 : (((p5.toUInt32 >>> ((2 : Int32) &&& 31).toUInt32).toInt32) &&& (3 : Int32)) = (0 : Int32)
        ·
          have pre652 : ∀ t, Steps p.tables e below (T544.setTop (mkF m 85 #[.val (.long q1), .second, .val (.long q2), .second, .val (.long q3), .second, .val (.long q4), .second, .val (.int p5), .val (.long q1), .second, .val (.long q4), .second, .val (.ref b536), .val (.ref b543), .val (.int (0 : Int32)), .val (.int (0 : Int32)), .unset] [(.int (0 : Int32))])) t → Steps p.tables e below (s₁.setTop (entryFrame m #[(.long q1), (.long q2), (.long q3), (.long q4), (.int p5)] maxLocals)) t := fun t k => pre650 t (by rw [hc651]; exact k)
          have lt653 : b536 < T537.heap.size := (Nat.lt_of_lt_of_le A536.lt K539.1)
          have ne654 : b536 ≠ b543 := Nat.ne_of_lt (Nat.lt_of_lt_of_le lt653 sz_b543)
          have f655 := ((f541.ext E543).keep K546 (ninS ne654 nin0))
          have f656 := ((f542.ext E543).keep K546 (ninS ne654 nin0))
          have f658 := ((f540.ext E543).keep K546)
          obtain ⟨cq657, kq657, q657a, q657b, q657c⟩ := isOf hZ rfl f658
          obtain ⟨_, _, ⟨T659, L659, c659, n659⟩, -, X659, ⟨Lc659, hQ659, l659, y659, z659⟩, st659⟩ := X544.virtualBack hx (y := (⟨"com/example/sablegrid/sablegrid/model/WriteOutcome", "equals", "(Ljava/lang/Object;)Z"⟩ : MethodName)) (z := (⟨"com/example/sablegrid/sablegrid/model/WriteOutcome", "equals", "(Ljava/lang/Object;)Z"⟩ : MethodName)) hown (mvT hZ (hw _ (List.mem_of_getElem? (i := 13) rfl))) (mvT hZ (hw _ (List.mem_of_getElem? (i := 14) rfl))) (notFace_of_selects (args := #[]) (mvT hZ (hw _ (List.mem_of_getElem? (i := 16) rfl)))) (mvT hZ (hw _ (List.mem_of_getElem? (i := 16) rfl))) (mvT hZ (hw _ (List.mem_of_getElem? (i := 15) rfl))) (by decide) (backOf (W := 0) (rm2 l Z a0 hw [] b536 b543 q1 q2 q1 q4 T544.heap n0 O544 g_b536 g_b543 f655 f656 f547 f548 f549) hZ (hw _ (List.mem_of_getElem? (i := 17) rfl)) (hw _ (List.mem_of_getElem? (i := 2) rfl)) (by decide) (by decide)) q657a q657c (g := (mkF m 92 #[.val (.long q1), .second, .val (.long q2), .second, .val (.long q3), .second, .val (.long q4), .second, .val (.int p5), .val (.long q1), .second, .val (.long q4), .second, .val (.ref b536), .val (.ref b543), .val (.int (0 : Int32)), .val (.int (0 : Int32)), .unset] [(.ref b543), (.ref b536)])) rfl (by rw [hml]; rfl) (Steps.refl _) (argsL := [(.ref b543)]) (rest := []) (lenOf pd1 rfl) rfl (by show 2 * 0 + _ ≤ _; exact Nat.le_of_eq rfl) (hb hby at_92) (fun _ _ => ⟨rfl, rfl, (by decide : 2 + 0 ≤ _), (by decide : 4 + 0 ≤ _)⟩)
          dsimp only [Pt.U, Pt.locs, Pt.cells, Pt.slots] at X659 l659 y659 z659 st659 hQ659
          subst l659 y659 z659
          have pre660 : ∀ t, Steps p.tables e below (T544.setTop (mkF m 92 #[.val (.long q1), .second, .val (.long q2), .second, .val (.long q3), .second, .val (.long q4), .second, .val (.int p5), .val (.long q1), .second, .val (.long q4), .second, .val (.ref b536), .val (.ref b543), .val (.int (0 : Int32)), .val (.int (0 : Int32)), .unset] [(.ref b543), (.ref b536)])) t → Steps p.tables e below (s₁.setTop (entryFrame m #[(.long q1), (.long q2), (.long q3), (.long q4), (.int p5)] maxLocals)) t := fun t k => by
            refine pre652 _ ?_
            show Steps p.tables e below (T544.setTop (mkF m 85 #[.val (.long q1), .second, .val (.long q2), .second, .val (.long q3), .second, .val (.long q4), .second, .val (.int p5), .val (.long q1), .second, .val (.long q4), .second, .val (.ref b536), .val (.ref b543), .val (.int (0 : Int32)), .val (.int (0 : Int32)), .unset] [(.int (0 : Int32))])) _
            refine XS.ifNo X544.here hx rfl (hb hby at_85) rfl ((if0 _ _).trans (teq (by decide : (0 : Int32) = (0 : Int32))).2) ?_
            show Steps p.tables e below (T544.setTop (mkF m 88 #[.val (.long q1), .second, .val (.long q2), .second, .val (.long q3), .second, .val (.long q4), .second, .val (.int p5), .val (.long q1), .second, .val (.long q4), .second, .val (.ref b536), .val (.ref b543), .val (.int (0 : Int32)), .val (.int (0 : Int32)), .unset] [])) _
            refine XS.aload X544.here hx rfl (hb hby at_88) rfl rfl ?_
            show Steps p.tables e below (T544.setTop (mkF m 90 #[.val (.long q1), .second, .val (.long q2), .second, .val (.long q3), .second, .val (.long q4), .second, .val (.int p5), .val (.long q1), .second, .val (.long q4), .second, .val (.ref b536), .val (.ref b543), .val (.int (0 : Int32)), .val (.int (0 : Int32)), .unset] [(.ref b536)])) _
            refine XS.aload X544.here hx rfl (hb hby at_90) rfl rfl ?_
            exact k
          have X659 : Stand p l e room_1 s m #[(.long q1), (.long q2), (.long q3), (.long q4), (.int p5)] below meth c T659 _ 2 4 := X659
          rcases hQ659 with ⟨hc661, hc662, rfl, Nq663, e664⟩ | ⟨hc665, hc666, rfl, Nq667, e668⟩ | ⟨hc669, rfl, Nq670, e671⟩
          ·
            exact absurd hc662 hc551
          ·
            have N659 := Fr.app N544 Nq667
            obtain ⟨cq672, kq672, q672a, q672b, q672c⟩ := isOf hZ e668 f547
            obtain ⟨_, _, ⟨T673, L673, c673, n673⟩, -, X673, ⟨Lc673, hQ673, l673, y673, z673⟩, st673⟩ := X659.virtualBack hx (y := (⟨"com/example/sablegrid/sablegrid/model/WriteOutcome", "equals", "(Ljava/lang/Object;)Z"⟩ : MethodName)) (z := (⟨"com/example/sablegrid/sablegrid/model/WriteOutcome", "equals", "(Ljava/lang/Object;)Z"⟩ : MethodName)) hown (mvT hZ (hw _ (List.mem_of_getElem? (i := 13) rfl))) (mvT hZ (hw _ (List.mem_of_getElem? (i := 14) rfl))) (notFace_of_selects (args := #[]) (mvT hZ (hw _ (List.mem_of_getElem? (i := 16) rfl)))) (mvT hZ (hw _ (List.mem_of_getElem? (i := 16) rfl))) (mvT hZ (hw _ (List.mem_of_getElem? (i := 15) rfl))) (by decide) (backOf (W := 0) (rm2 l Z a0 hw [] b543 b536 q1 q4 q1 q2 T544.heap n0 O544 g_b543 g_b536 f548 f549 f658 f655 f656) hZ (hw _ (List.mem_of_getElem? (i := 17) rfl)) (hw _ (List.mem_of_getElem? (i := 2) rfl)) (by decide) (by decide)) q672a q672c (g := (mkF m 104 #[.val (.long q1), .second, .val (.long q2), .second, .val (.long q3), .second, .val (.long q4), .second, .val (.int p5), .val (.long q1), .second, .val (.long q4), .second, .val (.ref b536), .val (.ref b543), .val (.int (0 : Int32)), .val (.int (0 : Int32)), .unset] [(.ref b536), (.ref b543)])) rfl (by rw [hml]; rfl) (Steps.refl _) (argsL := [(.ref b536)]) (rest := []) (lenOf pd1 rfl) rfl (by show 2 * 0 + _ ≤ _; exact Nat.le_of_eq rfl) (hb hby at_104) (fun _ _ => ⟨rfl, e668, (by decide : 2 + 0 ≤ _), (by decide : 4 + 0 ≤ _)⟩)
            dsimp only [Pt.U, Pt.locs, Pt.cells, Pt.slots] at X673 l673 y673 z673 st673 hQ673
            subst l673 y673 z673
            have pre674 : ∀ t, Steps p.tables e below (T659.setTop (mkF m 104 #[.val (.long q1), .second, .val (.long q2), .second, .val (.long q3), .second, .val (.long q4), .second, .val (.int p5), .val (.long q1), .second, .val (.long q4), .second, .val (.ref b536), .val (.ref b543), .val (.int (0 : Int32)), .val (.int (0 : Int32)), .unset] [(.ref b536), (.ref b543)])) t → Steps p.tables e below (s₁.setTop (entryFrame m #[(.long q1), (.long q2), (.long q3), (.long q4), (.int p5)] maxLocals)) t := fun t k => by
              refine pre660 _ ?_
              show Steps p.tables e below (T544.setTop (mkF m 92 #[.val (.long q1), .second, .val (.long q2), .second, .val (.long q3), .second, .val (.long q4), .second, .val (.int p5), .val (.long q1), .second, .val (.long q4), .second, .val (.ref b536), .val (.ref b543), .val (.int (0 : Int32)), .val (.int (0 : Int32)), .unset] [(.ref b543), (.ref b536)])) _
              refine st659.trans ?_
              show Steps p.tables e below (T659.setTop (mkF m 95 #[.val (.long q1), .second, .val (.long q2), .second, .val (.long q3), .second, .val (.long q4), .second, .val (.int p5), .val (.long q1), .second, .val (.long q4), .second, .val (.ref b536), .val (.ref b543), .val (.int (0 : Int32)), .val (.int (0 : Int32)), .unset] [(.int (0 : Int32))])) _
              refine XS.iload X659.here hx rfl (hb hby at_95) rfl ?_
              show Steps p.tables e below (T659.setTop (mkF m 97 #[.val (.long q1), .second, .val (.long q2), .second, .val (.long q3), .second, .val (.long q4), .second, .val (.int p5), .val (.long q1), .second, .val (.long q4), .second, .val (.ref b536), .val (.ref b543), .val (.int (0 : Int32)), .val (.int (0 : Int32)), .unset] [(.int (0 : Int32)), (.int (0 : Int32))])) _
              refine XS.icmpNo X659.here hx rfl (hb hby at_97) rfl (teq (by decide : (0 : Int32) = (0 : Int32))).2 ?_
              show Steps p.tables e below (T659.setTop (mkF m 100 #[.val (.long q1), .second, .val (.long q2), .second, .val (.long q3), .second, .val (.long q4), .second, .val (.int p5), .val (.long q1), .second, .val (.long q4), .second, .val (.ref b536), .val (.ref b543), .val (.int (0 : Int32)), .val (.int (0 : Int32)), .unset] [])) _
              refine XS.aload X659.here hx rfl (hb hby at_100) rfl rfl ?_
              show Steps p.tables e below (T659.setTop (mkF m 102 #[.val (.long q1), .second, .val (.long q2), .second, .val (.long q3), .second, .val (.long q4), .second, .val (.int p5), .val (.long q1), .second, .val (.long q4), .second, .val (.ref b536), .val (.ref b543), .val (.int (0 : Int32)), .val (.int (0 : Int32)), .unset] [(.ref b543)])) _
              refine XS.aload X659.here hx rfl (hb hby at_102) rfl rfl ?_
              exact k
            have X673 : Stand p l e room_1 s m #[(.long q1), (.long q2), (.long q3), (.long q4), (.int p5)] below meth c T673 _ 2 4 := X673
            rcases hQ673 with ⟨hc675, hc676, rfl, Nq677, e678⟩ | ⟨hc679, hc680, rfl, Nq681, e682⟩ | ⟨hc683, rfl, Nq684, e685⟩
            ·
              exact absurd hc676 (Ne.symm hc551)
            ·
              have N673 := Fr.app N659 Nq681
              obtain ⟨fs, hr, hrun, hended, hW, hsame⟩ := X673.leave (v := some (.int (1 : Int32))) (fun h => by rw [hret] at h; cases h)
              refine ⟨_, _, pre674 _ ?_, hrun, hended, _, _, rfl, ?_, ⟨_, rfl⟩, hW, hsame.mono (by decide) (by decide)⟩
              ·
                show Steps p.tables e below (T659.setTop (mkF m 104 #[.val (.long q1), .second, .val (.long q2), .second, .val (.long q3), .second, .val (.long q4), .second, .val (.int p5), .val (.long q1), .second, .val (.long q4), .second, .val (.ref b536), .val (.ref b543), .val (.int (0 : Int32)), .val (.int (0 : Int32)), .unset] [(.ref b536), (.ref b543)])) _
                refine st673.trans ?_
                show Steps p.tables e below (T673.setTop (mkF m 107 #[.val (.long q1), .second, .val (.long q2), .second, .val (.long q3), .second, .val (.long q4), .second, .val (.int p5), .val (.long q1), .second, .val (.long q4), .second, .val (.ref b536), .val (.ref b543), .val (.int (0 : Int32)), .val (.int (0 : Int32)), .unset] [(.int (0 : Int32))])) _
                refine XS.iload X673.here hx rfl (hb hby at_107) rfl ?_
                show Steps p.tables e below (T673.setTop (mkF m 109 #[.val (.long q1), .second, .val (.long q2), .second, .val (.long q3), .second, .val (.long q4), .second, .val (.int p5), .val (.long q1), .second, .val (.long q4), .second, .val (.ref b536), .val (.ref b543), .val (.int (0 : Int32)), .val (.int (0 : Int32)), .unset] [(.int (0 : Int32)), (.int (0 : Int32))])) _
                refine XS.icmpNo X673.here hx rfl (hb hby at_109) rfl (teq (by decide : (0 : Int32) = (0 : Int32))).2 ?_
                show Steps p.tables e below (T673.setTop (mkF m 112 #[.val (.long q1), .second, .val (.long q2), .second, .val (.long q3), .second, .val (.long q4), .second, .val (.int p5), .val (.long q1), .second, .val (.long q4), .second, .val (.ref b536), .val (.ref b543), .val (.int (0 : Int32)), .val (.int (0 : Int32)), .unset] [])) _
                refine XS.iconst X673.here hx rfl (hb hby at_112) ?_
                show Steps p.tables e below (T673.setTop (mkF m 113 #[.val (.long q1), .second, .val (.long q2), .second, .val (.long q3), .second, .val (.long q4), .second, .val (.int p5), .val (.long q1), .second, .val (.long q4), .second, .val (.ref b536), .val (.ref b543), .val (.int (0 : Int32)), .val (.int (0 : Int32)), .unset] [(.int (1 : Int32))])) _
                refine XS.goto X673.here hx rfl (pc0 := 113) (pc' := 117) rfl (hb hby at_113) (by decide) (by decide) ?_
                show Steps p.tables e below (T673.setTop (mkF m 117 #[.val (.long q1), .second, .val (.long q2), .second, .val (.long q3), .second, .val (.long q4), .second, .val (.int p5), .val (.long q1), .second, .val (.long q4), .second, .val (.ref b536), .val (.ref b543), .val (.int (0 : Int32)), .val (.int (0 : Int32)), .unset] [(.int (1 : Int32))])) _
                exact retN X673 hx (t := .boolean) hret (by simp) (hb hby at_117) hr
              ·
                show Q0 n0 _ T673.heap _
                rw [e682]
                exact ⟨rfl, N673⟩
            ·
              exact absurd (rfl : q1 = q1) hc683
          ·
            exact absurd (rfl : q1 = q1) hc669
        ·
          have pre686 : ∀ t, Steps p.tables e below (T544.setTop (mkF m 121 #[.val (.long q1), .second, .val (.long q2), .second, .val (.long q3), .second, .val (.long q4), .second, .val (.int p5), .val (.long q1), .second, .val (.long q4), .second, .val (.ref b536), .val (.ref b543), .val (.int (0 : Int32)), .val (.int (((p5.toUInt32 >>> ((2 : Int32) &&& 31).toUInt32).toInt32) &&& (3 : Int32))), .unset] [(.int (1 : Int32)), (.int (((p5.toUInt32 >>> ((2 : Int32) &&& 31).toUInt32).toInt32) &&& (3 : Int32)))])) t → Steps p.tables e below (s₁.setTop (entryFrame m #[(.long q1), (.long q2), (.long q3), (.long q4), (.int p5)] maxLocals)) t := fun t k => by
            refine pre650 _ ?_
            show Steps p.tables e below (T544.setTop (mkF m 85 #[.val (.long q1), .second, .val (.long q2), .second, .val (.long q3), .second, .val (.long q4), .second, .val (.int p5), .val (.long q1), .second, .val (.long q4), .second, .val (.ref b536), .val (.ref b543), .val (.int (0 : Int32)), .val (.int (((p5.toUInt32 >>> ((2 : Int32) &&& 31).toUInt32).toInt32) &&& (3 : Int32))), .unset] [(.int (((p5.toUInt32 >>> ((2 : Int32) &&& 31).toUInt32).toInt32) &&& (3 : Int32)))])) _
            refine XS.ifYes X544.here hx rfl (pc0 := 85) (pc' := 118) rfl (hb hby at_85) rfl ((if0 _ _).trans (feq hc651).2) (by decide) (by decide) ?_
            show Steps p.tables e below (T544.setTop (mkF m 118 #[.val (.long q1), .second, .val (.long q2), .second, .val (.long q3), .second, .val (.long q4), .second, .val (.int p5), .val (.long q1), .second, .val (.long q4), .second, .val (.ref b536), .val (.ref b543), .val (.int (0 : Int32)), .val (.int (((p5.toUInt32 >>> ((2 : Int32) &&& 31).toUInt32).toInt32) &&& (3 : Int32))), .unset] [])) _
            refine XS.iload X544.here hx rfl (hb hby at_118) rfl ?_
            show Steps p.tables e below (T544.setTop (mkF m 120 #[.val (.long q1), .second, .val (.long q2), .second, .val (.long q3), .second, .val (.long q4), .second, .val (.int p5), .val (.long q1), .second, .val (.long q4), .second, .val (.ref b536), .val (.ref b543), .val (.int (0 : Int32)), .val (.int (((p5.toUInt32 >>> ((2 : Int32) &&& 31).toUInt32).toInt32) &&& (3 : Int32))), .unset] [(.int (((p5.toUInt32 >>> ((2 : Int32) &&& 31).toUInt32).toInt32) &&& (3 : Int32)))])) _
            refine XS.iconst X544.here hx rfl (hb hby at_120) ?_
            exact k
          by_cases hc687 : (((p5.toUInt32 >>> ((2 : Int32) &&& 31).toUInt32).toInt32) &&& (3 : Int32)) = (1 : Int32)
          ·
            have pre688 : ∀ t, Steps p.tables e below (T544.setTop (mkF m 121 #[.val (.long q1), .second, .val (.long q2), .second, .val (.long q3), .second, .val (.long q4), .second, .val (.int p5), .val (.long q1), .second, .val (.long q4), .second, .val (.ref b536), .val (.ref b543), .val (.int (0 : Int32)), .val (.int (1 : Int32)), .unset] [(.int (1 : Int32)), (.int (1 : Int32))])) t → Steps p.tables e below (s₁.setTop (entryFrame m #[(.long q1), (.long q2), (.long q3), (.long q4), (.int p5)] maxLocals)) t := fun t k => pre686 t (by rw [hc687]; exact k)
            have f690 := ((f540.ext E543).keep K546)
            obtain ⟨cq689, kq689, q689a, q689b, q689c⟩ := isOf hZ rfl f690
            obtain ⟨_, _, ⟨T691, L691, c691, n691⟩, -, X691, ⟨Lc691, hQ691, l691, y691, z691⟩, st691⟩ := X544.virtualBack hx (y := (⟨"com/example/sablegrid/sablegrid/model/WriteOutcome", "equals", "(Ljava/lang/Object;)Z"⟩ : MethodName)) (z := (⟨"com/example/sablegrid/sablegrid/model/WriteOutcome", "equals", "(Ljava/lang/Object;)Z"⟩ : MethodName)) hown (mvT hZ (hw _ (List.mem_of_getElem? (i := 13) rfl))) (mvT hZ (hw _ (List.mem_of_getElem? (i := 14) rfl))) (notFace_of_selects (args := #[]) (mvT hZ (hw _ (List.mem_of_getElem? (i := 16) rfl)))) (mvT hZ (hw _ (List.mem_of_getElem? (i := 16) rfl))) (mvT hZ (hw _ (List.mem_of_getElem? (i := 15) rfl))) (by decide) (backOf (W := 0) (rm3 l Z a0 hw [] b536 T544.heap n0 O544 g_b536) hZ (hw _ (List.mem_of_getElem? (i := 17) rfl)) (hw _ (List.mem_of_getElem? (i := 2) rfl)) (by decide) (by decide)) q689a q689c (g := (mkF m 127 #[.val (.long q1), .second, .val (.long q2), .second, .val (.long q3), .second, .val (.long q4), .second, .val (.int p5), .val (.long q1), .second, .val (.long q4), .second, .val (.ref b536), .val (.ref b543), .val (.int (0 : Int32)), .val (.int (1 : Int32)), .unset] [.null, (.ref b536)])) rfl (by rw [hml]; rfl) (Steps.refl _) (argsL := [.null]) (rest := []) (lenOf pd1 rfl) rfl (by show 2 * 0 + _ ≤ _; exact Nat.le_of_eq rfl) (hb hby at_127) (fun _ _ => ⟨rfl, rfl, (by decide : 2 + 0 ≤ _), (by decide : 4 + 0 ≤ _)⟩)
            dsimp only [Pt.U, Pt.locs, Pt.cells, Pt.slots] at X691 l691 y691 z691 st691 hQ691
            subst l691 y691 z691
            have X691 : Stand p l e room_1 s m #[(.long q1), (.long q2), (.long q3), (.long q4), (.int p5)] below meth c T691 _ 2 4 := X691
            obtain ⟨rfl, Nq692, e693⟩ := hQ691
            have N691 := Fr.app N544 Nq692
            obtain ⟨fs, hr, hrun, hended, hW, hsame⟩ := X691.leave (v := some (.int (1 : Int32))) (fun h => by rw [hret] at h; cases h)
            refine ⟨_, _, pre688 _ ?_, hrun, hended, _, _, rfl, ?_, ⟨_, rfl⟩, hW, hsame.mono (by decide) (by decide)⟩
            ·
              show Steps p.tables e below (T544.setTop (mkF m 121 #[.val (.long q1), .second, .val (.long q2), .second, .val (.long q3), .second, .val (.long q4), .second, .val (.int p5), .val (.long q1), .second, .val (.long q4), .second, .val (.ref b536), .val (.ref b543), .val (.int (0 : Int32)), .val (.int (1 : Int32)), .unset] [(.int (1 : Int32)), (.int (1 : Int32))])) _
              refine XS.icmpNo X544.here hx rfl (hb hby at_121) rfl (teq (by decide : (1 : Int32) = (1 : Int32))).2 ?_
              show Steps p.tables e below (T544.setTop (mkF m 124 #[.val (.long q1), .second, .val (.long q2), .second, .val (.long q3), .second, .val (.long q4), .second, .val (.int p5), .val (.long q1), .second, .val (.long q4), .second, .val (.ref b536), .val (.ref b543), .val (.int (0 : Int32)), .val (.int (1 : Int32)), .unset] [])) _
              refine XS.aload X544.here hx rfl (hb hby at_124) rfl rfl ?_
              show Steps p.tables e below (T544.setTop (mkF m 126 #[.val (.long q1), .second, .val (.long q2), .second, .val (.long q3), .second, .val (.long q4), .second, .val (.int p5), .val (.long q1), .second, .val (.long q4), .second, .val (.ref b536), .val (.ref b543), .val (.int (0 : Int32)), .val (.int (1 : Int32)), .unset] [(.ref b536)])) _
              refine XS.aconstNull X544.here hx rfl (hb hby at_126) ?_
              show Steps p.tables e below (T544.setTop (mkF m 127 #[.val (.long q1), .second, .val (.long q2), .second, .val (.long q3), .second, .val (.long q4), .second, .val (.int p5), .val (.long q1), .second, .val (.long q4), .second, .val (.ref b536), .val (.ref b543), .val (.int (0 : Int32)), .val (.int (1 : Int32)), .unset] [.null, (.ref b536)])) _
              refine st691.trans ?_
              show Steps p.tables e below (T691.setTop (mkF m 130 #[.val (.long q1), .second, .val (.long q2), .second, .val (.long q3), .second, .val (.long q4), .second, .val (.int p5), .val (.long q1), .second, .val (.long q4), .second, .val (.ref b536), .val (.ref b543), .val (.int (0 : Int32)), .val (.int (1 : Int32)), .unset] [(.int (0 : Int32))])) _
              refine XS.ifNo X691.here hx rfl (hb hby at_130) rfl ((if0 _ _).trans (teq (by decide : (0 : Int32) = (0 : Int32))).2) ?_
              show Steps p.tables e below (T691.setTop (mkF m 133 #[.val (.long q1), .second, .val (.long q2), .second, .val (.long q3), .second, .val (.long q4), .second, .val (.int p5), .val (.long q1), .second, .val (.long q4), .second, .val (.ref b536), .val (.ref b543), .val (.int (0 : Int32)), .val (.int (1 : Int32)), .unset] [])) _
              refine XS.iconst X691.here hx rfl (hb hby at_133) ?_
              show Steps p.tables e below (T691.setTop (mkF m 134 #[.val (.long q1), .second, .val (.long q2), .second, .val (.long q3), .second, .val (.long q4), .second, .val (.int p5), .val (.long q1), .second, .val (.long q4), .second, .val (.ref b536), .val (.ref b543), .val (.int (0 : Int32)), .val (.int (1 : Int32)), .unset] [(.int (1 : Int32))])) _
              refine XS.goto X691.here hx rfl (pc0 := 134) (pc' := 138) rfl (hb hby at_134) (by decide) (by decide) ?_
              show Steps p.tables e below (T691.setTop (mkF m 138 #[.val (.long q1), .second, .val (.long q2), .second, .val (.long q3), .second, .val (.long q4), .second, .val (.int p5), .val (.long q1), .second, .val (.long q4), .second, .val (.ref b536), .val (.ref b543), .val (.int (0 : Int32)), .val (.int (1 : Int32)), .unset] [(.int (1 : Int32))])) _
              exact retN X691 hx (t := .boolean) hret (by simp) (hb hby at_138) hr
            ·
              show Q0 n0 _ T691.heap _
              rw [e693]
              exact ⟨rfl, N691⟩
          ·
            have pre694 : ∀ t, Steps p.tables e below (T544.setTop (mkF m 142 #[.val (.long q1), .second, .val (.long q2), .second, .val (.long q3), .second, .val (.long q4), .second, .val (.int p5), .val (.long q1), .second, .val (.long q4), .second, .val (.ref b536), .val (.ref b543), .val (.int (0 : Int32)), .val (.int (((p5.toUInt32 >>> ((2 : Int32) &&& 31).toUInt32).toInt32) &&& (3 : Int32))), .unset] [(.int (2 : Int32)), (.int (((p5.toUInt32 >>> ((2 : Int32) &&& 31).toUInt32).toInt32) &&& (3 : Int32)))])) t → Steps p.tables e below (s₁.setTop (entryFrame m #[(.long q1), (.long q2), (.long q3), (.long q4), (.int p5)] maxLocals)) t := fun t k => by
              refine pre686 _ ?_
              show Steps p.tables e below (T544.setTop (mkF m 121 #[.val (.long q1), .second, .val (.long q2), .second, .val (.long q3), .second, .val (.long q4), .second, .val (.int p5), .val (.long q1), .second, .val (.long q4), .second, .val (.ref b536), .val (.ref b543), .val (.int (0 : Int32)), .val (.int (((p5.toUInt32 >>> ((2 : Int32) &&& 31).toUInt32).toInt32) &&& (3 : Int32))), .unset] [(.int (1 : Int32)), (.int (((p5.toUInt32 >>> ((2 : Int32) &&& 31).toUInt32).toInt32) &&& (3 : Int32)))])) _
              refine XS.icmpYes X544.here hx rfl (pc0 := 121) (pc' := 139) rfl (hb hby at_121) rfl (feq hc687).2 (by decide) (by decide) ?_
              show Steps p.tables e below (T544.setTop (mkF m 139 #[.val (.long q1), .second, .val (.long q2), .second, .val (.long q3), .second, .val (.long q4), .second, .val (.int p5), .val (.long q1), .second, .val (.long q4), .second, .val (.ref b536), .val (.ref b543), .val (.int (0 : Int32)), .val (.int (((p5.toUInt32 >>> ((2 : Int32) &&& 31).toUInt32).toInt32) &&& (3 : Int32))), .unset] [])) _
              refine XS.iload X544.here hx rfl (hb hby at_139) rfl ?_
              show Steps p.tables e below (T544.setTop (mkF m 141 #[.val (.long q1), .second, .val (.long q2), .second, .val (.long q3), .second, .val (.long q4), .second, .val (.int p5), .val (.long q1), .second, .val (.long q4), .second, .val (.ref b536), .val (.ref b543), .val (.int (0 : Int32)), .val (.int (((p5.toUInt32 >>> ((2 : Int32) &&& 31).toUInt32).toInt32) &&& (3 : Int32))), .unset] [(.int (((p5.toUInt32 >>> ((2 : Int32) &&& 31).toUInt32).toInt32) &&& (3 : Int32)))])) _
              refine XS.iconst X544.here hx rfl (hb hby at_141) ?_
              exact k
            by_cases hc695 : (((p5.toUInt32 >>> ((2 : Int32) &&& 31).toUInt32).toInt32) &&& (3 : Int32)) = (2 : Int32)
            ·
              have pre696 : ∀ t, Steps p.tables e below (T544.setTop (mkF m 142 #[.val (.long q1), .second, .val (.long q2), .second, .val (.long q3), .second, .val (.long q4), .second, .val (.int p5), .val (.long q1), .second, .val (.long q4), .second, .val (.ref b536), .val (.ref b543), .val (.int (0 : Int32)), .val (.int (2 : Int32)), .unset] [(.int (2 : Int32)), (.int (2 : Int32))])) t → Steps p.tables e below (s₁.setTop (entryFrame m #[(.long q1), (.long q2), (.long q3), (.long q4), (.int p5)] maxLocals)) t := fun t k => pre694 t (by rw [hc695]; exact k)
              obtain ⟨_, _, ⟨T697, L697, c697, n697⟩, -, X697, ⟨Lc697, hQ697, l697, y697, z697⟩, st697⟩ := Jvm.LawKit.callS X544 hx (y := (⟨"java/lang/Long", "valueOf", "(J)Ljava/lang/Long;"⟩ : MethodName)) hown (mvT hZ (hw _ (List.mem_of_getElem? (i := 20) rfl))) (mvT hZ (hw _ (List.mem_of_getElem? (i := 21) rfl))) (mvT hZ (hw _ (List.mem_of_getElem? (i := 22) rfl))) (mvT hZ (hw _ (List.mem_of_getElem? (i := 23) rfl))) (by decide) (backOf (W := 0) (rm6 l Z a0 hw w1 cw1 G [] q1 T544.heap n0 O544 ) hZ (hw _ (List.mem_of_getElem? (i := 23) rfl)) (hw _ (List.mem_of_getElem? (i := 22) rfl)) (by decide) (by decide)) (g := (mkF m 146 #[.val (.long q1), .second, .val (.long q2), .second, .val (.long q3), .second, .val (.long q4), .second, .val (.int p5), .val (.long q1), .second, .val (.long q4), .second, .val (.ref b536), .val (.ref b543), .val (.int (0 : Int32)), .val (.int (2 : Int32)), .unset] [(.long q1)])) rfl (by rw [hml]; rfl) (argsL := [(.long q1)]) (rest := []) (lenOf pd4 rfl) rfl (by show 2 * 0 + _ ≤ _; exact Nat.le_of_eq rfl) (hb hby at_146) (fun _ _ => ⟨rfl, rfl, (by decide : 2 + 1 ≤ _), (by decide : 4 + 1 ≤ _)⟩)
              dsimp only [Pt.U, Pt.locs, Pt.cells, Pt.slots] at X697 l697 y697 z697 st697 hQ697
              subst l697 y697 z697
              have pre698 : ∀ t, Steps p.tables e below (T544.setTop (mkF m 146 #[.val (.long q1), .second, .val (.long q2), .second, .val (.long q3), .second, .val (.long q4), .second, .val (.int p5), .val (.long q1), .second, .val (.long q4), .second, .val (.ref b536), .val (.ref b543), .val (.int (0 : Int32)), .val (.int (2 : Int32)), .unset] [(.long q1)])) t → Steps p.tables e below (s₁.setTop (entryFrame m #[(.long q1), (.long q2), (.long q3), (.long q4), (.int p5)] maxLocals)) t := fun t k => by
                refine pre696 _ ?_
                show Steps p.tables e below (T544.setTop (mkF m 142 #[.val (.long q1), .second, .val (.long q2), .second, .val (.long q3), .second, .val (.long q4), .second, .val (.int p5), .val (.long q1), .second, .val (.long q4), .second, .val (.ref b536), .val (.ref b543), .val (.int (0 : Int32)), .val (.int (2 : Int32)), .unset] [(.int (2 : Int32)), (.int (2 : Int32))])) _
                refine XS.icmpNo X544.here hx rfl (hb hby at_142) rfl (teq (by decide : (2 : Int32) = (2 : Int32))).2 ?_
                show Steps p.tables e below (T544.setTop (mkF m 145 #[.val (.long q1), .second, .val (.long q2), .second, .val (.long q3), .second, .val (.long q4), .second, .val (.int p5), .val (.long q1), .second, .val (.long q4), .second, .val (.ref b536), .val (.ref b543), .val (.int (0 : Int32)), .val (.int (2 : Int32)), .unset] [])) _
                refine XS.lloadN X544.here hx rfl (hb hby at_145) rfl ?_
                exact k
              have X697 : Stand p l e room_1 s m #[(.long q1), (.long q2), (.long q3), (.long q4), (.int p5)] below meth c T697 _ 3 5 := X697
              rcases hQ697 with ⟨b699, hc700, rfl, Nq701, K702, sz_b699, f703, f704⟩ | ⟨b705, hc706, hc707, rfl, Nq708, K709, sz_b705, f710, f711⟩ | ⟨v712, hc713, hc714, rfl, Nq715, e716, f717⟩
              ·
                have N697 := Fr.app N544 Nq701
                have g_b699 : n0 ≤ b699 := Nat.le_trans (own_oz O544) sz_b699
                have M697 : h0.size ≤ T697.heap.size := Nat.le_trans M544 K702.1
                have O697 := Old.keep O544 K702 all0
                have f719 := (((f540.ext E543).keep K546).keep K702)
                obtain ⟨cq718, kq718, q718a, q718b, q718c⟩ := isOf hZ rfl f719
                obtain ⟨_, _, ⟨T720, L720, c720, n720⟩, -, X720, ⟨Lc720, hQ720, l720, y720, z720⟩, st720⟩ := X697.virtualBack hx (y := (⟨"com/example/sablegrid/sablegrid/model/WriteOutcome", "equals", "(Ljava/lang/Object;)Z"⟩ : MethodName)) (z := (⟨"com/example/sablegrid/sablegrid/model/WriteOutcome", "equals", "(Ljava/lang/Object;)Z"⟩ : MethodName)) hown (mvT hZ (hw _ (List.mem_of_getElem? (i := 13) rfl))) (mvT hZ (hw _ (List.mem_of_getElem? (i := 14) rfl))) (notFace_of_selects (args := #[]) (mvT hZ (hw _ (List.mem_of_getElem? (i := 16) rfl)))) (mvT hZ (hw _ (List.mem_of_getElem? (i := 16) rfl))) (mvT hZ (hw _ (List.mem_of_getElem? (i := 15) rfl))) (by decide) (backOf (W := 0) (rm7 l Z a0 hw [] b536 b699 T697.heap n0 O697 g_b536 g_b699 f703) hZ (hw _ (List.mem_of_getElem? (i := 17) rfl)) (hw _ (List.mem_of_getElem? (i := 2) rfl)) (by decide) (by decide)) q718a q718c (g := (mkF m 155 #[.val (.long q1), .second, .val (.long q2), .second, .val (.long q3), .second, .val (.long q4), .second, .val (.int p5), .val (.long q1), .second, .val (.long q4), .second, .val (.ref b536), .val (.ref b543), .val (.int (0 : Int32)), .val (.int (2 : Int32)), .val (.ref b699)] [(.ref b699), (.ref b536)])) rfl (by rw [hml]; rfl) (Steps.refl _) (argsL := [(.ref b699)]) (rest := []) (lenOf pd1 rfl) rfl (by show 2 * 0 + _ ≤ _; exact Nat.le_of_eq rfl) (hb hby at_155) (fun _ _ => ⟨rfl, rfl, (by decide : 3 + 0 ≤ _), (by decide : 5 + 0 ≤ _)⟩)
                dsimp only [Pt.U, Pt.locs, Pt.cells, Pt.slots] at X720 l720 y720 z720 st720 hQ720
                subst l720 y720 z720
                have X720 : Stand p l e room_1 s m #[(.long q1), (.long q2), (.long q3), (.long q4), (.int p5)] below meth c T720 _ 3 5 := X720
                obtain ⟨rfl, Nq721, e722⟩ := hQ720
                have N720 := Fr.app N697 Nq721
                obtain ⟨fs, hr, hrun, hended, hW, hsame⟩ := X720.leave (v := some (.int (1 : Int32))) (fun h => by rw [hret] at h; cases h)
                refine ⟨_, _, pre698 _ ?_, hrun, hended, _, _, rfl, ?_, ⟨_, rfl⟩, hW, hsame.mono (by decide) (by decide)⟩
                ·
                  show Steps p.tables e below (T544.setTop (mkF m 146 #[.val (.long q1), .second, .val (.long q2), .second, .val (.long q3), .second, .val (.long q4), .second, .val (.int p5), .val (.long q1), .second, .val (.long q4), .second, .val (.ref b536), .val (.ref b543), .val (.int (0 : Int32)), .val (.int (2 : Int32)), .unset] [(.long q1)])) _
                  refine st697 _ ?_
                  show Steps p.tables e below (T697.setTop (mkF m 149 #[.val (.long q1), .second, .val (.long q2), .second, .val (.long q3), .second, .val (.long q4), .second, .val (.int p5), .val (.long q1), .second, .val (.long q4), .second, .val (.ref b536), .val (.ref b543), .val (.int (0 : Int32)), .val (.int (2 : Int32)), .unset] [(.ref b699)])) _
                  refine XS.astore X697.here hx rfl (hb hby at_149) rfl rfl (l' := #[.val (.long q1), .second, .val (.long q2), .second, .val (.long q3), .second, .val (.long q4), .second, .val (.int p5), .val (.long q1), .second, .val (.long q4), .second, .val (.ref b536), .val (.ref b543), .val (.int (0 : Int32)), .val (.int (2 : Int32)), .val (.ref b699)]) rfl ?_
                  show Steps p.tables e below (T697.setTop (mkF m 151 #[.val (.long q1), .second, .val (.long q2), .second, .val (.long q3), .second, .val (.long q4), .second, .val (.int p5), .val (.long q1), .second, .val (.long q4), .second, .val (.ref b536), .val (.ref b543), .val (.int (0 : Int32)), .val (.int (2 : Int32)), .val (.ref b699)] [])) _
                  refine XS.aload X697.here hx rfl (hb hby at_151) rfl rfl ?_
                  show Steps p.tables e below (T697.setTop (mkF m 153 #[.val (.long q1), .second, .val (.long q2), .second, .val (.long q3), .second, .val (.long q4), .second, .val (.int p5), .val (.long q1), .second, .val (.long q4), .second, .val (.ref b536), .val (.ref b543), .val (.int (0 : Int32)), .val (.int (2 : Int32)), .val (.ref b699)] [(.ref b536)])) _
                  refine XS.aload X697.here hx rfl (hb hby at_153) rfl rfl ?_
                  show Steps p.tables e below (T697.setTop (mkF m 155 #[.val (.long q1), .second, .val (.long q2), .second, .val (.long q3), .second, .val (.long q4), .second, .val (.int p5), .val (.long q1), .second, .val (.long q4), .second, .val (.ref b536), .val (.ref b543), .val (.int (0 : Int32)), .val (.int (2 : Int32)), .val (.ref b699)] [(.ref b699), (.ref b536)])) _
                  refine st720.trans ?_
                  show Steps p.tables e below (T720.setTop (mkF m 158 #[.val (.long q1), .second, .val (.long q2), .second, .val (.long q3), .second, .val (.long q4), .second, .val (.int p5), .val (.long q1), .second, .val (.long q4), .second, .val (.ref b536), .val (.ref b543), .val (.int (0 : Int32)), .val (.int (2 : Int32)), .val (.ref b699)] [(.int (0 : Int32))])) _
                  refine XS.ifNo X720.here hx rfl (hb hby at_158) rfl ((if0 _ _).trans (teq (by decide : (0 : Int32) = (0 : Int32))).2) ?_
                  show Steps p.tables e below (T720.setTop (mkF m 161 #[.val (.long q1), .second, .val (.long q2), .second, .val (.long q3), .second, .val (.long q4), .second, .val (.int p5), .val (.long q1), .second, .val (.long q4), .second, .val (.ref b536), .val (.ref b543), .val (.int (0 : Int32)), .val (.int (2 : Int32)), .val (.ref b699)] [])) _
                  refine XS.iconst X720.here hx rfl (hb hby at_161) ?_
                  show Steps p.tables e below (T720.setTop (mkF m 162 #[.val (.long q1), .second, .val (.long q2), .second, .val (.long q3), .second, .val (.long q4), .second, .val (.int p5), .val (.long q1), .second, .val (.long q4), .second, .val (.ref b536), .val (.ref b543), .val (.int (0 : Int32)), .val (.int (2 : Int32)), .val (.ref b699)] [(.int (1 : Int32))])) _
                  refine XS.goto X720.here hx rfl (pc0 := 162) (pc' := 166) rfl (hb hby at_162) (by decide) (by decide) ?_
                  show Steps p.tables e below (T720.setTop (mkF m 166 #[.val (.long q1), .second, .val (.long q2), .second, .val (.long q3), .second, .val (.long q4), .second, .val (.int p5), .val (.long q1), .second, .val (.long q4), .second, .val (.ref b536), .val (.ref b543), .val (.int (0 : Int32)), .val (.int (2 : Int32)), .val (.ref b699)] [(.int (1 : Int32))])) _
                  exact retN X720 hx (t := .boolean) hret (by simp) (hb hby at_166) hr
                ·
                  show Q0 n0 _ T720.heap _
                  rw [e722]
                  exact ⟨rfl, N720⟩
              ·
                have N697 := Fr.app N544 Nq708
                have g_b705 : n0 ≤ b705 := Nat.le_trans (own_oz O544) sz_b705
                have M697 : h0.size ≤ T697.heap.size := Nat.le_trans M544 K709.1
                have O697 := Old.keep O544 K709 all0
                have f724 := (((f540.ext E543).keep K546).keep K709)
                obtain ⟨cq723, kq723, q723a, q723b, q723c⟩ := isOf hZ rfl f724
                obtain ⟨_, _, ⟨T725, L725, c725, n725⟩, -, X725, ⟨Lc725, hQ725, l725, y725, z725⟩, st725⟩ := X697.virtualBack hx (y := (⟨"com/example/sablegrid/sablegrid/model/WriteOutcome", "equals", "(Ljava/lang/Object;)Z"⟩ : MethodName)) (z := (⟨"com/example/sablegrid/sablegrid/model/WriteOutcome", "equals", "(Ljava/lang/Object;)Z"⟩ : MethodName)) hown (mvT hZ (hw _ (List.mem_of_getElem? (i := 13) rfl))) (mvT hZ (hw _ (List.mem_of_getElem? (i := 14) rfl))) (notFace_of_selects (args := #[]) (mvT hZ (hw _ (List.mem_of_getElem? (i := 16) rfl)))) (mvT hZ (hw _ (List.mem_of_getElem? (i := 16) rfl))) (mvT hZ (hw _ (List.mem_of_getElem? (i := 15) rfl))) (by decide) (backOf (W := 0) (rm7 l Z a0 hw [] b536 b705 T697.heap n0 O697 g_b536 g_b705 f710) hZ (hw _ (List.mem_of_getElem? (i := 17) rfl)) (hw _ (List.mem_of_getElem? (i := 2) rfl)) (by decide) (by decide)) q723a q723c (g := (mkF m 155 #[.val (.long q1), .second, .val (.long q2), .second, .val (.long q3), .second, .val (.long q4), .second, .val (.int p5), .val (.long q1), .second, .val (.long q4), .second, .val (.ref b536), .val (.ref b543), .val (.int (0 : Int32)), .val (.int (2 : Int32)), .val (.ref b705)] [(.ref b705), (.ref b536)])) rfl (by rw [hml]; rfl) (Steps.refl _) (argsL := [(.ref b705)]) (rest := []) (lenOf pd1 rfl) rfl (by show 2 * 0 + _ ≤ _; exact Nat.le_of_eq rfl) (hb hby at_155) (fun _ _ => ⟨rfl, rfl, (by decide : 3 + 0 ≤ _), (by decide : 5 + 0 ≤ _)⟩)
                dsimp only [Pt.U, Pt.locs, Pt.cells, Pt.slots] at X725 l725 y725 z725 st725 hQ725
                subst l725 y725 z725
                have X725 : Stand p l e room_1 s m #[(.long q1), (.long q2), (.long q3), (.long q4), (.int p5)] below meth c T725 _ 3 5 := X725
                obtain ⟨rfl, Nq726, e727⟩ := hQ725
                have N725 := Fr.app N697 Nq726
                obtain ⟨fs, hr, hrun, hended, hW, hsame⟩ := X725.leave (v := some (.int (1 : Int32))) (fun h => by rw [hret] at h; cases h)
                refine ⟨_, _, pre698 _ ?_, hrun, hended, _, _, rfl, ?_, ⟨_, rfl⟩, hW, hsame.mono (by decide) (by decide)⟩
                ·
                  show Steps p.tables e below (T544.setTop (mkF m 146 #[.val (.long q1), .second, .val (.long q2), .second, .val (.long q3), .second, .val (.long q4), .second, .val (.int p5), .val (.long q1), .second, .val (.long q4), .second, .val (.ref b536), .val (.ref b543), .val (.int (0 : Int32)), .val (.int (2 : Int32)), .unset] [(.long q1)])) _
                  refine st697 _ ?_
                  show Steps p.tables e below (T697.setTop (mkF m 149 #[.val (.long q1), .second, .val (.long q2), .second, .val (.long q3), .second, .val (.long q4), .second, .val (.int p5), .val (.long q1), .second, .val (.long q4), .second, .val (.ref b536), .val (.ref b543), .val (.int (0 : Int32)), .val (.int (2 : Int32)), .unset] [(.ref b705)])) _
                  refine XS.astore X697.here hx rfl (hb hby at_149) rfl rfl (l' := #[.val (.long q1), .second, .val (.long q2), .second, .val (.long q3), .second, .val (.long q4), .second, .val (.int p5), .val (.long q1), .second, .val (.long q4), .second, .val (.ref b536), .val (.ref b543), .val (.int (0 : Int32)), .val (.int (2 : Int32)), .val (.ref b705)]) rfl ?_
                  show Steps p.tables e below (T697.setTop (mkF m 151 #[.val (.long q1), .second, .val (.long q2), .second, .val (.long q3), .second, .val (.long q4), .second, .val (.int p5), .val (.long q1), .second, .val (.long q4), .second, .val (.ref b536), .val (.ref b543), .val (.int (0 : Int32)), .val (.int (2 : Int32)), .val (.ref b705)] [])) _
                  refine XS.aload X697.here hx rfl (hb hby at_151) rfl rfl ?_
                  show Steps p.tables e below (T697.setTop (mkF m 153 #[.val (.long q1), .second, .val (.long q2), .second, .val (.long q3), .second, .val (.long q4), .second, .val (.int p5), .val (.long q1), .second, .val (.long q4), .second, .val (.ref b536), .val (.ref b543), .val (.int (0 : Int32)), .val (.int (2 : Int32)), .val (.ref b705)] [(.ref b536)])) _
                  refine XS.aload X697.here hx rfl (hb hby at_153) rfl rfl ?_
                  show Steps p.tables e below (T697.setTop (mkF m 155 #[.val (.long q1), .second, .val (.long q2), .second, .val (.long q3), .second, .val (.long q4), .second, .val (.int p5), .val (.long q1), .second, .val (.long q4), .second, .val (.ref b536), .val (.ref b543), .val (.int (0 : Int32)), .val (.int (2 : Int32)), .val (.ref b705)] [(.ref b705), (.ref b536)])) _
                  refine st725.trans ?_
                  show Steps p.tables e below (T725.setTop (mkF m 158 #[.val (.long q1), .second, .val (.long q2), .second, .val (.long q3), .second, .val (.long q4), .second, .val (.int p5), .val (.long q1), .second, .val (.long q4), .second, .val (.ref b536), .val (.ref b543), .val (.int (0 : Int32)), .val (.int (2 : Int32)), .val (.ref b705)] [(.int (0 : Int32))])) _
                  refine XS.ifNo X725.here hx rfl (hb hby at_158) rfl ((if0 _ _).trans (teq (by decide : (0 : Int32) = (0 : Int32))).2) ?_
                  show Steps p.tables e below (T725.setTop (mkF m 161 #[.val (.long q1), .second, .val (.long q2), .second, .val (.long q3), .second, .val (.long q4), .second, .val (.int p5), .val (.long q1), .second, .val (.long q4), .second, .val (.ref b536), .val (.ref b543), .val (.int (0 : Int32)), .val (.int (2 : Int32)), .val (.ref b705)] [])) _
                  refine XS.iconst X725.here hx rfl (hb hby at_161) ?_
                  show Steps p.tables e below (T725.setTop (mkF m 162 #[.val (.long q1), .second, .val (.long q2), .second, .val (.long q3), .second, .val (.long q4), .second, .val (.int p5), .val (.long q1), .second, .val (.long q4), .second, .val (.ref b536), .val (.ref b543), .val (.int (0 : Int32)), .val (.int (2 : Int32)), .val (.ref b705)] [(.int (1 : Int32))])) _
                  refine XS.goto X725.here hx rfl (pc0 := 162) (pc' := 166) rfl (hb hby at_162) (by decide) (by decide) ?_
                  show Steps p.tables e below (T725.setTop (mkF m 166 #[.val (.long q1), .second, .val (.long q2), .second, .val (.long q3), .second, .val (.long q4), .second, .val (.int p5), .val (.long q1), .second, .val (.long q4), .second, .val (.ref b536), .val (.ref b543), .val (.int (0 : Int32)), .val (.int (2 : Int32)), .val (.ref b705)] [(.int (1 : Int32))])) _
                  exact retN X725 hx (t := .boolean) hret (by simp) (hb hby at_166) hr
                ·
                  show Q0 n0 _ T725.heap _
                  rw [e727]
                  exact ⟨rfl, N725⟩
              ·
                have N697 := Fr.app N544 Nq715
                have f729 := ((f540.ext E543).keep K546)
                obtain ⟨cq728, kq728, q728a, q728b, q728c⟩ := isOf hZ e716 f729
                obtain ⟨_, _, ⟨T730, L730, c730, n730⟩, -, X730, ⟨Lc730, hQ730, l730, y730, z730⟩, st730⟩ := X697.virtualBack hx (y := (⟨"com/example/sablegrid/sablegrid/model/WriteOutcome", "equals", "(Ljava/lang/Object;)Z"⟩ : MethodName)) (z := (⟨"com/example/sablegrid/sablegrid/model/WriteOutcome", "equals", "(Ljava/lang/Object;)Z"⟩ : MethodName)) hown (mvT hZ (hw _ (List.mem_of_getElem? (i := 13) rfl))) (mvT hZ (hw _ (List.mem_of_getElem? (i := 14) rfl))) (notFace_of_selects (args := #[]) (mvT hZ (hw _ (List.mem_of_getElem? (i := 16) rfl)))) (mvT hZ (hw _ (List.mem_of_getElem? (i := 16) rfl))) (mvT hZ (hw _ (List.mem_of_getElem? (i := 15) rfl))) (by decide) (backOf (W := 0) (rm8 l Z a0 hw [] b536 v712 T544.heap n0 O544 g_b536 f717) hZ (hw _ (List.mem_of_getElem? (i := 17) rfl)) (hw _ (List.mem_of_getElem? (i := 2) rfl)) (by decide) (by decide)) q728a q728c (g := (mkF m 155 #[.val (.long q1), .second, .val (.long q2), .second, .val (.long q3), .second, .val (.long q4), .second, .val (.int p5), .val (.long q1), .second, .val (.long q4), .second, .val (.ref b536), .val (.ref b543), .val (.int (0 : Int32)), .val (.int (2 : Int32)), .val (.ref v712)] [(.ref v712), (.ref b536)])) rfl (by rw [hml]; rfl) (Steps.refl _) (argsL := [(.ref v712)]) (rest := []) (lenOf pd1 rfl) rfl (by show 2 * 0 + _ ≤ _; exact Nat.le_of_eq rfl) (hb hby at_155) (fun _ _ => ⟨rfl, e716, (by decide : 3 + 0 ≤ _), (by decide : 5 + 0 ≤ _)⟩)
                dsimp only [Pt.U, Pt.locs, Pt.cells, Pt.slots] at X730 l730 y730 z730 st730 hQ730
                subst l730 y730 z730
                have X730 : Stand p l e room_1 s m #[(.long q1), (.long q2), (.long q3), (.long q4), (.int p5)] below meth c T730 _ 3 5 := X730
                obtain ⟨rfl, Nq731, e732⟩ := hQ730
                have N730 := Fr.app N697 Nq731
                obtain ⟨fs, hr, hrun, hended, hW, hsame⟩ := X730.leave (v := some (.int (1 : Int32))) (fun h => by rw [hret] at h; cases h)
                refine ⟨_, _, pre698 _ ?_, hrun, hended, _, _, rfl, ?_, ⟨_, rfl⟩, hW, hsame.mono (by decide) (by decide)⟩
                ·
                  show Steps p.tables e below (T544.setTop (mkF m 146 #[.val (.long q1), .second, .val (.long q2), .second, .val (.long q3), .second, .val (.long q4), .second, .val (.int p5), .val (.long q1), .second, .val (.long q4), .second, .val (.ref b536), .val (.ref b543), .val (.int (0 : Int32)), .val (.int (2 : Int32)), .unset] [(.long q1)])) _
                  refine st697 _ ?_
                  show Steps p.tables e below (T697.setTop (mkF m 149 #[.val (.long q1), .second, .val (.long q2), .second, .val (.long q3), .second, .val (.long q4), .second, .val (.int p5), .val (.long q1), .second, .val (.long q4), .second, .val (.ref b536), .val (.ref b543), .val (.int (0 : Int32)), .val (.int (2 : Int32)), .unset] [(.ref v712)])) _
                  refine XS.astore X697.here hx rfl (hb hby at_149) rfl rfl (l' := #[.val (.long q1), .second, .val (.long q2), .second, .val (.long q3), .second, .val (.long q4), .second, .val (.int p5), .val (.long q1), .second, .val (.long q4), .second, .val (.ref b536), .val (.ref b543), .val (.int (0 : Int32)), .val (.int (2 : Int32)), .val (.ref v712)]) rfl ?_
                  show Steps p.tables e below (T697.setTop (mkF m 151 #[.val (.long q1), .second, .val (.long q2), .second, .val (.long q3), .second, .val (.long q4), .second, .val (.int p5), .val (.long q1), .second, .val (.long q4), .second, .val (.ref b536), .val (.ref b543), .val (.int (0 : Int32)), .val (.int (2 : Int32)), .val (.ref v712)] [])) _
                  refine XS.aload X697.here hx rfl (hb hby at_151) rfl rfl ?_
                  show Steps p.tables e below (T697.setTop (mkF m 153 #[.val (.long q1), .second, .val (.long q2), .second, .val (.long q3), .second, .val (.long q4), .second, .val (.int p5), .val (.long q1), .second, .val (.long q4), .second, .val (.ref b536), .val (.ref b543), .val (.int (0 : Int32)), .val (.int (2 : Int32)), .val (.ref v712)] [(.ref b536)])) _
                  refine XS.aload X697.here hx rfl (hb hby at_153) rfl rfl ?_
                  show Steps p.tables e below (T697.setTop (mkF m 155 #[.val (.long q1), .second, .val (.long q2), .second, .val (.long q3), .second, .val (.long q4), .second, .val (.int p5), .val (.long q1), .second, .val (.long q4), .second, .val (.ref b536), .val (.ref b543), .val (.int (0 : Int32)), .val (.int (2 : Int32)), .val (.ref v712)] [(.ref v712), (.ref b536)])) _
                  refine st730.trans ?_
                  show Steps p.tables e below (T730.setTop (mkF m 158 #[.val (.long q1), .second, .val (.long q2), .second, .val (.long q3), .second, .val (.long q4), .second, .val (.int p5), .val (.long q1), .second, .val (.long q4), .second, .val (.ref b536), .val (.ref b543), .val (.int (0 : Int32)), .val (.int (2 : Int32)), .val (.ref v712)] [(.int (0 : Int32))])) _
                  refine XS.ifNo X730.here hx rfl (hb hby at_158) rfl ((if0 _ _).trans (teq (by decide : (0 : Int32) = (0 : Int32))).2) ?_
                  show Steps p.tables e below (T730.setTop (mkF m 161 #[.val (.long q1), .second, .val (.long q2), .second, .val (.long q3), .second, .val (.long q4), .second, .val (.int p5), .val (.long q1), .second, .val (.long q4), .second, .val (.ref b536), .val (.ref b543), .val (.int (0 : Int32)), .val (.int (2 : Int32)), .val (.ref v712)] [])) _
                  refine XS.iconst X730.here hx rfl (hb hby at_161) ?_
                  show Steps p.tables e below (T730.setTop (mkF m 162 #[.val (.long q1), .second, .val (.long q2), .second, .val (.long q3), .second, .val (.long q4), .second, .val (.int p5), .val (.long q1), .second, .val (.long q4), .second, .val (.ref b536), .val (.ref b543), .val (.int (0 : Int32)), .val (.int (2 : Int32)), .val (.ref v712)] [(.int (1 : Int32))])) _
                  refine XS.goto X730.here hx rfl (pc0 := 162) (pc' := 166) rfl (hb hby at_162) (by decide) (by decide) ?_
                  show Steps p.tables e below (T730.setTop (mkF m 166 #[.val (.long q1), .second, .val (.long q2), .second, .val (.long q3), .second, .val (.long q4), .second, .val (.int p5), .val (.long q1), .second, .val (.long q4), .second, .val (.ref b536), .val (.ref b543), .val (.int (0 : Int32)), .val (.int (2 : Int32)), .val (.ref v712)] [(.int (1 : Int32))])) _
                  exact retN X730 hx (t := .boolean) hret (by simp) (hb hby at_166) hr
                ·
                  show Q0 n0 _ T730.heap _
                  rw [e732]
                  exact ⟨rfl, N730⟩
            ·
              have hq733 : (((p5.toUInt32 >>> ((2 : Int32) &&& 31).toUInt32).toInt32) &&& (3 : Int32)) = (3 : Int32) := (own_geq (n := 3) (k := (3 : Int32)) (by decide) (by have q0 := own_and (x := ((p5.toUInt32 >>> ((2 : Int32) &&& 31).toUInt32).toInt32)) (k := (3 : Int32)) (n := 3) (by decide) (by decide); have q1 := own_neq (n := 0) (k := (0 : Int32)) (by decide) hc651; have q2 := own_neq (n := 1) (k := (1 : Int32)) (by decide) hc687; have q3 := own_neq (n := 2) (k := (2 : Int32)) (by decide) hc695; omega))
              have pre734 : ∀ t, Steps p.tables e below (T544.setTop (mkF m 142 #[.val (.long q1), .second, .val (.long q2), .second, .val (.long q3), .second, .val (.long q4), .second, .val (.int p5), .val (.long q1), .second, .val (.long q4), .second, .val (.ref b536), .val (.ref b543), .val (.int (0 : Int32)), .val (.int (3 : Int32)), .unset] [(.int (2 : Int32)), (.int (3 : Int32))])) t → Steps p.tables e below (s₁.setTop (entryFrame m #[(.long q1), (.long q2), (.long q3), (.long q4), (.int p5)] maxLocals)) t := fun t k => pre694 t (by rw [hq733]; exact k)
              have f735 := ((f540.ext E543).keep K546)
              have lt736 : b536 < T537.heap.size := (Nat.lt_of_lt_of_le A536.lt K539.1)
              have ne737 : b536 ≠ b543 := Nat.ne_of_lt (Nat.lt_of_lt_of_le lt736 sz_b543)
              have f738 := ((f541.ext E543).keep K546 (ninS ne737 nin0))
              have f739 := ((f542.ext E543).keep K546 (ninS ne737 nin0))
              obtain ⟨cq740, kq740, q740a, q740b, q740c⟩ := isOf hZ rfl f735
              obtain ⟨_, _, ⟨T741, L741, c741, n741⟩, -, X741, ⟨Lc741, hQ741, l741, y741, z741⟩, st741⟩ := X544.virtualBack hx (y := (⟨"com/example/sablegrid/sablegrid/model/WriteOutcome", "equals", "(Ljava/lang/Object;)Z"⟩ : MethodName)) (z := (⟨"com/example/sablegrid/sablegrid/model/WriteOutcome", "equals", "(Ljava/lang/Object;)Z"⟩ : MethodName)) hown (mvT hZ (hw _ (List.mem_of_getElem? (i := 13) rfl))) (mvT hZ (hw _ (List.mem_of_getElem? (i := 14) rfl))) (notFace_of_selects (args := #[]) (mvT hZ (hw _ (List.mem_of_getElem? (i := 16) rfl)))) (mvT hZ (hw _ (List.mem_of_getElem? (i := 16) rfl))) (mvT hZ (hw _ (List.mem_of_getElem? (i := 15) rfl))) (by decide) (backOf (W := 0) (rm9 l Z a0 hw [] b536 q1 q2 T544.heap n0 O544 g_b536 f735 f738 f739) hZ (hw _ (List.mem_of_getElem? (i := 17) rfl)) (hw _ (List.mem_of_getElem? (i := 2) rfl)) (by decide) (by decide)) q740a q740c (g := (mkF m 171 #[.val (.long q1), .second, .val (.long q2), .second, .val (.long q3), .second, .val (.long q4), .second, .val (.int p5), .val (.long q1), .second, .val (.long q4), .second, .val (.ref b536), .val (.ref b543), .val (.int (0 : Int32)), .val (.int (3 : Int32)), .unset] [(.ref b536), (.ref b536)])) rfl (by rw [hml]; rfl) (Steps.refl _) (argsL := [(.ref b536)]) (rest := []) (lenOf pd1 rfl) rfl (by show 2 * 0 + _ ≤ _; exact Nat.le_of_eq rfl) (hb hby at_171) (fun _ _ => ⟨rfl, rfl, (by decide : 2 + 0 ≤ _), (by decide : 4 + 0 ≤ _)⟩)
              dsimp only [Pt.U, Pt.locs, Pt.cells, Pt.slots] at X741 l741 y741 z741 st741 hQ741
              subst l741 y741 z741
              have X741 : Stand p l e room_1 s m #[(.long q1), (.long q2), (.long q3), (.long q4), (.int p5)] below meth c T741 _ 2 4 := X741
              obtain ⟨rfl, Nq742, e743⟩ := hQ741
              have N741 := Fr.app N544 Nq742
              obtain ⟨cq744, kq744, q744a, q744b, q744c⟩ := isOf hZ e743 f547
              obtain ⟨_, _, ⟨T745, L745, c745, n745⟩, -, X745, ⟨Lc745, hQ745, l745, y745, z745⟩, st745⟩ := X741.virtualBack hx (y := (⟨"com/example/sablegrid/sablegrid/model/WriteOutcome", "equals", "(Ljava/lang/Object;)Z"⟩ : MethodName)) (z := (⟨"com/example/sablegrid/sablegrid/model/WriteOutcome", "equals", "(Ljava/lang/Object;)Z"⟩ : MethodName)) hown (mvT hZ (hw _ (List.mem_of_getElem? (i := 13) rfl))) (mvT hZ (hw _ (List.mem_of_getElem? (i := 14) rfl))) (notFace_of_selects (args := #[]) (mvT hZ (hw _ (List.mem_of_getElem? (i := 16) rfl)))) (mvT hZ (hw _ (List.mem_of_getElem? (i := 16) rfl))) (mvT hZ (hw _ (List.mem_of_getElem? (i := 15) rfl))) (by decide) (backOf (W := 0) (rm9 l Z a0 hw [] b543 q1 q4 T544.heap n0 O544 g_b543 f547 f548 f549) hZ (hw _ (List.mem_of_getElem? (i := 17) rfl)) (hw _ (List.mem_of_getElem? (i := 2) rfl)) (by decide) (by decide)) q744a q744c (g := (mkF m 181 #[.val (.long q1), .second, .val (.long q2), .second, .val (.long q3), .second, .val (.long q4), .second, .val (.int p5), .val (.long q1), .second, .val (.long q4), .second, .val (.ref b536), .val (.ref b543), .val (.int (0 : Int32)), .val (.int (3 : Int32)), .unset] [(.ref b543), (.ref b543)])) rfl (by rw [hml]; rfl) (Steps.refl _) (argsL := [(.ref b543)]) (rest := []) (lenOf pd1 rfl) rfl (by show 2 * 0 + _ ≤ _; exact Nat.le_of_eq rfl) (hb hby at_181) (fun _ _ => ⟨rfl, e743, (by decide : 2 + 0 ≤ _), (by decide : 4 + 0 ≤ _)⟩)
              dsimp only [Pt.U, Pt.locs, Pt.cells, Pt.slots] at X745 l745 y745 z745 st745 hQ745
              subst l745 y745 z745
              have X745 : Stand p l e room_1 s m #[(.long q1), (.long q2), (.long q3), (.long q4), (.int p5)] below meth c T745 _ 2 4 := X745
              obtain ⟨rfl, Nq746, e747⟩ := hQ745
              have N745 := Fr.app N741 Nq746
              obtain ⟨fs, hr, hrun, hended, hW, hsame⟩ := X745.leave (v := some (.int (1 : Int32))) (fun h => by rw [hret] at h; cases h)
              refine ⟨_, _, pre734 _ ?_, hrun, hended, _, _, rfl, ?_, ⟨_, rfl⟩, hW, hsame.mono (by decide) (by decide)⟩
              ·
                show Steps p.tables e below (T544.setTop (mkF m 142 #[.val (.long q1), .second, .val (.long q2), .second, .val (.long q3), .second, .val (.long q4), .second, .val (.int p5), .val (.long q1), .second, .val (.long q4), .second, .val (.ref b536), .val (.ref b543), .val (.int (0 : Int32)), .val (.int (3 : Int32)), .unset] [(.int (2 : Int32)), (.int (3 : Int32))])) _
                refine XS.icmpYes X544.here hx rfl (pc0 := 142) (pc' := 167) rfl (hb hby at_142) rfl (feq (by decide : ¬ ((3 : Int32) = (2 : Int32)))).2 (by decide) (by decide) ?_
                show Steps p.tables e below (T544.setTop (mkF m 167 #[.val (.long q1), .second, .val (.long q2), .second, .val (.long q3), .second, .val (.long q4), .second, .val (.int p5), .val (.long q1), .second, .val (.long q4), .second, .val (.ref b536), .val (.ref b543), .val (.int (0 : Int32)), .val (.int (3 : Int32)), .unset] [])) _
                refine XS.aload X544.here hx rfl (hb hby at_167) rfl rfl ?_
                show Steps p.tables e below (T544.setTop (mkF m 169 #[.val (.long q1), .second, .val (.long q2), .second, .val (.long q3), .second, .val (.long q4), .second, .val (.int p5), .val (.long q1), .second, .val (.long q4), .second, .val (.ref b536), .val (.ref b543), .val (.int (0 : Int32)), .val (.int (3 : Int32)), .unset] [(.ref b536)])) _
                refine XS.aload X544.here hx rfl (hb hby at_169) rfl rfl ?_
                show Steps p.tables e below (T544.setTop (mkF m 171 #[.val (.long q1), .second, .val (.long q2), .second, .val (.long q3), .second, .val (.long q4), .second, .val (.int p5), .val (.long q1), .second, .val (.long q4), .second, .val (.ref b536), .val (.ref b543), .val (.int (0 : Int32)), .val (.int (3 : Int32)), .unset] [(.ref b536), (.ref b536)])) _
                refine st741.trans ?_
                show Steps p.tables e below (T741.setTop (mkF m 174 #[.val (.long q1), .second, .val (.long q2), .second, .val (.long q3), .second, .val (.long q4), .second, .val (.int p5), .val (.long q1), .second, .val (.long q4), .second, .val (.ref b536), .val (.ref b543), .val (.int (0 : Int32)), .val (.int (3 : Int32)), .unset] [(.int (1 : Int32))])) _
                refine XS.ifNo X741.here hx rfl (hb hby at_174) rfl ((if0 _ _).trans (feq (by decide : ¬ ((1 : Int32) = (0 : Int32)))).1) ?_
                show Steps p.tables e below (T741.setTop (mkF m 177 #[.val (.long q1), .second, .val (.long q2), .second, .val (.long q3), .second, .val (.long q4), .second, .val (.int p5), .val (.long q1), .second, .val (.long q4), .second, .val (.ref b536), .val (.ref b543), .val (.int (0 : Int32)), .val (.int (3 : Int32)), .unset] [])) _
                refine XS.aload X741.here hx rfl (hb hby at_177) rfl rfl ?_
                show Steps p.tables e below (T741.setTop (mkF m 179 #[.val (.long q1), .second, .val (.long q2), .second, .val (.long q3), .second, .val (.long q4), .second, .val (.int p5), .val (.long q1), .second, .val (.long q4), .second, .val (.ref b536), .val (.ref b543), .val (.int (0 : Int32)), .val (.int (3 : Int32)), .unset] [(.ref b543)])) _
                refine XS.aload X741.here hx rfl (hb hby at_179) rfl rfl ?_
                show Steps p.tables e below (T741.setTop (mkF m 181 #[.val (.long q1), .second, .val (.long q2), .second, .val (.long q3), .second, .val (.long q4), .second, .val (.int p5), .val (.long q1), .second, .val (.long q4), .second, .val (.ref b536), .val (.ref b543), .val (.int (0 : Int32)), .val (.int (3 : Int32)), .unset] [(.ref b543), (.ref b543)])) _
                refine st745.trans ?_
                show Steps p.tables e below (T745.setTop (mkF m 184 #[.val (.long q1), .second, .val (.long q2), .second, .val (.long q3), .second, .val (.long q4), .second, .val (.int p5), .val (.long q1), .second, .val (.long q4), .second, .val (.ref b536), .val (.ref b543), .val (.int (0 : Int32)), .val (.int (3 : Int32)), .unset] [(.int (1 : Int32))])) _
                refine XS.ifNo X745.here hx rfl (hb hby at_184) rfl ((if0 _ _).trans (feq (by decide : ¬ ((1 : Int32) = (0 : Int32)))).1) ?_
                show Steps p.tables e below (T745.setTop (mkF m 187 #[.val (.long q1), .second, .val (.long q2), .second, .val (.long q3), .second, .val (.long q4), .second, .val (.int p5), .val (.long q1), .second, .val (.long q4), .second, .val (.ref b536), .val (.ref b543), .val (.int (0 : Int32)), .val (.int (3 : Int32)), .unset] [])) _
                refine XS.iconst X745.here hx rfl (hb hby at_187) ?_
                show Steps p.tables e below (T745.setTop (mkF m 188 #[.val (.long q1), .second, .val (.long q2), .second, .val (.long q3), .second, .val (.long q4), .second, .val (.int p5), .val (.long q1), .second, .val (.long q4), .second, .val (.ref b536), .val (.ref b543), .val (.int (0 : Int32)), .val (.int (3 : Int32)), .unset] [(.int (1 : Int32))])) _
                refine XS.goto X745.here hx rfl (pc0 := 188) (pc' := 192) rfl (hb hby at_188) (by decide) (by decide) ?_
                show Steps p.tables e below (T745.setTop (mkF m 192 #[.val (.long q1), .second, .val (.long q2), .second, .val (.long q3), .second, .val (.long q4), .second, .val (.int p5), .val (.long q1), .second, .val (.long q4), .second, .val (.ref b536), .val (.ref b543), .val (.int (0 : Int32)), .val (.int (3 : Int32)), .unset] [(.int (1 : Int32))])) _
                exact retN X745 hx (t := .boolean) hret (by simp) (hb hby at_192) hr
              ·
                show Q0 n0 _ T745.heap _
                rw [e747]
                exact ⟨rfl, N745⟩
    ·
      obtain ⟨T748, h748, X748, e748, E748, A748, D748, -, st748⟩ := newO X0 hx hZ hown (hw _ (List.mem_of_getElem? (i := 0) rfl)) (hw _ (List.mem_of_getElem? (i := 1) rfl)) (hw _ (List.mem_of_getElem? (i := 2) rfl)) e0 (g := (mkF m 30 #[.val (.long q1), .second, .val (.long q2), .second, .val (.long q3), .second, .val (.long q4), .second, .val (.int p5), .val (.long q1), .second, .val (.long q2), .second, .unset, .unset, .unset, .unset, .unset] [])) rfl (hb hby at_30) (by decide) (by decide)
      obtain ⟨b748, g748⟩ : ∃ z, z = h0.size := ⟨_, rfl⟩
      rw [← g748] at A748 D748 st748
      have M748 : h0.size ≤ h748.size := Nat.le_trans (Nat.le_refl _) E748.1
      have O748 := Old.ext O0 E748
      have sz_b748 : h0.size ≤ b748 := Nat.le_of_eq g748.symm
      have g_b748 : n0 ≤ b748 := Nat.le_trans (own_oz O0) (Nat.le_trans (Nat.le_refl _) sz_b748)
      have F748_10 : Fld Z h748 b748 "com/example/sablegrid/sablegrid/model/WriteOutcome" "found" "J" (.long (0 : Int64)) := D748 (Or.inr (hw _ (List.mem_of_getElem? (i := 10) rfl))) (ty := .long) (by decide)
      have F748_12 : Fld Z h748 b748 "com/example/sablegrid/sablegrid/model/WriteOutcome" "version" "J" (.long (0 : Int64)) := D748 (Or.inr (hw _ (List.mem_of_getElem? (i := 12) rfl))) (ty := .long) (by decide)
      obtain ⟨_, _, ⟨T749, L749, c749, n749⟩, -, X749, ⟨Lc749, hQ749, l749, y749, z749⟩, st749⟩ := X748.specialBack hx (y := (⟨"com/example/sablegrid/sablegrid/model/WriteOutcome", "<init>", "(JJ)V"⟩ : MethodName)) rfl hown (mvT hZ (hw _ (List.mem_of_getElem? (i := 3) rfl))) (mvT hZ (hw _ (List.mem_of_getElem? (i := 4) rfl))) (mvT hZ (hw _ (List.mem_of_getElem? (i := 5) rfl))) (by decide) (backOf (W := 1) (rm1 l Z a0 hw [] b748 q1 q2 h748 n0 O748 g_b748 A748 F748_10 F748_12) hZ (hw _ (List.mem_of_getElem? (i := 5) rfl)) (hw _ (List.mem_of_getElem? (i := 2) rfl)) (by decide) (by decide)) (g := (mkF m 36 #[.val (.long q1), .second, .val (.long q2), .second, .val (.long q3), .second, .val (.long q4), .second, .val (.int p5), .val (.long q1), .second, .val (.long q2), .second, .unset, .unset, .unset, .unset, .unset] [(.long q2), (.long q1), (.ref b748), (.ref b748)])) rfl (by rw [hml]; rfl) (Steps.refl _) (a := b748) (argsL := [(.long q1), (.long q2)]) (rest := [(.ref b748)]) (lenOf pd0 rfl) rfl (by show 2 * 0 + _ ≤ _; exact Nat.le_of_eq rfl) (hb hby at_36) (fun _ _ => ⟨rfl, e748, (by decide : 1 + 0 ≤ _), (by decide : 2 + 0 ≤ _)⟩)
      dsimp only [Pt.U, Pt.locs, Pt.cells, Pt.slots] at X749 l749 y749 z749 st749 hQ749
      subst l749 y749 z749
      have X749 : Stand p l e room_1 s m #[(.long q1), (.long q2), (.long q3), (.long q4), (.int p5)] below meth c T749 _ 1 2 := X749
      obtain ⟨rfl, Nq750, K751, f752, f753, f754⟩ := hQ749
      have N749 := Fr.app N0 Nq750
      have M749 : h0.size ≤ T749.heap.size := Nat.le_trans M748 K751.1
      have O749 := Old.keep O748 K751 (allS g_b748 all0)
      obtain ⟨T755, h755, X755, e755, E755, A755, D755, -, st755⟩ := newO X749 hx hZ hown (hw _ (List.mem_of_getElem? (i := 0) rfl)) (hw _ (List.mem_of_getElem? (i := 1) rfl)) (hw _ (List.mem_of_getElem? (i := 2) rfl)) rfl (g := (mkF m 41 #[.val (.long q1), .second, .val (.long q2), .second, .val (.long q3), .second, .val (.long q4), .second, .val (.int p5), .val (.long q1), .second, .val (.long q2), .second, .val (.ref b748), .unset, .unset, .unset, .unset] [])) rfl (hb hby at_41) (by decide) (by decide)
      obtain ⟨b755, g755⟩ : ∃ z, z = T749.heap.size := ⟨_, rfl⟩
      rw [← g755] at A755 D755 st755
      have M755 : h0.size ≤ h755.size := Nat.le_trans M749 E755.1
      have O755 := Old.ext O749 E755
      have sz_b755 : T749.heap.size ≤ b755 := Nat.le_of_eq g755.symm
      have g_b755 : n0 ≤ b755 := Nat.le_trans (own_oz O0) (Nat.le_trans M749 sz_b755)
      have F755_10 : Fld Z h755 b755 "com/example/sablegrid/sablegrid/model/WriteOutcome" "found" "J" (.long (0 : Int64)) := D755 (Or.inr (hw _ (List.mem_of_getElem? (i := 10) rfl))) (ty := .long) (by decide)
      have F755_12 : Fld Z h755 b755 "com/example/sablegrid/sablegrid/model/WriteOutcome" "version" "J" (.long (0 : Int64)) := D755 (Or.inr (hw _ (List.mem_of_getElem? (i := 12) rfl))) (ty := .long) (by decide)
      obtain ⟨_, _, ⟨T756, L756, c756, n756⟩, -, X756, ⟨Lc756, hQ756, l756, y756, z756⟩, st756⟩ := X755.specialBack hx (y := (⟨"com/example/sablegrid/sablegrid/model/WriteOutcome", "<init>", "(JJ)V"⟩ : MethodName)) rfl hown (mvT hZ (hw _ (List.mem_of_getElem? (i := 3) rfl))) (mvT hZ (hw _ (List.mem_of_getElem? (i := 4) rfl))) (mvT hZ (hw _ (List.mem_of_getElem? (i := 5) rfl))) (by decide) (backOf (W := 1) (rm1 l Z a0 hw [] b755 q1 q2 h755 n0 O755 g_b755 A755 F755_10 F755_12) hZ (hw _ (List.mem_of_getElem? (i := 5) rfl)) (hw _ (List.mem_of_getElem? (i := 2) rfl)) (by decide) (by decide)) (g := (mkF m 49 #[.val (.long q1), .second, .val (.long q2), .second, .val (.long q3), .second, .val (.long q4), .second, .val (.int p5), .val (.long q1), .second, .val (.long q2), .second, .val (.ref b748), .unset, .unset, .unset, .unset] [(.long q2), (.long q1), (.ref b755), (.ref b755)])) rfl (by rw [hml]; rfl) (Steps.refl _) (a := b755) (argsL := [(.long q1), (.long q2)]) (rest := [(.ref b755)]) (lenOf pd0 rfl) rfl (by show 2 * 0 + _ ≤ _; exact Nat.le_of_eq rfl) (hb hby at_49) (fun _ _ => ⟨rfl, e755, (by decide : 2 + 0 ≤ _), (by decide : 4 + 0 ≤ _)⟩)
      dsimp only [Pt.U, Pt.locs, Pt.cells, Pt.slots] at X756 l756 y756 z756 st756 hQ756
      subst l756 y756 z756
      have X756 : Stand p l e room_1 s m #[(.long q1), (.long q2), (.long q3), (.long q4), (.int p5)] below meth c T756 _ 2 4 := X756
      obtain ⟨rfl, Nq757, K758, f759, f760, f761⟩ := hQ756
      have N756 := Fr.app N749 Nq757
      have M756 : h0.size ≤ T756.heap.size := Nat.le_trans M755 K758.1
      have O756 := Old.keep O755 K758 (allS g_b755 all0)
      have pre762 : ∀ t, Steps p.tables e below (T756.setTop (mkF m 85 #[.val (.long q1), .second, .val (.long q2), .second, .val (.long q3), .second, .val (.long q4), .second, .val (.int p5), .val (.long q1), .second, .val (.long q2), .second, .val (.ref b748), .val (.ref b755), .val (.int (1 : Int32)), .val (.int (((p5.toUInt32 >>> ((2 : Int32) &&& 31).toUInt32).toInt32) &&& (3 : Int32))), .unset] [(.int (((p5.toUInt32 >>> ((2 : Int32) &&& 31).toUInt32).toInt32) &&& (3 : Int32)))])) t → Steps p.tables e below (s₁.setTop (entryFrame m #[(.long q1), (.long q2), (.long q3), (.long q4), (.int p5)] maxLocals)) t := fun t k => by
        refine pre533 _ ?_
        show Steps p.tables e below (s₁.setTop (mkF m 19 #[.val (.long q1), .second, .val (.long q2), .second, .val (.long q3), .second, .val (.long q4), .second, .val (.int p5), .val (.long q1), .second, .unset, .unset, .unset, .unset, .unset, .unset, .unset] [(.int (p5 &&& (2 : Int32)))])) _
        refine XS.ifNo X0.here hx rfl (hb hby at_19) rfl ((if0 _ _).trans (feq hc534).1) ?_
        show Steps p.tables e below (s₁.setTop (mkF m 22 #[.val (.long q1), .second, .val (.long q2), .second, .val (.long q3), .second, .val (.long q4), .second, .val (.int p5), .val (.long q1), .second, .unset, .unset, .unset, .unset, .unset, .unset, .unset] [])) _
        refine XS.lloadN X0.here hx rfl (hb hby at_22) rfl ?_
        show Steps p.tables e below (s₁.setTop (mkF m 23 #[.val (.long q1), .second, .val (.long q2), .second, .val (.long q3), .second, .val (.long q4), .second, .val (.int p5), .val (.long q1), .second, .unset, .unset, .unset, .unset, .unset, .unset, .unset] [(.long q2)])) _
        refine XS.goto X0.here hx rfl (pc0 := 23) (pc' := 28) rfl (hb hby at_23) (by decide) (by decide) ?_
        show Steps p.tables e below (s₁.setTop (mkF m 28 #[.val (.long q1), .second, .val (.long q2), .second, .val (.long q3), .second, .val (.long q4), .second, .val (.int p5), .val (.long q1), .second, .unset, .unset, .unset, .unset, .unset, .unset, .unset] [(.long q2)])) _
        refine XS.lstore X0.here hx rfl (hb hby at_28) rfl (l' := #[.val (.long q1), .second, .val (.long q2), .second, .val (.long q3), .second, .val (.long q4), .second, .val (.int p5), .val (.long q1), .second, .val (.long q2), .second, .unset, .unset, .unset, .unset, .unset]) rfl ?_
        show Steps p.tables e below (s₁.setTop (mkF m 30 #[.val (.long q1), .second, .val (.long q2), .second, .val (.long q3), .second, .val (.long q4), .second, .val (.int p5), .val (.long q1), .second, .val (.long q2), .second, .unset, .unset, .unset, .unset, .unset] [])) _
        refine st748 _ ?_
        show Steps p.tables e below (T748.setTop (mkF m 33 #[.val (.long q1), .second, .val (.long q2), .second, .val (.long q3), .second, .val (.long q4), .second, .val (.int p5), .val (.long q1), .second, .val (.long q2), .second, .unset, .unset, .unset, .unset, .unset] [(.ref b748)])) _
        refine XS.dup X748.here hx rfl (hb hby at_33) rfl rfl ?_
        show Steps p.tables e below (T748.setTop (mkF m 34 #[.val (.long q1), .second, .val (.long q2), .second, .val (.long q3), .second, .val (.long q4), .second, .val (.int p5), .val (.long q1), .second, .val (.long q2), .second, .unset, .unset, .unset, .unset, .unset] [(.ref b748), (.ref b748)])) _
        refine XS.lloadN X748.here hx rfl (hb hby at_34) rfl ?_
        show Steps p.tables e below (T748.setTop (mkF m 35 #[.val (.long q1), .second, .val (.long q2), .second, .val (.long q3), .second, .val (.long q4), .second, .val (.int p5), .val (.long q1), .second, .val (.long q2), .second, .unset, .unset, .unset, .unset, .unset] [(.long q1), (.ref b748), (.ref b748)])) _
        refine XS.lloadN X748.here hx rfl (hb hby at_35) rfl ?_
        show Steps p.tables e below (T748.setTop (mkF m 36 #[.val (.long q1), .second, .val (.long q2), .second, .val (.long q3), .second, .val (.long q4), .second, .val (.int p5), .val (.long q1), .second, .val (.long q2), .second, .unset, .unset, .unset, .unset, .unset] [(.long q2), (.long q1), (.ref b748), (.ref b748)])) _
        refine st749.trans ?_
        show Steps p.tables e below (T749.setTop (mkF m 39 #[.val (.long q1), .second, .val (.long q2), .second, .val (.long q3), .second, .val (.long q4), .second, .val (.int p5), .val (.long q1), .second, .val (.long q2), .second, .unset, .unset, .unset, .unset, .unset] [(.ref b748)])) _
        refine XS.astore X749.here hx rfl (hb hby at_39) rfl rfl (l' := #[.val (.long q1), .second, .val (.long q2), .second, .val (.long q3), .second, .val (.long q4), .second, .val (.int p5), .val (.long q1), .second, .val (.long q2), .second, .val (.ref b748), .unset, .unset, .unset, .unset]) rfl ?_
        show Steps p.tables e below (T749.setTop (mkF m 41 #[.val (.long q1), .second, .val (.long q2), .second, .val (.long q3), .second, .val (.long q4), .second, .val (.int p5), .val (.long q1), .second, .val (.long q2), .second, .val (.ref b748), .unset, .unset, .unset, .unset] [])) _
        refine st755 _ ?_
        show Steps p.tables e below (T755.setTop (mkF m 44 #[.val (.long q1), .second, .val (.long q2), .second, .val (.long q3), .second, .val (.long q4), .second, .val (.int p5), .val (.long q1), .second, .val (.long q2), .second, .val (.ref b748), .unset, .unset, .unset, .unset] [(.ref b755)])) _
        refine XS.dup X755.here hx rfl (hb hby at_44) rfl rfl ?_
        show Steps p.tables e below (T755.setTop (mkF m 45 #[.val (.long q1), .second, .val (.long q2), .second, .val (.long q3), .second, .val (.long q4), .second, .val (.int p5), .val (.long q1), .second, .val (.long q2), .second, .val (.ref b748), .unset, .unset, .unset, .unset] [(.ref b755), (.ref b755)])) _
        refine XS.lload X755.here hx rfl (hb hby at_45) rfl ?_
        show Steps p.tables e below (T755.setTop (mkF m 47 #[.val (.long q1), .second, .val (.long q2), .second, .val (.long q3), .second, .val (.long q4), .second, .val (.int p5), .val (.long q1), .second, .val (.long q2), .second, .val (.ref b748), .unset, .unset, .unset, .unset] [(.long q1), (.ref b755), (.ref b755)])) _
        refine XS.lload X755.here hx rfl (hb hby at_47) rfl ?_
        show Steps p.tables e below (T755.setTop (mkF m 49 #[.val (.long q1), .second, .val (.long q2), .second, .val (.long q3), .second, .val (.long q4), .second, .val (.int p5), .val (.long q1), .second, .val (.long q2), .second, .val (.ref b748), .unset, .unset, .unset, .unset] [(.long q2), (.long q1), (.ref b755), (.ref b755)])) _
        refine st756.trans ?_
        show Steps p.tables e below (T756.setTop (mkF m 52 #[.val (.long q1), .second, .val (.long q2), .second, .val (.long q3), .second, .val (.long q4), .second, .val (.int p5), .val (.long q1), .second, .val (.long q2), .second, .val (.ref b748), .unset, .unset, .unset, .unset] [(.ref b755)])) _
        refine XS.astore X756.here hx rfl (hb hby at_52) rfl rfl (l' := #[.val (.long q1), .second, .val (.long q2), .second, .val (.long q3), .second, .val (.long q4), .second, .val (.int p5), .val (.long q1), .second, .val (.long q2), .second, .val (.ref b748), .val (.ref b755), .unset, .unset, .unset]) rfl ?_
        show Steps p.tables e below (T756.setTop (mkF m 54 #[.val (.long q1), .second, .val (.long q2), .second, .val (.long q3), .second, .val (.long q4), .second, .val (.int p5), .val (.long q1), .second, .val (.long q2), .second, .val (.ref b748), .val (.ref b755), .unset, .unset, .unset] [])) _
        refine XS.lloadN X756.here hx rfl (hb hby at_54) rfl ?_
        show Steps p.tables e below (T756.setTop (mkF m 55 #[.val (.long q1), .second, .val (.long q2), .second, .val (.long q3), .second, .val (.long q4), .second, .val (.int p5), .val (.long q1), .second, .val (.long q2), .second, .val (.ref b748), .val (.ref b755), .unset, .unset, .unset] [(.long q1)])) _
        refine XS.lload X756.here hx rfl (hb hby at_55) rfl ?_
        show Steps p.tables e below (T756.setTop (mkF m 57 #[.val (.long q1), .second, .val (.long q2), .second, .val (.long q3), .second, .val (.long q4), .second, .val (.int p5), .val (.long q1), .second, .val (.long q2), .second, .val (.ref b748), .val (.ref b755), .unset, .unset, .unset] [(.long q1), (.long q1)])) _
        refine XS.lcmp X756.here hx rfl (hb hby at_57) rfl ?_
        show Steps p.tables e below (T756.setTop (mkF m 58 #[.val (.long q1), .second, .val (.long q2), .second, .val (.long q3), .second, .val (.long q4), .second, .val (.int p5), .val (.long q1), .second, .val (.long q2), .second, .val (.ref b748), .val (.ref b755), .unset, .unset, .unset] [(.int (lcmpW q1 q1))])) _
        refine XS.ifNo X756.here hx rfl (hb hby at_58) rfl ((if0 _ _).trans (teq ((lw_eq _ _).mpr (rfl : q1 = q1))).2) ?_
        show Steps p.tables e below (T756.setTop (mkF m 61 #[.val (.long q1), .second, .val (.long q2), .second, .val (.long q3), .second, .val (.long q4), .second, .val (.int p5), .val (.long q1), .second, .val (.long q2), .second, .val (.ref b748), .val (.ref b755), .unset, .unset, .unset] [])) _
        refine XS.lloadN X756.here hx rfl (hb hby at_61) rfl ?_
        show Steps p.tables e below (T756.setTop (mkF m 62 #[.val (.long q1), .second, .val (.long q2), .second, .val (.long q3), .second, .val (.long q4), .second, .val (.int p5), .val (.long q1), .second, .val (.long q2), .second, .val (.ref b748), .val (.ref b755), .unset, .unset, .unset] [(.long q2)])) _
        refine XS.lload X756.here hx rfl (hb hby at_62) rfl ?_
        show Steps p.tables e below (T756.setTop (mkF m 64 #[.val (.long q1), .second, .val (.long q2), .second, .val (.long q3), .second, .val (.long q4), .second, .val (.int p5), .val (.long q1), .second, .val (.long q2), .second, .val (.ref b748), .val (.ref b755), .unset, .unset, .unset] [(.long q2), (.long q2)])) _
        refine XS.lcmp X756.here hx rfl (hb hby at_64) rfl ?_
        show Steps p.tables e below (T756.setTop (mkF m 65 #[.val (.long q1), .second, .val (.long q2), .second, .val (.long q3), .second, .val (.long q4), .second, .val (.int p5), .val (.long q1), .second, .val (.long q2), .second, .val (.ref b748), .val (.ref b755), .unset, .unset, .unset] [(.int (lcmpW q2 q2))])) _
        refine XS.ifNo X756.here hx rfl (hb hby at_65) rfl ((if0 _ _).trans (teq ((lw_eq _ _).mpr (rfl : q2 = q2))).2) ?_
        show Steps p.tables e below (T756.setTop (mkF m 68 #[.val (.long q1), .second, .val (.long q2), .second, .val (.long q3), .second, .val (.long q4), .second, .val (.int p5), .val (.long q1), .second, .val (.long q2), .second, .val (.ref b748), .val (.ref b755), .unset, .unset, .unset] [])) _
        refine XS.iconst X756.here hx rfl (hb hby at_68) ?_
        show Steps p.tables e below (T756.setTop (mkF m 69 #[.val (.long q1), .second, .val (.long q2), .second, .val (.long q3), .second, .val (.long q4), .second, .val (.int p5), .val (.long q1), .second, .val (.long q2), .second, .val (.ref b748), .val (.ref b755), .unset, .unset, .unset] [(.int (1 : Int32))])) _
        refine XS.goto X756.here hx rfl (pc0 := 69) (pc' := 73) rfl (hb hby at_69) (by decide) (by decide) ?_
        show Steps p.tables e below (T756.setTop (mkF m 73 #[.val (.long q1), .second, .val (.long q2), .second, .val (.long q3), .second, .val (.long q4), .second, .val (.int p5), .val (.long q1), .second, .val (.long q2), .second, .val (.ref b748), .val (.ref b755), .unset, .unset, .unset] [(.int (1 : Int32))])) _
        refine XS.istore X756.here hx rfl (hb hby at_73) rfl (l' := #[.val (.long q1), .second, .val (.long q2), .second, .val (.long q3), .second, .val (.long q4), .second, .val (.int p5), .val (.long q1), .second, .val (.long q2), .second, .val (.ref b748), .val (.ref b755), .val (.int (1 : Int32)), .unset, .unset]) rfl ?_
        show Steps p.tables e below (T756.setTop (mkF m 75 #[.val (.long q1), .second, .val (.long q2), .second, .val (.long q3), .second, .val (.long q4), .second, .val (.int p5), .val (.long q1), .second, .val (.long q2), .second, .val (.ref b748), .val (.ref b755), .val (.int (1 : Int32)), .unset, .unset] [])) _
        refine XS.iload X756.here hx rfl (hb hby at_75) rfl ?_
        show Steps p.tables e below (T756.setTop (mkF m 77 #[.val (.long q1), .second, .val (.long q2), .second, .val (.long q3), .second, .val (.long q4), .second, .val (.int p5), .val (.long q1), .second, .val (.long q2), .second, .val (.ref b748), .val (.ref b755), .val (.int (1 : Int32)), .unset, .unset] [(.int p5)])) _
        refine XS.iconst X756.here hx rfl (hb hby at_77) ?_
        show Steps p.tables e below (T756.setTop (mkF m 78 #[.val (.long q1), .second, .val (.long q2), .second, .val (.long q3), .second, .val (.long q4), .second, .val (.int p5), .val (.long q1), .second, .val (.long q2), .second, .val (.ref b748), .val (.ref b755), .val (.int (1 : Int32)), .unset, .unset] [(.int (2 : Int32)), (.int p5)])) _
        refine XS.iushr X756.here hx rfl (hb hby at_78) rfl ?_
        show Steps p.tables e below (T756.setTop (mkF m 79 #[.val (.long q1), .second, .val (.long q2), .second, .val (.long q3), .second, .val (.long q4), .second, .val (.int p5), .val (.long q1), .second, .val (.long q2), .second, .val (.ref b748), .val (.ref b755), .val (.int (1 : Int32)), .unset, .unset] [(.int ((p5.toUInt32 >>> ((2 : Int32) &&& 31).toUInt32).toInt32))])) _
        refine XS.iconst X756.here hx rfl (hb hby at_79) ?_
        show Steps p.tables e below (T756.setTop (mkF m 80 #[.val (.long q1), .second, .val (.long q2), .second, .val (.long q3), .second, .val (.long q4), .second, .val (.int p5), .val (.long q1), .second, .val (.long q2), .second, .val (.ref b748), .val (.ref b755), .val (.int (1 : Int32)), .unset, .unset] [(.int (3 : Int32)), (.int ((p5.toUInt32 >>> ((2 : Int32) &&& 31).toUInt32).toInt32))])) _
        refine XS.iand X756.here hx rfl (hb hby at_80) rfl ?_
        show Steps p.tables e below (T756.setTop (mkF m 81 #[.val (.long q1), .second, .val (.long q2), .second, .val (.long q3), .second, .val (.long q4), .second, .val (.int p5), .val (.long q1), .second, .val (.long q2), .second, .val (.ref b748), .val (.ref b755), .val (.int (1 : Int32)), .unset, .unset] [(.int (((p5.toUInt32 >>> ((2 : Int32) &&& 31).toUInt32).toInt32) &&& (3 : Int32)))])) _
        refine XS.istore X756.here hx rfl (hb hby at_81) rfl (l' := #[.val (.long q1), .second, .val (.long q2), .second, .val (.long q3), .second, .val (.long q4), .second, .val (.int p5), .val (.long q1), .second, .val (.long q2), .second, .val (.ref b748), .val (.ref b755), .val (.int (1 : Int32)), .val (.int (((p5.toUInt32 >>> ((2 : Int32) &&& 31).toUInt32).toInt32) &&& (3 : Int32))), .unset]) rfl ?_
        show Steps p.tables e below (T756.setTop (mkF m 83 #[.val (.long q1), .second, .val (.long q2), .second, .val (.long q3), .second, .val (.long q4), .second, .val (.int p5), .val (.long q1), .second, .val (.long q2), .second, .val (.ref b748), .val (.ref b755), .val (.int (1 : Int32)), .val (.int (((p5.toUInt32 >>> ((2 : Int32) &&& 31).toUInt32).toInt32) &&& (3 : Int32))), .unset] [])) _
        refine XS.iload X756.here hx rfl (hb hby at_83) rfl ?_
        exact k
      by_cases hc763 : (((p5.toUInt32 >>> ((2 : Int32) &&& 31).toUInt32).toInt32) &&& (3 : Int32)) = (0 : Int32)
      ·
        have pre764 : ∀ t, Steps p.tables e below (T756.setTop (mkF m 85 #[.val (.long q1), .second, .val (.long q2), .second, .val (.long q3), .second, .val (.long q4), .second, .val (.int p5), .val (.long q1), .second, .val (.long q2), .second, .val (.ref b748), .val (.ref b755), .val (.int (1 : Int32)), .val (.int (0 : Int32)), .unset] [(.int (0 : Int32))])) t → Steps p.tables e below (s₁.setTop (entryFrame m #[(.long q1), (.long q2), (.long q3), (.long q4), (.int p5)] maxLocals)) t := fun t k => pre762 t (by rw [hc763]; exact k)
        have lt765 : b748 < T749.heap.size := (Nat.lt_of_lt_of_le A748.lt K751.1)
        have ne766 : b748 ≠ b755 := Nat.ne_of_lt (Nat.lt_of_lt_of_le lt765 sz_b755)
        have f767 := ((f753.ext E755).keep K758 (ninS ne766 nin0))
        have f768 := ((f754.ext E755).keep K758 (ninS ne766 nin0))
        have f770 := ((f752.ext E755).keep K758)
        obtain ⟨cq769, kq769, q769a, q769b, q769c⟩ := isOf hZ rfl f770
        obtain ⟨_, _, ⟨T771, L771, c771, n771⟩, -, X771, ⟨Lc771, hQ771, l771, y771, z771⟩, st771⟩ := X756.virtualBack hx (y := (⟨"com/example/sablegrid/sablegrid/model/WriteOutcome", "equals", "(Ljava/lang/Object;)Z"⟩ : MethodName)) (z := (⟨"com/example/sablegrid/sablegrid/model/WriteOutcome", "equals", "(Ljava/lang/Object;)Z"⟩ : MethodName)) hown (mvT hZ (hw _ (List.mem_of_getElem? (i := 13) rfl))) (mvT hZ (hw _ (List.mem_of_getElem? (i := 14) rfl))) (notFace_of_selects (args := #[]) (mvT hZ (hw _ (List.mem_of_getElem? (i := 16) rfl)))) (mvT hZ (hw _ (List.mem_of_getElem? (i := 16) rfl))) (mvT hZ (hw _ (List.mem_of_getElem? (i := 15) rfl))) (by decide) (backOf (W := 0) (rm2 l Z a0 hw [] b748 b755 q1 q2 q1 q2 T756.heap n0 O756 g_b748 g_b755 f767 f768 f759 f760 f761) hZ (hw _ (List.mem_of_getElem? (i := 17) rfl)) (hw _ (List.mem_of_getElem? (i := 2) rfl)) (by decide) (by decide)) q769a q769c (g := (mkF m 92 #[.val (.long q1), .second, .val (.long q2), .second, .val (.long q3), .second, .val (.long q4), .second, .val (.int p5), .val (.long q1), .second, .val (.long q2), .second, .val (.ref b748), .val (.ref b755), .val (.int (1 : Int32)), .val (.int (0 : Int32)), .unset] [(.ref b755), (.ref b748)])) rfl (by rw [hml]; rfl) (Steps.refl _) (argsL := [(.ref b755)]) (rest := []) (lenOf pd1 rfl) rfl (by show 2 * 0 + _ ≤ _; exact Nat.le_of_eq rfl) (hb hby at_92) (fun _ _ => ⟨rfl, rfl, (by decide : 2 + 0 ≤ _), (by decide : 4 + 0 ≤ _)⟩)
        dsimp only [Pt.U, Pt.locs, Pt.cells, Pt.slots] at X771 l771 y771 z771 st771 hQ771
        subst l771 y771 z771
        have pre772 : ∀ t, Steps p.tables e below (T756.setTop (mkF m 92 #[.val (.long q1), .second, .val (.long q2), .second, .val (.long q3), .second, .val (.long q4), .second, .val (.int p5), .val (.long q1), .second, .val (.long q2), .second, .val (.ref b748), .val (.ref b755), .val (.int (1 : Int32)), .val (.int (0 : Int32)), .unset] [(.ref b755), (.ref b748)])) t → Steps p.tables e below (s₁.setTop (entryFrame m #[(.long q1), (.long q2), (.long q3), (.long q4), (.int p5)] maxLocals)) t := fun t k => by
          refine pre764 _ ?_
          show Steps p.tables e below (T756.setTop (mkF m 85 #[.val (.long q1), .second, .val (.long q2), .second, .val (.long q3), .second, .val (.long q4), .second, .val (.int p5), .val (.long q1), .second, .val (.long q2), .second, .val (.ref b748), .val (.ref b755), .val (.int (1 : Int32)), .val (.int (0 : Int32)), .unset] [(.int (0 : Int32))])) _
          refine XS.ifNo X756.here hx rfl (hb hby at_85) rfl ((if0 _ _).trans (teq (by decide : (0 : Int32) = (0 : Int32))).2) ?_
          show Steps p.tables e below (T756.setTop (mkF m 88 #[.val (.long q1), .second, .val (.long q2), .second, .val (.long q3), .second, .val (.long q4), .second, .val (.int p5), .val (.long q1), .second, .val (.long q2), .second, .val (.ref b748), .val (.ref b755), .val (.int (1 : Int32)), .val (.int (0 : Int32)), .unset] [])) _
          refine XS.aload X756.here hx rfl (hb hby at_88) rfl rfl ?_
          show Steps p.tables e below (T756.setTop (mkF m 90 #[.val (.long q1), .second, .val (.long q2), .second, .val (.long q3), .second, .val (.long q4), .second, .val (.int p5), .val (.long q1), .second, .val (.long q2), .second, .val (.ref b748), .val (.ref b755), .val (.int (1 : Int32)), .val (.int (0 : Int32)), .unset] [(.ref b748)])) _
          refine XS.aload X756.here hx rfl (hb hby at_90) rfl rfl ?_
          exact k
        have X771 : Stand p l e room_1 s m #[(.long q1), (.long q2), (.long q3), (.long q4), (.int p5)] below meth c T771 _ 2 4 := X771
        rcases hQ771 with ⟨hc773, hc774, rfl, Nq775, e776⟩ | ⟨hc777, hc778, rfl, Nq779, e780⟩ | ⟨hc781, rfl, Nq782, e783⟩
        ·
          have N771 := Fr.app N756 Nq775
          obtain ⟨cq784, kq784, q784a, q784b, q784c⟩ := isOf hZ e776 f759
          obtain ⟨_, _, ⟨T785, L785, c785, n785⟩, -, X785, ⟨Lc785, hQ785, l785, y785, z785⟩, st785⟩ := X771.virtualBack hx (y := (⟨"com/example/sablegrid/sablegrid/model/WriteOutcome", "equals", "(Ljava/lang/Object;)Z"⟩ : MethodName)) (z := (⟨"com/example/sablegrid/sablegrid/model/WriteOutcome", "equals", "(Ljava/lang/Object;)Z"⟩ : MethodName)) hown (mvT hZ (hw _ (List.mem_of_getElem? (i := 13) rfl))) (mvT hZ (hw _ (List.mem_of_getElem? (i := 14) rfl))) (notFace_of_selects (args := #[]) (mvT hZ (hw _ (List.mem_of_getElem? (i := 16) rfl)))) (mvT hZ (hw _ (List.mem_of_getElem? (i := 16) rfl))) (mvT hZ (hw _ (List.mem_of_getElem? (i := 15) rfl))) (by decide) (backOf (W := 0) (rm2 l Z a0 hw [] b755 b748 q1 q2 q1 q2 T756.heap n0 O756 g_b755 g_b748 f760 f761 f770 f767 f768) hZ (hw _ (List.mem_of_getElem? (i := 17) rfl)) (hw _ (List.mem_of_getElem? (i := 2) rfl)) (by decide) (by decide)) q784a q784c (g := (mkF m 104 #[.val (.long q1), .second, .val (.long q2), .second, .val (.long q3), .second, .val (.long q4), .second, .val (.int p5), .val (.long q1), .second, .val (.long q2), .second, .val (.ref b748), .val (.ref b755), .val (.int (1 : Int32)), .val (.int (0 : Int32)), .unset] [(.ref b748), (.ref b755)])) rfl (by rw [hml]; rfl) (Steps.refl _) (argsL := [(.ref b748)]) (rest := []) (lenOf pd1 rfl) rfl (by show 2 * 0 + _ ≤ _; exact Nat.le_of_eq rfl) (hb hby at_104) (fun _ _ => ⟨rfl, e776, (by decide : 2 + 0 ≤ _), (by decide : 4 + 0 ≤ _)⟩)
          dsimp only [Pt.U, Pt.locs, Pt.cells, Pt.slots] at X785 l785 y785 z785 st785 hQ785
          subst l785 y785 z785
          have pre786 : ∀ t, Steps p.tables e below (T771.setTop (mkF m 104 #[.val (.long q1), .second, .val (.long q2), .second, .val (.long q3), .second, .val (.long q4), .second, .val (.int p5), .val (.long q1), .second, .val (.long q2), .second, .val (.ref b748), .val (.ref b755), .val (.int (1 : Int32)), .val (.int (0 : Int32)), .unset] [(.ref b748), (.ref b755)])) t → Steps p.tables e below (s₁.setTop (entryFrame m #[(.long q1), (.long q2), (.long q3), (.long q4), (.int p5)] maxLocals)) t := fun t k => by
            refine pre772 _ ?_
            show Steps p.tables e below (T756.setTop (mkF m 92 #[.val (.long q1), .second, .val (.long q2), .second, .val (.long q3), .second, .val (.long q4), .second, .val (.int p5), .val (.long q1), .second, .val (.long q2), .second, .val (.ref b748), .val (.ref b755), .val (.int (1 : Int32)), .val (.int (0 : Int32)), .unset] [(.ref b755), (.ref b748)])) _
            refine st771.trans ?_
            show Steps p.tables e below (T771.setTop (mkF m 95 #[.val (.long q1), .second, .val (.long q2), .second, .val (.long q3), .second, .val (.long q4), .second, .val (.int p5), .val (.long q1), .second, .val (.long q2), .second, .val (.ref b748), .val (.ref b755), .val (.int (1 : Int32)), .val (.int (0 : Int32)), .unset] [(.int (1 : Int32))])) _
            refine XS.iload X771.here hx rfl (hb hby at_95) rfl ?_
            show Steps p.tables e below (T771.setTop (mkF m 97 #[.val (.long q1), .second, .val (.long q2), .second, .val (.long q3), .second, .val (.long q4), .second, .val (.int p5), .val (.long q1), .second, .val (.long q2), .second, .val (.ref b748), .val (.ref b755), .val (.int (1 : Int32)), .val (.int (0 : Int32)), .unset] [(.int (1 : Int32)), (.int (1 : Int32))])) _
            refine XS.icmpNo X771.here hx rfl (hb hby at_97) rfl (teq (by decide : (1 : Int32) = (1 : Int32))).2 ?_
            show Steps p.tables e below (T771.setTop (mkF m 100 #[.val (.long q1), .second, .val (.long q2), .second, .val (.long q3), .second, .val (.long q4), .second, .val (.int p5), .val (.long q1), .second, .val (.long q2), .second, .val (.ref b748), .val (.ref b755), .val (.int (1 : Int32)), .val (.int (0 : Int32)), .unset] [])) _
            refine XS.aload X771.here hx rfl (hb hby at_100) rfl rfl ?_
            show Steps p.tables e below (T771.setTop (mkF m 102 #[.val (.long q1), .second, .val (.long q2), .second, .val (.long q3), .second, .val (.long q4), .second, .val (.int p5), .val (.long q1), .second, .val (.long q2), .second, .val (.ref b748), .val (.ref b755), .val (.int (1 : Int32)), .val (.int (0 : Int32)), .unset] [(.ref b755)])) _
            refine XS.aload X771.here hx rfl (hb hby at_102) rfl rfl ?_
            exact k
          have X785 : Stand p l e room_1 s m #[(.long q1), (.long q2), (.long q3), (.long q4), (.int p5)] below meth c T785 _ 2 4 := X785
          rcases hQ785 with ⟨hc787, hc788, rfl, Nq789, e790⟩ | ⟨hc791, hc792, rfl, Nq793, e794⟩ | ⟨hc795, rfl, Nq796, e797⟩
          ·
            have N785 := Fr.app N771 Nq789
            obtain ⟨fs, hr, hrun, hended, hW, hsame⟩ := X785.leave (v := some (.int (1 : Int32))) (fun h => by rw [hret] at h; cases h)
            refine ⟨_, _, pre786 _ ?_, hrun, hended, _, _, rfl, ?_, ⟨_, rfl⟩, hW, hsame.mono (by decide) (by decide)⟩
            ·
              show Steps p.tables e below (T771.setTop (mkF m 104 #[.val (.long q1), .second, .val (.long q2), .second, .val (.long q3), .second, .val (.long q4), .second, .val (.int p5), .val (.long q1), .second, .val (.long q2), .second, .val (.ref b748), .val (.ref b755), .val (.int (1 : Int32)), .val (.int (0 : Int32)), .unset] [(.ref b748), (.ref b755)])) _
              refine st785.trans ?_
              show Steps p.tables e below (T785.setTop (mkF m 107 #[.val (.long q1), .second, .val (.long q2), .second, .val (.long q3), .second, .val (.long q4), .second, .val (.int p5), .val (.long q1), .second, .val (.long q2), .second, .val (.ref b748), .val (.ref b755), .val (.int (1 : Int32)), .val (.int (0 : Int32)), .unset] [(.int (1 : Int32))])) _
              refine XS.iload X785.here hx rfl (hb hby at_107) rfl ?_
              show Steps p.tables e below (T785.setTop (mkF m 109 #[.val (.long q1), .second, .val (.long q2), .second, .val (.long q3), .second, .val (.long q4), .second, .val (.int p5), .val (.long q1), .second, .val (.long q2), .second, .val (.ref b748), .val (.ref b755), .val (.int (1 : Int32)), .val (.int (0 : Int32)), .unset] [(.int (1 : Int32)), (.int (1 : Int32))])) _
              refine XS.icmpNo X785.here hx rfl (hb hby at_109) rfl (teq (by decide : (1 : Int32) = (1 : Int32))).2 ?_
              show Steps p.tables e below (T785.setTop (mkF m 112 #[.val (.long q1), .second, .val (.long q2), .second, .val (.long q3), .second, .val (.long q4), .second, .val (.int p5), .val (.long q1), .second, .val (.long q2), .second, .val (.ref b748), .val (.ref b755), .val (.int (1 : Int32)), .val (.int (0 : Int32)), .unset] [])) _
              refine XS.iconst X785.here hx rfl (hb hby at_112) ?_
              show Steps p.tables e below (T785.setTop (mkF m 113 #[.val (.long q1), .second, .val (.long q2), .second, .val (.long q3), .second, .val (.long q4), .second, .val (.int p5), .val (.long q1), .second, .val (.long q2), .second, .val (.ref b748), .val (.ref b755), .val (.int (1 : Int32)), .val (.int (0 : Int32)), .unset] [(.int (1 : Int32))])) _
              refine XS.goto X785.here hx rfl (pc0 := 113) (pc' := 117) rfl (hb hby at_113) (by decide) (by decide) ?_
              show Steps p.tables e below (T785.setTop (mkF m 117 #[.val (.long q1), .second, .val (.long q2), .second, .val (.long q3), .second, .val (.long q4), .second, .val (.int p5), .val (.long q1), .second, .val (.long q2), .second, .val (.ref b748), .val (.ref b755), .val (.int (1 : Int32)), .val (.int (0 : Int32)), .unset] [(.int (1 : Int32))])) _
              exact retN X785 hx (t := .boolean) hret (by simp) (hb hby at_117) hr
            ·
              show Q0 n0 _ T785.heap _
              rw [e790]
              exact ⟨rfl, N785⟩
          ·
            exact absurd (rfl : q2 = q2) hc792
          ·
            exact absurd (rfl : q1 = q1) hc795
        ·
          exact absurd (rfl : q2 = q2) hc778
        ·
          exact absurd (rfl : q1 = q1) hc781
      ·
        have pre798 : ∀ t, Steps p.tables e below (T756.setTop (mkF m 121 #[.val (.long q1), .second, .val (.long q2), .second, .val (.long q3), .second, .val (.long q4), .second, .val (.int p5), .val (.long q1), .second, .val (.long q2), .second, .val (.ref b748), .val (.ref b755), .val (.int (1 : Int32)), .val (.int (((p5.toUInt32 >>> ((2 : Int32) &&& 31).toUInt32).toInt32) &&& (3 : Int32))), .unset] [(.int (1 : Int32)), (.int (((p5.toUInt32 >>> ((2 : Int32) &&& 31).toUInt32).toInt32) &&& (3 : Int32)))])) t → Steps p.tables e below (s₁.setTop (entryFrame m #[(.long q1), (.long q2), (.long q3), (.long q4), (.int p5)] maxLocals)) t := fun t k => by
          refine pre762 _ ?_
          show Steps p.tables e below (T756.setTop (mkF m 85 #[.val (.long q1), .second, .val (.long q2), .second, .val (.long q3), .second, .val (.long q4), .second, .val (.int p5), .val (.long q1), .second, .val (.long q2), .second, .val (.ref b748), .val (.ref b755), .val (.int (1 : Int32)), .val (.int (((p5.toUInt32 >>> ((2 : Int32) &&& 31).toUInt32).toInt32) &&& (3 : Int32))), .unset] [(.int (((p5.toUInt32 >>> ((2 : Int32) &&& 31).toUInt32).toInt32) &&& (3 : Int32)))])) _
          refine XS.ifYes X756.here hx rfl (pc0 := 85) (pc' := 118) rfl (hb hby at_85) rfl ((if0 _ _).trans (feq hc763).2) (by decide) (by decide) ?_
          show Steps p.tables e below (T756.setTop (mkF m 118 #[.val (.long q1), .second, .val (.long q2), .second, .val (.long q3), .second, .val (.long q4), .second, .val (.int p5), .val (.long q1), .second, .val (.long q2), .second, .val (.ref b748), .val (.ref b755), .val (.int (1 : Int32)), .val (.int (((p5.toUInt32 >>> ((2 : Int32) &&& 31).toUInt32).toInt32) &&& (3 : Int32))), .unset] [])) _
          refine XS.iload X756.here hx rfl (hb hby at_118) rfl ?_
          show Steps p.tables e below (T756.setTop (mkF m 120 #[.val (.long q1), .second, .val (.long q2), .second, .val (.long q3), .second, .val (.long q4), .second, .val (.int p5), .val (.long q1), .second, .val (.long q2), .second, .val (.ref b748), .val (.ref b755), .val (.int (1 : Int32)), .val (.int (((p5.toUInt32 >>> ((2 : Int32) &&& 31).toUInt32).toInt32) &&& (3 : Int32))), .unset] [(.int (((p5.toUInt32 >>> ((2 : Int32) &&& 31).toUInt32).toInt32) &&& (3 : Int32)))])) _
          refine XS.iconst X756.here hx rfl (hb hby at_120) ?_
          exact k
        by_cases hc799 : (((p5.toUInt32 >>> ((2 : Int32) &&& 31).toUInt32).toInt32) &&& (3 : Int32)) = (1 : Int32)
        ·
          have pre800 : ∀ t, Steps p.tables e below (T756.setTop (mkF m 121 #[.val (.long q1), .second, .val (.long q2), .second, .val (.long q3), .second, .val (.long q4), .second, .val (.int p5), .val (.long q1), .second, .val (.long q2), .second, .val (.ref b748), .val (.ref b755), .val (.int (1 : Int32)), .val (.int (1 : Int32)), .unset] [(.int (1 : Int32)), (.int (1 : Int32))])) t → Steps p.tables e below (s₁.setTop (entryFrame m #[(.long q1), (.long q2), (.long q3), (.long q4), (.int p5)] maxLocals)) t := fun t k => pre798 t (by rw [hc799]; exact k)
          have f802 := ((f752.ext E755).keep K758)
          obtain ⟨cq801, kq801, q801a, q801b, q801c⟩ := isOf hZ rfl f802
          obtain ⟨_, _, ⟨T803, L803, c803, n803⟩, -, X803, ⟨Lc803, hQ803, l803, y803, z803⟩, st803⟩ := X756.virtualBack hx (y := (⟨"com/example/sablegrid/sablegrid/model/WriteOutcome", "equals", "(Ljava/lang/Object;)Z"⟩ : MethodName)) (z := (⟨"com/example/sablegrid/sablegrid/model/WriteOutcome", "equals", "(Ljava/lang/Object;)Z"⟩ : MethodName)) hown (mvT hZ (hw _ (List.mem_of_getElem? (i := 13) rfl))) (mvT hZ (hw _ (List.mem_of_getElem? (i := 14) rfl))) (notFace_of_selects (args := #[]) (mvT hZ (hw _ (List.mem_of_getElem? (i := 16) rfl)))) (mvT hZ (hw _ (List.mem_of_getElem? (i := 16) rfl))) (mvT hZ (hw _ (List.mem_of_getElem? (i := 15) rfl))) (by decide) (backOf (W := 0) (rm3 l Z a0 hw [] b748 T756.heap n0 O756 g_b748) hZ (hw _ (List.mem_of_getElem? (i := 17) rfl)) (hw _ (List.mem_of_getElem? (i := 2) rfl)) (by decide) (by decide)) q801a q801c (g := (mkF m 127 #[.val (.long q1), .second, .val (.long q2), .second, .val (.long q3), .second, .val (.long q4), .second, .val (.int p5), .val (.long q1), .second, .val (.long q2), .second, .val (.ref b748), .val (.ref b755), .val (.int (1 : Int32)), .val (.int (1 : Int32)), .unset] [.null, (.ref b748)])) rfl (by rw [hml]; rfl) (Steps.refl _) (argsL := [.null]) (rest := []) (lenOf pd1 rfl) rfl (by show 2 * 0 + _ ≤ _; exact Nat.le_of_eq rfl) (hb hby at_127) (fun _ _ => ⟨rfl, rfl, (by decide : 2 + 0 ≤ _), (by decide : 4 + 0 ≤ _)⟩)
          dsimp only [Pt.U, Pt.locs, Pt.cells, Pt.slots] at X803 l803 y803 z803 st803 hQ803
          subst l803 y803 z803
          have X803 : Stand p l e room_1 s m #[(.long q1), (.long q2), (.long q3), (.long q4), (.int p5)] below meth c T803 _ 2 4 := X803
          obtain ⟨rfl, Nq804, e805⟩ := hQ803
          have N803 := Fr.app N756 Nq804
          obtain ⟨fs, hr, hrun, hended, hW, hsame⟩ := X803.leave (v := some (.int (1 : Int32))) (fun h => by rw [hret] at h; cases h)
          refine ⟨_, _, pre800 _ ?_, hrun, hended, _, _, rfl, ?_, ⟨_, rfl⟩, hW, hsame.mono (by decide) (by decide)⟩
          ·
            show Steps p.tables e below (T756.setTop (mkF m 121 #[.val (.long q1), .second, .val (.long q2), .second, .val (.long q3), .second, .val (.long q4), .second, .val (.int p5), .val (.long q1), .second, .val (.long q2), .second, .val (.ref b748), .val (.ref b755), .val (.int (1 : Int32)), .val (.int (1 : Int32)), .unset] [(.int (1 : Int32)), (.int (1 : Int32))])) _
            refine XS.icmpNo X756.here hx rfl (hb hby at_121) rfl (teq (by decide : (1 : Int32) = (1 : Int32))).2 ?_
            show Steps p.tables e below (T756.setTop (mkF m 124 #[.val (.long q1), .second, .val (.long q2), .second, .val (.long q3), .second, .val (.long q4), .second, .val (.int p5), .val (.long q1), .second, .val (.long q2), .second, .val (.ref b748), .val (.ref b755), .val (.int (1 : Int32)), .val (.int (1 : Int32)), .unset] [])) _
            refine XS.aload X756.here hx rfl (hb hby at_124) rfl rfl ?_
            show Steps p.tables e below (T756.setTop (mkF m 126 #[.val (.long q1), .second, .val (.long q2), .second, .val (.long q3), .second, .val (.long q4), .second, .val (.int p5), .val (.long q1), .second, .val (.long q2), .second, .val (.ref b748), .val (.ref b755), .val (.int (1 : Int32)), .val (.int (1 : Int32)), .unset] [(.ref b748)])) _
            refine XS.aconstNull X756.here hx rfl (hb hby at_126) ?_
            show Steps p.tables e below (T756.setTop (mkF m 127 #[.val (.long q1), .second, .val (.long q2), .second, .val (.long q3), .second, .val (.long q4), .second, .val (.int p5), .val (.long q1), .second, .val (.long q2), .second, .val (.ref b748), .val (.ref b755), .val (.int (1 : Int32)), .val (.int (1 : Int32)), .unset] [.null, (.ref b748)])) _
            refine st803.trans ?_
            show Steps p.tables e below (T803.setTop (mkF m 130 #[.val (.long q1), .second, .val (.long q2), .second, .val (.long q3), .second, .val (.long q4), .second, .val (.int p5), .val (.long q1), .second, .val (.long q2), .second, .val (.ref b748), .val (.ref b755), .val (.int (1 : Int32)), .val (.int (1 : Int32)), .unset] [(.int (0 : Int32))])) _
            refine XS.ifNo X803.here hx rfl (hb hby at_130) rfl ((if0 _ _).trans (teq (by decide : (0 : Int32) = (0 : Int32))).2) ?_
            show Steps p.tables e below (T803.setTop (mkF m 133 #[.val (.long q1), .second, .val (.long q2), .second, .val (.long q3), .second, .val (.long q4), .second, .val (.int p5), .val (.long q1), .second, .val (.long q2), .second, .val (.ref b748), .val (.ref b755), .val (.int (1 : Int32)), .val (.int (1 : Int32)), .unset] [])) _
            refine XS.iconst X803.here hx rfl (hb hby at_133) ?_
            show Steps p.tables e below (T803.setTop (mkF m 134 #[.val (.long q1), .second, .val (.long q2), .second, .val (.long q3), .second, .val (.long q4), .second, .val (.int p5), .val (.long q1), .second, .val (.long q2), .second, .val (.ref b748), .val (.ref b755), .val (.int (1 : Int32)), .val (.int (1 : Int32)), .unset] [(.int (1 : Int32))])) _
            refine XS.goto X803.here hx rfl (pc0 := 134) (pc' := 138) rfl (hb hby at_134) (by decide) (by decide) ?_
            show Steps p.tables e below (T803.setTop (mkF m 138 #[.val (.long q1), .second, .val (.long q2), .second, .val (.long q3), .second, .val (.long q4), .second, .val (.int p5), .val (.long q1), .second, .val (.long q2), .second, .val (.ref b748), .val (.ref b755), .val (.int (1 : Int32)), .val (.int (1 : Int32)), .unset] [(.int (1 : Int32))])) _
            exact retN X803 hx (t := .boolean) hret (by simp) (hb hby at_138) hr
          ·
            show Q0 n0 _ T803.heap _
            rw [e805]
            exact ⟨rfl, N803⟩
        ·
          have pre806 : ∀ t, Steps p.tables e below (T756.setTop (mkF m 142 #[.val (.long q1), .second, .val (.long q2), .second, .val (.long q3), .second, .val (.long q4), .second, .val (.int p5), .val (.long q1), .second, .val (.long q2), .second, .val (.ref b748), .val (.ref b755), .val (.int (1 : Int32)), .val (.int (((p5.toUInt32 >>> ((2 : Int32) &&& 31).toUInt32).toInt32) &&& (3 : Int32))), .unset] [(.int (2 : Int32)), (.int (((p5.toUInt32 >>> ((2 : Int32) &&& 31).toUInt32).toInt32) &&& (3 : Int32)))])) t → Steps p.tables e below (s₁.setTop (entryFrame m #[(.long q1), (.long q2), (.long q3), (.long q4), (.int p5)] maxLocals)) t := fun t k => by
            refine pre798 _ ?_
            show Steps p.tables e below (T756.setTop (mkF m 121 #[.val (.long q1), .second, .val (.long q2), .second, .val (.long q3), .second, .val (.long q4), .second, .val (.int p5), .val (.long q1), .second, .val (.long q2), .second, .val (.ref b748), .val (.ref b755), .val (.int (1 : Int32)), .val (.int (((p5.toUInt32 >>> ((2 : Int32) &&& 31).toUInt32).toInt32) &&& (3 : Int32))), .unset] [(.int (1 : Int32)), (.int (((p5.toUInt32 >>> ((2 : Int32) &&& 31).toUInt32).toInt32) &&& (3 : Int32)))])) _
            refine XS.icmpYes X756.here hx rfl (pc0 := 121) (pc' := 139) rfl (hb hby at_121) rfl (feq hc799).2 (by decide) (by decide) ?_
            show Steps p.tables e below (T756.setTop (mkF m 139 #[.val (.long q1), .second, .val (.long q2), .second, .val (.long q3), .second, .val (.long q4), .second, .val (.int p5), .val (.long q1), .second, .val (.long q2), .second, .val (.ref b748), .val (.ref b755), .val (.int (1 : Int32)), .val (.int (((p5.toUInt32 >>> ((2 : Int32) &&& 31).toUInt32).toInt32) &&& (3 : Int32))), .unset] [])) _
            refine XS.iload X756.here hx rfl (hb hby at_139) rfl ?_
            show Steps p.tables e below (T756.setTop (mkF m 141 #[.val (.long q1), .second, .val (.long q2), .second, .val (.long q3), .second, .val (.long q4), .second, .val (.int p5), .val (.long q1), .second, .val (.long q2), .second, .val (.ref b748), .val (.ref b755), .val (.int (1 : Int32)), .val (.int (((p5.toUInt32 >>> ((2 : Int32) &&& 31).toUInt32).toInt32) &&& (3 : Int32))), .unset] [(.int (((p5.toUInt32 >>> ((2 : Int32) &&& 31).toUInt32).toInt32) &&& (3 : Int32)))])) _
            refine XS.iconst X756.here hx rfl (hb hby at_141) ?_
            exact k
          by_cases hc807 : (((p5.toUInt32 >>> ((2 : Int32) &&& 31).toUInt32).toInt32) &&& (3 : Int32)) = (2 : Int32)
          ·
            have pre808 : ∀ t, Steps p.tables e below (T756.setTop (mkF m 142 #[.val (.long q1), .second, .val (.long q2), .second, .val (.long q3), .second, .val (.long q4), .second, .val (.int p5), .val (.long q1), .second, .val (.long q2), .second, .val (.ref b748), .val (.ref b755), .val (.int (1 : Int32)), .val (.int (2 : Int32)), .unset] [(.int (2 : Int32)), (.int (2 : Int32))])) t → Steps p.tables e below (s₁.setTop (entryFrame m #[(.long q1), (.long q2), (.long q3), (.long q4), (.int p5)] maxLocals)) t := fun t k => pre806 t (by rw [hc807]; exact k)
            obtain ⟨_, _, ⟨T809, L809, c809, n809⟩, -, X809, ⟨Lc809, hQ809, l809, y809, z809⟩, st809⟩ := Jvm.LawKit.callS X756 hx (y := (⟨"java/lang/Long", "valueOf", "(J)Ljava/lang/Long;"⟩ : MethodName)) hown (mvT hZ (hw _ (List.mem_of_getElem? (i := 20) rfl))) (mvT hZ (hw _ (List.mem_of_getElem? (i := 21) rfl))) (mvT hZ (hw _ (List.mem_of_getElem? (i := 22) rfl))) (mvT hZ (hw _ (List.mem_of_getElem? (i := 23) rfl))) (by decide) (backOf (W := 0) (rm6 l Z a0 hw w1 cw1 G [] q1 T756.heap n0 O756 ) hZ (hw _ (List.mem_of_getElem? (i := 23) rfl)) (hw _ (List.mem_of_getElem? (i := 22) rfl)) (by decide) (by decide)) (g := (mkF m 146 #[.val (.long q1), .second, .val (.long q2), .second, .val (.long q3), .second, .val (.long q4), .second, .val (.int p5), .val (.long q1), .second, .val (.long q2), .second, .val (.ref b748), .val (.ref b755), .val (.int (1 : Int32)), .val (.int (2 : Int32)), .unset] [(.long q1)])) rfl (by rw [hml]; rfl) (argsL := [(.long q1)]) (rest := []) (lenOf pd4 rfl) rfl (by show 2 * 0 + _ ≤ _; exact Nat.le_of_eq rfl) (hb hby at_146) (fun _ _ => ⟨rfl, rfl, (by decide : 2 + 1 ≤ _), (by decide : 4 + 1 ≤ _)⟩)
            dsimp only [Pt.U, Pt.locs, Pt.cells, Pt.slots] at X809 l809 y809 z809 st809 hQ809
            subst l809 y809 z809
            have pre810 : ∀ t, Steps p.tables e below (T756.setTop (mkF m 146 #[.val (.long q1), .second, .val (.long q2), .second, .val (.long q3), .second, .val (.long q4), .second, .val (.int p5), .val (.long q1), .second, .val (.long q2), .second, .val (.ref b748), .val (.ref b755), .val (.int (1 : Int32)), .val (.int (2 : Int32)), .unset] [(.long q1)])) t → Steps p.tables e below (s₁.setTop (entryFrame m #[(.long q1), (.long q2), (.long q3), (.long q4), (.int p5)] maxLocals)) t := fun t k => by
              refine pre808 _ ?_
              show Steps p.tables e below (T756.setTop (mkF m 142 #[.val (.long q1), .second, .val (.long q2), .second, .val (.long q3), .second, .val (.long q4), .second, .val (.int p5), .val (.long q1), .second, .val (.long q2), .second, .val (.ref b748), .val (.ref b755), .val (.int (1 : Int32)), .val (.int (2 : Int32)), .unset] [(.int (2 : Int32)), (.int (2 : Int32))])) _
              refine XS.icmpNo X756.here hx rfl (hb hby at_142) rfl (teq (by decide : (2 : Int32) = (2 : Int32))).2 ?_
              show Steps p.tables e below (T756.setTop (mkF m 145 #[.val (.long q1), .second, .val (.long q2), .second, .val (.long q3), .second, .val (.long q4), .second, .val (.int p5), .val (.long q1), .second, .val (.long q2), .second, .val (.ref b748), .val (.ref b755), .val (.int (1 : Int32)), .val (.int (2 : Int32)), .unset] [])) _
              refine XS.lloadN X756.here hx rfl (hb hby at_145) rfl ?_
              exact k
            have X809 : Stand p l e room_1 s m #[(.long q1), (.long q2), (.long q3), (.long q4), (.int p5)] below meth c T809 _ 3 5 := X809
            rcases hQ809 with ⟨b811, hc812, rfl, Nq813, K814, sz_b811, f815, f816⟩ | ⟨b817, hc818, hc819, rfl, Nq820, K821, sz_b817, f822, f823⟩ | ⟨v824, hc825, hc826, rfl, Nq827, e828, f829⟩
            ·
              have N809 := Fr.app N756 Nq813
              have g_b811 : n0 ≤ b811 := Nat.le_trans (own_oz O756) sz_b811
              have M809 : h0.size ≤ T809.heap.size := Nat.le_trans M756 K814.1
              have O809 := Old.keep O756 K814 all0
              have f831 := (((f752.ext E755).keep K758).keep K814)
              obtain ⟨cq830, kq830, q830a, q830b, q830c⟩ := isOf hZ rfl f831
              obtain ⟨_, _, ⟨T832, L832, c832, n832⟩, -, X832, ⟨Lc832, hQ832, l832, y832, z832⟩, st832⟩ := X809.virtualBack hx (y := (⟨"com/example/sablegrid/sablegrid/model/WriteOutcome", "equals", "(Ljava/lang/Object;)Z"⟩ : MethodName)) (z := (⟨"com/example/sablegrid/sablegrid/model/WriteOutcome", "equals", "(Ljava/lang/Object;)Z"⟩ : MethodName)) hown (mvT hZ (hw _ (List.mem_of_getElem? (i := 13) rfl))) (mvT hZ (hw _ (List.mem_of_getElem? (i := 14) rfl))) (notFace_of_selects (args := #[]) (mvT hZ (hw _ (List.mem_of_getElem? (i := 16) rfl)))) (mvT hZ (hw _ (List.mem_of_getElem? (i := 16) rfl))) (mvT hZ (hw _ (List.mem_of_getElem? (i := 15) rfl))) (by decide) (backOf (W := 0) (rm7 l Z a0 hw [] b748 b811 T809.heap n0 O809 g_b748 g_b811 f815) hZ (hw _ (List.mem_of_getElem? (i := 17) rfl)) (hw _ (List.mem_of_getElem? (i := 2) rfl)) (by decide) (by decide)) q830a q830c (g := (mkF m 155 #[.val (.long q1), .second, .val (.long q2), .second, .val (.long q3), .second, .val (.long q4), .second, .val (.int p5), .val (.long q1), .second, .val (.long q2), .second, .val (.ref b748), .val (.ref b755), .val (.int (1 : Int32)), .val (.int (2 : Int32)), .val (.ref b811)] [(.ref b811), (.ref b748)])) rfl (by rw [hml]; rfl) (Steps.refl _) (argsL := [(.ref b811)]) (rest := []) (lenOf pd1 rfl) rfl (by show 2 * 0 + _ ≤ _; exact Nat.le_of_eq rfl) (hb hby at_155) (fun _ _ => ⟨rfl, rfl, (by decide : 3 + 0 ≤ _), (by decide : 5 + 0 ≤ _)⟩)
              dsimp only [Pt.U, Pt.locs, Pt.cells, Pt.slots] at X832 l832 y832 z832 st832 hQ832
              subst l832 y832 z832
              have X832 : Stand p l e room_1 s m #[(.long q1), (.long q2), (.long q3), (.long q4), (.int p5)] below meth c T832 _ 3 5 := X832
              obtain ⟨rfl, Nq833, e834⟩ := hQ832
              have N832 := Fr.app N809 Nq833
              obtain ⟨fs, hr, hrun, hended, hW, hsame⟩ := X832.leave (v := some (.int (1 : Int32))) (fun h => by rw [hret] at h; cases h)
              refine ⟨_, _, pre810 _ ?_, hrun, hended, _, _, rfl, ?_, ⟨_, rfl⟩, hW, hsame.mono (by decide) (by decide)⟩
              ·
                show Steps p.tables e below (T756.setTop (mkF m 146 #[.val (.long q1), .second, .val (.long q2), .second, .val (.long q3), .second, .val (.long q4), .second, .val (.int p5), .val (.long q1), .second, .val (.long q2), .second, .val (.ref b748), .val (.ref b755), .val (.int (1 : Int32)), .val (.int (2 : Int32)), .unset] [(.long q1)])) _
                refine st809 _ ?_
                show Steps p.tables e below (T809.setTop (mkF m 149 #[.val (.long q1), .second, .val (.long q2), .second, .val (.long q3), .second, .val (.long q4), .second, .val (.int p5), .val (.long q1), .second, .val (.long q2), .second, .val (.ref b748), .val (.ref b755), .val (.int (1 : Int32)), .val (.int (2 : Int32)), .unset] [(.ref b811)])) _
                refine XS.astore X809.here hx rfl (hb hby at_149) rfl rfl (l' := #[.val (.long q1), .second, .val (.long q2), .second, .val (.long q3), .second, .val (.long q4), .second, .val (.int p5), .val (.long q1), .second, .val (.long q2), .second, .val (.ref b748), .val (.ref b755), .val (.int (1 : Int32)), .val (.int (2 : Int32)), .val (.ref b811)]) rfl ?_
                show Steps p.tables e below (T809.setTop (mkF m 151 #[.val (.long q1), .second, .val (.long q2), .second, .val (.long q3), .second, .val (.long q4), .second, .val (.int p5), .val (.long q1), .second, .val (.long q2), .second, .val (.ref b748), .val (.ref b755), .val (.int (1 : Int32)), .val (.int (2 : Int32)), .val (.ref b811)] [])) _
                refine XS.aload X809.here hx rfl (hb hby at_151) rfl rfl ?_
                show Steps p.tables e below (T809.setTop (mkF m 153 #[.val (.long q1), .second, .val (.long q2), .second, .val (.long q3), .second, .val (.long q4), .second, .val (.int p5), .val (.long q1), .second, .val (.long q2), .second, .val (.ref b748), .val (.ref b755), .val (.int (1 : Int32)), .val (.int (2 : Int32)), .val (.ref b811)] [(.ref b748)])) _
                refine XS.aload X809.here hx rfl (hb hby at_153) rfl rfl ?_
                show Steps p.tables e below (T809.setTop (mkF m 155 #[.val (.long q1), .second, .val (.long q2), .second, .val (.long q3), .second, .val (.long q4), .second, .val (.int p5), .val (.long q1), .second, .val (.long q2), .second, .val (.ref b748), .val (.ref b755), .val (.int (1 : Int32)), .val (.int (2 : Int32)), .val (.ref b811)] [(.ref b811), (.ref b748)])) _
                refine st832.trans ?_
                show Steps p.tables e below (T832.setTop (mkF m 158 #[.val (.long q1), .second, .val (.long q2), .second, .val (.long q3), .second, .val (.long q4), .second, .val (.int p5), .val (.long q1), .second, .val (.long q2), .second, .val (.ref b748), .val (.ref b755), .val (.int (1 : Int32)), .val (.int (2 : Int32)), .val (.ref b811)] [(.int (0 : Int32))])) _
                refine XS.ifNo X832.here hx rfl (hb hby at_158) rfl ((if0 _ _).trans (teq (by decide : (0 : Int32) = (0 : Int32))).2) ?_
                show Steps p.tables e below (T832.setTop (mkF m 161 #[.val (.long q1), .second, .val (.long q2), .second, .val (.long q3), .second, .val (.long q4), .second, .val (.int p5), .val (.long q1), .second, .val (.long q2), .second, .val (.ref b748), .val (.ref b755), .val (.int (1 : Int32)), .val (.int (2 : Int32)), .val (.ref b811)] [])) _
                refine XS.iconst X832.here hx rfl (hb hby at_161) ?_
                show Steps p.tables e below (T832.setTop (mkF m 162 #[.val (.long q1), .second, .val (.long q2), .second, .val (.long q3), .second, .val (.long q4), .second, .val (.int p5), .val (.long q1), .second, .val (.long q2), .second, .val (.ref b748), .val (.ref b755), .val (.int (1 : Int32)), .val (.int (2 : Int32)), .val (.ref b811)] [(.int (1 : Int32))])) _
                refine XS.goto X832.here hx rfl (pc0 := 162) (pc' := 166) rfl (hb hby at_162) (by decide) (by decide) ?_
                show Steps p.tables e below (T832.setTop (mkF m 166 #[.val (.long q1), .second, .val (.long q2), .second, .val (.long q3), .second, .val (.long q4), .second, .val (.int p5), .val (.long q1), .second, .val (.long q2), .second, .val (.ref b748), .val (.ref b755), .val (.int (1 : Int32)), .val (.int (2 : Int32)), .val (.ref b811)] [(.int (1 : Int32))])) _
                exact retN X832 hx (t := .boolean) hret (by simp) (hb hby at_166) hr
              ·
                show Q0 n0 _ T832.heap _
                rw [e834]
                exact ⟨rfl, N832⟩
            ·
              have N809 := Fr.app N756 Nq820
              have g_b817 : n0 ≤ b817 := Nat.le_trans (own_oz O756) sz_b817
              have M809 : h0.size ≤ T809.heap.size := Nat.le_trans M756 K821.1
              have O809 := Old.keep O756 K821 all0
              have f836 := (((f752.ext E755).keep K758).keep K821)
              obtain ⟨cq835, kq835, q835a, q835b, q835c⟩ := isOf hZ rfl f836
              obtain ⟨_, _, ⟨T837, L837, c837, n837⟩, -, X837, ⟨Lc837, hQ837, l837, y837, z837⟩, st837⟩ := X809.virtualBack hx (y := (⟨"com/example/sablegrid/sablegrid/model/WriteOutcome", "equals", "(Ljava/lang/Object;)Z"⟩ : MethodName)) (z := (⟨"com/example/sablegrid/sablegrid/model/WriteOutcome", "equals", "(Ljava/lang/Object;)Z"⟩ : MethodName)) hown (mvT hZ (hw _ (List.mem_of_getElem? (i := 13) rfl))) (mvT hZ (hw _ (List.mem_of_getElem? (i := 14) rfl))) (notFace_of_selects (args := #[]) (mvT hZ (hw _ (List.mem_of_getElem? (i := 16) rfl)))) (mvT hZ (hw _ (List.mem_of_getElem? (i := 16) rfl))) (mvT hZ (hw _ (List.mem_of_getElem? (i := 15) rfl))) (by decide) (backOf (W := 0) (rm7 l Z a0 hw [] b748 b817 T809.heap n0 O809 g_b748 g_b817 f822) hZ (hw _ (List.mem_of_getElem? (i := 17) rfl)) (hw _ (List.mem_of_getElem? (i := 2) rfl)) (by decide) (by decide)) q835a q835c (g := (mkF m 155 #[.val (.long q1), .second, .val (.long q2), .second, .val (.long q3), .second, .val (.long q4), .second, .val (.int p5), .val (.long q1), .second, .val (.long q2), .second, .val (.ref b748), .val (.ref b755), .val (.int (1 : Int32)), .val (.int (2 : Int32)), .val (.ref b817)] [(.ref b817), (.ref b748)])) rfl (by rw [hml]; rfl) (Steps.refl _) (argsL := [(.ref b817)]) (rest := []) (lenOf pd1 rfl) rfl (by show 2 * 0 + _ ≤ _; exact Nat.le_of_eq rfl) (hb hby at_155) (fun _ _ => ⟨rfl, rfl, (by decide : 3 + 0 ≤ _), (by decide : 5 + 0 ≤ _)⟩)
              dsimp only [Pt.U, Pt.locs, Pt.cells, Pt.slots] at X837 l837 y837 z837 st837 hQ837
              subst l837 y837 z837
              have X837 : Stand p l e room_1 s m #[(.long q1), (.long q2), (.long q3), (.long q4), (.int p5)] below meth c T837 _ 3 5 := X837
              obtain ⟨rfl, Nq838, e839⟩ := hQ837
              have N837 := Fr.app N809 Nq838
              obtain ⟨fs, hr, hrun, hended, hW, hsame⟩ := X837.leave (v := some (.int (1 : Int32))) (fun h => by rw [hret] at h; cases h)
              refine ⟨_, _, pre810 _ ?_, hrun, hended, _, _, rfl, ?_, ⟨_, rfl⟩, hW, hsame.mono (by decide) (by decide)⟩
              ·
                show Steps p.tables e below (T756.setTop (mkF m 146 #[.val (.long q1), .second, .val (.long q2), .second, .val (.long q3), .second, .val (.long q4), .second, .val (.int p5), .val (.long q1), .second, .val (.long q2), .second, .val (.ref b748), .val (.ref b755), .val (.int (1 : Int32)), .val (.int (2 : Int32)), .unset] [(.long q1)])) _
                refine st809 _ ?_
                show Steps p.tables e below (T809.setTop (mkF m 149 #[.val (.long q1), .second, .val (.long q2), .second, .val (.long q3), .second, .val (.long q4), .second, .val (.int p5), .val (.long q1), .second, .val (.long q2), .second, .val (.ref b748), .val (.ref b755), .val (.int (1 : Int32)), .val (.int (2 : Int32)), .unset] [(.ref b817)])) _
                refine XS.astore X809.here hx rfl (hb hby at_149) rfl rfl (l' := #[.val (.long q1), .second, .val (.long q2), .second, .val (.long q3), .second, .val (.long q4), .second, .val (.int p5), .val (.long q1), .second, .val (.long q2), .second, .val (.ref b748), .val (.ref b755), .val (.int (1 : Int32)), .val (.int (2 : Int32)), .val (.ref b817)]) rfl ?_
                show Steps p.tables e below (T809.setTop (mkF m 151 #[.val (.long q1), .second, .val (.long q2), .second, .val (.long q3), .second, .val (.long q4), .second, .val (.int p5), .val (.long q1), .second, .val (.long q2), .second, .val (.ref b748), .val (.ref b755), .val (.int (1 : Int32)), .val (.int (2 : Int32)), .val (.ref b817)] [])) _
                refine XS.aload X809.here hx rfl (hb hby at_151) rfl rfl ?_
                show Steps p.tables e below (T809.setTop (mkF m 153 #[.val (.long q1), .second, .val (.long q2), .second, .val (.long q3), .second, .val (.long q4), .second, .val (.int p5), .val (.long q1), .second, .val (.long q2), .second, .val (.ref b748), .val (.ref b755), .val (.int (1 : Int32)), .val (.int (2 : Int32)), .val (.ref b817)] [(.ref b748)])) _
                refine XS.aload X809.here hx rfl (hb hby at_153) rfl rfl ?_
                show Steps p.tables e below (T809.setTop (mkF m 155 #[.val (.long q1), .second, .val (.long q2), .second, .val (.long q3), .second, .val (.long q4), .second, .val (.int p5), .val (.long q1), .second, .val (.long q2), .second, .val (.ref b748), .val (.ref b755), .val (.int (1 : Int32)), .val (.int (2 : Int32)), .val (.ref b817)] [(.ref b817), (.ref b748)])) _
                refine st837.trans ?_
                show Steps p.tables e below (T837.setTop (mkF m 158 #[.val (.long q1), .second, .val (.long q2), .second, .val (.long q3), .second, .val (.long q4), .second, .val (.int p5), .val (.long q1), .second, .val (.long q2), .second, .val (.ref b748), .val (.ref b755), .val (.int (1 : Int32)), .val (.int (2 : Int32)), .val (.ref b817)] [(.int (0 : Int32))])) _
                refine XS.ifNo X837.here hx rfl (hb hby at_158) rfl ((if0 _ _).trans (teq (by decide : (0 : Int32) = (0 : Int32))).2) ?_
                show Steps p.tables e below (T837.setTop (mkF m 161 #[.val (.long q1), .second, .val (.long q2), .second, .val (.long q3), .second, .val (.long q4), .second, .val (.int p5), .val (.long q1), .second, .val (.long q2), .second, .val (.ref b748), .val (.ref b755), .val (.int (1 : Int32)), .val (.int (2 : Int32)), .val (.ref b817)] [])) _
                refine XS.iconst X837.here hx rfl (hb hby at_161) ?_
                show Steps p.tables e below (T837.setTop (mkF m 162 #[.val (.long q1), .second, .val (.long q2), .second, .val (.long q3), .second, .val (.long q4), .second, .val (.int p5), .val (.long q1), .second, .val (.long q2), .second, .val (.ref b748), .val (.ref b755), .val (.int (1 : Int32)), .val (.int (2 : Int32)), .val (.ref b817)] [(.int (1 : Int32))])) _
                refine XS.goto X837.here hx rfl (pc0 := 162) (pc' := 166) rfl (hb hby at_162) (by decide) (by decide) ?_
                show Steps p.tables e below (T837.setTop (mkF m 166 #[.val (.long q1), .second, .val (.long q2), .second, .val (.long q3), .second, .val (.long q4), .second, .val (.int p5), .val (.long q1), .second, .val (.long q2), .second, .val (.ref b748), .val (.ref b755), .val (.int (1 : Int32)), .val (.int (2 : Int32)), .val (.ref b817)] [(.int (1 : Int32))])) _
                exact retN X837 hx (t := .boolean) hret (by simp) (hb hby at_166) hr
              ·
                show Q0 n0 _ T837.heap _
                rw [e839]
                exact ⟨rfl, N837⟩
            ·
              have N809 := Fr.app N756 Nq827
              have f841 := ((f752.ext E755).keep K758)
              obtain ⟨cq840, kq840, q840a, q840b, q840c⟩ := isOf hZ e828 f841
              obtain ⟨_, _, ⟨T842, L842, c842, n842⟩, -, X842, ⟨Lc842, hQ842, l842, y842, z842⟩, st842⟩ := X809.virtualBack hx (y := (⟨"com/example/sablegrid/sablegrid/model/WriteOutcome", "equals", "(Ljava/lang/Object;)Z"⟩ : MethodName)) (z := (⟨"com/example/sablegrid/sablegrid/model/WriteOutcome", "equals", "(Ljava/lang/Object;)Z"⟩ : MethodName)) hown (mvT hZ (hw _ (List.mem_of_getElem? (i := 13) rfl))) (mvT hZ (hw _ (List.mem_of_getElem? (i := 14) rfl))) (notFace_of_selects (args := #[]) (mvT hZ (hw _ (List.mem_of_getElem? (i := 16) rfl)))) (mvT hZ (hw _ (List.mem_of_getElem? (i := 16) rfl))) (mvT hZ (hw _ (List.mem_of_getElem? (i := 15) rfl))) (by decide) (backOf (W := 0) (rm8 l Z a0 hw [] b748 v824 T756.heap n0 O756 g_b748 f829) hZ (hw _ (List.mem_of_getElem? (i := 17) rfl)) (hw _ (List.mem_of_getElem? (i := 2) rfl)) (by decide) (by decide)) q840a q840c (g := (mkF m 155 #[.val (.long q1), .second, .val (.long q2), .second, .val (.long q3), .second, .val (.long q4), .second, .val (.int p5), .val (.long q1), .second, .val (.long q2), .second, .val (.ref b748), .val (.ref b755), .val (.int (1 : Int32)), .val (.int (2 : Int32)), .val (.ref v824)] [(.ref v824), (.ref b748)])) rfl (by rw [hml]; rfl) (Steps.refl _) (argsL := [(.ref v824)]) (rest := []) (lenOf pd1 rfl) rfl (by show 2 * 0 + _ ≤ _; exact Nat.le_of_eq rfl) (hb hby at_155) (fun _ _ => ⟨rfl, e828, (by decide : 3 + 0 ≤ _), (by decide : 5 + 0 ≤ _)⟩)
              dsimp only [Pt.U, Pt.locs, Pt.cells, Pt.slots] at X842 l842 y842 z842 st842 hQ842
              subst l842 y842 z842
              have X842 : Stand p l e room_1 s m #[(.long q1), (.long q2), (.long q3), (.long q4), (.int p5)] below meth c T842 _ 3 5 := X842
              obtain ⟨rfl, Nq843, e844⟩ := hQ842
              have N842 := Fr.app N809 Nq843
              obtain ⟨fs, hr, hrun, hended, hW, hsame⟩ := X842.leave (v := some (.int (1 : Int32))) (fun h => by rw [hret] at h; cases h)
              refine ⟨_, _, pre810 _ ?_, hrun, hended, _, _, rfl, ?_, ⟨_, rfl⟩, hW, hsame.mono (by decide) (by decide)⟩
              ·
                show Steps p.tables e below (T756.setTop (mkF m 146 #[.val (.long q1), .second, .val (.long q2), .second, .val (.long q3), .second, .val (.long q4), .second, .val (.int p5), .val (.long q1), .second, .val (.long q2), .second, .val (.ref b748), .val (.ref b755), .val (.int (1 : Int32)), .val (.int (2 : Int32)), .unset] [(.long q1)])) _
                refine st809 _ ?_
                show Steps p.tables e below (T809.setTop (mkF m 149 #[.val (.long q1), .second, .val (.long q2), .second, .val (.long q3), .second, .val (.long q4), .second, .val (.int p5), .val (.long q1), .second, .val (.long q2), .second, .val (.ref b748), .val (.ref b755), .val (.int (1 : Int32)), .val (.int (2 : Int32)), .unset] [(.ref v824)])) _
                refine XS.astore X809.here hx rfl (hb hby at_149) rfl rfl (l' := #[.val (.long q1), .second, .val (.long q2), .second, .val (.long q3), .second, .val (.long q4), .second, .val (.int p5), .val (.long q1), .second, .val (.long q2), .second, .val (.ref b748), .val (.ref b755), .val (.int (1 : Int32)), .val (.int (2 : Int32)), .val (.ref v824)]) rfl ?_
                show Steps p.tables e below (T809.setTop (mkF m 151 #[.val (.long q1), .second, .val (.long q2), .second, .val (.long q3), .second, .val (.long q4), .second, .val (.int p5), .val (.long q1), .second, .val (.long q2), .second, .val (.ref b748), .val (.ref b755), .val (.int (1 : Int32)), .val (.int (2 : Int32)), .val (.ref v824)] [])) _
                refine XS.aload X809.here hx rfl (hb hby at_151) rfl rfl ?_
                show Steps p.tables e below (T809.setTop (mkF m 153 #[.val (.long q1), .second, .val (.long q2), .second, .val (.long q3), .second, .val (.long q4), .second, .val (.int p5), .val (.long q1), .second, .val (.long q2), .second, .val (.ref b748), .val (.ref b755), .val (.int (1 : Int32)), .val (.int (2 : Int32)), .val (.ref v824)] [(.ref b748)])) _
                refine XS.aload X809.here hx rfl (hb hby at_153) rfl rfl ?_
                show Steps p.tables e below (T809.setTop (mkF m 155 #[.val (.long q1), .second, .val (.long q2), .second, .val (.long q3), .second, .val (.long q4), .second, .val (.int p5), .val (.long q1), .second, .val (.long q2), .second, .val (.ref b748), .val (.ref b755), .val (.int (1 : Int32)), .val (.int (2 : Int32)), .val (.ref v824)] [(.ref v824), (.ref b748)])) _
                refine st842.trans ?_
                show Steps p.tables e below (T842.setTop (mkF m 158 #[.val (.long q1), .second, .val (.long q2), .second, .val (.long q3), .second, .val (.long q4), .second, .val (.int p5), .val (.long q1), .second, .val (.long q2), .second, .val (.ref b748), .val (.ref b755), .val (.int (1 : Int32)), .val (.int (2 : Int32)), .val (.ref v824)] [(.int (0 : Int32))])) _
                refine XS.ifNo X842.here hx rfl (hb hby at_158) rfl ((if0 _ _).trans (teq (by decide : (0 : Int32) = (0 : Int32))).2) ?_
                show Steps p.tables e below (T842.setTop (mkF m 161 #[.val (.long q1), .second, .val (.long q2), .second, .val (.long q3), .second, .val (.long q4), .second, .val (.int p5), .val (.long q1), .second, .val (.long q2), .second, .val (.ref b748), .val (.ref b755), .val (.int (1 : Int32)), .val (.int (2 : Int32)), .val (.ref v824)] [])) _
                refine XS.iconst X842.here hx rfl (hb hby at_161) ?_
                show Steps p.tables e below (T842.setTop (mkF m 162 #[.val (.long q1), .second, .val (.long q2), .second, .val (.long q3), .second, .val (.long q4), .second, .val (.int p5), .val (.long q1), .second, .val (.long q2), .second, .val (.ref b748), .val (.ref b755), .val (.int (1 : Int32)), .val (.int (2 : Int32)), .val (.ref v824)] [(.int (1 : Int32))])) _
                refine XS.goto X842.here hx rfl (pc0 := 162) (pc' := 166) rfl (hb hby at_162) (by decide) (by decide) ?_
                show Steps p.tables e below (T842.setTop (mkF m 166 #[.val (.long q1), .second, .val (.long q2), .second, .val (.long q3), .second, .val (.long q4), .second, .val (.int p5), .val (.long q1), .second, .val (.long q2), .second, .val (.ref b748), .val (.ref b755), .val (.int (1 : Int32)), .val (.int (2 : Int32)), .val (.ref v824)] [(.int (1 : Int32))])) _
                exact retN X842 hx (t := .boolean) hret (by simp) (hb hby at_166) hr
              ·
                show Q0 n0 _ T842.heap _
                rw [e844]
                exact ⟨rfl, N842⟩
          ·
            have hq845 : (((p5.toUInt32 >>> ((2 : Int32) &&& 31).toUInt32).toInt32) &&& (3 : Int32)) = (3 : Int32) := (own_geq (n := 3) (k := (3 : Int32)) (by decide) (by have q0 := own_and (x := ((p5.toUInt32 >>> ((2 : Int32) &&& 31).toUInt32).toInt32)) (k := (3 : Int32)) (n := 3) (by decide) (by decide); have q1 := own_neq (n := 0) (k := (0 : Int32)) (by decide) hc763; have q2 := own_neq (n := 1) (k := (1 : Int32)) (by decide) hc799; have q3 := own_neq (n := 2) (k := (2 : Int32)) (by decide) hc807; omega))
            have pre846 : ∀ t, Steps p.tables e below (T756.setTop (mkF m 142 #[.val (.long q1), .second, .val (.long q2), .second, .val (.long q3), .second, .val (.long q4), .second, .val (.int p5), .val (.long q1), .second, .val (.long q2), .second, .val (.ref b748), .val (.ref b755), .val (.int (1 : Int32)), .val (.int (3 : Int32)), .unset] [(.int (2 : Int32)), (.int (3 : Int32))])) t → Steps p.tables e below (s₁.setTop (entryFrame m #[(.long q1), (.long q2), (.long q3), (.long q4), (.int p5)] maxLocals)) t := fun t k => pre806 t (by rw [hq845]; exact k)
            have f847 := ((f752.ext E755).keep K758)
            have lt848 : b748 < T749.heap.size := (Nat.lt_of_lt_of_le A748.lt K751.1)
            have ne849 : b748 ≠ b755 := Nat.ne_of_lt (Nat.lt_of_lt_of_le lt848 sz_b755)
            have f850 := ((f753.ext E755).keep K758 (ninS ne849 nin0))
            have f851 := ((f754.ext E755).keep K758 (ninS ne849 nin0))
            obtain ⟨cq852, kq852, q852a, q852b, q852c⟩ := isOf hZ rfl f847
            obtain ⟨_, _, ⟨T853, L853, c853, n853⟩, -, X853, ⟨Lc853, hQ853, l853, y853, z853⟩, st853⟩ := X756.virtualBack hx (y := (⟨"com/example/sablegrid/sablegrid/model/WriteOutcome", "equals", "(Ljava/lang/Object;)Z"⟩ : MethodName)) (z := (⟨"com/example/sablegrid/sablegrid/model/WriteOutcome", "equals", "(Ljava/lang/Object;)Z"⟩ : MethodName)) hown (mvT hZ (hw _ (List.mem_of_getElem? (i := 13) rfl))) (mvT hZ (hw _ (List.mem_of_getElem? (i := 14) rfl))) (notFace_of_selects (args := #[]) (mvT hZ (hw _ (List.mem_of_getElem? (i := 16) rfl)))) (mvT hZ (hw _ (List.mem_of_getElem? (i := 16) rfl))) (mvT hZ (hw _ (List.mem_of_getElem? (i := 15) rfl))) (by decide) (backOf (W := 0) (rm9 l Z a0 hw [] b748 q1 q2 T756.heap n0 O756 g_b748 f847 f850 f851) hZ (hw _ (List.mem_of_getElem? (i := 17) rfl)) (hw _ (List.mem_of_getElem? (i := 2) rfl)) (by decide) (by decide)) q852a q852c (g := (mkF m 171 #[.val (.long q1), .second, .val (.long q2), .second, .val (.long q3), .second, .val (.long q4), .second, .val (.int p5), .val (.long q1), .second, .val (.long q2), .second, .val (.ref b748), .val (.ref b755), .val (.int (1 : Int32)), .val (.int (3 : Int32)), .unset] [(.ref b748), (.ref b748)])) rfl (by rw [hml]; rfl) (Steps.refl _) (argsL := [(.ref b748)]) (rest := []) (lenOf pd1 rfl) rfl (by show 2 * 0 + _ ≤ _; exact Nat.le_of_eq rfl) (hb hby at_171) (fun _ _ => ⟨rfl, rfl, (by decide : 2 + 0 ≤ _), (by decide : 4 + 0 ≤ _)⟩)
            dsimp only [Pt.U, Pt.locs, Pt.cells, Pt.slots] at X853 l853 y853 z853 st853 hQ853
            subst l853 y853 z853
            have X853 : Stand p l e room_1 s m #[(.long q1), (.long q2), (.long q3), (.long q4), (.int p5)] below meth c T853 _ 2 4 := X853
            obtain ⟨rfl, Nq854, e855⟩ := hQ853
            have N853 := Fr.app N756 Nq854
            obtain ⟨cq856, kq856, q856a, q856b, q856c⟩ := isOf hZ e855 f759
            obtain ⟨_, _, ⟨T857, L857, c857, n857⟩, -, X857, ⟨Lc857, hQ857, l857, y857, z857⟩, st857⟩ := X853.virtualBack hx (y := (⟨"com/example/sablegrid/sablegrid/model/WriteOutcome", "equals", "(Ljava/lang/Object;)Z"⟩ : MethodName)) (z := (⟨"com/example/sablegrid/sablegrid/model/WriteOutcome", "equals", "(Ljava/lang/Object;)Z"⟩ : MethodName)) hown (mvT hZ (hw _ (List.mem_of_getElem? (i := 13) rfl))) (mvT hZ (hw _ (List.mem_of_getElem? (i := 14) rfl))) (notFace_of_selects (args := #[]) (mvT hZ (hw _ (List.mem_of_getElem? (i := 16) rfl)))) (mvT hZ (hw _ (List.mem_of_getElem? (i := 16) rfl))) (mvT hZ (hw _ (List.mem_of_getElem? (i := 15) rfl))) (by decide) (backOf (W := 0) (rm9 l Z a0 hw [] b755 q1 q2 T756.heap n0 O756 g_b755 f759 f760 f761) hZ (hw _ (List.mem_of_getElem? (i := 17) rfl)) (hw _ (List.mem_of_getElem? (i := 2) rfl)) (by decide) (by decide)) q856a q856c (g := (mkF m 181 #[.val (.long q1), .second, .val (.long q2), .second, .val (.long q3), .second, .val (.long q4), .second, .val (.int p5), .val (.long q1), .second, .val (.long q2), .second, .val (.ref b748), .val (.ref b755), .val (.int (1 : Int32)), .val (.int (3 : Int32)), .unset] [(.ref b755), (.ref b755)])) rfl (by rw [hml]; rfl) (Steps.refl _) (argsL := [(.ref b755)]) (rest := []) (lenOf pd1 rfl) rfl (by show 2 * 0 + _ ≤ _; exact Nat.le_of_eq rfl) (hb hby at_181) (fun _ _ => ⟨rfl, e855, (by decide : 2 + 0 ≤ _), (by decide : 4 + 0 ≤ _)⟩)
            dsimp only [Pt.U, Pt.locs, Pt.cells, Pt.slots] at X857 l857 y857 z857 st857 hQ857
            subst l857 y857 z857
            have X857 : Stand p l e room_1 s m #[(.long q1), (.long q2), (.long q3), (.long q4), (.int p5)] below meth c T857 _ 2 4 := X857
            obtain ⟨rfl, Nq858, e859⟩ := hQ857
            have N857 := Fr.app N853 Nq858
            obtain ⟨fs, hr, hrun, hended, hW, hsame⟩ := X857.leave (v := some (.int (1 : Int32))) (fun h => by rw [hret] at h; cases h)
            refine ⟨_, _, pre846 _ ?_, hrun, hended, _, _, rfl, ?_, ⟨_, rfl⟩, hW, hsame.mono (by decide) (by decide)⟩
            ·
              show Steps p.tables e below (T756.setTop (mkF m 142 #[.val (.long q1), .second, .val (.long q2), .second, .val (.long q3), .second, .val (.long q4), .second, .val (.int p5), .val (.long q1), .second, .val (.long q2), .second, .val (.ref b748), .val (.ref b755), .val (.int (1 : Int32)), .val (.int (3 : Int32)), .unset] [(.int (2 : Int32)), (.int (3 : Int32))])) _
              refine XS.icmpYes X756.here hx rfl (pc0 := 142) (pc' := 167) rfl (hb hby at_142) rfl (feq (by decide : ¬ ((3 : Int32) = (2 : Int32)))).2 (by decide) (by decide) ?_
              show Steps p.tables e below (T756.setTop (mkF m 167 #[.val (.long q1), .second, .val (.long q2), .second, .val (.long q3), .second, .val (.long q4), .second, .val (.int p5), .val (.long q1), .second, .val (.long q2), .second, .val (.ref b748), .val (.ref b755), .val (.int (1 : Int32)), .val (.int (3 : Int32)), .unset] [])) _
              refine XS.aload X756.here hx rfl (hb hby at_167) rfl rfl ?_
              show Steps p.tables e below (T756.setTop (mkF m 169 #[.val (.long q1), .second, .val (.long q2), .second, .val (.long q3), .second, .val (.long q4), .second, .val (.int p5), .val (.long q1), .second, .val (.long q2), .second, .val (.ref b748), .val (.ref b755), .val (.int (1 : Int32)), .val (.int (3 : Int32)), .unset] [(.ref b748)])) _
              refine XS.aload X756.here hx rfl (hb hby at_169) rfl rfl ?_
              show Steps p.tables e below (T756.setTop (mkF m 171 #[.val (.long q1), .second, .val (.long q2), .second, .val (.long q3), .second, .val (.long q4), .second, .val (.int p5), .val (.long q1), .second, .val (.long q2), .second, .val (.ref b748), .val (.ref b755), .val (.int (1 : Int32)), .val (.int (3 : Int32)), .unset] [(.ref b748), (.ref b748)])) _
              refine st853.trans ?_
              show Steps p.tables e below (T853.setTop (mkF m 174 #[.val (.long q1), .second, .val (.long q2), .second, .val (.long q3), .second, .val (.long q4), .second, .val (.int p5), .val (.long q1), .second, .val (.long q2), .second, .val (.ref b748), .val (.ref b755), .val (.int (1 : Int32)), .val (.int (3 : Int32)), .unset] [(.int (1 : Int32))])) _
              refine XS.ifNo X853.here hx rfl (hb hby at_174) rfl ((if0 _ _).trans (feq (by decide : ¬ ((1 : Int32) = (0 : Int32)))).1) ?_
              show Steps p.tables e below (T853.setTop (mkF m 177 #[.val (.long q1), .second, .val (.long q2), .second, .val (.long q3), .second, .val (.long q4), .second, .val (.int p5), .val (.long q1), .second, .val (.long q2), .second, .val (.ref b748), .val (.ref b755), .val (.int (1 : Int32)), .val (.int (3 : Int32)), .unset] [])) _
              refine XS.aload X853.here hx rfl (hb hby at_177) rfl rfl ?_
              show Steps p.tables e below (T853.setTop (mkF m 179 #[.val (.long q1), .second, .val (.long q2), .second, .val (.long q3), .second, .val (.long q4), .second, .val (.int p5), .val (.long q1), .second, .val (.long q2), .second, .val (.ref b748), .val (.ref b755), .val (.int (1 : Int32)), .val (.int (3 : Int32)), .unset] [(.ref b755)])) _
              refine XS.aload X853.here hx rfl (hb hby at_179) rfl rfl ?_
              show Steps p.tables e below (T853.setTop (mkF m 181 #[.val (.long q1), .second, .val (.long q2), .second, .val (.long q3), .second, .val (.long q4), .second, .val (.int p5), .val (.long q1), .second, .val (.long q2), .second, .val (.ref b748), .val (.ref b755), .val (.int (1 : Int32)), .val (.int (3 : Int32)), .unset] [(.ref b755), (.ref b755)])) _
              refine st857.trans ?_
              show Steps p.tables e below (T857.setTop (mkF m 184 #[.val (.long q1), .second, .val (.long q2), .second, .val (.long q3), .second, .val (.long q4), .second, .val (.int p5), .val (.long q1), .second, .val (.long q2), .second, .val (.ref b748), .val (.ref b755), .val (.int (1 : Int32)), .val (.int (3 : Int32)), .unset] [(.int (1 : Int32))])) _
              refine XS.ifNo X857.here hx rfl (hb hby at_184) rfl ((if0 _ _).trans (feq (by decide : ¬ ((1 : Int32) = (0 : Int32)))).1) ?_
              show Steps p.tables e below (T857.setTop (mkF m 187 #[.val (.long q1), .second, .val (.long q2), .second, .val (.long q3), .second, .val (.long q4), .second, .val (.int p5), .val (.long q1), .second, .val (.long q2), .second, .val (.ref b748), .val (.ref b755), .val (.int (1 : Int32)), .val (.int (3 : Int32)), .unset] [])) _
              refine XS.iconst X857.here hx rfl (hb hby at_187) ?_
              show Steps p.tables e below (T857.setTop (mkF m 188 #[.val (.long q1), .second, .val (.long q2), .second, .val (.long q3), .second, .val (.long q4), .second, .val (.int p5), .val (.long q1), .second, .val (.long q2), .second, .val (.ref b748), .val (.ref b755), .val (.int (1 : Int32)), .val (.int (3 : Int32)), .unset] [(.int (1 : Int32))])) _
              refine XS.goto X857.here hx rfl (pc0 := 188) (pc' := 192) rfl (hb hby at_188) (by decide) (by decide) ?_
              show Steps p.tables e below (T857.setTop (mkF m 192 #[.val (.long q1), .second, .val (.long q2), .second, .val (.long q3), .second, .val (.long q4), .second, .val (.int p5), .val (.long q1), .second, .val (.long q2), .second, .val (.ref b748), .val (.ref b755), .val (.int (1 : Int32)), .val (.int (3 : Int32)), .unset] [(.int (1 : Int32))])) _
              exact retN X857 hx (t := .boolean) hret (by simp) (hb hby at_192) hr
            ·
              show Q0 n0 _ T857.heap _
              rw [e859]
              exact ⟨rfl, N857⟩
set_option maxRecDepth 65536 in
set_option maxHeartbeats 40000000 in
theorem comes_1 {Post : Tables → Env → Array Value → State → Outcome → State → Prop} (hpost : ∀ tb e args s v u, (limb_1_1.after args s (.returned v) u = true ∧ limb_1_2.after args s (.returned v) u = true ∧ True) → FrameEnd s (.returned v) u (Jvm.fieldLocs frame_1_writes args s ++ Jvm.arrayLocs frame_1_arrays args s ++ Jvm.staticLocs frame_1_statics s) 16 128 → Post tb e args s (.returned v) u) :
    ArmFor flags0 classFile x code maxLocals ret World_1 tables_1 room_1 Calls_1 rest_1 Pre_1 Post := by
  intro l hfl _ _ p e ha hc hk s m args below hf hA hF happ hP
  obtain ⟨hcalls, hrest, hpre⟩ := hP
  obtain ⟨-, -, -, hnamed, -, -, -, hat⟩ := (Spec.applies_iff hf).mp happ
  obtain ⟨hg, hn⟩ := and_e (Cond.before_iff.mp (show (Jvm.Cond.and given_1 narrow_1).before args s = true from hpre))
  obtain ⟨hcount, hk0⟩ := and_e hg
  obtain ⟨hi0, hk1⟩ := and_e hk0
  obtain ⟨hi1, hk2⟩ := and_e hk1
  obtain ⟨hi2, hk3⟩ := and_e hk2
  obtain ⟨hi3, hk4⟩ := and_e hk3
  have hi4 := hk4
  obtain ⟨w_a0, w_a1, w_a2, w_a3, w_a4, rfl⟩ : ∃ w_a0 w_a1 w_a2 w_a3 w_a4 : Value, args = #[w_a0, w_a1, w_a2, w_a3, w_a4] := by
    have hs : args.size = 5 := by simpa [Cond.value, given_1] using hcount
    obtain ⟨L⟩ := args
    match L, hs with
    | [w_a0, w_a1, w_a2, w_a3, w_a4], _ => exact ⟨w_a0, w_a1, w_a2, w_a3, w_a4, rfl⟩
  have hw := fun d (hd : d ∈ tables_1) => atoms_spec (ws := Jvm.Cond.code x code maxLocals ret :: tables_1) hat d (List.mem_cons_of_mem _ hd)
  have hfit : Fit s := fun {y c} hc i hi => by
    obtain ⟨ha, rfl⟩ := Array.getElem?_eq_some_iff.mp hc
    have q := List.all_eq_true.mp ((Array.all_eq_true_iff_forall_mem.mp hF) _ (Array.getElem_mem ha)) i (List.mem_range.mpr hi)
    simpa [Array.getElem?_eq_getElem hi] using q
  obtain ⟨hsets, hown0⟩ := atoms_of _ (rest_1_c_eq ▸ (show rest_1_c.before _ s = true from hrest))
  obtain ⟨i0, ei0⟩ := isL_v hi0
  obtain rfl : w_a0 = (.long i0) := Option.some.inj ei0
  obtain ⟨i1, ei1⟩ := isL_v hi1
  obtain rfl : w_a1 = (.long i1) := Option.some.inj ei1
  obtain ⟨i2, ei2⟩ := isL_v hi2
  obtain rfl : w_a2 = (.long i2) := Option.some.inj ei2
  obtain ⟨i3, ei3⟩ := isL_v hi3
  obtain rfl : w_a3 = (.long i3) := Option.some.inj ei3
  obtain ⟨i4, ei4⟩ := is_v hi4
  obtain rfl : w_a4 = (.int i4) := Option.some.inj ei4
  obtain ⟨w1, ev_w1⟩ := exa_v (Cond.before_iff.mp (hsets _ (List.mem_of_getElem? (i := 3) rfl)))
  have S_w1 : Sta s s.heap "java/lang/Long$LongCache" "cache" "[Ljava/lang/Long;" (.ref w1) := Sta.start ev_w1 (Or.inl (hsets _ (List.mem_of_getElem? (i := 1) rfl)))
  have E_w1 : Exa s s.heap w1 "[Ljava/lang/Long;" := Exa.start ev_w1 (Cond.before_iff.mp (hsets _ (List.mem_of_getElem? (i := 3) rfl)))
  obtain ⟨cw1, Ar_w1⟩ := Arr.start ev_w1 (Cond.before_iff.mp (hsets _ (List.mem_of_getElem? (i := 2) rfl)))
  obtain ⟨lz_w1, ln_w1⟩ := own_len Ar_w1 ev_w1 (eqv_i rfl (Cond.before_iff.mp (hsets _ (List.mem_of_getElem? (i := 4) rfl))))
  have B_w1 : Bxs s w1 cw1 "java/lang/Long" "J" (256 : Int32) (fun j => .long ((j - (128 : Int32)).toInt64)) := Bxs.start (fun _ => ev_w1) Ar_w1 lz_w1 ln_w1 (by decide) (Cond.before_iff.mp (hsets _ (List.mem_of_getElem? (i := 5) rfl))) (fun X j nn h => eqv_l (i2l_at (Term.sub_int (idx_at nn) rfl)) h)
  have G : GW s w1 cw1 := ⟨S_w1, E_w1, B_w1⟩
  obtain ⟨n, o, h1, h2, h3, _, L, rfl, ⟨rfl, N⟩, hq⟩ := rm0 l s _ hw w1 cw1 G tables_1 i0 i1 i2 i3 i4 s.heap s.heap.size (Old.start s) p e ha hc hk s m _ below hf ((Spec.applies_iff_loose hf).mp happ).1 ⟨rfl, State.Warmed39.refl s, rfl⟩ trivial
  refine ⟨n, _, h1, h2, h3, hpost _ _ _ _ _ _ ⟨Cond.after_iff.mpr rfl, Cond.after_iff.mpr (eq_i res_at (Term.int_eval (1)) rfl), trivial⟩ ⟨hq.1, hq.2.1, (hq.2.2.sift fun y hy => Or.inr (N y hy)).mono (by decide) (by decide)⟩⟩
theorem main_1_1 : Claimed_1_1 := comes_1 fun _ _ _ _ _ _ h hF => ⟨h.1, hF⟩
theorem main_1_2 : Claimed_1_2 := comes_1 fun _ _ _ _ _ _ h hF => ⟨h.2.1, hF⟩
end Jvm.Pilot.@@N@@
namespace Jvm.Pilot.@@N@@
open Jvm Jvm.ClassFile Sem Op Lib Jvm.Free Jvm.Stand Jvm.Pilot.@@N@@.Jvm.D
/-! MADE BY PROGRAM (witnessworld.py) out of the Statement's table words and the real class files: 16 classes; the members and pool entries that the words name. The judged class is class 1, her method 1. -/
namespace start1
open Jvm.ClassFile
def u (s : String) : CpInfo := .utf8 (stringToUtf16 s)
/-- a pool by its gaps: so many unusable entries, then the entry; so many at the end -/
def gap : Nat → List CpInfo → List CpInfo
  | 0, r => r
  | n + 1, r => .unusable :: gap n r
def poolList (es : List (Nat × CpInfo)) (last : Nat) : List CpInfo := es.foldr (fun e r => gap e.1 (e.2 :: r)) (gap last [])
def pool (es : List (Nat × CpInfo)) (last : Nat) : Array CpInfo := ⟨poolList es last⟩
def fileOf (pool : Array CpInfo) (this : Nat) (attrs : Array Attribute := #[]) (ms : Array MethodInfo := #[]) (fl : Nat := 33) (sup : Nat := 0) (ifs : Array Nat := #[]) (fds : Array FieldInfo := #[]) : ClassFile where
  minorVersion := 0
  majorVersion := 65
  constantPool := pool
  accessFlags := fl
  thisClass := this
  superClass := sup
  interfaces := ifs
  fields := fds
  methods := ms
  attributes := attrs
def plain (name : String) (sup : Option ClassId) : Class where
  name := name
  kind := .ordinary
  loader := none
  accessFlags := 33
  super := sup
  interfaces := #[]
  cf := none
  fields := #[]
  methods := #[]
  instanceTypes := #[]
  staticTypes := #[]
  resolved := #[]
  callSites := []
  init := .initialized
  statics := none
  mirror := none

def pool0 : Array CpInfo := pool [(5, u "<init>"), (0, u "()V"), (1, .class_ 10), (1, u "java/lang/Object")] 113

def k0c0 : Code := { maxStack := 0, maxLocals := 1, code := object_method_1_code, exceptionTable := #[], attributes := #[] }
def k0m0 : Method := { name := "<init>", desc := "()V", sig := { parameters := [], returnType := none }, accessFlags := 1, code := some k0c0 }
/-- java/lang/Object -/
def k0 : Class := { plain "java/lang/Object" none with
  accessFlags := 33
  interfaces := #[]
  cf := some (fileOf pool0 8 #[] #[{ accessFlags := 1, nameIndex := 5, descriptorIndex := 6, attributes := #[] }] 33 0 #[] #[])
  fields := #[]
  methods := #[k0m0]
  instanceTypes := #[]
  staticTypes := #[]
  resolved := Array.replicate 124 none
  statics := none }

def pool1 : Array CpInfo := pool [(2, .class_ 4), (1, u "java/lang/Object"), (0, u "<init>"), (0, u "()V"), (0, .class_ 8), (0, u "com/example/sablegrid/sablegrid/model/WriteOutcome"), (0, .methodref 7 10), (0, .nameAndType 5 11), (0, u "(JJ)V"), (0, .methodref 7 13), (0, .nameAndType 14 15), (0, u "equals"), (0, u "(Ljava/lang/Object;)Z"), (0, .methodref 17 18), (0, .class_ 19), (0, .nameAndType 20 21), (0, u "java/lang/Long"), (0, u "valueOf"), (0, u "(J)Ljava/lang/Long;"), (0, .class_ 23), (0, u "com/example/sablegrid/sablegrid/model/WriteOutcomeEqualsPinLaw"), (2, u "law"), (0, u "(JJJJI)Z")] 3

def k1m0 : Method := { name := "<init>", desc := "()V", sig := { parameters := [], returnType := none }, accessFlags := 2, code := none }
def k1c1 : Code := { maxStack := 6, maxLocals := 18, code := code, exceptionTable := #[], attributes := #[] }
def k1m1 : Method := { name := "law", desc := "(JJJJI)Z", sig := { parameters := [.long, .long, .long, .long, .int], returnType := some .boolean }, accessFlags := 9, code := some k1c1 }
/-- com/example/sablegrid/sablegrid/model/WriteOutcomeEqualsPinLaw -/
def k1 : Class := { plain "com/example/sablegrid/sablegrid/model/WriteOutcomeEqualsPinLaw" (some 0) with
  accessFlags := 49
  interfaces := #[]
  cf := some (fileOf pool1 22 #[] #[{ accessFlags := 2, nameIndex := 5, descriptorIndex := 6, attributes := #[] }, { accessFlags := 9, nameIndex := 26, descriptorIndex := 27, attributes := #[] }] 49 2 #[] #[])
  fields := #[]
  methods := #[k1m0, k1m1]
  instanceTypes := #[]
  staticTypes := #[]
  resolved := Array.replicate 31 none
  statics := none }

def pool2 : Array CpInfo := pool [(1, .methodref 2 3), (0, .class_ 4), (0, .nameAndType 5 6), (0, u "java/lang/Object"), (0, u "<init>"), (0, u "()V"), (0, .fieldref 8 9), (0, .class_ 10), (0, .nameAndType 11 12), (0, u "com/example/sablegrid/sablegrid/model/WriteOutcome"), (0, u "found"), (0, u "J"), (0, .fieldref 8 14), (0, .nameAndType 15 12), (0, u "version"), (10, u "(JJ)V"), (3, u "equals"), (0, u "(Ljava/lang/Object;)Z")] 21

def k2c0 : Code := { maxStack := 3, maxLocals := 5, code := prog_22_method_1_code, exceptionTable := #[], attributes := #[] }
def k2m0 : Method := { name := "<init>", desc := "(JJ)V", sig := { parameters := [.long, .long], returnType := none }, accessFlags := 1, code := some k2c0 }
def k2c1 : Code := { maxStack := 4, maxLocals := 2, code := prog_22_method_4_code, exceptionTable := #[], attributes := #[] }
def k2m1 : Method := { name := "equals", desc := "(Ljava/lang/Object;)Z", sig := { parameters := [(.object "java/lang/Object")], returnType := some .boolean }, accessFlags := 1, code := some k2c1 }
/-- com/example/sablegrid/sablegrid/model/WriteOutcome -/
def k2 : Class := { plain "com/example/sablegrid/sablegrid/model/WriteOutcome" (some 0) with
  accessFlags := 49
  interfaces := #[]
  cf := some (fileOf pool2 8 #[] #[{ accessFlags := 1, nameIndex := 5, descriptorIndex := 26, attributes := #[] }, { accessFlags := 1, nameIndex := 30, descriptorIndex := 31, attributes := #[] }] 49 2 #[] #[{ accessFlags := 18, nameIndex := 11, descriptorIndex := 12, attributes := #[] }, { accessFlags := 18, nameIndex := 15, descriptorIndex := 12, attributes := #[] }])
  fields := #[{ name := "found", type := .long, accessFlags := 18, slot := 0, constantValue := 0 }, { name := "version", type := .long, accessFlags := 18, slot := 1, constantValue := 0 }]
  methods := #[k2m0, k2m1]
  instanceTypes := #[.long, .long]
  staticTypes := #[]
  resolved := Array.replicate 53 none
  statics := none }

def pool3 : Array CpInfo := pool [(1, .class_ 2), (0, u "java/io/Serializable"), (0, .class_ 4), (0, u "java/lang/Object")] 2

/-- java/io/Serializable -/
def k3 : Class := { plain "java/io/Serializable" (some 0) with
  accessFlags := 1537
  interfaces := #[]
  cf := some (fileOf pool3 1 #[] #[] 1537 3 #[] #[])
  fields := #[]
  methods := #[]
  instanceTypes := #[]
  staticTypes := #[]
  resolved := Array.replicate 7 none
  statics := none }

def pool4 : Array CpInfo := pool [(1, .methodref 2 3), (0, .class_ 4), (0, .nameAndType 5 6), (0, u "java/lang/Object"), (0, u "<init>"), (0, u "()V"), (1, .class_ 10), (1, u "java/lang/Number"), (2, .class_ 14), (0, u "java/io/Serializable"), (0, u "serialVersionUID"), (0, u "J")] 20

def k4c0 : Code := { maxStack := 1, maxLocals := 1, code := jdk_18_method_1_code, exceptionTable := #[], attributes := #[] }
def k4m0 : Method := { name := "<init>", desc := "()V", sig := { parameters := [], returnType := none }, accessFlags := 1, code := some k4c0 }
/-- java/lang/Number -/
def k4 : Class := { plain "java/lang/Number" (some 0) with
  accessFlags := 1057
  interfaces := #[3]
  cf := some (fileOf pool4 8 #[] #[{ accessFlags := 1, nameIndex := 5, descriptorIndex := 6, attributes := #[] }] 1057 2 #[13] #[{ accessFlags := 26, nameIndex := 15, descriptorIndex := 16, attributes := #[] }])
  fields := #[{ name := "serialVersionUID", type := .long, accessFlags := 26, slot := 0, constantValue := 0 }]
  methods := #[k4m0]
  instanceTypes := #[]
  staticTypes := #[.long]
  resolved := Array.replicate 37 none
  statics := none }

def pool5 : Array CpInfo := pool [(1, .class_ 2), (0, u "java/lang/Comparable"), (0, .class_ 4), (0, u "java/lang/Object")] 7

/-- java/lang/Comparable -/
def k5 : Class := { plain "java/lang/Comparable" (some 0) with
  accessFlags := 1537
  interfaces := #[]
  cf := some (fileOf pool5 1 #[] #[] 1537 3 #[] #[])
  fields := #[]
  methods := #[]
  instanceTypes := #[]
  staticTypes := #[]
  resolved := Array.replicate 12 none
  statics := none }

def pool6 : Array CpInfo := pool [(1, .class_ 2), (0, u "java/lang/constant/Constable"), (0, .class_ 4), (0, u "java/lang/Object")] 6

/-- java/lang/constant/Constable -/
def k6 : Class := { plain "java/lang/constant/Constable" (some 0) with
  accessFlags := 1537
  interfaces := #[]
  cf := some (fileOf pool6 1 #[] #[] 1537 3 #[] #[])
  fields := #[]
  methods := #[]
  instanceTypes := #[]
  staticTypes := #[]
  resolved := Array.replicate 11 none
  statics := none }

def pool7 : Array CpInfo := pool [(1, .class_ 2), (0, u "java/lang/constant/ConstantDesc"), (0, .class_ 4), (0, u "java/lang/Object")] 32

/-- java/lang/constant/ConstantDesc -/
def k7 : Class := { plain "java/lang/constant/ConstantDesc" (some 0) with
  accessFlags := 1537
  interfaces := #[]
  cf := some (fileOf pool7 1 #[] #[] 1537 3 #[] #[])
  fields := #[]
  methods := #[]
  instanceTypes := #[]
  staticTypes := #[]
  resolved := Array.replicate 37 none
  statics := none }

def pool8 : Array CpInfo := pool [(1, .class_ 2), (0, u "java/lang/Long"), (55, .nameAndType 59 60), (0, u "<init>"), (0, u "()V"), (24, u "valueOf"), (143, u "(J)Ljava/lang/Long;"), (0, .long 18446744073709551488), (1, .long 127), (1, .fieldref 235 236), (0, .class_ 237), (0, .nameAndType 238 239), (0, u "java/lang/Long$LongCache"), (0, u "cache"), (0, u "[Ljava/lang/Long;"), (0, .methodref 1 241), (0, .nameAndType 59 242), (0, u "(J)V"), (27, .methodref 271 58), (0, .class_ 272), (0, u "java/lang/Number"), (0, .fieldref 1 274), (0, .nameAndType 275 276), (0, u "value"), (0, u "J"), (84, u "TYPE"), (0, u "Ljava/lang/Class;"), (0, .class_ 364), (0, u "java/lang/Comparable"), (0, .class_ 366), (0, u "java/lang/constant/Constable"), (0, .class_ 368), (0, u "java/lang/constant/ConstantDesc"), (0, u "MIN_VALUE"), (1, u "MAX_VALUE"), (4, u "SIZE"), (0, u "I"), (1, u "BYTES"), (1, u "serialVersionUID")] 142

def k8c0 : Code := { maxStack := 4, maxLocals := 3, code := jdk_35_method_24_code, exceptionTable := #[], attributes := #[] }
def k8m0 : Method := { name := "valueOf", desc := "(J)Ljava/lang/Long;", sig := { parameters := [.long], returnType := some (.object "java/lang/Long") }, accessFlags := 9, code := some k8c0 }
def k8c1 : Code := { maxStack := 3, maxLocals := 3, code := jdk_35_method_26_code, exceptionTable := #[], attributes := #[] }
def k8m1 : Method := { name := "<init>", desc := "(J)V", sig := { parameters := [.long], returnType := none }, accessFlags := 1, code := some k8c1 }
/-- java/lang/Long -/
def k8 : Class := { plain "java/lang/Long" (some 4) with
  accessFlags := 49
  interfaces := #[5, 6, 7]
  cf := some (fileOf pool8 1 #[.nestMembers #[235]] #[{ accessFlags := 9, nameIndex := 85, descriptorIndex := 229, attributes := #[] }, { accessFlags := 1, nameIndex := 59, descriptorIndex := 242, attributes := #[] }] 49 271 #[363, 365, 367] #[{ accessFlags := 25, nameIndex := 369, descriptorIndex := 276, attributes := #[] }, { accessFlags := 25, nameIndex := 371, descriptorIndex := 276, attributes := #[] }, { accessFlags := 25, nameIndex := 361, descriptorIndex := 362, attributes := #[] }, { accessFlags := 18, nameIndex := 275, descriptorIndex := 276, attributes := #[] }, { accessFlags := 25, nameIndex := 376, descriptorIndex := 377, attributes := #[] }, { accessFlags := 25, nameIndex := 379, descriptorIndex := 377, attributes := #[] }, { accessFlags := 26, nameIndex := 381, descriptorIndex := 276, attributes := #[] }])
  fields := #[{ name := "MIN_VALUE", type := .long, accessFlags := 25, slot := 0, constantValue := 0 }, { name := "MAX_VALUE", type := .long, accessFlags := 25, slot := 1, constantValue := 0 }, { name := "TYPE", type := (.object "java/lang/Class"), accessFlags := 25, slot := 2, constantValue := 0 }, { name := "value", type := .long, accessFlags := 18, slot := 0, constantValue := 0 }, { name := "SIZE", type := .int, accessFlags := 25, slot := 3, constantValue := 0 }, { name := "BYTES", type := .int, accessFlags := 25, slot := 4, constantValue := 0 }, { name := "serialVersionUID", type := .long, accessFlags := 26, slot := 5, constantValue := 0 }]
  methods := #[k8m0, k8m1]
  instanceTypes := #[.long]
  staticTypes := #[.long, .long, (.object "java/lang/Class"), .int, .int, .long]
  resolved := Array.replicate 524 none
  statics := none }

def pool9 : Array CpInfo := pool [(2, .class_ 4), (1, u "java/lang/Object"), (0, u "<init>"), (0, u "()V"), (0, .class_ 8), (0, u "java/lang/Long"), (7, .class_ 18), (1, u "java/lang/Long$LongCache"), (0, u "$assertionsDisabled"), (0, u "Z"), (8, u "archivedCache"), (0, u "[Ljava/lang/Long;"), (7, u "cache")] 24

def k9m0 : Method := { name := "<init>", desc := "()V", sig := { parameters := [], returnType := none }, accessFlags := 2, code := none }
/-- java/lang/Long$LongCache -/
def k9 : Class := { plain "java/lang/Long$LongCache" (some 0) with
  accessFlags := 48
  interfaces := #[]
  cf := some (fileOf pool9 16 #[.nestHost 7] #[{ accessFlags := 2, nameIndex := 5, descriptorIndex := 6, attributes := #[] }] 48 2 #[] #[{ accessFlags := 24, nameIndex := 38, descriptorIndex := 30, attributes := #[] }, { accessFlags := 8, nameIndex := 29, descriptorIndex := 30, attributes := #[] }, { accessFlags := 4120, nameIndex := 19, descriptorIndex := 20, attributes := #[] }])
  fields := #[{ name := "cache", type := (.array (.object "java/lang/Long")), accessFlags := 24, slot := 0, constantValue := 0 }, { name := "archivedCache", type := (.array (.object "java/lang/Long")), accessFlags := 8, slot := 1, constantValue := 0 }, { name := "$assertionsDisabled", type := .boolean, accessFlags := 4120, slot := 2, constantValue := 0 }]
  methods := #[k9m0]
  instanceTypes := #[]
  staticTypes := #[(.array (.object "java/lang/Long")), (.array (.object "java/lang/Long")), .boolean]
  resolved := Array.replicate 63 none
  statics := some 0 }

def pool10 : Array CpInfo := pool [(1, u "java/lang/Cloneable"), (0, .class_ 1), (0, u "java/lang/Object"), (0, .class_ 3)] 3

/-- java/lang/Cloneable -/
def k10 : Class := { plain "java/lang/Cloneable" (some 0) with
  accessFlags := 1537
  interfaces := #[]
  cf := some (fileOf pool10 2 #[] #[] 1537 4 #[] #[])
  fields := #[]
  methods := #[]
  instanceTypes := #[]
  staticTypes := #[]
  resolved := Array.replicate 8 none
  statics := none }

/-- the primitive byte -/
def k11 : Class := { plain "byte" none with kind := .primitive 'B', accessFlags := 0x411 }
/-- [B -/
def k12 : Class := { plain "[B" (some 0) with kind := .array 11 .byte, interfaces := #[10, 3], accessFlags := 1041 }

/-- the primitive int -/
def k13 : Class := { plain "int" none with kind := .primitive 'I', accessFlags := 0x411 }
/-- [I -/
def k14 : Class := { plain "[I" (some 0) with kind := .array 13 .int, interfaces := #[10, 3], accessFlags := 1041 }

/-- [Ljava/lang/Long; -/
def k15 : Class := { plain "[Ljava/lang/Long;" (some 0) with kind := .array 8 (.object "java/lang/Long"), interfaces := #[10, 3], accessFlags := 1041 }

def heap : Heap := #[{ cls := 9, slots := #[.ref 1, .null, .int 0], vm := .statics 9 },
  { cls := 15, slots := #[.ref 2, .ref 3, .ref 4, .ref 5, .ref 6, .ref 7, .ref 8, .ref 9, .ref 10, .ref 11, .ref 12, .ref 13, .ref 14, .ref 15, .ref 16, .ref 17, .ref 18, .ref 19, .ref 20, .ref 21, .ref 22, .ref 23, .ref 24, .ref 25, .ref 26, .ref 27, .ref 28, .ref 29, .ref 30, .ref 31, .ref 32, .ref 33, .ref 34, .ref 35, .ref 36, .ref 37, .ref 38, .ref 39, .ref 40, .ref 41, .ref 42, .ref 43, .ref 44, .ref 45, .ref 46, .ref 47, .ref 48, .ref 49, .ref 50, .ref 51, .ref 52, .ref 53, .ref 54, .ref 55, .ref 56, .ref 57, .ref 58, .ref 59, .ref 60, .ref 61, .ref 62, .ref 63, .ref 64, .ref 65, .ref 66, .ref 67, .ref 68, .ref 69, .ref 70, .ref 71, .ref 72, .ref 73, .ref 74, .ref 75, .ref 76, .ref 77, .ref 78, .ref 79, .ref 80, .ref 81, .ref 82, .ref 83, .ref 84, .ref 85, .ref 86, .ref 87, .ref 88, .ref 89, .ref 90, .ref 91, .ref 92, .ref 93, .ref 94, .ref 95, .ref 96, .ref 97, .ref 98, .ref 99, .ref 100, .ref 101, .ref 102, .ref 103, .ref 104, .ref 105, .ref 106, .ref 107, .ref 108, .ref 109, .ref 110, .ref 111, .ref 112, .ref 113, .ref 114, .ref 115, .ref 116, .ref 117, .ref 118, .ref 119, .ref 120, .ref 121, .ref 122, .ref 123, .ref 124, .ref 125, .ref 126, .ref 127, .ref 128, .ref 129, .ref 130, .ref 131, .ref 132, .ref 133, .ref 134, .ref 135, .ref 136, .ref 137, .ref 138, .ref 139, .ref 140, .ref 141, .ref 142, .ref 143, .ref 144, .ref 145, .ref 146, .ref 147, .ref 148, .ref 149, .ref 150, .ref 151, .ref 152, .ref 153, .ref 154, .ref 155, .ref 156, .ref 157, .ref 158, .ref 159, .ref 160, .ref 161, .ref 162, .ref 163, .ref 164, .ref 165, .ref 166, .ref 167, .ref 168, .ref 169, .ref 170, .ref 171, .ref 172, .ref 173, .ref 174, .ref 175, .ref 176, .ref 177, .ref 178, .ref 179, .ref 180, .ref 181, .ref 182, .ref 183, .ref 184, .ref 185, .ref 186, .ref 187, .ref 188, .ref 189, .ref 190, .ref 191, .ref 192, .ref 193, .ref 194, .ref 195, .ref 196, .ref 197, .ref 198, .ref 199, .ref 200, .ref 201, .ref 202, .ref 203, .ref 204, .ref 205, .ref 206, .ref 207, .ref 208, .ref 209, .ref 210, .ref 211, .ref 212, .ref 213, .ref 214, .ref 215, .ref 216, .ref 217, .ref 218, .ref 219, .ref 220, .ref 221, .ref 222, .ref 223, .ref 224, .ref 225, .ref 226, .ref 227, .ref 228, .ref 229, .ref 230, .ref 231, .ref 232, .ref 233, .ref 234, .ref 235, .ref 236, .ref 237, .ref 238, .ref 239, .ref 240, .ref 241, .ref 242, .ref 243, .ref 244, .ref 245, .ref 246, .ref 247, .ref 248, .ref 249, .ref 250, .ref 251, .ref 252, .ref 253, .ref 254, .ref 255, .ref 256, .ref 257], vm := .none },
  { cls := 8, slots := #[.long (-128)], vm := .none },
  { cls := 8, slots := #[.long (-127)], vm := .none },
  { cls := 8, slots := #[.long (-126)], vm := .none },
  { cls := 8, slots := #[.long (-125)], vm := .none },
  { cls := 8, slots := #[.long (-124)], vm := .none },
  { cls := 8, slots := #[.long (-123)], vm := .none },
  { cls := 8, slots := #[.long (-122)], vm := .none },
  { cls := 8, slots := #[.long (-121)], vm := .none },
  { cls := 8, slots := #[.long (-120)], vm := .none },
  { cls := 8, slots := #[.long (-119)], vm := .none },
  { cls := 8, slots := #[.long (-118)], vm := .none },
  { cls := 8, slots := #[.long (-117)], vm := .none },
  { cls := 8, slots := #[.long (-116)], vm := .none },
  { cls := 8, slots := #[.long (-115)], vm := .none },
  { cls := 8, slots := #[.long (-114)], vm := .none },
  { cls := 8, slots := #[.long (-113)], vm := .none },
  { cls := 8, slots := #[.long (-112)], vm := .none },
  { cls := 8, slots := #[.long (-111)], vm := .none },
  { cls := 8, slots := #[.long (-110)], vm := .none },
  { cls := 8, slots := #[.long (-109)], vm := .none },
  { cls := 8, slots := #[.long (-108)], vm := .none },
  { cls := 8, slots := #[.long (-107)], vm := .none },
  { cls := 8, slots := #[.long (-106)], vm := .none },
  { cls := 8, slots := #[.long (-105)], vm := .none },
  { cls := 8, slots := #[.long (-104)], vm := .none },
  { cls := 8, slots := #[.long (-103)], vm := .none },
  { cls := 8, slots := #[.long (-102)], vm := .none },
  { cls := 8, slots := #[.long (-101)], vm := .none },
  { cls := 8, slots := #[.long (-100)], vm := .none },
  { cls := 8, slots := #[.long (-99)], vm := .none },
  { cls := 8, slots := #[.long (-98)], vm := .none },
  { cls := 8, slots := #[.long (-97)], vm := .none },
  { cls := 8, slots := #[.long (-96)], vm := .none },
  { cls := 8, slots := #[.long (-95)], vm := .none },
  { cls := 8, slots := #[.long (-94)], vm := .none },
  { cls := 8, slots := #[.long (-93)], vm := .none },
  { cls := 8, slots := #[.long (-92)], vm := .none },
  { cls := 8, slots := #[.long (-91)], vm := .none },
  { cls := 8, slots := #[.long (-90)], vm := .none },
  { cls := 8, slots := #[.long (-89)], vm := .none },
  { cls := 8, slots := #[.long (-88)], vm := .none },
  { cls := 8, slots := #[.long (-87)], vm := .none },
  { cls := 8, slots := #[.long (-86)], vm := .none },
  { cls := 8, slots := #[.long (-85)], vm := .none },
  { cls := 8, slots := #[.long (-84)], vm := .none },
  { cls := 8, slots := #[.long (-83)], vm := .none },
  { cls := 8, slots := #[.long (-82)], vm := .none },
  { cls := 8, slots := #[.long (-81)], vm := .none },
  { cls := 8, slots := #[.long (-80)], vm := .none },
  { cls := 8, slots := #[.long (-79)], vm := .none },
  { cls := 8, slots := #[.long (-78)], vm := .none },
  { cls := 8, slots := #[.long (-77)], vm := .none },
  { cls := 8, slots := #[.long (-76)], vm := .none },
  { cls := 8, slots := #[.long (-75)], vm := .none },
  { cls := 8, slots := #[.long (-74)], vm := .none },
  { cls := 8, slots := #[.long (-73)], vm := .none },
  { cls := 8, slots := #[.long (-72)], vm := .none },
  { cls := 8, slots := #[.long (-71)], vm := .none },
  { cls := 8, slots := #[.long (-70)], vm := .none },
  { cls := 8, slots := #[.long (-69)], vm := .none },
  { cls := 8, slots := #[.long (-68)], vm := .none },
  { cls := 8, slots := #[.long (-67)], vm := .none },
  { cls := 8, slots := #[.long (-66)], vm := .none },
  { cls := 8, slots := #[.long (-65)], vm := .none },
  { cls := 8, slots := #[.long (-64)], vm := .none },
  { cls := 8, slots := #[.long (-63)], vm := .none },
  { cls := 8, slots := #[.long (-62)], vm := .none },
  { cls := 8, slots := #[.long (-61)], vm := .none },
  { cls := 8, slots := #[.long (-60)], vm := .none },
  { cls := 8, slots := #[.long (-59)], vm := .none },
  { cls := 8, slots := #[.long (-58)], vm := .none },
  { cls := 8, slots := #[.long (-57)], vm := .none },
  { cls := 8, slots := #[.long (-56)], vm := .none },
  { cls := 8, slots := #[.long (-55)], vm := .none },
  { cls := 8, slots := #[.long (-54)], vm := .none },
  { cls := 8, slots := #[.long (-53)], vm := .none },
  { cls := 8, slots := #[.long (-52)], vm := .none },
  { cls := 8, slots := #[.long (-51)], vm := .none },
  { cls := 8, slots := #[.long (-50)], vm := .none },
  { cls := 8, slots := #[.long (-49)], vm := .none },
  { cls := 8, slots := #[.long (-48)], vm := .none },
  { cls := 8, slots := #[.long (-47)], vm := .none },
  { cls := 8, slots := #[.long (-46)], vm := .none },
  { cls := 8, slots := #[.long (-45)], vm := .none },
  { cls := 8, slots := #[.long (-44)], vm := .none },
  { cls := 8, slots := #[.long (-43)], vm := .none },
  { cls := 8, slots := #[.long (-42)], vm := .none },
  { cls := 8, slots := #[.long (-41)], vm := .none },
  { cls := 8, slots := #[.long (-40)], vm := .none },
  { cls := 8, slots := #[.long (-39)], vm := .none },
  { cls := 8, slots := #[.long (-38)], vm := .none },
  { cls := 8, slots := #[.long (-37)], vm := .none },
  { cls := 8, slots := #[.long (-36)], vm := .none },
  { cls := 8, slots := #[.long (-35)], vm := .none },
  { cls := 8, slots := #[.long (-34)], vm := .none },
  { cls := 8, slots := #[.long (-33)], vm := .none },
  { cls := 8, slots := #[.long (-32)], vm := .none },
  { cls := 8, slots := #[.long (-31)], vm := .none },
  { cls := 8, slots := #[.long (-30)], vm := .none },
  { cls := 8, slots := #[.long (-29)], vm := .none },
  { cls := 8, slots := #[.long (-28)], vm := .none },
  { cls := 8, slots := #[.long (-27)], vm := .none },
  { cls := 8, slots := #[.long (-26)], vm := .none },
  { cls := 8, slots := #[.long (-25)], vm := .none },
  { cls := 8, slots := #[.long (-24)], vm := .none },
  { cls := 8, slots := #[.long (-23)], vm := .none },
  { cls := 8, slots := #[.long (-22)], vm := .none },
  { cls := 8, slots := #[.long (-21)], vm := .none },
  { cls := 8, slots := #[.long (-20)], vm := .none },
  { cls := 8, slots := #[.long (-19)], vm := .none },
  { cls := 8, slots := #[.long (-18)], vm := .none },
  { cls := 8, slots := #[.long (-17)], vm := .none },
  { cls := 8, slots := #[.long (-16)], vm := .none },
  { cls := 8, slots := #[.long (-15)], vm := .none },
  { cls := 8, slots := #[.long (-14)], vm := .none },
  { cls := 8, slots := #[.long (-13)], vm := .none },
  { cls := 8, slots := #[.long (-12)], vm := .none },
  { cls := 8, slots := #[.long (-11)], vm := .none },
  { cls := 8, slots := #[.long (-10)], vm := .none },
  { cls := 8, slots := #[.long (-9)], vm := .none },
  { cls := 8, slots := #[.long (-8)], vm := .none },
  { cls := 8, slots := #[.long (-7)], vm := .none },
  { cls := 8, slots := #[.long (-6)], vm := .none },
  { cls := 8, slots := #[.long (-5)], vm := .none },
  { cls := 8, slots := #[.long (-4)], vm := .none },
  { cls := 8, slots := #[.long (-3)], vm := .none },
  { cls := 8, slots := #[.long (-2)], vm := .none },
  { cls := 8, slots := #[.long (-1)], vm := .none },
  { cls := 8, slots := #[.long (0)], vm := .none },
  { cls := 8, slots := #[.long (1)], vm := .none },
  { cls := 8, slots := #[.long (2)], vm := .none },
  { cls := 8, slots := #[.long (3)], vm := .none },
  { cls := 8, slots := #[.long (4)], vm := .none },
  { cls := 8, slots := #[.long (5)], vm := .none },
  { cls := 8, slots := #[.long (6)], vm := .none },
  { cls := 8, slots := #[.long (7)], vm := .none },
  { cls := 8, slots := #[.long (8)], vm := .none },
  { cls := 8, slots := #[.long (9)], vm := .none },
  { cls := 8, slots := #[.long (10)], vm := .none },
  { cls := 8, slots := #[.long (11)], vm := .none },
  { cls := 8, slots := #[.long (12)], vm := .none },
  { cls := 8, slots := #[.long (13)], vm := .none },
  { cls := 8, slots := #[.long (14)], vm := .none },
  { cls := 8, slots := #[.long (15)], vm := .none },
  { cls := 8, slots := #[.long (16)], vm := .none },
  { cls := 8, slots := #[.long (17)], vm := .none },
  { cls := 8, slots := #[.long (18)], vm := .none },
  { cls := 8, slots := #[.long (19)], vm := .none },
  { cls := 8, slots := #[.long (20)], vm := .none },
  { cls := 8, slots := #[.long (21)], vm := .none },
  { cls := 8, slots := #[.long (22)], vm := .none },
  { cls := 8, slots := #[.long (23)], vm := .none },
  { cls := 8, slots := #[.long (24)], vm := .none },
  { cls := 8, slots := #[.long (25)], vm := .none },
  { cls := 8, slots := #[.long (26)], vm := .none },
  { cls := 8, slots := #[.long (27)], vm := .none },
  { cls := 8, slots := #[.long (28)], vm := .none },
  { cls := 8, slots := #[.long (29)], vm := .none },
  { cls := 8, slots := #[.long (30)], vm := .none },
  { cls := 8, slots := #[.long (31)], vm := .none },
  { cls := 8, slots := #[.long (32)], vm := .none },
  { cls := 8, slots := #[.long (33)], vm := .none },
  { cls := 8, slots := #[.long (34)], vm := .none },
  { cls := 8, slots := #[.long (35)], vm := .none },
  { cls := 8, slots := #[.long (36)], vm := .none },
  { cls := 8, slots := #[.long (37)], vm := .none },
  { cls := 8, slots := #[.long (38)], vm := .none },
  { cls := 8, slots := #[.long (39)], vm := .none },
  { cls := 8, slots := #[.long (40)], vm := .none },
  { cls := 8, slots := #[.long (41)], vm := .none },
  { cls := 8, slots := #[.long (42)], vm := .none },
  { cls := 8, slots := #[.long (43)], vm := .none },
  { cls := 8, slots := #[.long (44)], vm := .none },
  { cls := 8, slots := #[.long (45)], vm := .none },
  { cls := 8, slots := #[.long (46)], vm := .none },
  { cls := 8, slots := #[.long (47)], vm := .none },
  { cls := 8, slots := #[.long (48)], vm := .none },
  { cls := 8, slots := #[.long (49)], vm := .none },
  { cls := 8, slots := #[.long (50)], vm := .none },
  { cls := 8, slots := #[.long (51)], vm := .none },
  { cls := 8, slots := #[.long (52)], vm := .none },
  { cls := 8, slots := #[.long (53)], vm := .none },
  { cls := 8, slots := #[.long (54)], vm := .none },
  { cls := 8, slots := #[.long (55)], vm := .none },
  { cls := 8, slots := #[.long (56)], vm := .none },
  { cls := 8, slots := #[.long (57)], vm := .none },
  { cls := 8, slots := #[.long (58)], vm := .none },
  { cls := 8, slots := #[.long (59)], vm := .none },
  { cls := 8, slots := #[.long (60)], vm := .none },
  { cls := 8, slots := #[.long (61)], vm := .none },
  { cls := 8, slots := #[.long (62)], vm := .none },
  { cls := 8, slots := #[.long (63)], vm := .none },
  { cls := 8, slots := #[.long (64)], vm := .none },
  { cls := 8, slots := #[.long (65)], vm := .none },
  { cls := 8, slots := #[.long (66)], vm := .none },
  { cls := 8, slots := #[.long (67)], vm := .none },
  { cls := 8, slots := #[.long (68)], vm := .none },
  { cls := 8, slots := #[.long (69)], vm := .none },
  { cls := 8, slots := #[.long (70)], vm := .none },
  { cls := 8, slots := #[.long (71)], vm := .none },
  { cls := 8, slots := #[.long (72)], vm := .none },
  { cls := 8, slots := #[.long (73)], vm := .none },
  { cls := 8, slots := #[.long (74)], vm := .none },
  { cls := 8, slots := #[.long (75)], vm := .none },
  { cls := 8, slots := #[.long (76)], vm := .none },
  { cls := 8, slots := #[.long (77)], vm := .none },
  { cls := 8, slots := #[.long (78)], vm := .none },
  { cls := 8, slots := #[.long (79)], vm := .none },
  { cls := 8, slots := #[.long (80)], vm := .none },
  { cls := 8, slots := #[.long (81)], vm := .none },
  { cls := 8, slots := #[.long (82)], vm := .none },
  { cls := 8, slots := #[.long (83)], vm := .none },
  { cls := 8, slots := #[.long (84)], vm := .none },
  { cls := 8, slots := #[.long (85)], vm := .none },
  { cls := 8, slots := #[.long (86)], vm := .none },
  { cls := 8, slots := #[.long (87)], vm := .none },
  { cls := 8, slots := #[.long (88)], vm := .none },
  { cls := 8, slots := #[.long (89)], vm := .none },
  { cls := 8, slots := #[.long (90)], vm := .none },
  { cls := 8, slots := #[.long (91)], vm := .none },
  { cls := 8, slots := #[.long (92)], vm := .none },
  { cls := 8, slots := #[.long (93)], vm := .none },
  { cls := 8, slots := #[.long (94)], vm := .none },
  { cls := 8, slots := #[.long (95)], vm := .none },
  { cls := 8, slots := #[.long (96)], vm := .none },
  { cls := 8, slots := #[.long (97)], vm := .none },
  { cls := 8, slots := #[.long (98)], vm := .none },
  { cls := 8, slots := #[.long (99)], vm := .none },
  { cls := 8, slots := #[.long (100)], vm := .none },
  { cls := 8, slots := #[.long (101)], vm := .none },
  { cls := 8, slots := #[.long (102)], vm := .none },
  { cls := 8, slots := #[.long (103)], vm := .none },
  { cls := 8, slots := #[.long (104)], vm := .none },
  { cls := 8, slots := #[.long (105)], vm := .none },
  { cls := 8, slots := #[.long (106)], vm := .none },
  { cls := 8, slots := #[.long (107)], vm := .none },
  { cls := 8, slots := #[.long (108)], vm := .none },
  { cls := 8, slots := #[.long (109)], vm := .none },
  { cls := 8, slots := #[.long (110)], vm := .none },
  { cls := 8, slots := #[.long (111)], vm := .none },
  { cls := 8, slots := #[.long (112)], vm := .none },
  { cls := 8, slots := #[.long (113)], vm := .none },
  { cls := 8, slots := #[.long (114)], vm := .none },
  { cls := 8, slots := #[.long (115)], vm := .none },
  { cls := 8, slots := #[.long (116)], vm := .none },
  { cls := 8, slots := #[.long (117)], vm := .none },
  { cls := 8, slots := #[.long (118)], vm := .none },
  { cls := 8, slots := #[.long (119)], vm := .none },
  { cls := 8, slots := #[.long (120)], vm := .none },
  { cls := 8, slots := #[.long (121)], vm := .none },
  { cls := 8, slots := #[.long (122)], vm := .none },
  { cls := 8, slots := #[.long (123)], vm := .none },
  { cls := 8, slots := #[.long (124)], vm := .none },
  { cls := 8, slots := #[.long (125)], vm := .none },
  { cls := 8, slots := #[.long (126)], vm := .none },
  { cls := 8, slots := #[.long (127)], vm := .none }]
def classes : Array Class := #[k0, k1, k2, k3, k4, k5, k6, k7, k8, k9, k10, k11, k12, k13, k14, k15]
def interned : List (Array UInt16 × Addr) := []
def slotsUsed : Nat := 515
def theMethod : MethodId := ⟨1, 1⟩
def args0 : Array Value := #[.long 5, .long 5, .long 5, .long 5, .int 5]
def aboutOver (below : List Frame) : State where
  vm := { classes := classes, interned := interned.toArray }
  heap := heap
  slotsUsed := slotsUsed
  threads := #[{ frames := .invoking theMethod args0 :: below }]
def below0 : List Frame := [.native { method := ⟨0, 0⟩, args := #[] }]
def about1 : State := aboutOver below0
def p0 : Program := .bare "" "" ""
def e0 : Env := launch0.env 0 0 0
theorem w_frames : about1.frames = Frame.invoking theMethod args0 :: below0 := rfl
set_option maxRecDepth 65536 in
theorem w_args : argsFit about1.vm theMethod args0 = true := by decide +kernel
set_option maxRecDepth 65536 in
theorem w_heap : heapFits about1 = true := by decide +kernel
set_option maxRecDepth 65536 in
theorem w_runnable : about1.curStatus? = some .runnable := by decide +kernel
set_option maxRecDepth 65536 in
theorem w_alone : about1.alone = true := by decide +kernel
set_option maxRecDepth 65536 in
theorem w_named : about1.methodNamed? x = some theMethod := by decide +kernel
set_option maxRecDepth 65536 in
theorem w_hears : about1.hears theMethod below0 = true := by decide +kernel
set_option maxRecDepth 65536 in
theorem w_ripe : about1.ripe theMethod args0 below0 = true := by decide +kernel
theorem w_running : about1.status = .running := rfl
set_option maxRecDepth 65536 in
theorem w_room : about1.hasRoom e0.platform room_1 = true :=
  launch0.hasRoom_least _ room_1 (by decide +kernel) (by decide +kernel) (by decide +kernel) (by decide +kernel) (by decide +kernel) (by decide +kernel)
theorem allAtoms_all (ts : List Jvm.Cond) (a : Array Jvm.Value) (st : Jvm.State) : (allAtoms ts).before a st = ts.all (fun c => c.before a st) := by
  induction ts with
  | nil => rfl
  | cons c t ih =>
    show (Jvm.Cond.and c (allAtoms t)).before a st = _
    rw [Jvm.Cond.before_and, ih, List.all_cons]
def words1 : List Jvm.Cond := Jvm.Cond.code x code maxLocals ret :: tables_1
/-- a 'code' word, met by the world's own term for the bytes: nothing is compared byte by byte -/
theorem code_word {y : MethodName} {bytes : ByteArray} {mx : Nat} {rt : Option FieldType} {a : Array Value} {s : State} {m : MethodId} {meth : Method} {c : Code} (h1 : s.methodNamed? y = some m) (h2 : s.vm.method? m = some meth) (h3 : meth.code = some c) (h4 : c.code = bytes)
    (h5 : (c.maxLocals == mx && c.exceptionTable.isEmpty && decide (c.maxStack ≤ mostOperands) && decide (meth.sig.returnType = rt) && !meth.locks && decide (parseMethodDescriptor y.desc = some meth.sig)) = true) : (Jvm.Cond.code y bytes mx rt).before a s = true := by
  simp only [Bool.and_eq_true, beq_iff_eq, Bool.not_eq_true', decide_eq_true_eq] at h5
  obtain ⟨⟨⟨⟨⟨g1, g2⟩, g3⟩, g4⟩, g5⟩, g6⟩ := h5
  simp [Cond.before, Cond.holds, Cond.value, h1, h2, h3, h4, g1, g2, g3, g4, g5, g6]
def isCode : Jvm.Cond → Bool
  | .code _ _ _ _ => true
  | _ => false
theorem all_split {L : List Jvm.Cond} {P : Jvm.Cond → Bool} (h1 : L.all (fun c => isCode c || P c) = true) (h2 : ∀ c ∈ L.filter isCode, P c = true) : L.all P = true := by
  refine List.all_eq_true.mpr fun c hc => ?_
  have h := List.all_eq_true.mp h1 c hc
  rcases Bool.eq_false_or_eq_true (isCode c) with hi | hi
  · exact h2 c (List.mem_filter.mpr ⟨hc, hi⟩)
  · simpa [hi] using h
set_option maxRecDepth 65536 in
theorem w_c0 : (Jvm.Cond.code x code maxLocals ret).before args0 about1 = true := code_word (m := ⟨1, 1⟩) (meth := k1m1) (c := k1c1) (by decide +kernel) rfl rfl rfl (by decide +kernel)
set_option maxRecDepth 65536 in
theorem w_c1 : (Jvm.Cond.code ({ cls := "com/example/sablegrid/sablegrid/model/WriteOutcome", name := "<init>", desc := "(JJ)V" } : Jvm.MethodName) prog_22_method_1_code (5 : Nat) (Option.none : Option Jvm.ClassFile.FieldType)).before args0 about1 = true := code_word (m := ⟨2, 0⟩) (meth := k2m0) (c := k2c0) (by decide +kernel) rfl rfl rfl (by decide +kernel)
set_option maxRecDepth 65536 in
theorem w_c2 : (Jvm.Cond.code ({ cls := "java/lang/Object", name := "<init>", desc := "()V" } : Jvm.MethodName) object_method_1_code (1 : Nat) (Option.none : Option Jvm.ClassFile.FieldType)).before args0 about1 = true := code_word (m := ⟨0, 0⟩) (meth := k0m0) (c := k0c0) (by decide +kernel) rfl rfl rfl (by decide +kernel)
set_option maxRecDepth 65536 in
theorem w_c3 : (Jvm.Cond.code ({ cls := "com/example/sablegrid/sablegrid/model/WriteOutcome", name := "equals", desc := "(Ljava/lang/Object;)Z" } : Jvm.MethodName) prog_22_method_4_code (2 : Nat) (Option.some Jvm.ClassFile.FieldType.boolean)).before args0 about1 = true := code_word (m := ⟨2, 1⟩) (meth := k2m1) (c := k2c1) (by decide +kernel) rfl rfl rfl (by decide +kernel)
set_option maxRecDepth 65536 in
theorem w_c4 : (Jvm.Cond.code ({ cls := "java/lang/Long", name := "valueOf", desc := "(J)Ljava/lang/Long;" } : Jvm.MethodName) jdk_35_method_24_code (3 : Nat) (Option.some (Jvm.ClassFile.FieldType.object "java/lang/Long"))).before args0 about1 = true := code_word (m := ⟨8, 0⟩) (meth := k8m0) (c := k8c0) (by decide +kernel) rfl rfl rfl (by decide +kernel)
set_option maxRecDepth 65536 in
theorem w_c5 : (Jvm.Cond.code ({ cls := "java/lang/Long", name := "<init>", desc := "(J)V" } : Jvm.MethodName) jdk_35_method_26_code (3 : Nat) (Option.none : Option Jvm.ClassFile.FieldType)).before args0 about1 = true := code_word (m := ⟨8, 1⟩) (meth := k8m1) (c := k8c1) (by decide +kernel) rfl rfl rfl (by decide +kernel)
set_option maxRecDepth 65536 in
theorem w_c6 : (Jvm.Cond.code ({ cls := "java/lang/Number", name := "<init>", desc := "()V" } : Jvm.MethodName) jdk_18_method_1_code (1 : Nat) (Option.none : Option Jvm.ClassFile.FieldType)).before args0 about1 = true := code_word (m := ⟨4, 0⟩) (meth := k4m0) (c := k4c0) (by decide +kernel) rfl rfl rfl (by decide +kernel)
def codes1 : List Jvm.Cond := [Jvm.Cond.code x code maxLocals ret, Jvm.Cond.code ({ cls := "com/example/sablegrid/sablegrid/model/WriteOutcome", name := "<init>", desc := "(JJ)V" } : Jvm.MethodName) prog_22_method_1_code (5 : Nat) (Option.none : Option Jvm.ClassFile.FieldType), Jvm.Cond.code ({ cls := "java/lang/Object", name := "<init>", desc := "()V" } : Jvm.MethodName) object_method_1_code (1 : Nat) (Option.none : Option Jvm.ClassFile.FieldType), Jvm.Cond.code ({ cls := "com/example/sablegrid/sablegrid/model/WriteOutcome", name := "equals", desc := "(Ljava/lang/Object;)Z" } : Jvm.MethodName) prog_22_method_4_code (2 : Nat) (Option.some Jvm.ClassFile.FieldType.boolean), Jvm.Cond.code ({ cls := "java/lang/Long", name := "valueOf", desc := "(J)Ljava/lang/Long;" } : Jvm.MethodName) jdk_35_method_24_code (3 : Nat) (Option.some (Jvm.ClassFile.FieldType.object "java/lang/Long")), Jvm.Cond.code ({ cls := "java/lang/Long", name := "<init>", desc := "(J)V" } : Jvm.MethodName) jdk_35_method_26_code (3 : Nat) (Option.none : Option Jvm.ClassFile.FieldType), Jvm.Cond.code ({ cls := "java/lang/Number", name := "<init>", desc := "()V" } : Jvm.MethodName) jdk_18_method_1_code (1 : Nat) (Option.none : Option Jvm.ClassFile.FieldType)]
set_option maxRecDepth 65536 in
theorem codes_eq : words1.filter isCode = codes1 := rfl
theorem w_codes : ∀ c ∈ words1.filter isCode, c.before args0 about1 = true := by
  rw [codes_eq]
  intro c hc
  simp only [codes1, List.mem_cons, List.not_mem_nil, or_false] at hc
  rcases hc with rfl | rfl | rfl | rfl | rfl | rfl | rfl
  · exact w_c0
  · exact w_c1
  · exact w_c2
  · exact w_c3
  · exact w_c4
  · exact w_c5
  · exact w_c6
set_option maxRecDepth 65536 in
theorem w_t1 : (words1.take 24).all (fun c => isCode c || c.before args0 about1) = true := by decide +kernel
set_option maxRecDepth 65536 in
theorem w_t2 : (words1.drop 24).all (fun c => isCode c || c.before args0 about1) = true := by decide +kernel
theorem w_tables : (allAtoms (Jvm.Cond.code x code maxLocals ret :: tables_1)).before args0 about1 = true := by
  rw [allAtoms_all]
  show words1.all (fun c => c.before args0 about1) = true
  refine all_split ?_ w_codes
  rw [← List.take_append_drop 24 words1, List.all_append, w_t1, w_t2]
  rfl
set_option maxRecDepth 65536 in
theorem w_rest : rest_1_c.before args0 about1 = true := by decide +kernel
set_option maxRecDepth 65536 in
theorem w_case : (Jvm.Cond.and given_1 narrow_1).before args0 about1 = true := by decide +kernel
theorem w_applies : (headSpec (Jvm.Cond.code x code maxLocals ret :: tables_1) room_1).applies x e0.platform about1 = true :=
  (Spec.applies_iff w_frames).mpr ⟨w_running, w_runnable, w_alone, w_named, w_hears, w_ripe, w_room, w_tables⟩
theorem atStart : AtStart classFile x code maxLocals ret World_1 tables_1 room_1 Calls_1 rest_1 Pre_1 launch0 p0 e0 about1 theMethod args0 below0 :=
  ⟨lists_1, trivial, launch0.admits_env _ _ _, launch0.least_env, fairChoices_fair.cas, fairChoices_fair.clock, w_frames, w_args, w_heap, w_applies, trivial, w_rest, w_case⟩
end start1
theorem witness_1 : WitnessClaimed_1 := ⟨start1.p0, start1.e0, start1.about1, start1.theMethod, start1.args0, start1.below0, start1.atStart⟩
end Jvm.Pilot.@@N@@
