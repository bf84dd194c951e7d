import JvmDerived
import JvmDerived.Pilot.@@N@@Statement
import JvmDerived.Pilot.@@N@@Code
set_option linter.unusedVariables false
set_option linter.unusedSimpArgs false
namespace Jvm.RoadKit
open Sem ClassFile Op Lib Jvm.Stand Jvm.Free Jvm.LawKit
section New
variable {p : Program} {l : Launch} {e : Env} {R : Room} {s : State} {m : MethodId} {args : Array Value} {below : List Frame} {meth : Method} {c : Code} {T : State} {locs : List Loc} {cells slots : Nat}
theorem retI (X : Stand p l e R s m args below meth c T locs cells slots) (hx : p.tables.exec = Jvm.exec) {pc : Nat} {Ls : Array Slot} {z : Int32} {rest : List Value} (hret : meth.sig.returnType = some .int) (hd : decode c.code pc = .ok (.ireturn, 1)) {fs : List Frame}
    (hl : ∀ (f : JFrame) (acts : List Action), f.method = m → f.locked = none → f.entered = [] → (doReturn e (T.setTop f) acts (some (.int z))).1 = T.setFrames fs) : Steps p.tables e below (T.setTop (mkF m pc Ls (.int z :: rest))) (T.setFrames fs) := by
  have hm' : T.vm.method? m = some meth := X.method'
  have hn : narrow .int (.int z) = .int z := rfl
  show Steps p.tables e below (T.setTop { method := m, pc := pc, locals := Ls, stack := _ :: rest, locked := none }) _
  jvm_step X.here [X.here.top, hx, hd, hm', hret, hn]
  first | (intro acts; rw [hl _ acts rfl rfl rfl]) | rw [hl _ _ rfl rfl rfl]
  exact Steps.refl _
end New
end Jvm.RoadKit
namespace Jvm.Pilot.@@N@@
open Jvm Jvm.ClassFile Sem Op Lib Jvm.Free Jvm.Stand Jvm.LawKit Jvm.RoadKit Bundle Jvm.Pilot.@@N@@.Jvm.D
theorem own_oz {Z : State} {n0 : Nat} {h : Heap} (O : Old Z n0 h) : n0 ≤ h.size := by
  rw [← O.1]; exact O.2.1
theorem own_lsw {tb : Tables} [Ours tb] {e : Env} {below : List Frame} {T target : State} {m : MethodId} {c : Code} {g : JFrame} (h : At T m c below) (hx : tb.exec = Jvm.exec) (hg : g.method = m) {dflt : Int} {prs : Array (Int × Int)} {len : Nat} {o : Int} {pc0 pc' : Nat} (hpc : g.pc = pc0) (hd : decode c.code g.pc = .ok (.lookupswitch dflt prs, len)) {i : Int32} {rest : List Value} (hs : g.stack = .int i :: rest)
    (hsort : (prs.toList.zip (prs.toList.drop 1)).all (fun (a, next) => a.1 < next.1) = true) (hoff : lookupswitch.offset prs.toList dflt i.toInt = o) (ho : 0 ≤ (pc0 : Int) + o) (hp : ((pc0 : Int) + o).toNat = pc')
    (hr : Steps tb e below (T.setTop { g with pc := pc', stack := rest }) target) : Steps tb e below (T.setTop g) target := by
  subst hg hpc hp
  jvm_step h [h.top, hx, hd, hs, hoff, ho, lookupswitch.wp_chain]
  exact ⟨by simpa using hsort, hr⟩
section Nums
variable {x k : Int32} {n : Int}
theorem own_lt1 (hk : k.toInt = n) (h : x < k) : x.toInt < n := by rw [← hk]; exact Int32.lt_iff_toInt_lt.mp h
theorem own_lt2 (hk : k.toInt = n) (h : k < x) : n < x.toInt := by rw [← hk]; exact Int32.lt_iff_toInt_lt.mp h
theorem own_nlt1 (hk : k.toInt = n) (h : ¬ x < k) : n ≤ x.toInt := by rw [Int32.lt_iff_toInt_lt, hk] at h; omega
theorem own_nlt2 (hk : k.toInt = n) (h : ¬ k < x) : x.toInt ≤ n := by rw [Int32.lt_iff_toInt_lt, hk] at h; omega
theorem own_eq (hk : k.toInt = n) (h : x = k) : x.toInt = n := by rw [← hk, h]
theorem own_neq (hk : k.toInt = n) (h : ¬ x = k) : x.toInt ≠ n := fun q => h (Int32.toInt_inj.mp (by rw [hk, q]))
theorem own_glt1 (hk : k.toInt = n) (h : x.toInt < n) : x < k := Int32.lt_iff_toInt_lt.mpr (by rw [hk]; exact h)
theorem own_glt2 (hk : k.toInt = n) (h : n < x.toInt) : k < x := Int32.lt_iff_toInt_lt.mpr (by rw [hk]; exact h)
theorem own_gnlt1 (hk : k.toInt = n) (h : n ≤ x.toInt) : ¬ x < k := fun q => by have := own_lt1 hk q; omega
theorem own_gnlt2 (hk : k.toInt = n) (h : x.toInt ≤ n) : ¬ k < x := fun q => by have := own_lt2 hk q; omega
theorem own_geq (hk : k.toInt = n) (h : x.toInt = n) : x = k := Int32.toInt_inj.mp (by rw [hk, h])
theorem own_gneq (hk : k.toInt = n) (h : x.toInt ≠ n) : ¬ x = k := fun q => h (own_eq hk q)
theorem own_and (hk : k.toInt = n) (h0 : 0 ≤ n) : 0 ≤ (x &&& k).toInt ∧ (x &&& k).toInt ≤ n := by have := c_and x k (by rw [hk]; exact h0); rw [hk] at this; exact this
theorem own_and2 (hk : k.toInt = n) (h0 : 0 ≤ n) : 0 ≤ (k &&& x).toInt ∧ (k &&& x).toInt ≤ n := by have := c_and' k x (by rw [hk]; exact h0); rw [hk] at this; exact this
theorem own_rem (hk : k.toInt = n) (h0 : 0 < n) (hx : 0 ≤ x.toInt) : 0 ≤ (x % k).toInt ∧ (x % k).toInt < n ∧ (x % k).toInt ≤ x.toInt := by
  have := (c_iremV x k).1 hx (by rw [hk]; exact h0); rw [hk] at this; exact ⟨this.1, this.2.1, this.2.2.1⟩
theorem own_add {lo hi : Int} (hk : k.toInt = n) (hx : lo ≤ x.toInt ∧ x.toInt ≤ hi) (h1 : -2147483648 ≤ lo + n) (h2 : hi + n < 2147483648) : lo + n ≤ (x + k).toInt ∧ (x + k).toInt ≤ hi + n := by
  have := c_iadd x k; have := rng32 (x + k); rw [hk] at *; omega
theorem own_add2 {lo hi : Int} (hk : k.toInt = n) (hx : lo ≤ x.toInt ∧ x.toInt ≤ hi) (h1 : -2147483648 ≤ lo + n) (h2 : hi + n < 2147483648) : lo + n ≤ (k + x).toInt ∧ (k + x).toInt ≤ hi + n := by
  have := c_iadd k x; have := rng32 (k + x); rw [hk] at *; omega
end Nums
theorem own_len {Z : State} {args : Array Value} {t : Term} {a : Addr} {c : Cell} {ty : FieldType} {n : Int32} (A : Arr Z Z.heap a c ty) (ev : t.eval args Z none [] Z = some (.ref a)) (h : (Term.length t).eval args Z none [] Z = some (.int n)) : c.slots.size < 2 ^ 31 ∧ c.slots.size.toInt32 = n := by
  have q := A.fin (Vm.Alike.refl _)
  by_cases z : c.slots.size < 2 ^ 31
  · rw [len_f ev q z] at h; exact ⟨z, Value.int.inj (Option.some.inj h)⟩
  · simp [Term.eval, ev, q, z] at h
theorem own_selp {s : State} {args : Array Value} {y z : MethodName} {C : String} (w : (Cond.selects C z z).before args s = true) (hc : z.cls = y.cls) (hp : s.PrivateAt y) (hi : (Cond.instanceMethod y).before args s = true) (hy : y.cls ≠ "java/lang/invoke/MethodHandle" ∧ y.cls ≠ "java/lang/invoke/VarHandle") : (Cond.selects y.cls y y).before args s = true := by
  obtain ⟨c2, r2, m2, -, -, q3, -, kP, hkP, hkPi⟩ := Cond.selects_spec w
  exact selects_self_of_private (by rw [← hc]; exact findClass_of_methodNamed q3) hkP hkPi hp hi hy
theorem own_max64 (x : Int64) : ¬ (9223372036854775807 : Int64) < x := fun h => by have := rng64 x; rw [Int64.lt_iff_toInt_lt, show (9223372036854775807 : Int64).toInt = 9223372036854775807 by decide] at h; omega
theorem own_min64 (x : Int64) : ¬ x < (-9223372036854775808 : Int64) := fun h => by have := rng64 x; rw [Int64.lt_iff_toInt_lt, show (-9223372036854775808 : Int64).toInt = -9223372036854775808 by decide] at h; omega
theorem own_root {Z : State} {a0 : Array Value} {O K : String} {n : Nat} (w : (Cond.noSuperclass O).before a0 Z = true) (wk : (Cond.instantiable K n).before a0 Z = true) (hn : O ≠ K) : NS Z O K := by
  obtain ⟨c, k, h1, h2, h3, -, -⟩ := Cond.noSuperclass_spec w
  obtain ⟨t, kt, g1, -⟩ := Cond.instantiable_spec wk
  have ne := ids_ne h1 g1 hn
  refine ⟨c, t, h1, g1, fun fuel => ?_⟩
  cases fuel with
  | zero => rfl
  | succ f => simp [Vm.isSubclassAux, ne, h2, h3]
theorem own_no {Z : State} {a0 : Array Value} {C S K : String} {n : Nat} (w : (Cond.superclass C S).before a0 Z = true) (wk : (Cond.instantiable K n).before a0 Z = true) (q : NS Z C K) (hn : C ≠ K) : ∃ c t, Z.vm.findClass C = some c ∧ Z.vm.findClass K = some t ∧ Z.vm.assignable c t = false := by
  obtain ⟨c, t, h0, g0, n3⟩ := q
  obtain ⟨p, k, kp, h1, h2, h3, h4, h5, -, h7⟩ := Cond.superclass_spec h0 w
  obtain ⟨t', k', g1, g2, g3, g4, -⟩ := Cond.instantiable_spec wk
  cases g0.symm.trans g1
  have ne := ids_ne h0 g0 hn
  have g5 : k'.isInterface = false := by simp only [Bool.or_eq_false_iff] at g4; exact g4.1
  refine ⟨c, t, h0, g0, ?_⟩
  show Z.vm.assignableAux (255 + 1) c t = false
  simp [Vm.assignableAux, ne, h2, g2, h5, g3, g5, Vm.isSubclass, n3]
theorem own_eqR {Z : State} {args : Array Value} {a b : Term} {idx : List Nat} {w : Addr} (hb : b.eval args Z none idx Z = some (.ref w)) (h : (Cond.eq a b).value args Z none Z idx = some true) : a.eval args Z none idx Z = some (.ref w) := by
  simp only [Cond.value, hb] at h
  cases ht : a.eval args Z none idx Z with
  | none => simp [ht] at h
  | some x => cases x <;> simp [ht] at h ⊢; exact h
theorem own_cache (q : Int64) (h1 : ¬ q < (-128 : Int64)) (h2 : ¬ (127 : Int64) < q) : ¬ ((q.toInt32) + (128 : Int32)) < 0 ∧ ((q.toInt32) + (128 : Int32)) < (256 : Int32) := by
  rw [Int64.lt_iff_toInt_lt, show (-128 : Int64).toInt = -128 by decide] at h1
  rw [Int64.lt_iff_toInt_lt, show (127 : Int64).toInt = 127 by decide] at h2
  have e1 := c_l2i q
  have e2 := rng32 q.toInt32
  have e3 : q.toInt32.toInt = q.toInt := by omega
  have e4 := c_iadd q.toInt32 (128 : Int32)
  have e5 := rng32 (q.toInt32 + (128 : Int32))
  rw [show (128 : Int32).toInt = 128 by decide] at e4
  rw [Int32.lt_iff_toInt_lt, Int32.lt_iff_toInt_lt, show (0 : Int32).toInt = 0 by decide, show (256 : Int32).toInt = 256 by decide]
  omega
def GW (Z : State) (w1 : Addr) (cw1 : Cell) : Prop :=
  (Sta Z Z.heap "java/lang/Long$LongCache" "cache" "[Ljava/lang/Long;" (.ref w1))
  ∧ (Exa Z Z.heap w1 "[Ljava/lang/Long;")
  ∧ (Bxs Z w1 cw1 "java/lang/Long" "J" (256 : Int32) (fun j => .long ((j - (128 : Int32)).toInt64)))
def Q0 (n0 : Nat) (v : Option Value) (h : Heap) (L : List Loc) : Prop := v = some (.int (1 : Int32)) ∧ Fr n0 L
theorem d0_0 : decode prog_21_method_1_code 0 = .ok (.aload_n 0, 1) := by decide +kernel
theorem d0_1 : decode prog_21_method_1_code 1 = .ok (.invokespecial 1, 3) := by decide +kernel
theorem d0_4 : decode prog_21_method_1_code 4 = .ok (.aload_n 0, 1) := by decide +kernel
theorem d0_5 : decode prog_21_method_1_code 5 = .ok (.lload_n 1, 1) := by decide +kernel
theorem d0_6 : decode prog_21_method_1_code 6 = .ok (.putfield 7, 3) := by decide +kernel
theorem d0_9 : decode prog_21_method_1_code 9 = .ok (.aload_n 0, 1) := by decide +kernel
theorem d0_10 : decode prog_21_method_1_code 10 = .ok (.lload_n 3, 1) := by decide +kernel
theorem d0_11 : decode prog_21_method_1_code 11 = .ok (.putfield 13, 3) := by decide +kernel
theorem d0_14 : decode prog_21_method_1_code 14 = .ok (.return_, 1) := by decide +kernel
theorem pn0 : plainName "com/example/sablegrid/sablegrid/model/WriteId" = true := by first | (simp [plainName, overriddenIn]; done) | decide +kernel
theorem ef1 (m : MethodId) (x0 : Addr) (x1 : Int64) (x2 : Int64) : entryFrame m #[(.ref x0), (.long x1), (.long x2)] 5 = mkF m 0 #[.val (.ref x0), .val (.long x1), .second, .val (.long x2), .second] [] := by first | (simp [entryFrame, mkF, argsToLocals, Value.category]; done) | rfl
def Q1 (Z : State) (o1 : Addr) (q2 : Int64) (q3 : Int64) (h0 : Heap) (n0 : Nat) (v : Option Value) (h : Heap) (L : List Loc) : Prop :=
  (v = none ∧ Fr n0 L ∧ Keep h0 h [o1] ∧ (Exa Z h o1 "com/example/sablegrid/sablegrid/model/WriteId") ∧ (Fld Z h o1 "com/example/sablegrid/sablegrid/model/WriteId" "origin" "J" (.long q2)) ∧ (Fld Z h o1 "com/example/sablegrid/sablegrid/model/WriteId" "sequence" "J" (.long q3)))
set_option maxRecDepth 65536 in
set_option maxHeartbeats 40000000 in
theorem rm1 (l : Launch) (Z : State) (a0 : Array Value) (hw : ∀ d ∈ tables_1, d.before a0 Z = true) (ws : List Jvm.Cond) (o1 : Addr) (q2 : Int64) (q3 : Int64) (h0 : Heap) (n0 : Nat) (O0 : Old Z n0 h0) (g_o1 : n0 ≤ o1) (P0 : Exa Z h0 o1 "com/example/sablegrid/sablegrid/model/WriteId") (P1 : Fld Z h0 o1 "com/example/sablegrid/sablegrid/model/WriteId" "origin" "J" (.long (0 : Int64))) (P2 : Fld Z h0 o1 "com/example/sablegrid/sablegrid/model/WriteId" "sequence" "J" (.long (0 : Int64))) :
    MetFree l (⟨"com/example/sablegrid/sablegrid/model/WriteId", "<init>", "(JJ)V"⟩ : MethodName) (head1 (Jvm.Cond.code (⟨"com/example/sablegrid/sablegrid/model/WriteId", "<init>", "(JJ)V"⟩ : MethodName) prog_21_method_1_code 5 none :: ws) ({ frames := 1, cells := 0, slots := 0, locals := 12 } : Room)) (fun a U => a = #[(.ref o1), (.long q2), (.long q3)] ∧ Z.Warmed39 U.vm ∧ U.heap = h0) (fun _ _ _ _ _ => True) (fun _ U o U' => ∃ v L, o = .returned v ∧ Q1 Z o1 q2 q3 h0 n0 v U'.heap L ∧ FrameEnd U o U' L ({ frames := 1, cells := 0, slots := 0, locals := 12 } : Room).cells ({ frames := 1, cells := 0, slots := 0, locals := 12 } : Room).slots) := by
  refine MetFree.of_bodySF (plainFor_of_name pn0) hisR ?_
  intro p e s m args below meth c s₁ Bd hml0 hP hK
  obtain ⟨rfl, hZ, hh⟩ := hP
  have hx := Bd.exec
  have hby := Bd.bytes
  have hml : c.maxLocals = 5 := hml0
  have hown : s.vm.findClass "com/example/sablegrid/sablegrid/model/WriteId" = some m.cls := findClass_of_methodNamed Bd.named
  have hnm := (name_of_methodNamed Bd.named Bd.method).1
  have hret := Bd.returns
  have hlk : meth.locks = false := BodyLoose.notSynchronized Bd
  have X0 : Stand p l e ({ frames := 1, cells := 0, slots := 0, locals := 12 } : Room) s m #[(.ref o1), (.long q2), (.long q3)] below meth c s₁ [] 0 0 := Stand.of_body Bd
  have e0 : s₁.heap = h0 := by rw [← hh, Bd.state]; rfl
  have N0 := Fr.nil n0
  have pre0 : ∀ t, Steps p.tables e below (s₁.setTop (mkF m 0 #[.val (.ref o1), .val (.long q2), .second, .val (.long q3), .second] [])) t → Steps p.tables e below (s₁.setTop (entryFrame m #[(.ref o1), (.long q2), (.long q3)] 5)) t := fun t k => castTop (ef1 m o1 q2 q3) k
  obtain ⟨T1, X1, e1, st1⟩ := initO X0 hx hZ hown (hw _ (List.mem_of_getElem? (i := 6) rfl)) (hw _ (List.mem_of_getElem? (i := 7) rfl)) (hw _ (List.mem_of_getElem? (i := 8) rfl)) e0 (g := (mkF m 1 #[.val (.ref o1), .val (.long q2), .second, .val (.long q3), .second] [(.ref o1)])) rfl (by rw [hml]; rfl) rfl (hb hby d0_1) (by decide) (W := 0) (by show 2 * 0 + _ ≤ _; exact Nat.le_of_eq rfl) (by decide)
  obtain ⟨T2, h2, X2, e2, W2, st2⟩ := putF X1 hx hZ hown (host := "") (Or.inl (hw _ (List.mem_of_getElem? (i := 9) rfl))) Via.refl e1 P1 P0 (Or.inr ⟨(hw _ (List.mem_of_getElem? (i := 10) rfl)), rfl, hnm⟩) (hw _ (List.mem_of_getElem? (i := 1) rfl)) (ty := .long) (by decide) rfl rfl (g := (mkF m 6 #[.val (.ref o1), .val (.long q2), .second, .val (.long q3), .second] [(.long q2), (.ref o1)])) rfl rfl (hb hby d0_6)
  have N2 := Fr.snoc X2 N0 g_o1
  have Fw2 := P1.same W2
  have M2 : h0.size ≤ h2.size := Nat.le_trans (Nat.le_refl _) (Nat.le_of_eq W2.size.symm)
  have O2 := Old.wr O0 W2 g_o1
  have f3 := (P2.other W2 (Or.inr (slot_ne (Or.inr (hw _ (List.mem_of_getElem? (i := 12) rfl))) (Or.inr (hw _ (List.mem_of_getElem? (i := 10) rfl))) (by decide) (t := .long) (t' := .long) (by decide) (by decide))))
  have f4 := (P0.wr W2)
  obtain ⟨T5, h5, X5, e5, W5, st5⟩ := putF X2 hx hZ hown (host := "") (Or.inl (hw _ (List.mem_of_getElem? (i := 11) rfl))) Via.refl e2 f3 f4 (Or.inr ⟨(hw _ (List.mem_of_getElem? (i := 12) rfl)), rfl, hnm⟩) (hw _ (List.mem_of_getElem? (i := 1) rfl)) (ty := .long) (by decide) rfl rfl (g := (mkF m 11 #[.val (.ref o1), .val (.long q2), .second, .val (.long q3), .second] [(.long q3), (.ref o1)])) rfl rfl (hb hby d0_11)
  have N5 := Fr.snoc X5 N2 g_o1
  have Fw5 := f3.same W5
  have M5 : h0.size ≤ h5.size := Nat.le_trans M2 (Nat.le_of_eq W5.size.symm)
  have O5 := Old.wr O2 W5 g_o1
  obtain ⟨fs, hr, hrun, hended, hW, hsame⟩ := X5.leave (v := none) (fun _ => rfl)
  have KL : Keep h0 h5 [o1] := (((Keep.refl h0 [o1]).wr W2 (Or.inl (List.mem_of_getElem? (i := 0) rfl))).wr W5 (Or.inl (List.mem_of_getElem? (i := 0) rfl)))
  have f6 := (f4.wr W5)
  have f7 := (Fw2.other W5 (Or.inr (slot_ne (Or.inr (hw _ (List.mem_of_getElem? (i := 10) rfl))) (Or.inr (hw _ (List.mem_of_getElem? (i := 12) rfl))) (by decide) (t := .long) (t' := .long) (by decide) (by decide))))
  refine ⟨_, _, pre0 _ ?_, hrun, hended, _, _, rfl, ?_, ⟨_, rfl⟩, hW, hsame.mono (by decide) (by decide)⟩
  ·
    show Steps p.tables e below (s₁.setTop (mkF m 0 #[.val (.ref o1), .val (.long q2), .second, .val (.long q3), .second] [])) _
    refine XS.aloadN X0.here hx rfl (hb hby d0_0) rfl rfl ?_
    show Steps p.tables e below (s₁.setTop (mkF m 1 #[.val (.ref o1), .val (.long q2), .second, .val (.long q3), .second] [(.ref o1)])) _
    refine st1 _ ?_
    show Steps p.tables e below (T1.setTop (mkF m 4 #[.val (.ref o1), .val (.long q2), .second, .val (.long q3), .second] [])) _
    refine XS.aloadN X1.here hx rfl (hb hby d0_4) rfl rfl ?_
    show Steps p.tables e below (T1.setTop (mkF m 5 #[.val (.ref o1), .val (.long q2), .second, .val (.long q3), .second] [(.ref o1)])) _
    refine XS.lloadN X1.here hx rfl (hb hby d0_5) rfl ?_
    show Steps p.tables e below (T1.setTop (mkF m 6 #[.val (.ref o1), .val (.long q2), .second, .val (.long q3), .second] [(.long q2), (.ref o1)])) _
    refine st2 _ ?_
    show Steps p.tables e below (T2.setTop (mkF m 9 #[.val (.ref o1), .val (.long q2), .second, .val (.long q3), .second] [])) _
    refine XS.aloadN X2.here hx rfl (hb hby d0_9) rfl rfl ?_
    show Steps p.tables e below (T2.setTop (mkF m 10 #[.val (.ref o1), .val (.long q2), .second, .val (.long q3), .second] [(.ref o1)])) _
    refine XS.lloadN X2.here hx rfl (hb hby d0_10) rfl ?_
    show Steps p.tables e below (T2.setTop (mkF m 11 #[.val (.ref o1), .val (.long q2), .second, .val (.long q3), .second] [(.long q3), (.ref o1)])) _
    refine st5 _ ?_
    show Steps p.tables e below (T5.setTop (mkF m 14 #[.val (.ref o1), .val (.long q2), .second, .val (.long q3), .second] [])) _
    exact X5.returnOut hx hret (hb hby d0_14) hr
  ·
    show Q1 Z o1 q2 q3 h0 n0 _ T5.heap _
    rw [e5]
    exact ⟨rfl, N5, KL, f6, f7, Fw5⟩
theorem pd0 : parseMethodDescriptor "(JJ)V" = some ⟨[.long, .long], none⟩ := by decide +kernel
theorem d1_0 : decode prog_21_method_4_code 0 = .ok (.aload_n 1, 1) := by decide +kernel
theorem d1_1 : decode prog_21_method_4_code 1 = .ok (.instanceof 8, 3) := by decide +kernel
theorem d1_4 : decode prog_21_method_4_code 4 = .ok (.ifCond .eq 37, 3) := by decide +kernel
theorem d1_7 : decode prog_21_method_4_code 7 = .ok (.aload_n 0, 1) := by decide +kernel
theorem d1_8 : decode prog_21_method_4_code 8 = .ok (.getfield 7, 3) := by decide +kernel
theorem d1_11 : decode prog_21_method_4_code 11 = .ok (.aload_n 1, 1) := by decide +kernel
theorem d1_12 : decode prog_21_method_4_code 12 = .ok (.checkcast 8, 3) := by decide +kernel
theorem d1_15 : decode prog_21_method_4_code 15 = .ok (.getfield 7, 3) := by decide +kernel
theorem d1_18 : decode prog_21_method_4_code 18 = .ok (.lcmp, 1) := by decide +kernel
theorem d1_19 : decode prog_21_method_4_code 19 = .ok (.ifCond .ne 22, 3) := by decide +kernel
theorem d1_22 : decode prog_21_method_4_code 22 = .ok (.aload_n 0, 1) := by decide +kernel
theorem d1_23 : decode prog_21_method_4_code 23 = .ok (.getfield 13, 3) := by decide +kernel
theorem d1_26 : decode prog_21_method_4_code 26 = .ok (.aload_n 1, 1) := by decide +kernel
theorem d1_27 : decode prog_21_method_4_code 27 = .ok (.checkcast 8, 3) := by decide +kernel
theorem d1_30 : decode prog_21_method_4_code 30 = .ok (.getfield 13, 3) := by decide +kernel
theorem d1_33 : decode prog_21_method_4_code 33 = .ok (.lcmp, 1) := by decide +kernel
theorem d1_34 : decode prog_21_method_4_code 34 = .ok (.ifCond .ne 7, 3) := by decide +kernel
theorem d1_37 : decode prog_21_method_4_code 37 = .ok (.iconst 1, 1) := by decide +kernel
theorem d1_38 : decode prog_21_method_4_code 38 = .ok (.goto 4, 3) := by decide +kernel
theorem d1_42 : decode prog_21_method_4_code 42 = .ok (.ireturn, 1) := by decide +kernel
theorem d1_41 : decode prog_21_method_4_code 41 = .ok (.iconst 0, 1) := by decide +kernel
theorem ef2 (m : MethodId) (x0 : Addr) (x1 : Addr) : entryFrame m #[(.ref x0), (.ref x1)] 2 = mkF m 0 #[.val (.ref x0), .val (.ref x1)] [] := by first | (simp [entryFrame, mkF, argsToLocals, Value.category]; done) | rfl
def Q2 (Z : State) (o1 : Addr) (o2 : Addr) (q3 : Int64) (q4 : Int64) (q5 : Int64) (q6 : Int64) (h0 : Heap) (n0 : Nat) (v : Option Value) (h : Heap) (L : List Loc) : Prop :=
  ((q3 = q5) ∧ (q4 = q6) ∧ v = some (.int (1 : Int32)) ∧ Fr n0 L ∧ h = h0)
  ∨ ((q3 = q5) ∧ (¬ (q4 = q6)) ∧ v = some (.int (0 : Int32)) ∧ Fr n0 L ∧ h = h0)
  ∨ ((¬ (q3 = q5)) ∧ v = some (.int (0 : Int32)) ∧ Fr n0 L ∧ h = h0)
set_option maxRecDepth 65536 in
set_option maxHeartbeats 40000000 in
theorem rm2 (l : Launch) (Z : State) (a0 : Array Value) (hw : ∀ d ∈ tables_1, d.before a0 Z = true) (ws : List Jvm.Cond) (o1 : Addr) (o2 : Addr) (q3 : Int64) (q4 : Int64) (q5 : Int64) (q6 : Int64) (h0 : Heap) (n0 : Nat) (O0 : Old Z n0 h0) (g_o1 : n0 ≤ o1) (g_o2 : n0 ≤ o2) (P1 : Fld Z h0 o1 "com/example/sablegrid/sablegrid/model/WriteId" "origin" "J" (.long q3)) (P2 : Fld Z h0 o1 "com/example/sablegrid/sablegrid/model/WriteId" "sequence" "J" (.long q4)) (P3 : Exa Z h0 o2 "com/example/sablegrid/sablegrid/model/WriteId") (P4 : Fld Z h0 o2 "com/example/sablegrid/sablegrid/model/WriteId" "origin" "J" (.long q5)) (P5 : Fld Z h0 o2 "com/example/sablegrid/sablegrid/model/WriteId" "sequence" "J" (.long q6)) :
    MetFree l (⟨"com/example/sablegrid/sablegrid/model/WriteId", "equals", "(Ljava/lang/Object;)Z"⟩ : MethodName) (head1 (Jvm.Cond.code (⟨"com/example/sablegrid/sablegrid/model/WriteId", "equals", "(Ljava/lang/Object;)Z"⟩ : MethodName) prog_21_method_4_code 2 (some .boolean) :: ws) ({ frames := 0, cells := 0, slots := 0, locals := 0 } : Room)) (fun a U => a = #[(.ref o1), (.ref o2)] ∧ Z.Warmed39 U.vm ∧ U.heap = h0) (fun _ _ _ _ _ => True) (fun _ U o U' => ∃ v L, o = .returned v ∧ Q2 Z o1 o2 q3 q4 q5 q6 h0 n0 v U'.heap L ∧ FrameEnd U o U' L ({ frames := 0, cells := 0, slots := 0, locals := 0 } : Room).cells ({ frames := 0, cells := 0, slots := 0, locals := 0 } : Room).slots) := by
  refine MetFree.of_bodySF (plainFor_of_name pn0) hisR ?_
  intro p e s m args below meth c s₁ Bd hml0 hP hK
  obtain ⟨rfl, hZ, hh⟩ := hP
  have hx := Bd.exec
  have hby := Bd.bytes
  have hml : c.maxLocals = 2 := hml0
  have hown : s.vm.findClass "com/example/sablegrid/sablegrid/model/WriteId" = some m.cls := findClass_of_methodNamed Bd.named
  have hnm := (name_of_methodNamed Bd.named Bd.method).1
  have hret := Bd.returns
  have hlk : meth.locks = false := BodyLoose.notSynchronized Bd
  have X0 : Stand p l e ({ frames := 0, cells := 0, slots := 0, locals := 0 } : Room) s m #[(.ref o1), (.ref o2)] below meth c s₁ [] 0 0 := Stand.of_body Bd
  have e0 : s₁.heap = h0 := by rw [← hh, Bd.state]; rfl
  have N0 := Fr.nil n0
  have pre0 : ∀ t, Steps p.tables e below (s₁.setTop (mkF m 0 #[.val (.ref o1), .val (.ref o2)] [])) t → Steps p.tables e below (s₁.setTop (entryFrame m #[(.ref o1), (.ref o2)] 2)) t := fun t k => castTop (ef2 m o1 o2) k
  obtain ⟨T1, X1, e1, st1⟩ := instY X0 hx hZ hown (hw _ (List.mem_of_getElem? (i := 18) rfl)) e0 (Ins.self P3) (g := (mkF m 1 #[.val (.ref o1), .val (.ref o2)] [(.ref o2)])) rfl rfl (hb hby d1_1)
  obtain ⟨T2, X2, e2, st2⟩ := getF X1 hx hZ hown (host := "") (Or.inl (hw _ (List.mem_of_getElem? (i := 9) rfl))) Via.refl e1 P1 (g := (mkF m 8 #[.val (.ref o1), .val (.ref o2)] [(.ref o1)])) rfl rfl (hb hby d1_8)
  obtain ⟨T3, X3, e3, st3⟩ := castY X2 hx hZ hown (hw _ (List.mem_of_getElem? (i := 18) rfl)) e2 (Ins.self P3) (g := (mkF m 12 #[.val (.ref o1), .val (.ref o2)] [(.ref o2), (.long q3)])) rfl rfl (hb hby d1_12)
  obtain ⟨T4, X4, e4, st4⟩ := getF X3 hx hZ hown (host := "") (Or.inl (hw _ (List.mem_of_getElem? (i := 9) rfl))) Via.refl e3 P4 (g := (mkF m 15 #[.val (.ref o1), .val (.ref o2)] [(.ref o2), (.long q3)])) rfl rfl (hb hby d1_15)
  have pre5 : ∀ t, Steps p.tables e below (T4.setTop (mkF m 19 #[.val (.ref o1), .val (.ref o2)] [(.int (lcmpW q3 q5))])) t → Steps p.tables e below (s₁.setTop (entryFrame m #[(.ref o1), (.ref o2)] 2)) t := fun t k => by
    refine pre0 _ ?_
    show Steps p.tables e below (s₁.setTop (mkF m 0 #[.val (.ref o1), .val (.ref o2)] [])) _
    refine XS.aloadN X0.here hx rfl (hb hby d1_0) rfl rfl ?_
    show Steps p.tables e below (s₁.setTop (mkF m 1 #[.val (.ref o1), .val (.ref o2)] [(.ref o2)])) _
    refine st1 _ ?_
    show Steps p.tables e below (T1.setTop (mkF m 4 #[.val (.ref o1), .val (.ref o2)] [(.int (1 : Int32))])) _
    refine XS.ifNo X1.here hx rfl (hb hby d1_4) rfl ((if0 _ _).trans (feq (by decide : ¬ ((1 : Int32) = (0 : Int32)))).1) ?_
    show Steps p.tables e below (T1.setTop (mkF m 7 #[.val (.ref o1), .val (.ref o2)] [])) _
    refine XS.aloadN X1.here hx rfl (hb hby d1_7) rfl rfl ?_
    show Steps p.tables e below (T1.setTop (mkF m 8 #[.val (.ref o1), .val (.ref o2)] [(.ref o1)])) _
    refine st2 _ ?_
    show Steps p.tables e below (T2.setTop (mkF m 11 #[.val (.ref o1), .val (.ref o2)] [(.long q3)])) _
    refine XS.aloadN X2.here hx rfl (hb hby d1_11) rfl rfl ?_
    show Steps p.tables e below (T2.setTop (mkF m 12 #[.val (.ref o1), .val (.ref o2)] [(.ref o2), (.long q3)])) _
    refine st3 _ ?_
    show Steps p.tables e below (T3.setTop (mkF m 15 #[.val (.ref o1), .val (.ref o2)] [(.ref o2), (.long q3)])) _
    refine st4 _ ?_
    show Steps p.tables e below (T4.setTop (mkF m 18 #[.val (.ref o1), .val (.ref o2)] [(.long q5), (.long q3)])) _
    refine XS.lcmp X4.here hx rfl (hb hby d1_18) rfl ?_
    exact k
  by_cases hc6 : q3 = q5
  ·
    obtain ⟨T7, X7, e7, st7⟩ := getF X4 hx hZ hown (host := "") (Or.inl (hw _ (List.mem_of_getElem? (i := 11) rfl))) Via.refl e4 P2 (g := (mkF m 23 #[.val (.ref o1), .val (.ref o2)] [(.ref o1)])) rfl rfl (hb hby d1_23)
    obtain ⟨T8, X8, e8, st8⟩ := castY X7 hx hZ hown (hw _ (List.mem_of_getElem? (i := 18) rfl)) e7 (Ins.self P3) (g := (mkF m 27 #[.val (.ref o1), .val (.ref o2)] [(.ref o2), (.long q4)])) rfl rfl (hb hby d1_27)
    obtain ⟨T9, X9, e9, st9⟩ := getF X8 hx hZ hown (host := "") (Or.inl (hw _ (List.mem_of_getElem? (i := 11) rfl))) Via.refl e8 P5 (g := (mkF m 30 #[.val (.ref o1), .val (.ref o2)] [(.ref o2), (.long q4)])) rfl rfl (hb hby d1_30)
    have pre10 : ∀ t, Steps p.tables e below (T9.setTop (mkF m 34 #[.val (.ref o1), .val (.ref o2)] [(.int (lcmpW q4 q6))])) t → Steps p.tables e below (s₁.setTop (entryFrame m #[(.ref o1), (.ref o2)] 2)) t := fun t k => by
      refine pre5 _ ?_
      show Steps p.tables e below (T4.setTop (mkF m 19 #[.val (.ref o1), .val (.ref o2)] [(.int (lcmpW q3 q5))])) _
      refine XS.ifNo X4.here hx rfl (hb hby d1_19) rfl ((if0 _ _).trans (teq ((lw_eq _ _).mpr hc6)).2) ?_
      show Steps p.tables e below (T4.setTop (mkF m 22 #[.val (.ref o1), .val (.ref o2)] [])) _
      refine XS.aloadN X4.here hx rfl (hb hby d1_22) rfl rfl ?_
      show Steps p.tables e below (T4.setTop (mkF m 23 #[.val (.ref o1), .val (.ref o2)] [(.ref o1)])) _
      refine st7 _ ?_
      show Steps p.tables e below (T7.setTop (mkF m 26 #[.val (.ref o1), .val (.ref o2)] [(.long q4)])) _
      refine XS.aloadN X7.here hx rfl (hb hby d1_26) rfl rfl ?_
      show Steps p.tables e below (T7.setTop (mkF m 27 #[.val (.ref o1), .val (.ref o2)] [(.ref o2), (.long q4)])) _
      refine st8 _ ?_
      show Steps p.tables e below (T8.setTop (mkF m 30 #[.val (.ref o1), .val (.ref o2)] [(.ref o2), (.long q4)])) _
      refine st9 _ ?_
      show Steps p.tables e below (T9.setTop (mkF m 33 #[.val (.ref o1), .val (.ref o2)] [(.long q6), (.long q4)])) _
      refine XS.lcmp X9.here hx rfl (hb hby d1_33) rfl ?_
      exact k
    by_cases hc11 : q4 = q6
    ·
      obtain ⟨fs, hr, hrun, hended, hW, hsame⟩ := X9.leave (v := some (.int (1 : Int32))) (fun h => by rw [hret] at h; cases h)
      refine ⟨_, _, pre10 _ ?_, hrun, hended, _, _, rfl, ?_, ⟨_, rfl⟩, hW, hsame.mono (by decide) (by decide)⟩
      ·
        show Steps p.tables e below (T9.setTop (mkF m 34 #[.val (.ref o1), .val (.ref o2)] [(.int (lcmpW q4 q6))])) _
        refine XS.ifNo X9.here hx rfl (hb hby d1_34) rfl ((if0 _ _).trans (teq ((lw_eq _ _).mpr hc11)).2) ?_
        show Steps p.tables e below (T9.setTop (mkF m 37 #[.val (.ref o1), .val (.ref o2)] [])) _
        refine XS.iconst X9.here hx rfl (hb hby d1_37) ?_
        show Steps p.tables e below (T9.setTop (mkF m 38 #[.val (.ref o1), .val (.ref o2)] [(.int (1 : Int32))])) _
        refine XS.goto X9.here hx rfl (pc0 := 38) (pc' := 42) rfl (hb hby d1_38) (by decide) (by decide) ?_
        show Steps p.tables e below (T9.setTop (mkF m 42 #[.val (.ref o1), .val (.ref o2)] [(.int (1 : Int32))])) _
        exact retN X9 hx (t := .boolean) hret (by simp) (hb hby d1_42) hr
      ·
        show Q2 Z o1 o2 q3 q4 q5 q6 h0 n0 _ T9.heap _
        rw [e9]
        exact (Or.inl ⟨hc6, hc11, rfl, N0, rfl⟩)
    ·
      obtain ⟨fs, hr, hrun, hended, hW, hsame⟩ := X9.leave (v := some (.int (0 : Int32))) (fun h => by rw [hret] at h; cases h)
      refine ⟨_, _, pre10 _ ?_, hrun, hended, _, _, rfl, ?_, ⟨_, rfl⟩, hW, hsame.mono (by decide) (by decide)⟩
      ·
        show Steps p.tables e below (T9.setTop (mkF m 34 #[.val (.ref o1), .val (.ref o2)] [(.int (lcmpW q4 q6))])) _
        refine XS.ifYes X9.here hx rfl (pc0 := 34) (pc' := 41) rfl (hb hby d1_34) rfl ((if0 _ _).trans (feq (fun q => hc11 ((lw_eq _ _).mp q))).2) (by decide) (by decide) ?_
        show Steps p.tables e below (T9.setTop (mkF m 41 #[.val (.ref o1), .val (.ref o2)] [])) _
        refine XS.iconst X9.here hx rfl (hb hby d1_41) ?_
        show Steps p.tables e below (T9.setTop (mkF m 42 #[.val (.ref o1), .val (.ref o2)] [(.int (0 : Int32))])) _
        exact retN X9 hx (t := .boolean) hret (by simp) (hb hby d1_42) hr
      ·
        show Q2 Z o1 o2 q3 q4 q5 q6 h0 n0 _ T9.heap _
        rw [e9]
        exact (Or.inr (Or.inl ⟨hc6, hc11, rfl, N0, rfl⟩))
  ·
    obtain ⟨fs, hr, hrun, hended, hW, hsame⟩ := X4.leave (v := some (.int (0 : Int32))) (fun h => by rw [hret] at h; cases h)
    refine ⟨_, _, pre5 _ ?_, hrun, hended, _, _, rfl, ?_, ⟨_, rfl⟩, hW, hsame.mono (by decide) (by decide)⟩
    ·
      show Steps p.tables e below (T4.setTop (mkF m 19 #[.val (.ref o1), .val (.ref o2)] [(.int (lcmpW q3 q5))])) _
      refine XS.ifYes X4.here hx rfl (pc0 := 19) (pc' := 41) rfl (hb hby d1_19) rfl ((if0 _ _).trans (feq (fun q => hc6 ((lw_eq _ _).mp q))).2) (by decide) (by decide) ?_
      show Steps p.tables e below (T4.setTop (mkF m 41 #[.val (.ref o1), .val (.ref o2)] [])) _
      refine XS.iconst X4.here hx rfl (hb hby d1_41) ?_
      show Steps p.tables e below (T4.setTop (mkF m 42 #[.val (.ref o1), .val (.ref o2)] [(.int (0 : Int32))])) _
      exact retN X4 hx (t := .boolean) hret (by simp) (hb hby d1_42) hr
    ·
      show Q2 Z o1 o2 q3 q4 q5 q6 h0 n0 _ T4.heap _
      rw [e4]
      exact (Or.inr (Or.inr ⟨hc6, rfl, N0, rfl⟩))
theorem pd1 : parseMethodDescriptor "(Ljava/lang/Object;)Z" = some ⟨[(.object "java/lang/Object")], some .boolean⟩ := by decide +kernel
theorem ef3 (m : MethodId) (x0 : Addr) : entryFrame m #[(.ref x0), .null] 2 = mkF m 0 #[.val (.ref x0), .val .null] [] := by first | (simp [entryFrame, mkF, argsToLocals, Value.category]; done) | rfl
def Q3 (Z : State) (o1 : Addr) (h0 : Heap) (n0 : Nat) (v : Option Value) (h : Heap) (L : List Loc) : Prop :=
  (v = some (.int (0 : Int32)) ∧ Fr n0 L ∧ h = h0)
set_option maxRecDepth 65536 in
set_option maxHeartbeats 40000000 in
theorem rm3 (l : Launch) (Z : State) (a0 : Array Value) (hw : ∀ d ∈ tables_1, d.before a0 Z = true) (ws : List Jvm.Cond) (o1 : Addr) (h0 : Heap) (n0 : Nat) (O0 : Old Z n0 h0) (g_o1 : n0 ≤ o1) :
    MetFree l (⟨"com/example/sablegrid/sablegrid/model/WriteId", "equals", "(Ljava/lang/Object;)Z"⟩ : MethodName) (head1 (Jvm.Cond.code (⟨"com/example/sablegrid/sablegrid/model/WriteId", "equals", "(Ljava/lang/Object;)Z"⟩ : MethodName) prog_21_method_4_code 2 (some .boolean) :: ws) ({ frames := 0, cells := 0, slots := 0, locals := 0 } : Room)) (fun a U => a = #[(.ref o1), .null] ∧ Z.Warmed39 U.vm ∧ U.heap = h0) (fun _ _ _ _ _ => True) (fun _ U o U' => ∃ v L, o = .returned v ∧ Q3 Z o1 h0 n0 v U'.heap L ∧ FrameEnd U o U' L ({ frames := 0, cells := 0, slots := 0, locals := 0 } : Room).cells ({ frames := 0, cells := 0, slots := 0, locals := 0 } : Room).slots) := by
  refine MetFree.of_bodySF (plainFor_of_name pn0) hisR ?_
  intro p e s m args below meth c s₁ Bd hml0 hP hK
  obtain ⟨rfl, hZ, hh⟩ := hP
  have hx := Bd.exec
  have hby := Bd.bytes
  have hml : c.maxLocals = 2 := hml0
  have hown : s.vm.findClass "com/example/sablegrid/sablegrid/model/WriteId" = some m.cls := findClass_of_methodNamed Bd.named
  have hnm := (name_of_methodNamed Bd.named Bd.method).1
  have hret := Bd.returns
  have hlk : meth.locks = false := BodyLoose.notSynchronized Bd
  have X0 : Stand p l e ({ frames := 0, cells := 0, slots := 0, locals := 0 } : Room) s m #[(.ref o1), .null] below meth c s₁ [] 0 0 := Stand.of_body Bd
  have e0 : s₁.heap = h0 := by rw [← hh, Bd.state]; rfl
  have N0 := Fr.nil n0
  have pre0 : ∀ t, Steps p.tables e below (s₁.setTop (mkF m 0 #[.val (.ref o1), .val .null] [])) t → Steps p.tables e below (s₁.setTop (entryFrame m #[(.ref o1), .null] 2)) t := fun t k => castTop (ef3 m o1) k
  obtain ⟨fs, hr, hrun, hended, hW, hsame⟩ := X0.leave (v := some (.int (0 : Int32))) (fun h => by rw [hret] at h; cases h)
  refine ⟨_, _, pre0 _ ?_, hrun, hended, _, _, rfl, ?_, ⟨_, rfl⟩, hW, hsame.mono (by decide) (by decide)⟩
  ·
    show Steps p.tables e below (s₁.setTop (mkF m 0 #[.val (.ref o1), .val .null] [])) _
    refine XS.aloadN X0.here hx rfl (hb hby d1_0) rfl rfl ?_
    show Steps p.tables e below (s₁.setTop (mkF m 1 #[.val (.ref o1), .val .null] [.null])) _
    refine X0.instanceofNull hx (g := (mkF m 1 #[.val (.ref o1), .val .null] [.null])) rfl rfl (hb hby d1_1) _ ?_
    show Steps p.tables e below (s₁.setTop (mkF m 4 #[.val (.ref o1), .val .null] [(.int (0 : Int32))])) _
    refine XS.ifYes X0.here hx rfl (pc0 := 4) (pc' := 41) rfl (hb hby d1_4) rfl ((if0 _ _).trans (teq (by decide : (0 : Int32) = (0 : Int32))).1) (by decide) (by decide) ?_
    show Steps p.tables e below (s₁.setTop (mkF m 41 #[.val (.ref o1), .val .null] [])) _
    refine XS.iconst X0.here hx rfl (hb hby d1_41) ?_
    show Steps p.tables e below (s₁.setTop (mkF m 42 #[.val (.ref o1), .val .null] [(.int (0 : Int32))])) _
    exact retN X0 hx (t := .boolean) hret (by simp) (hb hby d1_42) hr
  ·
    show Q3 Z o1 h0 n0 _ s₁.heap _
    rw [e0]
    exact ⟨rfl, N0, rfl⟩
theorem d2_0 : decode jdk_35_method_24_code 0 = .ok (.sipush 128, 3) := by decide +kernel
theorem d2_3 : decode jdk_35_method_24_code 3 = .ok (.istore_n 2, 1) := by decide +kernel
theorem d2_4 : decode jdk_35_method_24_code 4 = .ok (.lload_n 0, 1) := by decide +kernel
theorem d2_5 : decode jdk_35_method_24_code 5 = .ok (.ldc2_w 230, 3) := by decide +kernel
theorem d2_8 : decode jdk_35_method_24_code 8 = .ok (.lcmp, 1) := by decide +kernel
theorem d2_9 : decode jdk_35_method_24_code 9 = .ok (.ifCond .lt 22, 3) := by decide +kernel
theorem d2_31 : decode jdk_35_method_24_code 31 = .ok (.new 1, 3) := by decide +kernel
theorem d2_34 : decode jdk_35_method_24_code 34 = .ok (.dup, 1) := by decide +kernel
theorem d2_35 : decode jdk_35_method_24_code 35 = .ok (.lload_n 0, 1) := by decide +kernel
theorem d2_36 : decode jdk_35_method_24_code 36 = .ok (.invokespecial 240, 3) := by decide +kernel
theorem d3_0 : decode jdk_35_method_26_code 0 = .ok (.aload_n 0, 1) := by decide +kernel
theorem d3_1 : decode jdk_35_method_26_code 1 = .ok (.invokespecial 270, 3) := by decide +kernel
theorem d4_0 : decode jdk_18_method_1_code 0 = .ok (.aload_n 0, 1) := by decide +kernel
theorem d4_1 : decode jdk_18_method_1_code 1 = .ok (.invokespecial 1, 3) := by decide +kernel
theorem d4_4 : decode jdk_18_method_1_code 4 = .ok (.return_, 1) := by decide +kernel
theorem pn1 : plainName "java/lang/Number" = true := by first | (simp [plainName, overriddenIn]; done) | decide +kernel
theorem ef4 (m : MethodId) (x0 : Addr) : entryFrame m #[(.ref x0)] 1 = mkF m 0 #[.val (.ref x0)] [] := by first | (simp [entryFrame, mkF, argsToLocals, Value.category]; done) | rfl
def Q4 (Z : State) (o1 : Addr) (h0 : Heap) (n0 : Nat) (v : Option Value) (h : Heap) (L : List Loc) : Prop :=
  (v = none ∧ Fr n0 L ∧ h = h0)
set_option maxRecDepth 65536 in
set_option maxHeartbeats 40000000 in
theorem rm4 (l : Launch) (Z : State) (a0 : Array Value) (hw : ∀ d ∈ tables_1, d.before a0 Z = true) (ws : List Jvm.Cond) (o1 : Addr) (h0 : Heap) (n0 : Nat) (O0 : Old Z n0 h0) (g_o1 : n0 ≤ o1) :
    MetFree l (⟨"java/lang/Number", "<init>", "()V"⟩ : MethodName) (head1 (Jvm.Cond.code (⟨"java/lang/Number", "<init>", "()V"⟩ : MethodName) jdk_18_method_1_code 1 none :: ws) ({ frames := 1, cells := 0, slots := 0, locals := 12 } : Room)) (fun a U => a = #[(.ref o1)] ∧ Z.Warmed39 U.vm ∧ U.heap = h0) (fun _ _ _ _ _ => True) (fun _ U o U' => ∃ v L, o = .returned v ∧ Q4 Z o1 h0 n0 v U'.heap L ∧ FrameEnd U o U' L ({ frames := 1, cells := 0, slots := 0, locals := 12 } : Room).cells ({ frames := 1, cells := 0, slots := 0, locals := 12 } : Room).slots) := by
  refine MetFree.of_bodySF (plainFor_of_name pn1) hisR ?_
  intro p e s m args below meth c s₁ Bd hml0 hP hK
  obtain ⟨rfl, hZ, hh⟩ := hP
  have hx := Bd.exec
  have hby := Bd.bytes
  have hml : c.maxLocals = 1 := hml0
  have hown : s.vm.findClass "java/lang/Number" = some m.cls := findClass_of_methodNamed Bd.named
  have hnm := (name_of_methodNamed Bd.named Bd.method).1
  have hret := Bd.returns
  have hlk : meth.locks = false := BodyLoose.notSynchronized Bd
  have X0 : Stand p l e ({ frames := 1, cells := 0, slots := 0, locals := 12 } : Room) s m #[(.ref o1)] below meth c s₁ [] 0 0 := Stand.of_body Bd
  have e0 : s₁.heap = h0 := by rw [← hh, Bd.state]; rfl
  have N0 := Fr.nil n0
  have pre0 : ∀ t, Steps p.tables e below (s₁.setTop (mkF m 0 #[.val (.ref o1)] [])) t → Steps p.tables e below (s₁.setTop (entryFrame m #[(.ref o1)] 1)) t := fun t k => castTop (ef4 m o1) k
  obtain ⟨T1, X1, e1, st1⟩ := initO X0 hx hZ hown (hw _ (List.mem_of_getElem? (i := 37) rfl)) (hw _ (List.mem_of_getElem? (i := 7) rfl)) (hw _ (List.mem_of_getElem? (i := 8) rfl)) e0 (g := (mkF m 1 #[.val (.ref o1)] [(.ref o1)])) rfl (by rw [hml]; rfl) rfl (hb hby d4_1) (by decide) (W := 0) (by show 2 * 0 + _ ≤ _; exact Nat.le_of_eq rfl) (by decide)
  obtain ⟨fs, hr, hrun, hended, hW, hsame⟩ := X1.leave (v := none) (fun _ => rfl)
  refine ⟨_, _, pre0 _ ?_, hrun, hended, _, _, rfl, ?_, ⟨_, rfl⟩, hW, hsame.mono (by decide) (by decide)⟩
  ·
    show Steps p.tables e below (s₁.setTop (mkF m 0 #[.val (.ref o1)] [])) _
    refine XS.aloadN X0.here hx rfl (hb hby d4_0) rfl rfl ?_
    show Steps p.tables e below (s₁.setTop (mkF m 1 #[.val (.ref o1)] [(.ref o1)])) _
    refine st1 _ ?_
    show Steps p.tables e below (T1.setTop (mkF m 4 #[.val (.ref o1)] [])) _
    exact X1.returnOut hx hret (hb hby d4_4) hr
  ·
    show Q4 Z o1 h0 n0 _ T1.heap _
    rw [e1]
    exact ⟨rfl, N0, rfl⟩
theorem pd2 : parseMethodDescriptor "()V" = some ⟨[], none⟩ := by decide +kernel
theorem d3_4 : decode jdk_35_method_26_code 4 = .ok (.aload_n 0, 1) := by decide +kernel
theorem d3_5 : decode jdk_35_method_26_code 5 = .ok (.lload_n 1, 1) := by decide +kernel
theorem d3_6 : decode jdk_35_method_26_code 6 = .ok (.putfield 273, 3) := by decide +kernel
theorem d3_9 : decode jdk_35_method_26_code 9 = .ok (.return_, 1) := by decide +kernel
theorem pn2 : plainName "java/lang/Long" = true := by first | (simp [plainName, overriddenIn]; done) | decide +kernel
theorem ef5 (m : MethodId) (x0 : Addr) (x1 : Int64) : entryFrame m #[(.ref x0), (.long x1)] 3 = mkF m 0 #[.val (.ref x0), .val (.long x1), .second] [] := by first | (simp [entryFrame, mkF, argsToLocals, Value.category]; done) | rfl
def Q5 (Z : State) (o1 : Addr) (q2 : Int64) (h0 : Heap) (n0 : Nat) (v : Option Value) (h : Heap) (L : List Loc) : Prop :=
  (v = none ∧ Fr n0 L ∧ Keep h0 h [o1] ∧ (Exa Z h o1 "java/lang/Long") ∧ (Fld Z h o1 "java/lang/Long" "value" "J" (.long q2)))
set_option maxRecDepth 65536 in
set_option maxHeartbeats 40000000 in
theorem rm5 (l : Launch) (Z : State) (a0 : Array Value) (hw : ∀ d ∈ tables_1, d.before a0 Z = true) (ws : List Jvm.Cond) (o1 : Addr) (q2 : Int64) (h0 : Heap) (n0 : Nat) (O0 : Old Z n0 h0) (g_o1 : n0 ≤ o1) (P0 : Exa Z h0 o1 "java/lang/Long") (P1 : Fld Z h0 o1 "java/lang/Long" "value" "J" (.long (0 : Int64))) :
    MetFree l (⟨"java/lang/Long", "<init>", "(J)V"⟩ : MethodName) (head1 (Jvm.Cond.code (⟨"java/lang/Long", "<init>", "(J)V"⟩ : MethodName) jdk_35_method_26_code 3 none :: ws) ({ frames := 2, cells := 0, slots := 0, locals := 24 } : Room)) (fun a U => a = #[(.ref o1), (.long q2)] ∧ Z.Warmed39 U.vm ∧ U.heap = h0) (fun _ _ _ _ _ => True) (fun _ U o U' => ∃ v L, o = .returned v ∧ Q5 Z o1 q2 h0 n0 v U'.heap L ∧ FrameEnd U o U' L ({ frames := 2, cells := 0, slots := 0, locals := 24 } : Room).cells ({ frames := 2, cells := 0, slots := 0, locals := 24 } : Room).slots) := by
  refine MetFree.of_bodySF (plainFor_of_name pn2) hisR ?_
  intro p e s m args below meth c s₁ Bd hml0 hP hK
  obtain ⟨rfl, hZ, hh⟩ := hP
  have hx := Bd.exec
  have hby := Bd.bytes
  have hml : c.maxLocals = 3 := hml0
  have hown : s.vm.findClass "java/lang/Long" = some m.cls := findClass_of_methodNamed Bd.named
  have hnm := (name_of_methodNamed Bd.named Bd.method).1
  have hret := Bd.returns
  have hlk : meth.locks = false := BodyLoose.notSynchronized Bd
  have X0 : Stand p l e ({ frames := 2, cells := 0, slots := 0, locals := 24 } : Room) s m #[(.ref o1), (.long q2)] below meth c s₁ [] 0 0 := Stand.of_body Bd
  have e0 : s₁.heap = h0 := by rw [← hh, Bd.state]; rfl
  have N0 := Fr.nil n0
  have pre0 : ∀ t, Steps p.tables e below (s₁.setTop (mkF m 0 #[.val (.ref o1), .val (.long q2), .second] [])) t → Steps p.tables e below (s₁.setTop (entryFrame m #[(.ref o1), (.long q2)] 3)) t := fun t k => castTop (ef5 m o1 q2) k
  obtain ⟨_, _, ⟨T1, L1, c1, n1⟩, -, X1, ⟨Lc1, hQ1, l1, y1, z1⟩, st1⟩ := X0.specialBack hx (y := (⟨"java/lang/Number", "<init>", "()V"⟩ : MethodName)) rfl hown (mvT hZ (hw _ (List.mem_of_getElem? (i := 31) rfl))) (mvT hZ (hw _ (List.mem_of_getElem? (i := 32) rfl))) (mvT hZ (hw _ (List.mem_of_getElem? (i := 36) rfl))) (by decide) (backOf (W := 0) (rm4 l Z a0 hw [] o1 h0 n0 O0 g_o1) hZ (hw _ (List.mem_of_getElem? (i := 36) rfl)) (hw _ (List.mem_of_getElem? (i := 35) rfl)) (by decide) (by decide)) (g := (mkF m 1 #[.val (.ref o1), .val (.long q2), .second] [(.ref o1)])) rfl (by rw [hml]; rfl) (Steps.refl _) (a := o1) (argsL := []) (rest := []) (lenOf pd2 rfl) rfl (by show 2 * 0 + _ ≤ _; exact Nat.le_of_eq rfl) (hb hby d3_1) (fun _ _ => ⟨rfl, e0, (by decide : 0 + 0 ≤ _), (by decide : 0 + 0 ≤ _)⟩)
  dsimp only [Pt.U, Pt.locs, Pt.cells, Pt.slots] at X1 l1 y1 z1 st1 hQ1
  subst l1 y1 z1
  have X1 : Stand p l e ({ frames := 2, cells := 0, slots := 0, locals := 24 } : Room) s m #[(.ref o1), (.long q2)] below meth c T1 _ 0 0 := X1
  obtain ⟨rfl, Nq2, e3⟩ := hQ1
  have N1 := Fr.app N0 Nq2
  obtain ⟨T4, h4, X4, e4, W4, st4⟩ := putF X1 hx hZ hown (host := "") (Or.inl (hw _ (List.mem_of_getElem? (i := 38) rfl))) Via.refl e3 P1 P0 (Or.inr ⟨(hw _ (List.mem_of_getElem? (i := 39) rfl)), rfl, hnm⟩) (hw _ (List.mem_of_getElem? (i := 26) rfl)) (ty := .long) (by decide) rfl rfl (g := (mkF m 6 #[.val (.ref o1), .val (.long q2), .second] [(.long q2), (.ref o1)])) rfl rfl (hb hby d3_6)
  have N4 := Fr.snoc X4 N1 g_o1
  have Fw4 := P1.same W4
  have M4 : h0.size ≤ h4.size := Nat.le_trans (Nat.le_refl _) (Nat.le_of_eq W4.size.symm)
  have O4 := Old.wr O0 W4 g_o1
  obtain ⟨fs, hr, hrun, hended, hW, hsame⟩ := X4.leave (v := none) (fun _ => rfl)
  have KL : Keep h0 h4 [o1] := ((Keep.refl h0 [o1]).wr W4 (Or.inl (List.mem_of_getElem? (i := 0) rfl)))
  have f5 := (P0.wr W4)
  refine ⟨_, _, pre0 _ ?_, hrun, hended, _, _, rfl, ?_, ⟨_, rfl⟩, hW, hsame.mono (by decide) (by decide)⟩
  ·
    show Steps p.tables e below (s₁.setTop (mkF m 0 #[.val (.ref o1), .val (.long q2), .second] [])) _
    refine XS.aloadN X0.here hx rfl (hb hby d3_0) rfl rfl ?_
    show Steps p.tables e below (s₁.setTop (mkF m 1 #[.val (.ref o1), .val (.long q2), .second] [(.ref o1)])) _
    refine st1.trans ?_
    show Steps p.tables e below (T1.setTop (mkF m 4 #[.val (.ref o1), .val (.long q2), .second] [])) _
    refine XS.aloadN X1.here hx rfl (hb hby d3_4) rfl rfl ?_
    show Steps p.tables e below (T1.setTop (mkF m 5 #[.val (.ref o1), .val (.long q2), .second] [(.ref o1)])) _
    refine XS.lloadN X1.here hx rfl (hb hby d3_5) rfl ?_
    show Steps p.tables e below (T1.setTop (mkF m 6 #[.val (.ref o1), .val (.long q2), .second] [(.long q2), (.ref o1)])) _
    refine st4 _ ?_
    show Steps p.tables e below (T4.setTop (mkF m 9 #[.val (.ref o1), .val (.long q2), .second] [])) _
    exact X4.returnOut hx hret (hb hby d3_9) hr
  ·
    show Q5 Z o1 q2 h0 n0 _ T4.heap _
    rw [e4]
    exact ⟨rfl, N4, KL, f5, Fw4⟩
theorem pd3 : parseMethodDescriptor "(J)V" = some ⟨[.long], none⟩ := by decide +kernel
theorem d2_39 : decode jdk_35_method_24_code 39 = .ok (.areturn, 1) := by decide +kernel
theorem d2_12 : decode jdk_35_method_24_code 12 = .ok (.lload_n 0, 1) := by decide +kernel
theorem d2_13 : decode jdk_35_method_24_code 13 = .ok (.ldc2_w 232, 3) := by decide +kernel
theorem d2_16 : decode jdk_35_method_24_code 16 = .ok (.lcmp, 1) := by decide +kernel
theorem d2_17 : decode jdk_35_method_24_code 17 = .ok (.ifCond .gt 14, 3) := by decide +kernel
theorem d2_20 : decode jdk_35_method_24_code 20 = .ok (.getstatic 234, 3) := by decide +kernel
theorem d2_23 : decode jdk_35_method_24_code 23 = .ok (.lload_n 0, 1) := by decide +kernel
theorem d2_24 : decode jdk_35_method_24_code 24 = .ok (.l2i, 1) := by decide +kernel
theorem d2_25 : decode jdk_35_method_24_code 25 = .ok (.sipush 128, 3) := by decide +kernel
theorem d2_28 : decode jdk_35_method_24_code 28 = .ok (.iadd, 1) := by decide +kernel
theorem d2_29 : decode jdk_35_method_24_code 29 = .ok (.aaload, 1) := by decide +kernel
theorem d2_30 : decode jdk_35_method_24_code 30 = .ok (.areturn, 1) := by decide +kernel
theorem ef6 (m : MethodId) (x0 : Int64) : entryFrame m #[(.long x0)] 3 = mkF m 0 #[.val (.long x0), .second, .unset] [] := by first | (simp [entryFrame, mkF, argsToLocals, Value.category]; done) | rfl
def Q6 (Z : State) (w1 : Addr) (cw1 : Cell) (q1 : Int64) (h0 : Heap) (n0 : Nat) (v : Option Value) (h : Heap) (L : List Loc) : Prop :=
  (∃ b3 : Addr, (q1 < (-128 : Int64)) ∧ v = some (.ref b3) ∧ Fr n0 L ∧ Keep h0 h [] ∧ h0.size ≤ b3 ∧ (Exa Z h b3 "java/lang/Long") ∧ (Fld Z h b3 "java/lang/Long" "value" "J" (.long q1)))
  ∨ (∃ b11 : Addr, (¬ (q1 < (-128 : Int64))) ∧ ((127 : Int64) < q1) ∧ v = some (.ref b11) ∧ Fr n0 L ∧ Keep h0 h [] ∧ h0.size ≤ b11 ∧ (Exa Z h b11 "java/lang/Long") ∧ (Fld Z h b11 "java/lang/Long" "value" "J" (.long q1)))
  ∨ (∃ v18 : Addr, (¬ (q1 < (-128 : Int64))) ∧ (¬ ((127 : Int64) < q1)) ∧ v = some (.ref v18) ∧ Fr n0 L ∧ h = h0 ∧ (Exa Z Z.heap v18 "java/lang/Long"))
set_option maxRecDepth 65536 in
set_option maxHeartbeats 40000000 in
theorem rm6 (l : Launch) (Z : State) (a0 : Array Value) (hw : ∀ d ∈ tables_1, d.before a0 Z = true) (w1 : Addr) (cw1 : Cell) (G : GW Z w1 cw1) (ws : List Jvm.Cond) (q1 : Int64) (h0 : Heap) (n0 : Nat) (O0 : Old Z n0 h0) :
    MetFree l (⟨"java/lang/Long", "valueOf", "(J)Ljava/lang/Long;"⟩ : MethodName) (head1 (Jvm.Cond.code (⟨"java/lang/Long", "valueOf", "(J)Ljava/lang/Long;"⟩ : MethodName) jdk_35_method_24_code 3 (some (.object "java/lang/Long")) :: ws) ({ frames := 3, cells := 1, slots := 1, locals := 39 } : Room)) (fun a U => a = #[(.long q1)] ∧ Z.Warmed39 U.vm ∧ U.heap = h0) (fun _ _ _ _ _ => True) (fun _ U o U' => ∃ v L, o = .returned v ∧ Q6 Z w1 cw1 q1 h0 n0 v U'.heap L ∧ FrameEnd U o U' L ({ frames := 3, cells := 1, slots := 1, locals := 39 } : Room).cells ({ frames := 3, cells := 1, slots := 1, locals := 39 } : Room).slots) := by
  obtain ⟨S_w1, E_w1, B_w1⟩ := id G
  refine MetFree.of_bodySF (plainFor_of_name pn2) hisR ?_
  intro p e s m args below meth c s₁ Bd hml0 hP hK
  obtain ⟨rfl, hZ, hh⟩ := hP
  have hx := Bd.exec
  have hby := Bd.bytes
  have hml : c.maxLocals = 3 := hml0
  have hown : s.vm.findClass "java/lang/Long" = some m.cls := findClass_of_methodNamed Bd.named
  have hnm := (name_of_methodNamed Bd.named Bd.method).1
  have hret := Bd.returns
  have hlk : meth.locks = false := BodyLoose.notSynchronized Bd
  have X0 : Stand p l e ({ frames := 3, cells := 1, slots := 1, locals := 39 } : Room) s m #[(.long q1)] below meth c s₁ [] 0 0 := Stand.of_body Bd
  have e0 : s₁.heap = h0 := by rw [← hh, Bd.state]; rfl
  have N0 := Fr.nil n0
  have pre0 : ∀ t, Steps p.tables e below (s₁.setTop (mkF m 0 #[.val (.long q1), .second, .unset] [])) t → Steps p.tables e below (s₁.setTop (entryFrame m #[(.long q1)] 3)) t := fun t k => castTop (ef6 m q1) k
  have pre1 : ∀ t, Steps p.tables e below (s₁.setTop (mkF m 9 #[.val (.long q1), .second, .val (.int (128 : Int32))] [(.int (lcmpW q1 (-128 : Int64)))])) t → Steps p.tables e below (s₁.setTop (entryFrame m #[(.long q1)] 3)) t := fun t k => by
    refine pre0 _ ?_
    show Steps p.tables e below (s₁.setTop (mkF m 0 #[.val (.long q1), .second, .unset] [])) _
    refine XS.sipush X0.here hx rfl (hb hby d2_0) ?_
    show Steps p.tables e below (s₁.setTop (mkF m 3 #[.val (.long q1), .second, .unset] [(.int (128 : Int32))])) _
    refine XS.istoreN X0.here hx rfl (hb hby d2_3) rfl (l' := #[.val (.long q1), .second, .val (.int (128 : Int32))]) rfl ?_
    show Steps p.tables e below (s₁.setTop (mkF m 4 #[.val (.long q1), .second, .val (.int (128 : Int32))] [])) _
    refine XS.lloadN X0.here hx rfl (hb hby d2_4) rfl ?_
    show Steps p.tables e below (s₁.setTop (mkF m 5 #[.val (.long q1), .second, .val (.int (128 : Int32))] [(.long q1)])) _
    refine X0.ldc2Long hx hown (mvT hZ (hw _ (List.mem_of_getElem? (i := 24) rfl))) (g := (mkF m 5 #[.val (.long q1), .second, .val (.int (128 : Int32))] [(.long q1)])) rfl (hb hby d2_5) _ ?_
    show Steps p.tables e below (s₁.setTop (mkF m 8 #[.val (.long q1), .second, .val (.int (128 : Int32))] [(.long (-128 : Int64)), (.long q1)])) _
    refine XS.lcmp X0.here hx rfl (hb hby d2_8) rfl ?_
    exact k
  by_cases hc2 : q1 < (-128 : Int64)
  ·
    obtain ⟨T3, h3, X3, e3, E3, A3, D3, -, st3⟩ := newO X0 hx hZ hown (hw _ (List.mem_of_getElem? (i := 25) rfl)) (hw _ (List.mem_of_getElem? (i := 26) rfl)) (hw _ (List.mem_of_getElem? (i := 22) rfl)) e0 (g := (mkF m 31 #[.val (.long q1), .second, .val (.int (128 : Int32))] [])) rfl (hb hby d2_31) (by decide) (by decide)
    obtain ⟨b3, g3⟩ : ∃ z, z = h0.size := ⟨_, rfl⟩
    rw [← g3] at A3 D3 st3
    have M3 : h0.size ≤ h3.size := Nat.le_trans (Nat.le_refl _) E3.1
    have O3 := Old.ext O0 E3
    have sz_b3 : h0.size ≤ b3 := Nat.le_of_eq g3.symm
    have g_b3 : n0 ≤ b3 := Nat.le_trans (own_oz O0) (Nat.le_trans (Nat.le_refl _) sz_b3)
    have F3_39 : Fld Z h3 b3 "java/lang/Long" "value" "J" (.long (0 : Int64)) := D3 (Or.inr (hw _ (List.mem_of_getElem? (i := 39) rfl))) (ty := .long) (by decide)
    obtain ⟨_, _, ⟨T4, L4, c4, n4⟩, -, X4, ⟨Lc4, hQ4, l4, y4, z4⟩, st4⟩ := X3.specialBack hx (y := (⟨"java/lang/Long", "<init>", "(J)V"⟩ : MethodName)) rfl hown (mvT hZ (hw _ (List.mem_of_getElem? (i := 27) rfl))) (mvT hZ (hw _ (List.mem_of_getElem? (i := 28) rfl))) (mvT hZ (hw _ (List.mem_of_getElem? (i := 30) rfl))) (by decide) (backOf (W := 1) (rm5 l Z a0 hw [] b3 q1 h3 n0 O3 g_b3 A3 F3_39) hZ (hw _ (List.mem_of_getElem? (i := 30) rfl)) (hw _ (List.mem_of_getElem? (i := 22) rfl)) (by decide) (by decide)) (g := (mkF m 36 #[.val (.long q1), .second, .val (.int (128 : Int32))] [(.long q1), (.ref b3), (.ref b3)])) rfl (by rw [hml]; rfl) (Steps.refl _) (a := b3) (argsL := [(.long q1)]) (rest := [(.ref b3)]) (lenOf pd3 rfl) rfl (by show 2 * 0 + _ ≤ _; exact Nat.le_of_eq rfl) (hb hby d2_36) (fun _ _ => ⟨rfl, e3, (by decide : 1 + 0 ≤ _), (by decide : 1 + 0 ≤ _)⟩)
    dsimp only [Pt.U, Pt.locs, Pt.cells, Pt.slots] at X4 l4 y4 z4 st4 hQ4
    subst l4 y4 z4
    have X4 : Stand p l e ({ frames := 3, cells := 1, slots := 1, locals := 39 } : Room) s m #[(.long q1)] below meth c T4 _ 1 1 := X4
    obtain ⟨rfl, Nq5, K6, f7, f8⟩ := hQ4
    have N4 := Fr.app N0 Nq5
    have M4 : h0.size ≤ T4.heap.size := Nat.le_trans M3 K6.1
    have O4 := Old.keep O3 K6 (allS g_b3 all0)
    obtain ⟨fs, hr, hrun, hended, hW, hsame⟩ := X4.leave (v := some (.ref b3)) (fun h => by rw [hret] at h; cases h)
    have KL : Keep h0 T4.heap [] := (((Keep.refl h0 []).ext E3).trans K6 (allS (Or.inr (Nat.le_trans (Nat.le_refl _) sz_b3)) all0))
    refine ⟨_, _, pre1 _ ?_, hrun, hended, _, _, rfl, ?_, ⟨_, rfl⟩, hW, hsame.mono (by decide) (by decide)⟩
    ·
      show Steps p.tables e below (s₁.setTop (mkF m 9 #[.val (.long q1), .second, .val (.int (128 : Int32))] [(.int (lcmpW q1 (-128 : Int64)))])) _
      refine XS.ifYes X0.here hx rfl (pc0 := 9) (pc' := 31) rfl (hb hby d2_9) rfl ((if0 _ _).trans (tlt ((lw_lt _ _).mpr hc2)).1) (by decide) (by decide) ?_
      show Steps p.tables e below (s₁.setTop (mkF m 31 #[.val (.long q1), .second, .val (.int (128 : Int32))] [])) _
      refine st3 _ ?_
      show Steps p.tables e below (T3.setTop (mkF m 34 #[.val (.long q1), .second, .val (.int (128 : Int32))] [(.ref b3)])) _
      refine XS.dup X3.here hx rfl (hb hby d2_34) rfl rfl ?_
      show Steps p.tables e below (T3.setTop (mkF m 35 #[.val (.long q1), .second, .val (.int (128 : Int32))] [(.ref b3), (.ref b3)])) _
      refine XS.lloadN X3.here hx rfl (hb hby d2_35) rfl ?_
      show Steps p.tables e below (T3.setTop (mkF m 36 #[.val (.long q1), .second, .val (.int (128 : Int32))] [(.long q1), (.ref b3), (.ref b3)])) _
      refine st4.trans ?_
      show Steps p.tables e below (T4.setTop (mkF m 39 #[.val (.long q1), .second, .val (.int (128 : Int32))] [(.ref b3)])) _
      exact retOut X4 hx hret rfl (Or.inr (Or.inr (Or.inr (Or.inr ⟨rfl, rfl, rfl⟩)))) (hb hby d2_39) hr
    ·
      show Q6 Z w1 cw1 q1 h0 n0 _ T4.heap _
      exact (Or.inl ⟨b3, hc2, rfl, N4, KL, (Nat.le_trans (Nat.le_refl _) sz_b3), f7, f8⟩)
  ·
    have pre9 : ∀ t, Steps p.tables e below (s₁.setTop (mkF m 17 #[.val (.long q1), .second, .val (.int (128 : Int32))] [(.int (lcmpW q1 (127 : Int64)))])) t → Steps p.tables e below (s₁.setTop (entryFrame m #[(.long q1)] 3)) t := fun t k => by
      refine pre1 _ ?_
      show Steps p.tables e below (s₁.setTop (mkF m 9 #[.val (.long q1), .second, .val (.int (128 : Int32))] [(.int (lcmpW q1 (-128 : Int64)))])) _
      refine XS.ifNo X0.here hx rfl (hb hby d2_9) rfl ((if0 _ _).trans (flt (fun q => hc2 ((lw_lt _ _).mp q))).1) ?_
      show Steps p.tables e below (s₁.setTop (mkF m 12 #[.val (.long q1), .second, .val (.int (128 : Int32))] [])) _
      refine XS.lloadN X0.here hx rfl (hb hby d2_12) rfl ?_
      show Steps p.tables e below (s₁.setTop (mkF m 13 #[.val (.long q1), .second, .val (.int (128 : Int32))] [(.long q1)])) _
      refine X0.ldc2Long hx hown (mvT hZ (hw _ (List.mem_of_getElem? (i := 43) rfl))) (g := (mkF m 13 #[.val (.long q1), .second, .val (.int (128 : Int32))] [(.long q1)])) rfl (hb hby d2_13) _ ?_
      show Steps p.tables e below (s₁.setTop (mkF m 16 #[.val (.long q1), .second, .val (.int (128 : Int32))] [(.long (127 : Int64)), (.long q1)])) _
      refine XS.lcmp X0.here hx rfl (hb hby d2_16) rfl ?_
      exact k
    by_cases hc10 : (127 : Int64) < q1
    ·
      obtain ⟨T11, h11, X11, e11, E11, A11, D11, -, st11⟩ := newO X0 hx hZ hown (hw _ (List.mem_of_getElem? (i := 25) rfl)) (hw _ (List.mem_of_getElem? (i := 26) rfl)) (hw _ (List.mem_of_getElem? (i := 22) rfl)) e0 (g := (mkF m 31 #[.val (.long q1), .second, .val (.int (128 : Int32))] [])) rfl (hb hby d2_31) (by decide) (by decide)
      obtain ⟨b11, g11⟩ : ∃ z, z = h0.size := ⟨_, rfl⟩
      rw [← g11] at A11 D11 st11
      have M11 : h0.size ≤ h11.size := Nat.le_trans (Nat.le_refl _) E11.1
      have O11 := Old.ext O0 E11
      have sz_b11 : h0.size ≤ b11 := Nat.le_of_eq g11.symm
      have g_b11 : n0 ≤ b11 := Nat.le_trans (own_oz O0) (Nat.le_trans (Nat.le_refl _) sz_b11)
      have F11_39 : Fld Z h11 b11 "java/lang/Long" "value" "J" (.long (0 : Int64)) := D11 (Or.inr (hw _ (List.mem_of_getElem? (i := 39) rfl))) (ty := .long) (by decide)
      obtain ⟨_, _, ⟨T12, L12, c12, n12⟩, -, X12, ⟨Lc12, hQ12, l12, y12, z12⟩, st12⟩ := X11.specialBack hx (y := (⟨"java/lang/Long", "<init>", "(J)V"⟩ : MethodName)) rfl hown (mvT hZ (hw _ (List.mem_of_getElem? (i := 27) rfl))) (mvT hZ (hw _ (List.mem_of_getElem? (i := 28) rfl))) (mvT hZ (hw _ (List.mem_of_getElem? (i := 30) rfl))) (by decide) (backOf (W := 1) (rm5 l Z a0 hw [] b11 q1 h11 n0 O11 g_b11 A11 F11_39) hZ (hw _ (List.mem_of_getElem? (i := 30) rfl)) (hw _ (List.mem_of_getElem? (i := 22) rfl)) (by decide) (by decide)) (g := (mkF m 36 #[.val (.long q1), .second, .val (.int (128 : Int32))] [(.long q1), (.ref b11), (.ref b11)])) rfl (by rw [hml]; rfl) (Steps.refl _) (a := b11) (argsL := [(.long q1)]) (rest := [(.ref b11)]) (lenOf pd3 rfl) rfl (by show 2 * 0 + _ ≤ _; exact Nat.le_of_eq rfl) (hb hby d2_36) (fun _ _ => ⟨rfl, e11, (by decide : 1 + 0 ≤ _), (by decide : 1 + 0 ≤ _)⟩)
      dsimp only [Pt.U, Pt.locs, Pt.cells, Pt.slots] at X12 l12 y12 z12 st12 hQ12
      subst l12 y12 z12
      have X12 : Stand p l e ({ frames := 3, cells := 1, slots := 1, locals := 39 } : Room) s m #[(.long q1)] below meth c T12 _ 1 1 := X12
      obtain ⟨rfl, Nq13, K14, f15, f16⟩ := hQ12
      have N12 := Fr.app N0 Nq13
      have M12 : h0.size ≤ T12.heap.size := Nat.le_trans M11 K14.1
      have O12 := Old.keep O11 K14 (allS g_b11 all0)
      obtain ⟨fs, hr, hrun, hended, hW, hsame⟩ := X12.leave (v := some (.ref b11)) (fun h => by rw [hret] at h; cases h)
      have KL : Keep h0 T12.heap [] := (((Keep.refl h0 []).ext E11).trans K14 (allS (Or.inr (Nat.le_trans (Nat.le_refl _) sz_b11)) all0))
      refine ⟨_, _, pre9 _ ?_, hrun, hended, _, _, rfl, ?_, ⟨_, rfl⟩, hW, hsame.mono (by decide) (by decide)⟩
      ·
        show Steps p.tables e below (s₁.setTop (mkF m 17 #[.val (.long q1), .second, .val (.int (128 : Int32))] [(.int (lcmpW q1 (127 : Int64)))])) _
        refine XS.ifYes X0.here hx rfl (pc0 := 17) (pc' := 31) rfl (hb hby d2_17) rfl ((if0 _ _).trans (tlt ((lw_gt _ _).mpr hc10)).2.2.1) (by decide) (by decide) ?_
        show Steps p.tables e below (s₁.setTop (mkF m 31 #[.val (.long q1), .second, .val (.int (128 : Int32))] [])) _
        refine st11 _ ?_
        show Steps p.tables e below (T11.setTop (mkF m 34 #[.val (.long q1), .second, .val (.int (128 : Int32))] [(.ref b11)])) _
        refine XS.dup X11.here hx rfl (hb hby d2_34) rfl rfl ?_
        show Steps p.tables e below (T11.setTop (mkF m 35 #[.val (.long q1), .second, .val (.int (128 : Int32))] [(.ref b11), (.ref b11)])) _
        refine XS.lloadN X11.here hx rfl (hb hby d2_35) rfl ?_
        show Steps p.tables e below (T11.setTop (mkF m 36 #[.val (.long q1), .second, .val (.int (128 : Int32))] [(.long q1), (.ref b11), (.ref b11)])) _
        refine st12.trans ?_
        show Steps p.tables e below (T12.setTop (mkF m 39 #[.val (.long q1), .second, .val (.int (128 : Int32))] [(.ref b11)])) _
        exact retOut X12 hx hret rfl (Or.inr (Or.inr (Or.inr (Or.inr ⟨rfl, rfl, rfl⟩)))) (hb hby d2_39) hr
      ·
        show Q6 Z w1 cw1 q1 h0 n0 _ T12.heap _
        exact (Or.inr (Or.inl ⟨b11, hc2, hc10, rfl, N12, KL, (Nat.le_trans (Nat.le_refl _) sz_b11), f15, f16⟩))
    ·
      obtain ⟨T17, X17, e17, st17⟩ := getS2 X0 hx hZ hown (host := "") (Or.inl (hw _ (List.mem_of_getElem? (i := 44) rfl))) Via.refl e0 (S_w1.ext O0.2) (g := (mkF m 20 #[.val (.long q1), .second, .val (.int (128 : Int32))] [])) rfl (hb hby d2_20)
      obtain ⟨Ab18, Sb18, Nb18, Bb18⟩ := id B_w1
      have hin18 := inb_of Sb18 (own_cache q1 hc2 hc10)
      obtain ⟨v18, hat18, Ex18, Fv18⟩ := Bb18 ((q1.toInt32) + (128 : Int32)) hin18
      obtain ⟨fs, hr, hrun, hended, hW, hsame⟩ := X17.leave (v := some (.ref v18)) (fun h => by rw [hret] at h; cases h)
      refine ⟨_, _, pre9 _ ?_, hrun, hended, _, _, rfl, ?_, ⟨_, rfl⟩, hW, hsame.mono (by decide) (by decide)⟩
      ·
        show Steps p.tables e below (s₁.setTop (mkF m 17 #[.val (.long q1), .second, .val (.int (128 : Int32))] [(.int (lcmpW q1 (127 : Int64)))])) _
        refine XS.ifNo X0.here hx rfl (hb hby d2_17) rfl ((if0 _ _).trans (flt (fun q => hc10 ((lw_gt _ _).mp q))).2.2.1) ?_
        show Steps p.tables e below (s₁.setTop (mkF m 20 #[.val (.long q1), .second, .val (.int (128 : Int32))] [])) _
        refine st17 _ ?_
        show Steps p.tables e below (T17.setTop (mkF m 23 #[.val (.long q1), .second, .val (.int (128 : Int32))] [(.ref w1)])) _
        refine XS.lloadN X17.here hx rfl (hb hby d2_23) rfl ?_
        show Steps p.tables e below (T17.setTop (mkF m 24 #[.val (.long q1), .second, .val (.int (128 : Int32))] [(.long q1), (.ref w1)])) _
        refine XS.l2i X17.here hx rfl (hb hby d2_24) rfl ?_
        show Steps p.tables e below (T17.setTop (mkF m 25 #[.val (.long q1), .second, .val (.int (128 : Int32))] [(.int (q1.toInt32)), (.ref w1)])) _
        refine XS.sipush X17.here hx rfl (hb hby d2_25) ?_
        show Steps p.tables e below (T17.setTop (mkF m 28 #[.val (.long q1), .second, .val (.int (128 : Int32))] [(.int (128 : Int32)), (.int (q1.toInt32)), (.ref w1)])) _
        refine XS.iadd X17.here hx rfl (hb hby d2_28) rfl ?_
        show Steps p.tables e below (T17.setTop (mkF m 29 #[.val (.long q1), .second, .val (.int (128 : Int32))] [(.int ((q1.toInt32) + (128 : Int32))), (.ref w1)])) _
        refine X17.aaload hx (j := ((q1.toInt32) + (128 : Int32))) (v := .ref v18) (by rw [e17]; exact (Ab18.ext O0.2).1) (State.isArrayOf_alike hZ.alike Ab18.2.1) rfl Ab18.2.2 hin18 hat18 (g := (mkF m 29 #[.val (.long q1), .second, .val (.int (128 : Int32))] [(.int ((q1.toInt32) + (128 : Int32))), (.ref w1)])) rfl rfl (hb hby d2_29) _ ?_
        show Steps p.tables e below (T17.setTop (mkF m 30 #[.val (.long q1), .second, .val (.int (128 : Int32))] [(.ref v18)])) _
        exact retOut X17 hx hret rfl (Or.inr (Or.inr (Or.inr (Or.inr ⟨rfl, rfl, rfl⟩)))) (hb hby d2_30) hr
      ·
        show Q6 Z w1 cw1 q1 h0 n0 _ T17.heap _
        rw [e17]
        exact (Or.inr (Or.inr ⟨v18, hc2, hc10, rfl, N0, rfl, Ex18⟩))
theorem pd4 : parseMethodDescriptor "(J)Ljava/lang/Long;" = some ⟨[.long], some (.object "java/lang/Long")⟩ := by decide +kernel
theorem ef7 (m : MethodId) (x0 : Addr) (x1 : Addr) : entryFrame m #[(.ref x0), (.ref x1)] 2 = mkF m 0 #[.val (.ref x0), .val (.ref x1)] [] := by first | (simp [entryFrame, mkF, argsToLocals, Value.category]; done) | rfl
def Q7 (Z : State) (o1 : Addr) (o2 : Addr) (h0 : Heap) (n0 : Nat) (v : Option Value) (h : Heap) (L : List Loc) : Prop :=
  (v = some (.int (0 : Int32)) ∧ Fr n0 L ∧ h = h0)
set_option maxRecDepth 65536 in
set_option maxHeartbeats 40000000 in
theorem rm7 (l : Launch) (Z : State) (a0 : Array Value) (hw : ∀ d ∈ tables_1, d.before a0 Z = true) (ws : List Jvm.Cond) (o1 : Addr) (o2 : Addr) (h0 : Heap) (n0 : Nat) (O0 : Old Z n0 h0) (g_o1 : n0 ≤ o1) (g_o2 : n0 ≤ o2) (P3 : Exa Z h0 o2 "java/lang/Long") :
    MetFree l (⟨"com/example/sablegrid/sablegrid/model/WriteId", "equals", "(Ljava/lang/Object;)Z"⟩ : MethodName) (head1 (Jvm.Cond.code (⟨"com/example/sablegrid/sablegrid/model/WriteId", "equals", "(Ljava/lang/Object;)Z"⟩ : MethodName) prog_21_method_4_code 2 (some .boolean) :: ws) ({ frames := 0, cells := 0, slots := 0, locals := 0 } : Room)) (fun a U => a = #[(.ref o1), (.ref o2)] ∧ Z.Warmed39 U.vm ∧ U.heap = h0) (fun _ _ _ _ _ => True) (fun _ U o U' => ∃ v L, o = .returned v ∧ Q7 Z o1 o2 h0 n0 v U'.heap L ∧ FrameEnd U o U' L ({ frames := 0, cells := 0, slots := 0, locals := 0 } : Room).cells ({ frames := 0, cells := 0, slots := 0, locals := 0 } : Room).slots) := by
  refine MetFree.of_bodySF (plainFor_of_name pn0) hisR ?_
  intro p e s m args below meth c s₁ Bd hml0 hP hK
  obtain ⟨rfl, hZ, hh⟩ := hP
  have hx := Bd.exec
  have hby := Bd.bytes
  have hml : c.maxLocals = 2 := hml0
  have hown : s.vm.findClass "com/example/sablegrid/sablegrid/model/WriteId" = some m.cls := findClass_of_methodNamed Bd.named
  have hnm := (name_of_methodNamed Bd.named Bd.method).1
  have hret := Bd.returns
  have hlk : meth.locks = false := BodyLoose.notSynchronized Bd
  have X0 : Stand p l e ({ frames := 0, cells := 0, slots := 0, locals := 0 } : Room) s m #[(.ref o1), (.ref o2)] below meth c s₁ [] 0 0 := Stand.of_body Bd
  have e0 : s₁.heap = h0 := by rw [← hh, Bd.state]; rfl
  have N0 := Fr.nil n0
  have pre0 : ∀ t, Steps p.tables e below (s₁.setTop (mkF m 0 #[.val (.ref o1), .val (.ref o2)] [])) t → Steps p.tables e below (s₁.setTop (entryFrame m #[(.ref o1), (.ref o2)] 2)) t := fun t k => castTop (ef7 m o1 o2) k
  obtain ⟨T1, X1, e1, st1⟩ := instNo X0 hx hZ hown (hw _ (List.mem_of_getElem? (i := 18) rfl)) e0 P3 (own_no (hw _ (List.mem_of_getElem? (i := 40) rfl)) (hw _ (List.mem_of_getElem? (i := 1) rfl)) (NS.step (hw _ (List.mem_of_getElem? (i := 40) rfl)) (NS.step (hw _ (List.mem_of_getElem? (i := 41) rfl)) (own_root (hw _ (List.mem_of_getElem? (i := 42) rfl)) (hw _ (List.mem_of_getElem? (i := 1) rfl)) (by decide)) (by decide)) (by decide)) (by decide)) (g := (mkF m 1 #[.val (.ref o1), .val (.ref o2)] [(.ref o2)])) rfl rfl (hb hby d1_1)
  obtain ⟨fs, hr, hrun, hended, hW, hsame⟩ := X1.leave (v := some (.int (0 : Int32))) (fun h => by rw [hret] at h; cases h)
  refine ⟨_, _, pre0 _ ?_, hrun, hended, _, _, rfl, ?_, ⟨_, rfl⟩, hW, hsame.mono (by decide) (by decide)⟩
  ·
    show Steps p.tables e below (s₁.setTop (mkF m 0 #[.val (.ref o1), .val (.ref o2)] [])) _
    refine XS.aloadN X0.here hx rfl (hb hby d1_0) rfl rfl ?_
    show Steps p.tables e below (s₁.setTop (mkF m 1 #[.val (.ref o1), .val (.ref o2)] [(.ref o2)])) _
    refine st1 _ ?_
    show Steps p.tables e below (T1.setTop (mkF m 4 #[.val (.ref o1), .val (.ref o2)] [(.int (0 : Int32))])) _
    refine XS.ifYes X1.here hx rfl (pc0 := 4) (pc' := 41) rfl (hb hby d1_4) rfl ((if0 _ _).trans (teq (by decide : (0 : Int32) = (0 : Int32))).1) (by decide) (by decide) ?_
    show Steps p.tables e below (T1.setTop (mkF m 41 #[.val (.ref o1), .val (.ref o2)] [])) _
    refine XS.iconst X1.here hx rfl (hb hby d1_41) ?_
    show Steps p.tables e below (T1.setTop (mkF m 42 #[.val (.ref o1), .val (.ref o2)] [(.int (0 : Int32))])) _
    exact retN X1 hx (t := .boolean) hret (by simp) (hb hby d1_42) hr
  ·
    show Q7 Z o1 o2 h0 n0 _ T1.heap _
    rw [e1]
    exact ⟨rfl, N0, rfl⟩
theorem ef8 (m : MethodId) (x0 : Addr) (x1 : Addr) : entryFrame m #[(.ref x0), (.ref x1)] 2 = mkF m 0 #[.val (.ref x0), .val (.ref x1)] [] := by first | (simp [entryFrame, mkF, argsToLocals, Value.category]; done) | rfl
def Q8 (Z : State) (o1 : Addr) (v2 : Addr) (h0 : Heap) (n0 : Nat) (v : Option Value) (h : Heap) (L : List Loc) : Prop :=
  (v = some (.int (0 : Int32)) ∧ Fr n0 L ∧ h = h0)
set_option maxRecDepth 65536 in
set_option maxHeartbeats 40000000 in
theorem rm8 (l : Launch) (Z : State) (a0 : Array Value) (hw : ∀ d ∈ tables_1, d.before a0 Z = true) (ws : List Jvm.Cond) (o1 : Addr) (v2 : Addr) (h0 : Heap) (n0 : Nat) (O0 : Old Z n0 h0) (g_o1 : n0 ≤ o1) (P3 : Exa Z Z.heap v2 "java/lang/Long") :
    MetFree l (⟨"com/example/sablegrid/sablegrid/model/WriteId", "equals", "(Ljava/lang/Object;)Z"⟩ : MethodName) (head1 (Jvm.Cond.code (⟨"com/example/sablegrid/sablegrid/model/WriteId", "equals", "(Ljava/lang/Object;)Z"⟩ : MethodName) prog_21_method_4_code 2 (some .boolean) :: ws) ({ frames := 0, cells := 0, slots := 0, locals := 0 } : Room)) (fun a U => a = #[(.ref o1), (.ref v2)] ∧ Z.Warmed39 U.vm ∧ U.heap = h0) (fun _ _ _ _ _ => True) (fun _ U o U' => ∃ v L, o = .returned v ∧ Q8 Z o1 v2 h0 n0 v U'.heap L ∧ FrameEnd U o U' L ({ frames := 0, cells := 0, slots := 0, locals := 0 } : Room).cells ({ frames := 0, cells := 0, slots := 0, locals := 0 } : Room).slots) := by
  refine MetFree.of_bodySF (plainFor_of_name pn0) hisR ?_
  intro p e s m args below meth c s₁ Bd hml0 hP hK
  obtain ⟨rfl, hZ, hh⟩ := hP
  have hx := Bd.exec
  have hby := Bd.bytes
  have hml : c.maxLocals = 2 := hml0
  have hown : s.vm.findClass "com/example/sablegrid/sablegrid/model/WriteId" = some m.cls := findClass_of_methodNamed Bd.named
  have hnm := (name_of_methodNamed Bd.named Bd.method).1
  have hret := Bd.returns
  have hlk : meth.locks = false := BodyLoose.notSynchronized Bd
  have X0 : Stand p l e ({ frames := 0, cells := 0, slots := 0, locals := 0 } : Room) s m #[(.ref o1), (.ref v2)] below meth c s₁ [] 0 0 := Stand.of_body Bd
  have e0 : s₁.heap = h0 := by rw [← hh, Bd.state]; rfl
  have N0 := Fr.nil n0
  have pre0 : ∀ t, Steps p.tables e below (s₁.setTop (mkF m 0 #[.val (.ref o1), .val (.ref v2)] [])) t → Steps p.tables e below (s₁.setTop (entryFrame m #[(.ref o1), (.ref v2)] 2)) t := fun t k => castTop (ef8 m o1 v2) k
  obtain ⟨T1, X1, e1, st1⟩ := instNo X0 hx hZ hown (hw _ (List.mem_of_getElem? (i := 18) rfl)) e0 (P3.ext O0.2) (own_no (hw _ (List.mem_of_getElem? (i := 40) rfl)) (hw _ (List.mem_of_getElem? (i := 1) rfl)) (NS.step (hw _ (List.mem_of_getElem? (i := 40) rfl)) (NS.step (hw _ (List.mem_of_getElem? (i := 41) rfl)) (own_root (hw _ (List.mem_of_getElem? (i := 42) rfl)) (hw _ (List.mem_of_getElem? (i := 1) rfl)) (by decide)) (by decide)) (by decide)) (by decide)) (g := (mkF m 1 #[.val (.ref o1), .val (.ref v2)] [(.ref v2)])) rfl rfl (hb hby d1_1)
  obtain ⟨fs, hr, hrun, hended, hW, hsame⟩ := X1.leave (v := some (.int (0 : Int32))) (fun h => by rw [hret] at h; cases h)
  refine ⟨_, _, pre0 _ ?_, hrun, hended, _, _, rfl, ?_, ⟨_, rfl⟩, hW, hsame.mono (by decide) (by decide)⟩
  ·
    show Steps p.tables e below (s₁.setTop (mkF m 0 #[.val (.ref o1), .val (.ref v2)] [])) _
    refine XS.aloadN X0.here hx rfl (hb hby d1_0) rfl rfl ?_
    show Steps p.tables e below (s₁.setTop (mkF m 1 #[.val (.ref o1), .val (.ref v2)] [(.ref v2)])) _
    refine st1 _ ?_
    show Steps p.tables e below (T1.setTop (mkF m 4 #[.val (.ref o1), .val (.ref v2)] [(.int (0 : Int32))])) _
    refine XS.ifYes X1.here hx rfl (pc0 := 4) (pc' := 41) rfl (hb hby d1_4) rfl ((if0 _ _).trans (teq (by decide : (0 : Int32) = (0 : Int32))).1) (by decide) (by decide) ?_
    show Steps p.tables e below (T1.setTop (mkF m 41 #[.val (.ref o1), .val (.ref v2)] [])) _
    refine XS.iconst X1.here hx rfl (hb hby d1_41) ?_
    show Steps p.tables e below (T1.setTop (mkF m 42 #[.val (.ref o1), .val (.ref v2)] [(.int (0 : Int32))])) _
    exact retN X1 hx (t := .boolean) hret (by simp) (hb hby d1_42) hr
  ·
    show Q8 Z o1 v2 h0 n0 _ T1.heap _
    rw [e1]
    exact ⟨rfl, N0, rfl⟩
theorem ef9 (m : MethodId) (x0 : Addr) (x1 : Addr) : entryFrame m #[(.ref x0), (.ref x1)] 2 = mkF m 0 #[.val (.ref x0), .val (.ref x1)] [] := by first | (simp [entryFrame, mkF, argsToLocals, Value.category]; done) | rfl
def Q9 (Z : State) (o1 : Addr) (q2 : Int64) (q3 : Int64) (h0 : Heap) (n0 : Nat) (v : Option Value) (h : Heap) (L : List Loc) : Prop :=
  (v = some (.int (1 : Int32)) ∧ Fr n0 L ∧ h = h0)
set_option maxRecDepth 65536 in
set_option maxHeartbeats 40000000 in
theorem rm9 (l : Launch) (Z : State) (a0 : Array Value) (hw : ∀ d ∈ tables_1, d.before a0 Z = true) (ws : List Jvm.Cond) (o1 : Addr) (q2 : Int64) (q3 : Int64) (h0 : Heap) (n0 : Nat) (O0 : Old Z n0 h0) (g_o1 : n0 ≤ o1) (P0 : Exa Z h0 o1 "com/example/sablegrid/sablegrid/model/WriteId") (P1 : Fld Z h0 o1 "com/example/sablegrid/sablegrid/model/WriteId" "origin" "J" (.long q2)) (P2 : Fld Z h0 o1 "com/example/sablegrid/sablegrid/model/WriteId" "sequence" "J" (.long q3)) :
    MetFree l (⟨"com/example/sablegrid/sablegrid/model/WriteId", "equals", "(Ljava/lang/Object;)Z"⟩ : MethodName) (head1 (Jvm.Cond.code (⟨"com/example/sablegrid/sablegrid/model/WriteId", "equals", "(Ljava/lang/Object;)Z"⟩ : MethodName) prog_21_method_4_code 2 (some .boolean) :: ws) ({ frames := 0, cells := 0, slots := 0, locals := 0 } : Room)) (fun a U => a = #[(.ref o1), (.ref o1)] ∧ Z.Warmed39 U.vm ∧ U.heap = h0) (fun _ _ _ _ _ => True) (fun _ U o U' => ∃ v L, o = .returned v ∧ Q9 Z o1 q2 q3 h0 n0 v U'.heap L ∧ FrameEnd U o U' L ({ frames := 0, cells := 0, slots := 0, locals := 0 } : Room).cells ({ frames := 0, cells := 0, slots := 0, locals := 0 } : Room).slots) := by
  refine MetFree.of_bodySF (plainFor_of_name pn0) hisR ?_
  intro p e s m args below meth c s₁ Bd hml0 hP hK
  obtain ⟨rfl, hZ, hh⟩ := hP
  have hx := Bd.exec
  have hby := Bd.bytes
  have hml : c.maxLocals = 2 := hml0
  have hown : s.vm.findClass "com/example/sablegrid/sablegrid/model/WriteId" = some m.cls := findClass_of_methodNamed Bd.named
  have hnm := (name_of_methodNamed Bd.named Bd.method).1
  have hret := Bd.returns
  have hlk : meth.locks = false := BodyLoose.notSynchronized Bd
  have X0 : Stand p l e ({ frames := 0, cells := 0, slots := 0, locals := 0 } : Room) s m #[(.ref o1), (.ref o1)] below meth c s₁ [] 0 0 := Stand.of_body Bd
  have e0 : s₁.heap = h0 := by rw [← hh, Bd.state]; rfl
  have N0 := Fr.nil n0
  have pre0 : ∀ t, Steps p.tables e below (s₁.setTop (mkF m 0 #[.val (.ref o1), .val (.ref o1)] [])) t → Steps p.tables e below (s₁.setTop (entryFrame m #[(.ref o1), (.ref o1)] 2)) t := fun t k => castTop (ef9 m o1 o1) k
  obtain ⟨T1, X1, e1, st1⟩ := instY X0 hx hZ hown (hw _ (List.mem_of_getElem? (i := 18) rfl)) e0 (Ins.self P0) (g := (mkF m 1 #[.val (.ref o1), .val (.ref o1)] [(.ref o1)])) rfl rfl (hb hby d1_1)
  obtain ⟨T2, X2, e2, st2⟩ := getF X1 hx hZ hown (host := "") (Or.inl (hw _ (List.mem_of_getElem? (i := 9) rfl))) Via.refl e1 P1 (g := (mkF m 8 #[.val (.ref o1), .val (.ref o1)] [(.ref o1)])) rfl rfl (hb hby d1_8)
  obtain ⟨T3, X3, e3, st3⟩ := castY X2 hx hZ hown (hw _ (List.mem_of_getElem? (i := 18) rfl)) e2 (Ins.self P0) (g := (mkF m 12 #[.val (.ref o1), .val (.ref o1)] [(.ref o1), (.long q2)])) rfl rfl (hb hby d1_12)
  obtain ⟨T4, X4, e4, st4⟩ := getF X3 hx hZ hown (host := "") (Or.inl (hw _ (List.mem_of_getElem? (i := 9) rfl))) Via.refl e3 P1 (g := (mkF m 15 #[.val (.ref o1), .val (.ref o1)] [(.ref o1), (.long q2)])) rfl rfl (hb hby d1_15)
  obtain ⟨T5, X5, e5, st5⟩ := getF X4 hx hZ hown (host := "") (Or.inl (hw _ (List.mem_of_getElem? (i := 11) rfl))) Via.refl e4 P2 (g := (mkF m 23 #[.val (.ref o1), .val (.ref o1)] [(.ref o1)])) rfl rfl (hb hby d1_23)
  obtain ⟨T6, X6, e6, st6⟩ := castY X5 hx hZ hown (hw _ (List.mem_of_getElem? (i := 18) rfl)) e5 (Ins.self P0) (g := (mkF m 27 #[.val (.ref o1), .val (.ref o1)] [(.ref o1), (.long q3)])) rfl rfl (hb hby d1_27)
  obtain ⟨T7, X7, e7, st7⟩ := getF X6 hx hZ hown (host := "") (Or.inl (hw _ (List.mem_of_getElem? (i := 11) rfl))) Via.refl e6 P2 (g := (mkF m 30 #[.val (.ref o1), .val (.ref o1)] [(.ref o1), (.long q3)])) rfl rfl (hb hby d1_30)
  obtain ⟨fs, hr, hrun, hended, hW, hsame⟩ := X7.leave (v := some (.int (1 : Int32))) (fun h => by rw [hret] at h; cases h)
  refine ⟨_, _, pre0 _ ?_, hrun, hended, _, _, rfl, ?_, ⟨_, rfl⟩, hW, hsame.mono (by decide) (by decide)⟩
  ·
    show Steps p.tables e below (s₁.setTop (mkF m 0 #[.val (.ref o1), .val (.ref o1)] [])) _
    refine XS.aloadN X0.here hx rfl (hb hby d1_0) rfl rfl ?_
    show Steps p.tables e below (s₁.setTop (mkF m 1 #[.val (.ref o1), .val (.ref o1)] [(.ref o1)])) _
    refine st1 _ ?_
    show Steps p.tables e below (T1.setTop (mkF m 4 #[.val (.ref o1), .val (.ref o1)] [(.int (1 : Int32))])) _
    refine XS.ifNo X1.here hx rfl (hb hby d1_4) rfl ((if0 _ _).trans (feq (by decide : ¬ ((1 : Int32) = (0 : Int32)))).1) ?_
    show Steps p.tables e below (T1.setTop (mkF m 7 #[.val (.ref o1), .val (.ref o1)] [])) _
    refine XS.aloadN X1.here hx rfl (hb hby d1_7) rfl rfl ?_
    show Steps p.tables e below (T1.setTop (mkF m 8 #[.val (.ref o1), .val (.ref o1)] [(.ref o1)])) _
    refine st2 _ ?_
    show Steps p.tables e below (T2.setTop (mkF m 11 #[.val (.ref o1), .val (.ref o1)] [(.long q2)])) _
    refine XS.aloadN X2.here hx rfl (hb hby d1_11) rfl rfl ?_
    show Steps p.tables e below (T2.setTop (mkF m 12 #[.val (.ref o1), .val (.ref o1)] [(.ref o1), (.long q2)])) _
    refine st3 _ ?_
    show Steps p.tables e below (T3.setTop (mkF m 15 #[.val (.ref o1), .val (.ref o1)] [(.ref o1), (.long q2)])) _
    refine st4 _ ?_
    show Steps p.tables e below (T4.setTop (mkF m 18 #[.val (.ref o1), .val (.ref o1)] [(.long q2), (.long q2)])) _
    refine XS.lcmp X4.here hx rfl (hb hby d1_18) rfl ?_
    show Steps p.tables e below (T4.setTop (mkF m 19 #[.val (.ref o1), .val (.ref o1)] [(.int (lcmpW q2 q2))])) _
    refine XS.ifNo X4.here hx rfl (hb hby d1_19) rfl ((if0 _ _).trans (teq ((lw_eq _ _).mpr (rfl : q2 = q2))).2) ?_
    show Steps p.tables e below (T4.setTop (mkF m 22 #[.val (.ref o1), .val (.ref o1)] [])) _
    refine XS.aloadN X4.here hx rfl (hb hby d1_22) rfl rfl ?_
    show Steps p.tables e below (T4.setTop (mkF m 23 #[.val (.ref o1), .val (.ref o1)] [(.ref o1)])) _
    refine st5 _ ?_
    show Steps p.tables e below (T5.setTop (mkF m 26 #[.val (.ref o1), .val (.ref o1)] [(.long q3)])) _
    refine XS.aloadN X5.here hx rfl (hb hby d1_26) rfl rfl ?_
    show Steps p.tables e below (T5.setTop (mkF m 27 #[.val (.ref o1), .val (.ref o1)] [(.ref o1), (.long q3)])) _
    refine st6 _ ?_
    show Steps p.tables e below (T6.setTop (mkF m 30 #[.val (.ref o1), .val (.ref o1)] [(.ref o1), (.long q3)])) _
    refine st7 _ ?_
    show Steps p.tables e below (T7.setTop (mkF m 33 #[.val (.ref o1), .val (.ref o1)] [(.long q3), (.long q3)])) _
    refine XS.lcmp X7.here hx rfl (hb hby d1_33) rfl ?_
    show Steps p.tables e below (T7.setTop (mkF m 34 #[.val (.ref o1), .val (.ref o1)] [(.int (lcmpW q3 q3))])) _
    refine XS.ifNo X7.here hx rfl (hb hby d1_34) rfl ((if0 _ _).trans (teq ((lw_eq _ _).mpr (rfl : q3 = q3))).2) ?_
    show Steps p.tables e below (T7.setTop (mkF m 37 #[.val (.ref o1), .val (.ref o1)] [])) _
    refine XS.iconst X7.here hx rfl (hb hby d1_37) ?_
    show Steps p.tables e below (T7.setTop (mkF m 38 #[.val (.ref o1), .val (.ref o1)] [(.int (1 : Int32))])) _
    refine XS.goto X7.here hx rfl (pc0 := 38) (pc' := 42) rfl (hb hby d1_38) (by decide) (by decide) ?_
    show Steps p.tables e below (T7.setTop (mkF m 42 #[.val (.ref o1), .val (.ref o1)] [(.int (1 : Int32))])) _
    exact retN X7 hx (t := .boolean) hret (by simp) (hb hby d1_42) hr
  ·
    show Q9 Z o1 q2 q3 h0 n0 _ T7.heap _
    rw [e7]
    exact ⟨rfl, N0, rfl⟩
theorem pn3 : plainName "com/example/sablegrid/sablegrid/model/WriteIdEqualsPinLaw" = true := by first | (simp [plainName, overriddenIn]; done) | decide +kernel
theorem ef0 (m : MethodId) (x0 : Int64) (x1 : Int64) (x2 : Int64) (x3 : Int64) (x4 : Int32) : entryFrame m #[(.long x0), (.long x1), (.long x2), (.long x3), (.int x4)] maxLocals = mkF m 0 #[.val (.long x0), .second, .val (.long x1), .second, .val (.long x2), .second, .val (.long x3), .second, .val (.int x4), .unset, .unset, .unset, .unset, .unset, .unset, .unset, .unset, .unset, .unset, .unset] [] := by first | (simp [entryFrame, mkF, argsToLocals, Value.category, maxLocals]; done) | rfl
set_option maxRecDepth 65536 in
set_option maxHeartbeats 40000000 in
theorem rm0 (l : Launch) (Z : State) (a0 : Array Value) (hw : ∀ d ∈ tables_1, d.before a0 Z = true) (w1 : Addr) (cw1 : Cell) (G : GW Z w1 cw1) (ws : List Jvm.Cond) (q1 : Int64) (q2 : Int64) (q3 : Int64) (q4 : Int64) (p5 : Int32) (h0 : Heap) (n0 : Nat) (O0 : Old Z n0 h0) :
    MetFree l x (head1 (Jvm.Cond.code x code maxLocals ret :: ws) room_1) (fun a U => a = #[(.long q1), (.long q2), (.long q3), (.long q4), (.int p5)] ∧ Z.Warmed39 U.vm ∧ U.heap = h0) (fun _ _ _ _ _ => True) (fun _ U o U' => ∃ v L, o = .returned v ∧ Q0 n0 v U'.heap L ∧ FrameEnd U o U' L 16 128) := by
  obtain ⟨S_w1, E_w1, B_w1⟩ := id G
  refine MetFree.of_bodySF (plainFor_of_name pn3) hisR ?_
  intro p e s m args below meth c s₁ Bd hml0 hP hK
  obtain ⟨rfl, hZ, hh⟩ := hP
  have hx := Bd.exec
  have hby := Bd.bytes
  have hml : c.maxLocals = 20 := hml0
  have hown : s.vm.findClass "com/example/sablegrid/sablegrid/model/WriteIdEqualsPinLaw" = some m.cls := findClass_of_methodNamed Bd.named
  have hnm := (name_of_methodNamed Bd.named Bd.method).1
  have hret := Bd.returns
  have hlk : meth.locks = false := BodyLoose.notSynchronized Bd
  have X0 : Stand p l e room_1 s m #[(.long q1), (.long q2), (.long q3), (.long q4), (.int p5)] below meth c s₁ [] 0 0 := Stand.of_body Bd
  have e0 : s₁.heap = h0 := by rw [← hh, Bd.state]; rfl
  have N0 := Fr.nil n0
  have pre0 : ∀ t, Steps p.tables e below (s₁.setTop (mkF m 0 #[.val (.long q1), .second, .val (.long q2), .second, .val (.long q3), .second, .val (.long q4), .second, .val (.int p5), .unset, .unset, .unset, .unset, .unset, .unset, .unset, .unset, .unset, .unset, .unset] [])) t → Steps p.tables e below (s₁.setTop (entryFrame m #[(.long q1), (.long q2), (.long q3), (.long q4), (.int p5)] maxLocals)) t := fun t k => castTop (ef0 m q1 q2 q3 q4 p5) k
  have pre1 : ∀ t, Steps p.tables e below (s₁.setTop (mkF m 4 #[.val (.long q1), .second, .val (.long q2), .second, .val (.long q3), .second, .val (.long q4), .second, .val (.int p5), .unset, .unset, .unset, .unset, .unset, .unset, .unset, .unset, .unset, .unset, .unset] [(.int (p5 &&& (1 : Int32)))])) t → Steps p.tables e below (s₁.setTop (entryFrame m #[(.long q1), (.long q2), (.long q3), (.long q4), (.int p5)] maxLocals)) t := fun t k => by
    refine pre0 _ ?_
    show Steps p.tables e below (s₁.setTop (mkF m 0 #[.val (.long q1), .second, .val (.long q2), .second, .val (.long q3), .second, .val (.long q4), .second, .val (.int p5), .unset, .unset, .unset, .unset, .unset, .unset, .unset, .unset, .unset, .unset, .unset] [])) _
    refine XS.iload X0.here hx rfl (hb hby at_0) rfl ?_
    show Steps p.tables e below (s₁.setTop (mkF m 2 #[.val (.long q1), .second, .val (.long q2), .second, .val (.long q3), .second, .val (.long q4), .second, .val (.int p5), .unset, .unset, .unset, .unset, .unset, .unset, .unset, .unset, .unset, .unset, .unset] [(.int p5)])) _
    refine XS.iconst X0.here hx rfl (hb hby at_2) ?_
    show Steps p.tables e below (s₁.setTop (mkF m 3 #[.val (.long q1), .second, .val (.long q2), .second, .val (.long q3), .second, .val (.long q4), .second, .val (.int p5), .unset, .unset, .unset, .unset, .unset, .unset, .unset, .unset, .unset, .unset, .unset] [(.int (1 : Int32)), (.int p5)])) _
    refine XS.iand X0.here hx rfl (hb hby at_3) rfl ?_
    exact k
  by_cases hc2 : (p5 &&& (1 : Int32)) = (0 : Int32)
  ·
    have pre3 : ∀ t, Steps p.tables e below (s₁.setTop (mkF m 4 #[.val (.long q1), .second, .val (.long q2), .second, .val (.long q3), .second, .val (.long q4), .second, .val (.int p5), .unset, .unset, .unset, .unset, .unset, .unset, .unset, .unset, .unset, .unset, .unset] [(.int (0 : Int32))])) t → Steps p.tables e below (s₁.setTop (entryFrame m #[(.long q1), (.long q2), (.long q3), (.long q4), (.int p5)] maxLocals)) t := fun t k => pre1 t (by rw [hc2]; exact k)
    have pre4 : ∀ t, Steps p.tables e below (s₁.setTop (mkF m 19 #[.val (.long q1), .second, .val (.long q2), .second, .val (.long q3), .second, .val (.long q4), .second, .val (.int p5), .val (.long q3), .second, .unset, .unset, .unset, .unset, .unset, .unset, .unset, .unset, .unset] [(.int (p5 &&& (2 : Int32)))])) t → Steps p.tables e below (s₁.setTop (entryFrame m #[(.long q1), (.long q2), (.long q3), (.long q4), (.int p5)] maxLocals)) t := fun t k => by
      refine pre3 _ ?_
      show Steps p.tables e below (s₁.setTop (mkF m 4 #[.val (.long q1), .second, .val (.long q2), .second, .val (.long q3), .second, .val (.long q4), .second, .val (.int p5), .unset, .unset, .unset, .unset, .unset, .unset, .unset, .unset, .unset, .unset, .unset] [(.int (0 : Int32))])) _
      refine XS.ifYes X0.here hx rfl (pc0 := 4) (pc' := 11) rfl (hb hby at_4) rfl ((if0 _ _).trans (teq (by decide : (0 : Int32) = (0 : Int32))).1) (by decide) (by decide) ?_
      show Steps p.tables e below (s₁.setTop (mkF m 11 #[.val (.long q1), .second, .val (.long q2), .second, .val (.long q3), .second, .val (.long q4), .second, .val (.int p5), .unset, .unset, .unset, .unset, .unset, .unset, .unset, .unset, .unset, .unset, .unset] [])) _
      refine XS.lload X0.here hx rfl (hb hby at_11) rfl ?_
      show Steps p.tables e below (s₁.setTop (mkF m 13 #[.val (.long q1), .second, .val (.long q2), .second, .val (.long q3), .second, .val (.long q4), .second, .val (.int p5), .unset, .unset, .unset, .unset, .unset, .unset, .unset, .unset, .unset, .unset, .unset] [(.long q3)])) _
      refine XS.lstore X0.here hx rfl (hb hby at_13) rfl (l' := #[.val (.long q1), .second, .val (.long q2), .second, .val (.long q3), .second, .val (.long q4), .second, .val (.int p5), .val (.long q3), .second, .unset, .unset, .unset, .unset, .unset, .unset, .unset, .unset, .unset]) rfl ?_
      show Steps p.tables e below (s₁.setTop (mkF m 15 #[.val (.long q1), .second, .val (.long q2), .second, .val (.long q3), .second, .val (.long q4), .second, .val (.int p5), .val (.long q3), .second, .unset, .unset, .unset, .unset, .unset, .unset, .unset, .unset, .unset] [])) _
      refine XS.iload X0.here hx rfl (hb hby at_15) rfl ?_
      show Steps p.tables e below (s₁.setTop (mkF m 17 #[.val (.long q1), .second, .val (.long q2), .second, .val (.long q3), .second, .val (.long q4), .second, .val (.int p5), .val (.long q3), .second, .unset, .unset, .unset, .unset, .unset, .unset, .unset, .unset, .unset] [(.int p5)])) _
      refine XS.iconst X0.here hx rfl (hb hby at_17) ?_
      show Steps p.tables e below (s₁.setTop (mkF m 18 #[.val (.long q1), .second, .val (.long q2), .second, .val (.long q3), .second, .val (.long q4), .second, .val (.int p5), .val (.long q3), .second, .unset, .unset, .unset, .unset, .unset, .unset, .unset, .unset, .unset] [(.int (2 : Int32)), (.int p5)])) _
      refine XS.iand X0.here hx rfl (hb hby at_18) rfl ?_
      exact k
    by_cases hc5 : (p5 &&& (2 : Int32)) = (0 : Int32)
    ·
      have pre6 : ∀ t, Steps p.tables e below (s₁.setTop (mkF m 19 #[.val (.long q1), .second, .val (.long q2), .second, .val (.long q3), .second, .val (.long q4), .second, .val (.int p5), .val (.long q3), .second, .unset, .unset, .unset, .unset, .unset, .unset, .unset, .unset, .unset] [(.int (0 : Int32))])) t → Steps p.tables e below (s₁.setTop (entryFrame m #[(.long q1), (.long q2), (.long q3), (.long q4), (.int p5)] maxLocals)) t := fun t k => pre4 t (by rw [hc5]; exact k)
      obtain ⟨T7, h7, X7, e7, E7, A7, D7, -, st7⟩ := newO X0 hx hZ hown (hw _ (List.mem_of_getElem? (i := 0) rfl)) (hw _ (List.mem_of_getElem? (i := 1) rfl)) (hw _ (List.mem_of_getElem? (i := 2) rfl)) e0 (g := (mkF m 30 #[.val (.long q1), .second, .val (.long q2), .second, .val (.long q3), .second, .val (.long q4), .second, .val (.int p5), .val (.long q3), .second, .val (.long q4), .second, .unset, .unset, .unset, .unset, .unset, .unset, .unset] [])) rfl (hb hby at_30) (by decide) (by decide)
      obtain ⟨b7, g7⟩ : ∃ z, z = h0.size := ⟨_, rfl⟩
      rw [← g7] at A7 D7 st7
      have M7 : h0.size ≤ h7.size := Nat.le_trans (Nat.le_refl _) E7.1
      have O7 := Old.ext O0 E7
      have sz_b7 : h0.size ≤ b7 := Nat.le_of_eq g7.symm
      have g_b7 : n0 ≤ b7 := Nat.le_trans (own_oz O0) (Nat.le_trans (Nat.le_refl _) sz_b7)
      have F7_10 : Fld Z h7 b7 "com/example/sablegrid/sablegrid/model/WriteId" "origin" "J" (.long (0 : Int64)) := D7 (Or.inr (hw _ (List.mem_of_getElem? (i := 10) rfl))) (ty := .long) (by decide)
      have F7_12 : Fld Z h7 b7 "com/example/sablegrid/sablegrid/model/WriteId" "sequence" "J" (.long (0 : Int64)) := D7 (Or.inr (hw _ (List.mem_of_getElem? (i := 12) rfl))) (ty := .long) (by decide)
      obtain ⟨_, _, ⟨T8, L8, c8, n8⟩, -, X8, ⟨Lc8, hQ8, l8, y8, z8⟩, st8⟩ := X7.specialBack hx (y := (⟨"com/example/sablegrid/sablegrid/model/WriteId", "<init>", "(JJ)V"⟩ : MethodName)) rfl hown (mvT hZ (hw _ (List.mem_of_getElem? (i := 3) rfl))) (mvT hZ (hw _ (List.mem_of_getElem? (i := 4) rfl))) (mvT hZ (hw _ (List.mem_of_getElem? (i := 5) rfl))) (by decide) (backOf (W := 1) (rm1 l Z a0 hw [] b7 q1 q2 h7 n0 O7 g_b7 A7 F7_10 F7_12) hZ (hw _ (List.mem_of_getElem? (i := 5) rfl)) (hw _ (List.mem_of_getElem? (i := 2) rfl)) (by decide) (by decide)) (g := (mkF m 36 #[.val (.long q1), .second, .val (.long q2), .second, .val (.long q3), .second, .val (.long q4), .second, .val (.int p5), .val (.long q3), .second, .val (.long q4), .second, .unset, .unset, .unset, .unset, .unset, .unset, .unset] [(.long q2), (.long q1), (.ref b7), (.ref b7)])) rfl (by rw [hml]; rfl) (Steps.refl _) (a := b7) (argsL := [(.long q1), (.long q2)]) (rest := [(.ref b7)]) (lenOf pd0 rfl) rfl (by show 2 * 0 + _ ≤ _; exact Nat.le_of_eq rfl) (hb hby at_36) (fun _ _ => ⟨rfl, e7, (by decide : 1 + 0 ≤ _), (by decide : 2 + 0 ≤ _)⟩)
      dsimp only [Pt.U, Pt.locs, Pt.cells, Pt.slots] at X8 l8 y8 z8 st8 hQ8
      subst l8 y8 z8
      have X8 : Stand p l e room_1 s m #[(.long q1), (.long q2), (.long q3), (.long q4), (.int p5)] below meth c T8 _ 1 2 := X8
      obtain ⟨rfl, Nq9, K10, f11, f12, f13⟩ := hQ8
      have N8 := Fr.app N0 Nq9
      have M8 : h0.size ≤ T8.heap.size := Nat.le_trans M7 K10.1
      have O8 := Old.keep O7 K10 (allS g_b7 all0)
      obtain ⟨T14, h14, X14, e14, E14, A14, D14, -, st14⟩ := newO X8 hx hZ hown (hw _ (List.mem_of_getElem? (i := 0) rfl)) (hw _ (List.mem_of_getElem? (i := 1) rfl)) (hw _ (List.mem_of_getElem? (i := 2) rfl)) rfl (g := (mkF m 41 #[.val (.long q1), .second, .val (.long q2), .second, .val (.long q3), .second, .val (.long q4), .second, .val (.int p5), .val (.long q3), .second, .val (.long q4), .second, .val (.ref b7), .unset, .unset, .unset, .unset, .unset, .unset] [])) rfl (hb hby at_41) (by decide) (by decide)
      obtain ⟨b14, g14⟩ : ∃ z, z = T8.heap.size := ⟨_, rfl⟩
      rw [← g14] at A14 D14 st14
      have M14 : h0.size ≤ h14.size := Nat.le_trans M8 E14.1
      have O14 := Old.ext O8 E14
      have sz_b14 : T8.heap.size ≤ b14 := Nat.le_of_eq g14.symm
      have g_b14 : n0 ≤ b14 := Nat.le_trans (own_oz O0) (Nat.le_trans M8 sz_b14)
      have F14_10 : Fld Z h14 b14 "com/example/sablegrid/sablegrid/model/WriteId" "origin" "J" (.long (0 : Int64)) := D14 (Or.inr (hw _ (List.mem_of_getElem? (i := 10) rfl))) (ty := .long) (by decide)
      have F14_12 : Fld Z h14 b14 "com/example/sablegrid/sablegrid/model/WriteId" "sequence" "J" (.long (0 : Int64)) := D14 (Or.inr (hw _ (List.mem_of_getElem? (i := 12) rfl))) (ty := .long) (by decide)
      obtain ⟨_, _, ⟨T15, L15, c15, n15⟩, -, X15, ⟨Lc15, hQ15, l15, y15, z15⟩, st15⟩ := X14.specialBack hx (y := (⟨"com/example/sablegrid/sablegrid/model/WriteId", "<init>", "(JJ)V"⟩ : MethodName)) rfl hown (mvT hZ (hw _ (List.mem_of_getElem? (i := 3) rfl))) (mvT hZ (hw _ (List.mem_of_getElem? (i := 4) rfl))) (mvT hZ (hw _ (List.mem_of_getElem? (i := 5) rfl))) (by decide) (backOf (W := 1) (rm1 l Z a0 hw [] b14 q3 q4 h14 n0 O14 g_b14 A14 F14_10 F14_12) hZ (hw _ (List.mem_of_getElem? (i := 5) rfl)) (hw _ (List.mem_of_getElem? (i := 2) rfl)) (by decide) (by decide)) (g := (mkF m 49 #[.val (.long q1), .second, .val (.long q2), .second, .val (.long q3), .second, .val (.long q4), .second, .val (.int p5), .val (.long q3), .second, .val (.long q4), .second, .val (.ref b7), .unset, .unset, .unset, .unset, .unset, .unset] [(.long q4), (.long q3), (.ref b14), (.ref b14)])) rfl (by rw [hml]; rfl) (Steps.refl _) (a := b14) (argsL := [(.long q3), (.long q4)]) (rest := [(.ref b14)]) (lenOf pd0 rfl) rfl (by show 2 * 0 + _ ≤ _; exact Nat.le_of_eq rfl) (hb hby at_49) (fun _ _ => ⟨rfl, e14, (by decide : 2 + 0 ≤ _), (by decide : 4 + 0 ≤ _)⟩)
      dsimp only [Pt.U, Pt.locs, Pt.cells, Pt.slots] at X15 l15 y15 z15 st15 hQ15
      subst l15 y15 z15
      have X15 : Stand p l e room_1 s m #[(.long q1), (.long q2), (.long q3), (.long q4), (.int p5)] below meth c T15 _ 2 4 := X15
      obtain ⟨rfl, Nq16, K17, f18, f19, f20⟩ := hQ15
      have N15 := Fr.app N8 Nq16
      have M15 : h0.size ≤ T15.heap.size := Nat.le_trans M14 K17.1
      have O15 := Old.keep O14 K17 (allS g_b14 all0)
      have pre21 : ∀ t, Steps p.tables e below (T15.setTop (mkF m 64 #[.val (.long q1), .second, .val (.long q2), .second, .val (.long q3), .second, .val (.long q4), .second, .val (.int p5), .val (.long q3), .second, .val (.long q4), .second, .val (.ref b7), .val (.ref b14), .val (.int (((p5.toUInt32 >>> ((2 : Int32) &&& 31).toUInt32).toInt32) &&& (3 : Int32))), .unset, .unset, .unset, .unset] [(.int (((p5.toUInt32 >>> ((2 : Int32) &&& 31).toUInt32).toInt32) &&& (3 : Int32)))])) t → Steps p.tables e below (s₁.setTop (entryFrame m #[(.long q1), (.long q2), (.long q3), (.long q4), (.int p5)] maxLocals)) t := fun t k => by
        refine pre6 _ ?_
        show Steps p.tables e below (s₁.setTop (mkF m 19 #[.val (.long q1), .second, .val (.long q2), .second, .val (.long q3), .second, .val (.long q4), .second, .val (.int p5), .val (.long q3), .second, .unset, .unset, .unset, .unset, .unset, .unset, .unset, .unset, .unset] [(.int (0 : Int32))])) _
        refine XS.ifYes X0.here hx rfl (pc0 := 19) (pc' := 26) rfl (hb hby at_19) rfl ((if0 _ _).trans (teq (by decide : (0 : Int32) = (0 : Int32))).1) (by decide) (by decide) ?_
        show Steps p.tables e below (s₁.setTop (mkF m 26 #[.val (.long q1), .second, .val (.long q2), .second, .val (.long q3), .second, .val (.long q4), .second, .val (.int p5), .val (.long q3), .second, .unset, .unset, .unset, .unset, .unset, .unset, .unset, .unset, .unset] [])) _
        refine XS.lload X0.here hx rfl (hb hby at_26) rfl ?_
        show Steps p.tables e below (s₁.setTop (mkF m 28 #[.val (.long q1), .second, .val (.long q2), .second, .val (.long q3), .second, .val (.long q4), .second, .val (.int p5), .val (.long q3), .second, .unset, .unset, .unset, .unset, .unset, .unset, .unset, .unset, .unset] [(.long q4)])) _
        refine XS.lstore X0.here hx rfl (hb hby at_28) rfl (l' := #[.val (.long q1), .second, .val (.long q2), .second, .val (.long q3), .second, .val (.long q4), .second, .val (.int p5), .val (.long q3), .second, .val (.long q4), .second, .unset, .unset, .unset, .unset, .unset, .unset, .unset]) rfl ?_
        show Steps p.tables e below (s₁.setTop (mkF m 30 #[.val (.long q1), .second, .val (.long q2), .second, .val (.long q3), .second, .val (.long q4), .second, .val (.int p5), .val (.long q3), .second, .val (.long q4), .second, .unset, .unset, .unset, .unset, .unset, .unset, .unset] [])) _
        refine st7 _ ?_
        show Steps p.tables e below (T7.setTop (mkF m 33 #[.val (.long q1), .second, .val (.long q2), .second, .val (.long q3), .second, .val (.long q4), .second, .val (.int p5), .val (.long q3), .second, .val (.long q4), .second, .unset, .unset, .unset, .unset, .unset, .unset, .unset] [(.ref b7)])) _
        refine XS.dup X7.here hx rfl (hb hby at_33) rfl rfl ?_
        show Steps p.tables e below (T7.setTop (mkF m 34 #[.val (.long q1), .second, .val (.long q2), .second, .val (.long q3), .second, .val (.long q4), .second, .val (.int p5), .val (.long q3), .second, .val (.long q4), .second, .unset, .unset, .unset, .unset, .unset, .unset, .unset] [(.ref b7), (.ref b7)])) _
        refine XS.lloadN X7.here hx rfl (hb hby at_34) rfl ?_
        show Steps p.tables e below (T7.setTop (mkF m 35 #[.val (.long q1), .second, .val (.long q2), .second, .val (.long q3), .second, .val (.long q4), .second, .val (.int p5), .val (.long q3), .second, .val (.long q4), .second, .unset, .unset, .unset, .unset, .unset, .unset, .unset] [(.long q1), (.ref b7), (.ref b7)])) _
        refine XS.lloadN X7.here hx rfl (hb hby at_35) rfl ?_
        show Steps p.tables e below (T7.setTop (mkF m 36 #[.val (.long q1), .second, .val (.long q2), .second, .val (.long q3), .second, .val (.long q4), .second, .val (.int p5), .val (.long q3), .second, .val (.long q4), .second, .unset, .unset, .unset, .unset, .unset, .unset, .unset] [(.long q2), (.long q1), (.ref b7), (.ref b7)])) _
        refine st8.trans ?_
        show Steps p.tables e below (T8.setTop (mkF m 39 #[.val (.long q1), .second, .val (.long q2), .second, .val (.long q3), .second, .val (.long q4), .second, .val (.int p5), .val (.long q3), .second, .val (.long q4), .second, .unset, .unset, .unset, .unset, .unset, .unset, .unset] [(.ref b7)])) _
        refine XS.astore X8.here hx rfl (hb hby at_39) rfl rfl (l' := #[.val (.long q1), .second, .val (.long q2), .second, .val (.long q3), .second, .val (.long q4), .second, .val (.int p5), .val (.long q3), .second, .val (.long q4), .second, .val (.ref b7), .unset, .unset, .unset, .unset, .unset, .unset]) rfl ?_
        show Steps p.tables e below (T8.setTop (mkF m 41 #[.val (.long q1), .second, .val (.long q2), .second, .val (.long q3), .second, .val (.long q4), .second, .val (.int p5), .val (.long q3), .second, .val (.long q4), .second, .val (.ref b7), .unset, .unset, .unset, .unset, .unset, .unset] [])) _
        refine st14 _ ?_
        show Steps p.tables e below (T14.setTop (mkF m 44 #[.val (.long q1), .second, .val (.long q2), .second, .val (.long q3), .second, .val (.long q4), .second, .val (.int p5), .val (.long q3), .second, .val (.long q4), .second, .val (.ref b7), .unset, .unset, .unset, .unset, .unset, .unset] [(.ref b14)])) _
        refine XS.dup X14.here hx rfl (hb hby at_44) rfl rfl ?_
        show Steps p.tables e below (T14.setTop (mkF m 45 #[.val (.long q1), .second, .val (.long q2), .second, .val (.long q3), .second, .val (.long q4), .second, .val (.int p5), .val (.long q3), .second, .val (.long q4), .second, .val (.ref b7), .unset, .unset, .unset, .unset, .unset, .unset] [(.ref b14), (.ref b14)])) _
        refine XS.lload X14.here hx rfl (hb hby at_45) rfl ?_
        show Steps p.tables e below (T14.setTop (mkF m 47 #[.val (.long q1), .second, .val (.long q2), .second, .val (.long q3), .second, .val (.long q4), .second, .val (.int p5), .val (.long q3), .second, .val (.long q4), .second, .val (.ref b7), .unset, .unset, .unset, .unset, .unset, .unset] [(.long q3), (.ref b14), (.ref b14)])) _
        refine XS.lload X14.here hx rfl (hb hby at_47) rfl ?_
        show Steps p.tables e below (T14.setTop (mkF m 49 #[.val (.long q1), .second, .val (.long q2), .second, .val (.long q3), .second, .val (.long q4), .second, .val (.int p5), .val (.long q3), .second, .val (.long q4), .second, .val (.ref b7), .unset, .unset, .unset, .unset, .unset, .unset] [(.long q4), (.long q3), (.ref b14), (.ref b14)])) _
        refine st15.trans ?_
        show Steps p.tables e below (T15.setTop (mkF m 52 #[.val (.long q1), .second, .val (.long q2), .second, .val (.long q3), .second, .val (.long q4), .second, .val (.int p5), .val (.long q3), .second, .val (.long q4), .second, .val (.ref b7), .unset, .unset, .unset, .unset, .unset, .unset] [(.ref b14)])) _
        refine XS.astore X15.here hx rfl (hb hby at_52) rfl rfl (l' := #[.val (.long q1), .second, .val (.long q2), .second, .val (.long q3), .second, .val (.long q4), .second, .val (.int p5), .val (.long q3), .second, .val (.long q4), .second, .val (.ref b7), .val (.ref b14), .unset, .unset, .unset, .unset, .unset]) rfl ?_
        show Steps p.tables e below (T15.setTop (mkF m 54 #[.val (.long q1), .second, .val (.long q2), .second, .val (.long q3), .second, .val (.long q4), .second, .val (.int p5), .val (.long q3), .second, .val (.long q4), .second, .val (.ref b7), .val (.ref b14), .unset, .unset, .unset, .unset, .unset] [])) _
        refine XS.iload X15.here hx rfl (hb hby at_54) rfl ?_
        show Steps p.tables e below (T15.setTop (mkF m 56 #[.val (.long q1), .second, .val (.long q2), .second, .val (.long q3), .second, .val (.long q4), .second, .val (.int p5), .val (.long q3), .second, .val (.long q4), .second, .val (.ref b7), .val (.ref b14), .unset, .unset, .unset, .unset, .unset] [(.int p5)])) _
        refine XS.iconst X15.here hx rfl (hb hby at_56) ?_
        show Steps p.tables e below (T15.setTop (mkF m 57 #[.val (.long q1), .second, .val (.long q2), .second, .val (.long q3), .second, .val (.long q4), .second, .val (.int p5), .val (.long q3), .second, .val (.long q4), .second, .val (.ref b7), .val (.ref b14), .unset, .unset, .unset, .unset, .unset] [(.int (2 : Int32)), (.int p5)])) _
        refine XS.iushr X15.here hx rfl (hb hby at_57) rfl ?_
        show Steps p.tables e below (T15.setTop (mkF m 58 #[.val (.long q1), .second, .val (.long q2), .second, .val (.long q3), .second, .val (.long q4), .second, .val (.int p5), .val (.long q3), .second, .val (.long q4), .second, .val (.ref b7), .val (.ref b14), .unset, .unset, .unset, .unset, .unset] [(.int ((p5.toUInt32 >>> ((2 : Int32) &&& 31).toUInt32).toInt32))])) _
        refine XS.iconst X15.here hx rfl (hb hby at_58) ?_
        show Steps p.tables e below (T15.setTop (mkF m 59 #[.val (.long q1), .second, .val (.long q2), .second, .val (.long q3), .second, .val (.long q4), .second, .val (.int p5), .val (.long q3), .second, .val (.long q4), .second, .val (.ref b7), .val (.ref b14), .unset, .unset, .unset, .unset, .unset] [(.int (3 : Int32)), (.int ((p5.toUInt32 >>> ((2 : Int32) &&& 31).toUInt32).toInt32))])) _
        refine XS.iand X15.here hx rfl (hb hby at_59) rfl ?_
        show Steps p.tables e below (T15.setTop (mkF m 60 #[.val (.long q1), .second, .val (.long q2), .second, .val (.long q3), .second, .val (.long q4), .second, .val (.int p5), .val (.long q3), .second, .val (.long q4), .second, .val (.ref b7), .val (.ref b14), .unset, .unset, .unset, .unset, .unset] [(.int (((p5.toUInt32 >>> ((2 : Int32) &&& 31).toUInt32).toInt32) &&& (3 : Int32)))])) _
        refine XS.istore X15.here hx rfl (hb hby at_60) rfl (l' := #[.val (.long q1), .second, .val (.long q2), .second, .val (.long q3), .second, .val (.long q4), .second, .val (.int p5), .val (.long q3), .second, .val (.long q4), .second, .val (.ref b7), .val (.ref b14), .val (.int (((p5.toUInt32 >>> ((2 : Int32) &&& 31).toUInt32).toInt32) &&& (3 : Int32))), .unset, .unset, .unset, .unset]) rfl ?_
        show Steps p.tables e below (T15.setTop (mkF m 62 #[.val (.long q1), .second, .val (.long q2), .second, .val (.long q3), .second, .val (.long q4), .second, .val (.int p5), .val (.long q3), .second, .val (.long q4), .second, .val (.ref b7), .val (.ref b14), .val (.int (((p5.toUInt32 >>> ((2 : Int32) &&& 31).toUInt32).toInt32) &&& (3 : Int32))), .unset, .unset, .unset, .unset] [])) _
        refine XS.iload X15.here hx rfl (hb hby at_62) rfl ?_
        exact k
      by_cases hc22 : (((p5.toUInt32 >>> ((2 : Int32) &&& 31).toUInt32).toInt32) &&& (3 : Int32)) = (0 : Int32)
      ·
        have pre23 : ∀ t, Steps p.tables e below (T15.setTop (mkF m 64 #[.val (.long q1), .second, .val (.long q2), .second, .val (.long q3), .second, .val (.long q4), .second, .val (.int p5), .val (.long q3), .second, .val (.long q4), .second, .val (.ref b7), .val (.ref b14), .val (.int (0 : Int32)), .unset, .unset, .unset, .unset] [(.int (0 : Int32))])) t → Steps p.tables e below (s₁.setTop (entryFrame m #[(.long q1), (.long q2), (.long q3), (.long q4), (.int p5)] maxLocals)) t := fun t k => pre21 t (by rw [hc22]; exact k)
        have pre24 : ∀ t, Steps p.tables e below (T15.setTop (mkF m 75 #[.val (.long q1), .second, .val (.long q2), .second, .val (.long q3), .second, .val (.long q4), .second, .val (.int p5), .val (.long q3), .second, .val (.long q4), .second, .val (.ref b7), .val (.ref b14), .val (.int (0 : Int32)), .val (.ref b14), .unset, .unset, .unset] [(.int (lcmpW q1 q3))])) t → Steps p.tables e below (s₁.setTop (entryFrame m #[(.long q1), (.long q2), (.long q3), (.long q4), (.int p5)] maxLocals)) t := fun t k => by
          refine pre23 _ ?_
          show Steps p.tables e below (T15.setTop (mkF m 64 #[.val (.long q1), .second, .val (.long q2), .second, .val (.long q3), .second, .val (.long q4), .second, .val (.int p5), .val (.long q3), .second, .val (.long q4), .second, .val (.ref b7), .val (.ref b14), .val (.int (0 : Int32)), .unset, .unset, .unset, .unset] [(.int (0 : Int32))])) _
          refine XS.ifNo X15.here hx rfl (hb hby at_64) rfl ((if0 _ _).trans (teq (by decide : (0 : Int32) = (0 : Int32))).2) ?_
          show Steps p.tables e below (T15.setTop (mkF m 67 #[.val (.long q1), .second, .val (.long q2), .second, .val (.long q3), .second, .val (.long q4), .second, .val (.int p5), .val (.long q3), .second, .val (.long q4), .second, .val (.ref b7), .val (.ref b14), .val (.int (0 : Int32)), .unset, .unset, .unset, .unset] [])) _
          refine XS.aload X15.here hx rfl (hb hby at_67) rfl rfl ?_
          show Steps p.tables e below (T15.setTop (mkF m 69 #[.val (.long q1), .second, .val (.long q2), .second, .val (.long q3), .second, .val (.long q4), .second, .val (.int p5), .val (.long q3), .second, .val (.long q4), .second, .val (.ref b7), .val (.ref b14), .val (.int (0 : Int32)), .unset, .unset, .unset, .unset] [(.ref b14)])) _
          refine XS.astore X15.here hx rfl (hb hby at_69) rfl rfl (l' := #[.val (.long q1), .second, .val (.long q2), .second, .val (.long q3), .second, .val (.long q4), .second, .val (.int p5), .val (.long q3), .second, .val (.long q4), .second, .val (.ref b7), .val (.ref b14), .val (.int (0 : Int32)), .val (.ref b14), .unset, .unset, .unset]) rfl ?_
          show Steps p.tables e below (T15.setTop (mkF m 71 #[.val (.long q1), .second, .val (.long q2), .second, .val (.long q3), .second, .val (.long q4), .second, .val (.int p5), .val (.long q3), .second, .val (.long q4), .second, .val (.ref b7), .val (.ref b14), .val (.int (0 : Int32)), .val (.ref b14), .unset, .unset, .unset] [])) _
          refine XS.lloadN X15.here hx rfl (hb hby at_71) rfl ?_
          show Steps p.tables e below (T15.setTop (mkF m 72 #[.val (.long q1), .second, .val (.long q2), .second, .val (.long q3), .second, .val (.long q4), .second, .val (.int p5), .val (.long q3), .second, .val (.long q4), .second, .val (.ref b7), .val (.ref b14), .val (.int (0 : Int32)), .val (.ref b14), .unset, .unset, .unset] [(.long q1)])) _
          refine XS.lload X15.here hx rfl (hb hby at_72) rfl ?_
          show Steps p.tables e below (T15.setTop (mkF m 74 #[.val (.long q1), .second, .val (.long q2), .second, .val (.long q3), .second, .val (.long q4), .second, .val (.int p5), .val (.long q3), .second, .val (.long q4), .second, .val (.ref b7), .val (.ref b14), .val (.int (0 : Int32)), .val (.ref b14), .unset, .unset, .unset] [(.long q3), (.long q1)])) _
          refine XS.lcmp X15.here hx rfl (hb hby at_74) rfl ?_
          exact k
        by_cases hc25 : q1 = q3
        ·
          have pre26 : ∀ t, Steps p.tables e below (T15.setTop (mkF m 82 #[.val (.long q1), .second, .val (.long q2), .second, .val (.long q3), .second, .val (.long q4), .second, .val (.int p5), .val (.long q3), .second, .val (.long q4), .second, .val (.ref b7), .val (.ref b14), .val (.int (0 : Int32)), .val (.ref b14), .unset, .unset, .unset] [(.int (lcmpW q2 q4))])) t → Steps p.tables e below (s₁.setTop (entryFrame m #[(.long q1), (.long q2), (.long q3), (.long q4), (.int p5)] maxLocals)) t := fun t k => by
            refine pre24 _ ?_
            show Steps p.tables e below (T15.setTop (mkF m 75 #[.val (.long q1), .second, .val (.long q2), .second, .val (.long q3), .second, .val (.long q4), .second, .val (.int p5), .val (.long q3), .second, .val (.long q4), .second, .val (.ref b7), .val (.ref b14), .val (.int (0 : Int32)), .val (.ref b14), .unset, .unset, .unset] [(.int (lcmpW q1 q3))])) _
            refine XS.ifNo X15.here hx rfl (hb hby at_75) rfl ((if0 _ _).trans (teq ((lw_eq _ _).mpr hc25)).2) ?_
            show Steps p.tables e below (T15.setTop (mkF m 78 #[.val (.long q1), .second, .val (.long q2), .second, .val (.long q3), .second, .val (.long q4), .second, .val (.int p5), .val (.long q3), .second, .val (.long q4), .second, .val (.ref b7), .val (.ref b14), .val (.int (0 : Int32)), .val (.ref b14), .unset, .unset, .unset] [])) _
            refine XS.lloadN X15.here hx rfl (hb hby at_78) rfl ?_
            show Steps p.tables e below (T15.setTop (mkF m 79 #[.val (.long q1), .second, .val (.long q2), .second, .val (.long q3), .second, .val (.long q4), .second, .val (.int p5), .val (.long q3), .second, .val (.long q4), .second, .val (.ref b7), .val (.ref b14), .val (.int (0 : Int32)), .val (.ref b14), .unset, .unset, .unset] [(.long q2)])) _
            refine XS.lload X15.here hx rfl (hb hby at_79) rfl ?_
            show Steps p.tables e below (T15.setTop (mkF m 81 #[.val (.long q1), .second, .val (.long q2), .second, .val (.long q3), .second, .val (.long q4), .second, .val (.int p5), .val (.long q3), .second, .val (.long q4), .second, .val (.ref b7), .val (.ref b14), .val (.int (0 : Int32)), .val (.ref b14), .unset, .unset, .unset] [(.long q4), (.long q2)])) _
            refine XS.lcmp X15.here hx rfl (hb hby at_81) rfl ?_
            exact k
          by_cases hc27 : q2 = q4
          ·
            have lt28 : b7 < T8.heap.size := (Nat.lt_of_lt_of_le A7.lt K10.1)
            have ne29 : b7 ≠ b14 := Nat.ne_of_lt (Nat.lt_of_lt_of_le lt28 sz_b14)
            have f30 := ((f12.ext E14).keep K17 (ninS ne29 nin0))
            have f31 := ((f13.ext E14).keep K17 (ninS ne29 nin0))
            have f33 := ((f11.ext E14).keep K17)
            obtain ⟨cq32, kq32, q32a, q32b, q32c⟩ := isOf hZ rfl f33
            obtain ⟨_, _, ⟨T34, L34, c34, n34⟩, -, X34, ⟨Lc34, hQ34, l34, y34, z34⟩, st34⟩ := X15.virtualBack hx (y := (⟨"com/example/sablegrid/sablegrid/model/WriteId", "equals", "(Ljava/lang/Object;)Z"⟩ : MethodName)) (z := (⟨"com/example/sablegrid/sablegrid/model/WriteId", "equals", "(Ljava/lang/Object;)Z"⟩ : MethodName)) hown (mvT hZ (hw _ (List.mem_of_getElem? (i := 13) rfl))) (mvT hZ (hw _ (List.mem_of_getElem? (i := 14) rfl))) (notFace_of_selects (args := #[]) (mvT hZ (hw _ (List.mem_of_getElem? (i := 16) rfl)))) (mvT hZ (hw _ (List.mem_of_getElem? (i := 16) rfl))) (mvT hZ (hw _ (List.mem_of_getElem? (i := 15) rfl))) (by decide) (backOf (W := 0) (rm2 l Z a0 hw [] b7 b14 q1 q2 q3 q4 T15.heap n0 O15 g_b7 g_b14 f30 f31 f18 f19 f20) hZ (hw _ (List.mem_of_getElem? (i := 17) rfl)) (hw _ (List.mem_of_getElem? (i := 2) rfl)) (by decide) (by decide)) q32a q32c (g := (mkF m 139 #[.val (.long q1), .second, .val (.long q2), .second, .val (.long q3), .second, .val (.long q4), .second, .val (.int p5), .val (.long q3), .second, .val (.long q4), .second, .val (.ref b7), .val (.ref b14), .val (.int (0 : Int32)), .val (.ref b14), .val (.int (1 : Int32)), .unset, .unset] [(.ref b14), (.ref b7)])) rfl (by rw [hml]; rfl) (Steps.refl _) (argsL := [(.ref b14)]) (rest := []) (lenOf pd1 rfl) rfl (by show 2 * 0 + _ ≤ _; exact Nat.le_of_eq rfl) (hb hby at_139) (fun _ _ => ⟨rfl, rfl, (by decide : 2 + 0 ≤ _), (by decide : 4 + 0 ≤ _)⟩)
            dsimp only [Pt.U, Pt.locs, Pt.cells, Pt.slots] at X34 l34 y34 z34 st34 hQ34
            subst l34 y34 z34
            have pre35 : ∀ t, Steps p.tables e below (T15.setTop (mkF m 139 #[.val (.long q1), .second, .val (.long q2), .second, .val (.long q3), .second, .val (.long q4), .second, .val (.int p5), .val (.long q3), .second, .val (.long q4), .second, .val (.ref b7), .val (.ref b14), .val (.int (0 : Int32)), .val (.ref b14), .val (.int (1 : Int32)), .unset, .unset] [(.ref b14), (.ref b7)])) t → Steps p.tables e below (s₁.setTop (entryFrame m #[(.long q1), (.long q2), (.long q3), (.long q4), (.int p5)] maxLocals)) t := fun t k => by
              refine pre26 _ ?_
              show Steps p.tables e below (T15.setTop (mkF m 82 #[.val (.long q1), .second, .val (.long q2), .second, .val (.long q3), .second, .val (.long q4), .second, .val (.int p5), .val (.long q3), .second, .val (.long q4), .second, .val (.ref b7), .val (.ref b14), .val (.int (0 : Int32)), .val (.ref b14), .unset, .unset, .unset] [(.int (lcmpW q2 q4))])) _
              refine XS.ifNo X15.here hx rfl (hb hby at_82) rfl ((if0 _ _).trans (teq ((lw_eq _ _).mpr hc27)).2) ?_
              show Steps p.tables e below (T15.setTop (mkF m 85 #[.val (.long q1), .second, .val (.long q2), .second, .val (.long q3), .second, .val (.long q4), .second, .val (.int p5), .val (.long q3), .second, .val (.long q4), .second, .val (.ref b7), .val (.ref b14), .val (.int (0 : Int32)), .val (.ref b14), .unset, .unset, .unset] [])) _
              refine XS.iconst X15.here hx rfl (hb hby at_85) ?_
              show Steps p.tables e below (T15.setTop (mkF m 86 #[.val (.long q1), .second, .val (.long q2), .second, .val (.long q3), .second, .val (.long q4), .second, .val (.int p5), .val (.long q3), .second, .val (.long q4), .second, .val (.ref b7), .val (.ref b14), .val (.int (0 : Int32)), .val (.ref b14), .unset, .unset, .unset] [(.int (1 : Int32))])) _
              refine XS.goto X15.here hx rfl (pc0 := 86) (pc' := 90) rfl (hb hby at_86) (by decide) (by decide) ?_
              show Steps p.tables e below (T15.setTop (mkF m 90 #[.val (.long q1), .second, .val (.long q2), .second, .val (.long q3), .second, .val (.long q4), .second, .val (.int p5), .val (.long q3), .second, .val (.long q4), .second, .val (.ref b7), .val (.ref b14), .val (.int (0 : Int32)), .val (.ref b14), .unset, .unset, .unset] [(.int (1 : Int32))])) _
              refine XS.istore X15.here hx rfl (hb hby at_90) rfl (l' := #[.val (.long q1), .second, .val (.long q2), .second, .val (.long q3), .second, .val (.long q4), .second, .val (.int p5), .val (.long q3), .second, .val (.long q4), .second, .val (.ref b7), .val (.ref b14), .val (.int (0 : Int32)), .val (.ref b14), .val (.int (1 : Int32)), .unset, .unset]) rfl ?_
              show Steps p.tables e below (T15.setTop (mkF m 92 #[.val (.long q1), .second, .val (.long q2), .second, .val (.long q3), .second, .val (.long q4), .second, .val (.int p5), .val (.long q3), .second, .val (.long q4), .second, .val (.ref b7), .val (.ref b14), .val (.int (0 : Int32)), .val (.ref b14), .val (.int (1 : Int32)), .unset, .unset] [])) _
              refine XS.goto X15.here hx rfl (pc0 := 92) (pc' := 135) rfl (hb hby at_92) (by decide) (by decide) ?_
              show Steps p.tables e below (T15.setTop (mkF m 135 #[.val (.long q1), .second, .val (.long q2), .second, .val (.long q3), .second, .val (.long q4), .second, .val (.int p5), .val (.long q3), .second, .val (.long q4), .second, .val (.ref b7), .val (.ref b14), .val (.int (0 : Int32)), .val (.ref b14), .val (.int (1 : Int32)), .unset, .unset] [])) _
              refine XS.aload X15.here hx rfl (hb hby at_135) rfl rfl ?_
              show Steps p.tables e below (T15.setTop (mkF m 137 #[.val (.long q1), .second, .val (.long q2), .second, .val (.long q3), .second, .val (.long q4), .second, .val (.int p5), .val (.long q3), .second, .val (.long q4), .second, .val (.ref b7), .val (.ref b14), .val (.int (0 : Int32)), .val (.ref b14), .val (.int (1 : Int32)), .unset, .unset] [(.ref b7)])) _
              refine XS.aload X15.here hx rfl (hb hby at_137) rfl rfl ?_
              exact k
            have X34 : Stand p l e room_1 s m #[(.long q1), (.long q2), (.long q3), (.long q4), (.int p5)] below meth c T34 _ 2 4 := X34
            rcases hQ34 with ⟨hc36, hc37, rfl, Nq38, e39⟩ | ⟨hc40, hc41, rfl, Nq42, e43⟩ | ⟨hc44, rfl, Nq45, e46⟩
            ·
              have N34 := Fr.app N15 Nq38
              obtain ⟨cq47, kq47, q47a, q47b, q47c⟩ := isOf hZ e39 f18
              obtain ⟨_, _, ⟨T48, L48, c48, n48⟩, -, X48, ⟨Lc48, hQ48, l48, y48, z48⟩, st48⟩ := X34.virtualBack hx (y := (⟨"com/example/sablegrid/sablegrid/model/WriteId", "equals", "(Ljava/lang/Object;)Z"⟩ : MethodName)) (z := (⟨"com/example/sablegrid/sablegrid/model/WriteId", "equals", "(Ljava/lang/Object;)Z"⟩ : MethodName)) hown (mvT hZ (hw _ (List.mem_of_getElem? (i := 13) rfl))) (mvT hZ (hw _ (List.mem_of_getElem? (i := 14) rfl))) (notFace_of_selects (args := #[]) (mvT hZ (hw _ (List.mem_of_getElem? (i := 16) rfl)))) (mvT hZ (hw _ (List.mem_of_getElem? (i := 16) rfl))) (mvT hZ (hw _ (List.mem_of_getElem? (i := 15) rfl))) (by decide) (backOf (W := 0) (rm2 l Z a0 hw [] b14 b7 q3 q4 q1 q2 T15.heap n0 O15 g_b14 g_b7 f19 f20 f33 f30 f31) hZ (hw _ (List.mem_of_getElem? (i := 17) rfl)) (hw _ (List.mem_of_getElem? (i := 2) rfl)) (by decide) (by decide)) q47a q47c (g := (mkF m 162 #[.val (.long q1), .second, .val (.long q2), .second, .val (.long q3), .second, .val (.long q4), .second, .val (.int p5), .val (.long q3), .second, .val (.long q4), .second, .val (.ref b7), .val (.ref b14), .val (.int (0 : Int32)), .val (.ref b14), .val (.int (1 : Int32)), .val (.int (1 : Int32)), .unset] [(.ref b7), (.ref b14)])) rfl (by rw [hml]; rfl) (Steps.refl _) (argsL := [(.ref b7)]) (rest := []) (lenOf pd1 rfl) rfl (by show 2 * 0 + _ ≤ _; exact Nat.le_of_eq rfl) (hb hby at_162) (fun _ _ => ⟨rfl, e39, (by decide : 2 + 0 ≤ _), (by decide : 4 + 0 ≤ _)⟩)
              dsimp only [Pt.U, Pt.locs, Pt.cells, Pt.slots] at X48 l48 y48 z48 st48 hQ48
              subst l48 y48 z48
              have pre49 : ∀ t, Steps p.tables e below (T34.setTop (mkF m 162 #[.val (.long q1), .second, .val (.long q2), .second, .val (.long q3), .second, .val (.long q4), .second, .val (.int p5), .val (.long q3), .second, .val (.long q4), .second, .val (.ref b7), .val (.ref b14), .val (.int (0 : Int32)), .val (.ref b14), .val (.int (1 : Int32)), .val (.int (1 : Int32)), .unset] [(.ref b7), (.ref b14)])) t → Steps p.tables e below (s₁.setTop (entryFrame m #[(.long q1), (.long q2), (.long q3), (.long q4), (.int p5)] maxLocals)) t := fun t k => by
                refine pre35 _ ?_
                show Steps p.tables e below (T15.setTop (mkF m 139 #[.val (.long q1), .second, .val (.long q2), .second, .val (.long q3), .second, .val (.long q4), .second, .val (.int p5), .val (.long q3), .second, .val (.long q4), .second, .val (.ref b7), .val (.ref b14), .val (.int (0 : Int32)), .val (.ref b14), .val (.int (1 : Int32)), .unset, .unset] [(.ref b14), (.ref b7)])) _
                refine st34.trans ?_
                show Steps p.tables e below (T34.setTop (mkF m 142 #[.val (.long q1), .second, .val (.long q2), .second, .val (.long q3), .second, .val (.long q4), .second, .val (.int p5), .val (.long q3), .second, .val (.long q4), .second, .val (.ref b7), .val (.ref b14), .val (.int (0 : Int32)), .val (.ref b14), .val (.int (1 : Int32)), .unset, .unset] [(.int (1 : Int32))])) _
                refine XS.istore X34.here hx rfl (hb hby at_142) rfl (l' := #[.val (.long q1), .second, .val (.long q2), .second, .val (.long q3), .second, .val (.long q4), .second, .val (.int p5), .val (.long q3), .second, .val (.long q4), .second, .val (.ref b7), .val (.ref b14), .val (.int (0 : Int32)), .val (.ref b14), .val (.int (1 : Int32)), .val (.int (1 : Int32)), .unset]) rfl ?_
                show Steps p.tables e below (T34.setTop (mkF m 144 #[.val (.long q1), .second, .val (.long q2), .second, .val (.long q3), .second, .val (.long q4), .second, .val (.int p5), .val (.long q3), .second, .val (.long q4), .second, .val (.ref b7), .val (.ref b14), .val (.int (0 : Int32)), .val (.ref b14), .val (.int (1 : Int32)), .val (.int (1 : Int32)), .unset] [])) _
                refine XS.iload X34.here hx rfl (hb hby at_144) rfl ?_
                show Steps p.tables e below (T34.setTop (mkF m 146 #[.val (.long q1), .second, .val (.long q2), .second, .val (.long q3), .second, .val (.long q4), .second, .val (.int p5), .val (.long q3), .second, .val (.long q4), .second, .val (.ref b7), .val (.ref b14), .val (.int (0 : Int32)), .val (.ref b14), .val (.int (1 : Int32)), .val (.int (1 : Int32)), .unset] [(.int (1 : Int32))])) _
                refine XS.iload X34.here hx rfl (hb hby at_146) rfl ?_
                show Steps p.tables e below (T34.setTop (mkF m 148 #[.val (.long q1), .second, .val (.long q2), .second, .val (.long q3), .second, .val (.long q4), .second, .val (.int p5), .val (.long q3), .second, .val (.long q4), .second, .val (.ref b7), .val (.ref b14), .val (.int (0 : Int32)), .val (.ref b14), .val (.int (1 : Int32)), .val (.int (1 : Int32)), .unset] [(.int (1 : Int32)), (.int (1 : Int32))])) _
                refine XS.icmpYes X34.here hx rfl (pc0 := 148) (pc' := 153) rfl (hb hby at_148) rfl (teq (by decide : (1 : Int32) = (1 : Int32))).1 (by decide) (by decide) ?_
                show Steps p.tables e below (T34.setTop (mkF m 153 #[.val (.long q1), .second, .val (.long q2), .second, .val (.long q3), .second, .val (.long q4), .second, .val (.int p5), .val (.long q3), .second, .val (.long q4), .second, .val (.ref b7), .val (.ref b14), .val (.int (0 : Int32)), .val (.ref b14), .val (.int (1 : Int32)), .val (.int (1 : Int32)), .unset] [])) _
                refine XS.iload X34.here hx rfl (hb hby at_153) rfl ?_
                show Steps p.tables e below (T34.setTop (mkF m 155 #[.val (.long q1), .second, .val (.long q2), .second, .val (.long q3), .second, .val (.long q4), .second, .val (.int p5), .val (.long q3), .second, .val (.long q4), .second, .val (.ref b7), .val (.ref b14), .val (.int (0 : Int32)), .val (.ref b14), .val (.int (1 : Int32)), .val (.int (1 : Int32)), .unset] [(.int (0 : Int32))])) _
                refine XS.ifNo X34.here hx rfl (hb hby at_155) rfl ((if0 _ _).trans (teq (by decide : (0 : Int32) = (0 : Int32))).2) ?_
                show Steps p.tables e below (T34.setTop (mkF m 158 #[.val (.long q1), .second, .val (.long q2), .second, .val (.long q3), .second, .val (.long q4), .second, .val (.int p5), .val (.long q3), .second, .val (.long q4), .second, .val (.ref b7), .val (.ref b14), .val (.int (0 : Int32)), .val (.ref b14), .val (.int (1 : Int32)), .val (.int (1 : Int32)), .unset] [])) _
                refine XS.aload X34.here hx rfl (hb hby at_158) rfl rfl ?_
                show Steps p.tables e below (T34.setTop (mkF m 160 #[.val (.long q1), .second, .val (.long q2), .second, .val (.long q3), .second, .val (.long q4), .second, .val (.int p5), .val (.long q3), .second, .val (.long q4), .second, .val (.ref b7), .val (.ref b14), .val (.int (0 : Int32)), .val (.ref b14), .val (.int (1 : Int32)), .val (.int (1 : Int32)), .unset] [(.ref b14)])) _
                refine XS.aload X34.here hx rfl (hb hby at_160) rfl rfl ?_
                exact k
              have X48 : Stand p l e room_1 s m #[(.long q1), (.long q2), (.long q3), (.long q4), (.int p5)] below meth c T48 _ 2 4 := X48
              rcases hQ48 with ⟨hc50, hc51, rfl, Nq52, e53⟩ | ⟨hc54, hc55, rfl, Nq56, e57⟩ | ⟨hc58, rfl, Nq59, e60⟩
              ·
                have N48 := Fr.app N34 Nq52
                obtain ⟨fs, hr, hrun, hended, hW, hsame⟩ := X48.leave (v := some (.int (1 : Int32))) (fun h => by rw [hret] at h; cases h)
                refine ⟨_, _, pre49 _ ?_, hrun, hended, _, _, rfl, ?_, ⟨_, rfl⟩, hW, hsame.mono (by decide) (by decide)⟩
                ·
                  show Steps p.tables e below (T34.setTop (mkF m 162 #[.val (.long q1), .second, .val (.long q2), .second, .val (.long q3), .second, .val (.long q4), .second, .val (.int p5), .val (.long q3), .second, .val (.long q4), .second, .val (.ref b7), .val (.ref b14), .val (.int (0 : Int32)), .val (.ref b14), .val (.int (1 : Int32)), .val (.int (1 : Int32)), .unset] [(.ref b7), (.ref b14)])) _
                  refine st48.trans ?_
                  show Steps p.tables e below (T48.setTop (mkF m 165 #[.val (.long q1), .second, .val (.long q2), .second, .val (.long q3), .second, .val (.long q4), .second, .val (.int p5), .val (.long q3), .second, .val (.long q4), .second, .val (.ref b7), .val (.ref b14), .val (.int (0 : Int32)), .val (.ref b14), .val (.int (1 : Int32)), .val (.int (1 : Int32)), .unset] [(.int (1 : Int32))])) _
                  refine XS.istore X48.here hx rfl (hb hby at_165) rfl (l' := #[.val (.long q1), .second, .val (.long q2), .second, .val (.long q3), .second, .val (.long q4), .second, .val (.int p5), .val (.long q3), .second, .val (.long q4), .second, .val (.ref b7), .val (.ref b14), .val (.int (0 : Int32)), .val (.ref b14), .val (.int (1 : Int32)), .val (.int (1 : Int32)), .val (.int (1 : Int32))]) rfl ?_
                  show Steps p.tables e below (T48.setTop (mkF m 167 #[.val (.long q1), .second, .val (.long q2), .second, .val (.long q3), .second, .val (.long q4), .second, .val (.int p5), .val (.long q3), .second, .val (.long q4), .second, .val (.ref b7), .val (.ref b14), .val (.int (0 : Int32)), .val (.ref b14), .val (.int (1 : Int32)), .val (.int (1 : Int32)), .val (.int (1 : Int32))] [])) _
                  refine XS.iload X48.here hx rfl (hb hby at_167) rfl ?_
                  show Steps p.tables e below (T48.setTop (mkF m 169 #[.val (.long q1), .second, .val (.long q2), .second, .val (.long q3), .second, .val (.long q4), .second, .val (.int p5), .val (.long q3), .second, .val (.long q4), .second, .val (.ref b7), .val (.ref b14), .val (.int (0 : Int32)), .val (.ref b14), .val (.int (1 : Int32)), .val (.int (1 : Int32)), .val (.int (1 : Int32))] [(.int (1 : Int32))])) _
                  refine XS.iload X48.here hx rfl (hb hby at_169) rfl ?_
                  show Steps p.tables e below (T48.setTop (mkF m 171 #[.val (.long q1), .second, .val (.long q2), .second, .val (.long q3), .second, .val (.long q4), .second, .val (.int p5), .val (.long q3), .second, .val (.long q4), .second, .val (.ref b7), .val (.ref b14), .val (.int (0 : Int32)), .val (.ref b14), .val (.int (1 : Int32)), .val (.int (1 : Int32)), .val (.int (1 : Int32))] [(.int (1 : Int32)), (.int (1 : Int32))])) _
                  refine XS.icmpYes X48.here hx rfl (pc0 := 171) (pc' := 176) rfl (hb hby at_171) rfl (teq (by decide : (1 : Int32) = (1 : Int32))).1 (by decide) (by decide) ?_
                  show Steps p.tables e below (T48.setTop (mkF m 176 #[.val (.long q1), .second, .val (.long q2), .second, .val (.long q3), .second, .val (.long q4), .second, .val (.int p5), .val (.long q3), .second, .val (.long q4), .second, .val (.ref b7), .val (.ref b14), .val (.int (0 : Int32)), .val (.ref b14), .val (.int (1 : Int32)), .val (.int (1 : Int32)), .val (.int (1 : Int32))] [])) _
                  refine XS.iconst X48.here hx rfl (hb hby at_176) ?_
                  show Steps p.tables e below (T48.setTop (mkF m 177 #[.val (.long q1), .second, .val (.long q2), .second, .val (.long q3), .second, .val (.long q4), .second, .val (.int p5), .val (.long q3), .second, .val (.long q4), .second, .val (.ref b7), .val (.ref b14), .val (.int (0 : Int32)), .val (.ref b14), .val (.int (1 : Int32)), .val (.int (1 : Int32)), .val (.int (1 : Int32))] [(.int (1 : Int32))])) _
                  exact retN X48 hx (t := .boolean) hret (by simp) (hb hby at_177) hr
                ·
                  show Q0 n0 _ T48.heap _
                  rw [e53]
                  exact ⟨rfl, N48⟩
              ·
                exact absurd (hc27).symm hc55
              ·
                exact absurd (hc25).symm hc58
            ·
              exact absurd hc27 hc41
            ·
              exact absurd hc25 hc44
          ·
            have lt61 : b7 < T8.heap.size := (Nat.lt_of_lt_of_le A7.lt K10.1)
            have ne62 : b7 ≠ b14 := Nat.ne_of_lt (Nat.lt_of_lt_of_le lt61 sz_b14)
            have f63 := ((f12.ext E14).keep K17 (ninS ne62 nin0))
            have f64 := ((f13.ext E14).keep K17 (ninS ne62 nin0))
            have f66 := ((f11.ext E14).keep K17)
            obtain ⟨cq65, kq65, q65a, q65b, q65c⟩ := isOf hZ rfl f66
            obtain ⟨_, _, ⟨T67, L67, c67, n67⟩, -, X67, ⟨Lc67, hQ67, l67, y67, z67⟩, st67⟩ := X15.virtualBack hx (y := (⟨"com/example/sablegrid/sablegrid/model/WriteId", "equals", "(Ljava/lang/Object;)Z"⟩ : MethodName)) (z := (⟨"com/example/sablegrid/sablegrid/model/WriteId", "equals", "(Ljava/lang/Object;)Z"⟩ : MethodName)) hown (mvT hZ (hw _ (List.mem_of_getElem? (i := 13) rfl))) (mvT hZ (hw _ (List.mem_of_getElem? (i := 14) rfl))) (notFace_of_selects (args := #[]) (mvT hZ (hw _ (List.mem_of_getElem? (i := 16) rfl)))) (mvT hZ (hw _ (List.mem_of_getElem? (i := 16) rfl))) (mvT hZ (hw _ (List.mem_of_getElem? (i := 15) rfl))) (by decide) (backOf (W := 0) (rm2 l Z a0 hw [] b7 b14 q1 q2 q3 q4 T15.heap n0 O15 g_b7 g_b14 f63 f64 f18 f19 f20) hZ (hw _ (List.mem_of_getElem? (i := 17) rfl)) (hw _ (List.mem_of_getElem? (i := 2) rfl)) (by decide) (by decide)) q65a q65c (g := (mkF m 139 #[.val (.long q1), .second, .val (.long q2), .second, .val (.long q3), .second, .val (.long q4), .second, .val (.int p5), .val (.long q3), .second, .val (.long q4), .second, .val (.ref b7), .val (.ref b14), .val (.int (0 : Int32)), .val (.ref b14), .val (.int (0 : Int32)), .unset, .unset] [(.ref b14), (.ref b7)])) rfl (by rw [hml]; rfl) (Steps.refl _) (argsL := [(.ref b14)]) (rest := []) (lenOf pd1 rfl) rfl (by show 2 * 0 + _ ≤ _; exact Nat.le_of_eq rfl) (hb hby at_139) (fun _ _ => ⟨rfl, rfl, (by decide : 2 + 0 ≤ _), (by decide : 4 + 0 ≤ _)⟩)
            dsimp only [Pt.U, Pt.locs, Pt.cells, Pt.slots] at X67 l67 y67 z67 st67 hQ67
            subst l67 y67 z67
            have pre68 : ∀ t, Steps p.tables e below (T15.setTop (mkF m 139 #[.val (.long q1), .second, .val (.long q2), .second, .val (.long q3), .second, .val (.long q4), .second, .val (.int p5), .val (.long q3), .second, .val (.long q4), .second, .val (.ref b7), .val (.ref b14), .val (.int (0 : Int32)), .val (.ref b14), .val (.int (0 : Int32)), .unset, .unset] [(.ref b14), (.ref b7)])) t → Steps p.tables e below (s₁.setTop (entryFrame m #[(.long q1), (.long q2), (.long q3), (.long q4), (.int p5)] maxLocals)) t := fun t k => by
              refine pre26 _ ?_
              show Steps p.tables e below (T15.setTop (mkF m 82 #[.val (.long q1), .second, .val (.long q2), .second, .val (.long q3), .second, .val (.long q4), .second, .val (.int p5), .val (.long q3), .second, .val (.long q4), .second, .val (.ref b7), .val (.ref b14), .val (.int (0 : Int32)), .val (.ref b14), .unset, .unset, .unset] [(.int (lcmpW q2 q4))])) _
              refine XS.ifYes X15.here hx rfl (pc0 := 82) (pc' := 89) rfl (hb hby at_82) rfl ((if0 _ _).trans (feq (fun q => hc27 ((lw_eq _ _).mp q))).2) (by decide) (by decide) ?_
              show Steps p.tables e below (T15.setTop (mkF m 89 #[.val (.long q1), .second, .val (.long q2), .second, .val (.long q3), .second, .val (.long q4), .second, .val (.int p5), .val (.long q3), .second, .val (.long q4), .second, .val (.ref b7), .val (.ref b14), .val (.int (0 : Int32)), .val (.ref b14), .unset, .unset, .unset] [])) _
              refine XS.iconst X15.here hx rfl (hb hby at_89) ?_
              show Steps p.tables e below (T15.setTop (mkF m 90 #[.val (.long q1), .second, .val (.long q2), .second, .val (.long q3), .second, .val (.long q4), .second, .val (.int p5), .val (.long q3), .second, .val (.long q4), .second, .val (.ref b7), .val (.ref b14), .val (.int (0 : Int32)), .val (.ref b14), .unset, .unset, .unset] [(.int (0 : Int32))])) _
              refine XS.istore X15.here hx rfl (hb hby at_90) rfl (l' := #[.val (.long q1), .second, .val (.long q2), .second, .val (.long q3), .second, .val (.long q4), .second, .val (.int p5), .val (.long q3), .second, .val (.long q4), .second, .val (.ref b7), .val (.ref b14), .val (.int (0 : Int32)), .val (.ref b14), .val (.int (0 : Int32)), .unset, .unset]) rfl ?_
              show Steps p.tables e below (T15.setTop (mkF m 92 #[.val (.long q1), .second, .val (.long q2), .second, .val (.long q3), .second, .val (.long q4), .second, .val (.int p5), .val (.long q3), .second, .val (.long q4), .second, .val (.ref b7), .val (.ref b14), .val (.int (0 : Int32)), .val (.ref b14), .val (.int (0 : Int32)), .unset, .unset] [])) _
              refine XS.goto X15.here hx rfl (pc0 := 92) (pc' := 135) rfl (hb hby at_92) (by decide) (by decide) ?_
              show Steps p.tables e below (T15.setTop (mkF m 135 #[.val (.long q1), .second, .val (.long q2), .second, .val (.long q3), .second, .val (.long q4), .second, .val (.int p5), .val (.long q3), .second, .val (.long q4), .second, .val (.ref b7), .val (.ref b14), .val (.int (0 : Int32)), .val (.ref b14), .val (.int (0 : Int32)), .unset, .unset] [])) _
              refine XS.aload X15.here hx rfl (hb hby at_135) rfl rfl ?_
              show Steps p.tables e below (T15.setTop (mkF m 137 #[.val (.long q1), .second, .val (.long q2), .second, .val (.long q3), .second, .val (.long q4), .second, .val (.int p5), .val (.long q3), .second, .val (.long q4), .second, .val (.ref b7), .val (.ref b14), .val (.int (0 : Int32)), .val (.ref b14), .val (.int (0 : Int32)), .unset, .unset] [(.ref b7)])) _
              refine XS.aload X15.here hx rfl (hb hby at_137) rfl rfl ?_
              exact k
            have X67 : Stand p l e room_1 s m #[(.long q1), (.long q2), (.long q3), (.long q4), (.int p5)] below meth c T67 _ 2 4 := X67
            rcases hQ67 with ⟨hc69, hc70, rfl, Nq71, e72⟩ | ⟨hc73, hc74, rfl, Nq75, e76⟩ | ⟨hc77, rfl, Nq78, e79⟩
            ·
              exact absurd hc70 hc27
            ·
              have N67 := Fr.app N15 Nq75
              obtain ⟨cq80, kq80, q80a, q80b, q80c⟩ := isOf hZ e76 f18
              obtain ⟨_, _, ⟨T81, L81, c81, n81⟩, -, X81, ⟨Lc81, hQ81, l81, y81, z81⟩, st81⟩ := X67.virtualBack hx (y := (⟨"com/example/sablegrid/sablegrid/model/WriteId", "equals", "(Ljava/lang/Object;)Z"⟩ : MethodName)) (z := (⟨"com/example/sablegrid/sablegrid/model/WriteId", "equals", "(Ljava/lang/Object;)Z"⟩ : MethodName)) hown (mvT hZ (hw _ (List.mem_of_getElem? (i := 13) rfl))) (mvT hZ (hw _ (List.mem_of_getElem? (i := 14) rfl))) (notFace_of_selects (args := #[]) (mvT hZ (hw _ (List.mem_of_getElem? (i := 16) rfl)))) (mvT hZ (hw _ (List.mem_of_getElem? (i := 16) rfl))) (mvT hZ (hw _ (List.mem_of_getElem? (i := 15) rfl))) (by decide) (backOf (W := 0) (rm2 l Z a0 hw [] b14 b7 q3 q4 q1 q2 T15.heap n0 O15 g_b14 g_b7 f19 f20 f66 f63 f64) hZ (hw _ (List.mem_of_getElem? (i := 17) rfl)) (hw _ (List.mem_of_getElem? (i := 2) rfl)) (by decide) (by decide)) q80a q80c (g := (mkF m 162 #[.val (.long q1), .second, .val (.long q2), .second, .val (.long q3), .second, .val (.long q4), .second, .val (.int p5), .val (.long q3), .second, .val (.long q4), .second, .val (.ref b7), .val (.ref b14), .val (.int (0 : Int32)), .val (.ref b14), .val (.int (0 : Int32)), .val (.int (0 : Int32)), .unset] [(.ref b7), (.ref b14)])) rfl (by rw [hml]; rfl) (Steps.refl _) (argsL := [(.ref b7)]) (rest := []) (lenOf pd1 rfl) rfl (by show 2 * 0 + _ ≤ _; exact Nat.le_of_eq rfl) (hb hby at_162) (fun _ _ => ⟨rfl, e76, (by decide : 2 + 0 ≤ _), (by decide : 4 + 0 ≤ _)⟩)
              dsimp only [Pt.U, Pt.locs, Pt.cells, Pt.slots] at X81 l81 y81 z81 st81 hQ81
              subst l81 y81 z81
              have pre82 : ∀ t, Steps p.tables e below (T67.setTop (mkF m 162 #[.val (.long q1), .second, .val (.long q2), .second, .val (.long q3), .second, .val (.long q4), .second, .val (.int p5), .val (.long q3), .second, .val (.long q4), .second, .val (.ref b7), .val (.ref b14), .val (.int (0 : Int32)), .val (.ref b14), .val (.int (0 : Int32)), .val (.int (0 : Int32)), .unset] [(.ref b7), (.ref b14)])) t → Steps p.tables e below (s₁.setTop (entryFrame m #[(.long q1), (.long q2), (.long q3), (.long q4), (.int p5)] maxLocals)) t := fun t k => by
                refine pre68 _ ?_
                show Steps p.tables e below (T15.setTop (mkF m 139 #[.val (.long q1), .second, .val (.long q2), .second, .val (.long q3), .second, .val (.long q4), .second, .val (.int p5), .val (.long q3), .second, .val (.long q4), .second, .val (.ref b7), .val (.ref b14), .val (.int (0 : Int32)), .val (.ref b14), .val (.int (0 : Int32)), .unset, .unset] [(.ref b14), (.ref b7)])) _
                refine st67.trans ?_
                show Steps p.tables e below (T67.setTop (mkF m 142 #[.val (.long q1), .second, .val (.long q2), .second, .val (.long q3), .second, .val (.long q4), .second, .val (.int p5), .val (.long q3), .second, .val (.long q4), .second, .val (.ref b7), .val (.ref b14), .val (.int (0 : Int32)), .val (.ref b14), .val (.int (0 : Int32)), .unset, .unset] [(.int (0 : Int32))])) _
                refine XS.istore X67.here hx rfl (hb hby at_142) rfl (l' := #[.val (.long q1), .second, .val (.long q2), .second, .val (.long q3), .second, .val (.long q4), .second, .val (.int p5), .val (.long q3), .second, .val (.long q4), .second, .val (.ref b7), .val (.ref b14), .val (.int (0 : Int32)), .val (.ref b14), .val (.int (0 : Int32)), .val (.int (0 : Int32)), .unset]) rfl ?_
                show Steps p.tables e below (T67.setTop (mkF m 144 #[.val (.long q1), .second, .val (.long q2), .second, .val (.long q3), .second, .val (.long q4), .second, .val (.int p5), .val (.long q3), .second, .val (.long q4), .second, .val (.ref b7), .val (.ref b14), .val (.int (0 : Int32)), .val (.ref b14), .val (.int (0 : Int32)), .val (.int (0 : Int32)), .unset] [])) _
                refine XS.iload X67.here hx rfl (hb hby at_144) rfl ?_
                show Steps p.tables e below (T67.setTop (mkF m 146 #[.val (.long q1), .second, .val (.long q2), .second, .val (.long q3), .second, .val (.long q4), .second, .val (.int p5), .val (.long q3), .second, .val (.long q4), .second, .val (.ref b7), .val (.ref b14), .val (.int (0 : Int32)), .val (.ref b14), .val (.int (0 : Int32)), .val (.int (0 : Int32)), .unset] [(.int (0 : Int32))])) _
                refine XS.iload X67.here hx rfl (hb hby at_146) rfl ?_
                show Steps p.tables e below (T67.setTop (mkF m 148 #[.val (.long q1), .second, .val (.long q2), .second, .val (.long q3), .second, .val (.long q4), .second, .val (.int p5), .val (.long q3), .second, .val (.long q4), .second, .val (.ref b7), .val (.ref b14), .val (.int (0 : Int32)), .val (.ref b14), .val (.int (0 : Int32)), .val (.int (0 : Int32)), .unset] [(.int (0 : Int32)), (.int (0 : Int32))])) _
                refine XS.icmpYes X67.here hx rfl (pc0 := 148) (pc' := 153) rfl (hb hby at_148) rfl (teq (by decide : (0 : Int32) = (0 : Int32))).1 (by decide) (by decide) ?_
                show Steps p.tables e below (T67.setTop (mkF m 153 #[.val (.long q1), .second, .val (.long q2), .second, .val (.long q3), .second, .val (.long q4), .second, .val (.int p5), .val (.long q3), .second, .val (.long q4), .second, .val (.ref b7), .val (.ref b14), .val (.int (0 : Int32)), .val (.ref b14), .val (.int (0 : Int32)), .val (.int (0 : Int32)), .unset] [])) _
                refine XS.iload X67.here hx rfl (hb hby at_153) rfl ?_
                show Steps p.tables e below (T67.setTop (mkF m 155 #[.val (.long q1), .second, .val (.long q2), .second, .val (.long q3), .second, .val (.long q4), .second, .val (.int p5), .val (.long q3), .second, .val (.long q4), .second, .val (.ref b7), .val (.ref b14), .val (.int (0 : Int32)), .val (.ref b14), .val (.int (0 : Int32)), .val (.int (0 : Int32)), .unset] [(.int (0 : Int32))])) _
                refine XS.ifNo X67.here hx rfl (hb hby at_155) rfl ((if0 _ _).trans (teq (by decide : (0 : Int32) = (0 : Int32))).2) ?_
                show Steps p.tables e below (T67.setTop (mkF m 158 #[.val (.long q1), .second, .val (.long q2), .second, .val (.long q3), .second, .val (.long q4), .second, .val (.int p5), .val (.long q3), .second, .val (.long q4), .second, .val (.ref b7), .val (.ref b14), .val (.int (0 : Int32)), .val (.ref b14), .val (.int (0 : Int32)), .val (.int (0 : Int32)), .unset] [])) _
                refine XS.aload X67.here hx rfl (hb hby at_158) rfl rfl ?_
                show Steps p.tables e below (T67.setTop (mkF m 160 #[.val (.long q1), .second, .val (.long q2), .second, .val (.long q3), .second, .val (.long q4), .second, .val (.int p5), .val (.long q3), .second, .val (.long q4), .second, .val (.ref b7), .val (.ref b14), .val (.int (0 : Int32)), .val (.ref b14), .val (.int (0 : Int32)), .val (.int (0 : Int32)), .unset] [(.ref b14)])) _
                refine XS.aload X67.here hx rfl (hb hby at_160) rfl rfl ?_
                exact k
              have X81 : Stand p l e room_1 s m #[(.long q1), (.long q2), (.long q3), (.long q4), (.int p5)] below meth c T81 _ 2 4 := X81
              rcases hQ81 with ⟨hc83, hc84, rfl, Nq85, e86⟩ | ⟨hc87, hc88, rfl, Nq89, e90⟩ | ⟨hc91, rfl, Nq92, e93⟩
              ·
                exact absurd hc84 (Ne.symm hc27)
              ·
                have N81 := Fr.app N67 Nq89
                obtain ⟨fs, hr, hrun, hended, hW, hsame⟩ := X81.leave (v := some (.int (1 : Int32))) (fun h => by rw [hret] at h; cases h)
                refine ⟨_, _, pre82 _ ?_, hrun, hended, _, _, rfl, ?_, ⟨_, rfl⟩, hW, hsame.mono (by decide) (by decide)⟩
                ·
                  show Steps p.tables e below (T67.setTop (mkF m 162 #[.val (.long q1), .second, .val (.long q2), .second, .val (.long q3), .second, .val (.long q4), .second, .val (.int p5), .val (.long q3), .second, .val (.long q4), .second, .val (.ref b7), .val (.ref b14), .val (.int (0 : Int32)), .val (.ref b14), .val (.int (0 : Int32)), .val (.int (0 : Int32)), .unset] [(.ref b7), (.ref b14)])) _
                  refine st81.trans ?_
                  show Steps p.tables e below (T81.setTop (mkF m 165 #[.val (.long q1), .second, .val (.long q2), .second, .val (.long q3), .second, .val (.long q4), .second, .val (.int p5), .val (.long q3), .second, .val (.long q4), .second, .val (.ref b7), .val (.ref b14), .val (.int (0 : Int32)), .val (.ref b14), .val (.int (0 : Int32)), .val (.int (0 : Int32)), .unset] [(.int (0 : Int32))])) _
                  refine XS.istore X81.here hx rfl (hb hby at_165) rfl (l' := #[.val (.long q1), .second, .val (.long q2), .second, .val (.long q3), .second, .val (.long q4), .second, .val (.int p5), .val (.long q3), .second, .val (.long q4), .second, .val (.ref b7), .val (.ref b14), .val (.int (0 : Int32)), .val (.ref b14), .val (.int (0 : Int32)), .val (.int (0 : Int32)), .val (.int (0 : Int32))]) rfl ?_
                  show Steps p.tables e below (T81.setTop (mkF m 167 #[.val (.long q1), .second, .val (.long q2), .second, .val (.long q3), .second, .val (.long q4), .second, .val (.int p5), .val (.long q3), .second, .val (.long q4), .second, .val (.ref b7), .val (.ref b14), .val (.int (0 : Int32)), .val (.ref b14), .val (.int (0 : Int32)), .val (.int (0 : Int32)), .val (.int (0 : Int32))] [])) _
                  refine XS.iload X81.here hx rfl (hb hby at_167) rfl ?_
                  show Steps p.tables e below (T81.setTop (mkF m 169 #[.val (.long q1), .second, .val (.long q2), .second, .val (.long q3), .second, .val (.long q4), .second, .val (.int p5), .val (.long q3), .second, .val (.long q4), .second, .val (.ref b7), .val (.ref b14), .val (.int (0 : Int32)), .val (.ref b14), .val (.int (0 : Int32)), .val (.int (0 : Int32)), .val (.int (0 : Int32))] [(.int (0 : Int32))])) _
                  refine XS.iload X81.here hx rfl (hb hby at_169) rfl ?_
                  show Steps p.tables e below (T81.setTop (mkF m 171 #[.val (.long q1), .second, .val (.long q2), .second, .val (.long q3), .second, .val (.long q4), .second, .val (.int p5), .val (.long q3), .second, .val (.long q4), .second, .val (.ref b7), .val (.ref b14), .val (.int (0 : Int32)), .val (.ref b14), .val (.int (0 : Int32)), .val (.int (0 : Int32)), .val (.int (0 : Int32))] [(.int (0 : Int32)), (.int (0 : Int32))])) _
                  refine XS.icmpYes X81.here hx rfl (pc0 := 171) (pc' := 176) rfl (hb hby at_171) rfl (teq (by decide : (0 : Int32) = (0 : Int32))).1 (by decide) (by decide) ?_
                  show Steps p.tables e below (T81.setTop (mkF m 176 #[.val (.long q1), .second, .val (.long q2), .second, .val (.long q3), .second, .val (.long q4), .second, .val (.int p5), .val (.long q3), .second, .val (.long q4), .second, .val (.ref b7), .val (.ref b14), .val (.int (0 : Int32)), .val (.ref b14), .val (.int (0 : Int32)), .val (.int (0 : Int32)), .val (.int (0 : Int32))] [])) _
                  refine XS.iconst X81.here hx rfl (hb hby at_176) ?_
                  show Steps p.tables e below (T81.setTop (mkF m 177 #[.val (.long q1), .second, .val (.long q2), .second, .val (.long q3), .second, .val (.long q4), .second, .val (.int p5), .val (.long q3), .second, .val (.long q4), .second, .val (.ref b7), .val (.ref b14), .val (.int (0 : Int32)), .val (.ref b14), .val (.int (0 : Int32)), .val (.int (0 : Int32)), .val (.int (0 : Int32))] [(.int (1 : Int32))])) _
                  exact retN X81 hx (t := .boolean) hret (by simp) (hb hby at_177) hr
                ·
                  show Q0 n0 _ T81.heap _
                  rw [e90]
                  exact ⟨rfl, N81⟩
              ·
                exact absurd (hc25).symm hc91
            ·
              exact absurd hc25 hc77
        ·
          have lt94 : b7 < T8.heap.size := (Nat.lt_of_lt_of_le A7.lt K10.1)
          have ne95 : b7 ≠ b14 := Nat.ne_of_lt (Nat.lt_of_lt_of_le lt94 sz_b14)
          have f96 := ((f12.ext E14).keep K17 (ninS ne95 nin0))
          have f97 := ((f13.ext E14).keep K17 (ninS ne95 nin0))
          have f99 := ((f11.ext E14).keep K17)
          obtain ⟨cq98, kq98, q98a, q98b, q98c⟩ := isOf hZ rfl f99
          obtain ⟨_, _, ⟨T100, L100, c100, n100⟩, -, X100, ⟨Lc100, hQ100, l100, y100, z100⟩, st100⟩ := X15.virtualBack hx (y := (⟨"com/example/sablegrid/sablegrid/model/WriteId", "equals", "(Ljava/lang/Object;)Z"⟩ : MethodName)) (z := (⟨"com/example/sablegrid/sablegrid/model/WriteId", "equals", "(Ljava/lang/Object;)Z"⟩ : MethodName)) hown (mvT hZ (hw _ (List.mem_of_getElem? (i := 13) rfl))) (mvT hZ (hw _ (List.mem_of_getElem? (i := 14) rfl))) (notFace_of_selects (args := #[]) (mvT hZ (hw _ (List.mem_of_getElem? (i := 16) rfl)))) (mvT hZ (hw _ (List.mem_of_getElem? (i := 16) rfl))) (mvT hZ (hw _ (List.mem_of_getElem? (i := 15) rfl))) (by decide) (backOf (W := 0) (rm2 l Z a0 hw [] b7 b14 q1 q2 q3 q4 T15.heap n0 O15 g_b7 g_b14 f96 f97 f18 f19 f20) hZ (hw _ (List.mem_of_getElem? (i := 17) rfl)) (hw _ (List.mem_of_getElem? (i := 2) rfl)) (by decide) (by decide)) q98a q98c (g := (mkF m 139 #[.val (.long q1), .second, .val (.long q2), .second, .val (.long q3), .second, .val (.long q4), .second, .val (.int p5), .val (.long q3), .second, .val (.long q4), .second, .val (.ref b7), .val (.ref b14), .val (.int (0 : Int32)), .val (.ref b14), .val (.int (0 : Int32)), .unset, .unset] [(.ref b14), (.ref b7)])) rfl (by rw [hml]; rfl) (Steps.refl _) (argsL := [(.ref b14)]) (rest := []) (lenOf pd1 rfl) rfl (by show 2 * 0 + _ ≤ _; exact Nat.le_of_eq rfl) (hb hby at_139) (fun _ _ => ⟨rfl, rfl, (by decide : 2 + 0 ≤ _), (by decide : 4 + 0 ≤ _)⟩)
          dsimp only [Pt.U, Pt.locs, Pt.cells, Pt.slots] at X100 l100 y100 z100 st100 hQ100
          subst l100 y100 z100
          have pre101 : ∀ t, Steps p.tables e below (T15.setTop (mkF m 139 #[.val (.long q1), .second, .val (.long q2), .second, .val (.long q3), .second, .val (.long q4), .second, .val (.int p5), .val (.long q3), .second, .val (.long q4), .second, .val (.ref b7), .val (.ref b14), .val (.int (0 : Int32)), .val (.ref b14), .val (.int (0 : Int32)), .unset, .unset] [(.ref b14), (.ref b7)])) t → Steps p.tables e below (s₁.setTop (entryFrame m #[(.long q1), (.long q2), (.long q3), (.long q4), (.int p5)] maxLocals)) t := fun t k => by
            refine pre24 _ ?_
            show Steps p.tables e below (T15.setTop (mkF m 75 #[.val (.long q1), .second, .val (.long q2), .second, .val (.long q3), .second, .val (.long q4), .second, .val (.int p5), .val (.long q3), .second, .val (.long q4), .second, .val (.ref b7), .val (.ref b14), .val (.int (0 : Int32)), .val (.ref b14), .unset, .unset, .unset] [(.int (lcmpW q1 q3))])) _
            refine XS.ifYes X15.here hx rfl (pc0 := 75) (pc' := 89) rfl (hb hby at_75) rfl ((if0 _ _).trans (feq (fun q => hc25 ((lw_eq _ _).mp q))).2) (by decide) (by decide) ?_
            show Steps p.tables e below (T15.setTop (mkF m 89 #[.val (.long q1), .second, .val (.long q2), .second, .val (.long q3), .second, .val (.long q4), .second, .val (.int p5), .val (.long q3), .second, .val (.long q4), .second, .val (.ref b7), .val (.ref b14), .val (.int (0 : Int32)), .val (.ref b14), .unset, .unset, .unset] [])) _
            refine XS.iconst X15.here hx rfl (hb hby at_89) ?_
            show Steps p.tables e below (T15.setTop (mkF m 90 #[.val (.long q1), .second, .val (.long q2), .second, .val (.long q3), .second, .val (.long q4), .second, .val (.int p5), .val (.long q3), .second, .val (.long q4), .second, .val (.ref b7), .val (.ref b14), .val (.int (0 : Int32)), .val (.ref b14), .unset, .unset, .unset] [(.int (0 : Int32))])) _
            refine XS.istore X15.here hx rfl (hb hby at_90) rfl (l' := #[.val (.long q1), .second, .val (.long q2), .second, .val (.long q3), .second, .val (.long q4), .second, .val (.int p5), .val (.long q3), .second, .val (.long q4), .second, .val (.ref b7), .val (.ref b14), .val (.int (0 : Int32)), .val (.ref b14), .val (.int (0 : Int32)), .unset, .unset]) rfl ?_
            show Steps p.tables e below (T15.setTop (mkF m 92 #[.val (.long q1), .second, .val (.long q2), .second, .val (.long q3), .second, .val (.long q4), .second, .val (.int p5), .val (.long q3), .second, .val (.long q4), .second, .val (.ref b7), .val (.ref b14), .val (.int (0 : Int32)), .val (.ref b14), .val (.int (0 : Int32)), .unset, .unset] [])) _
            refine XS.goto X15.here hx rfl (pc0 := 92) (pc' := 135) rfl (hb hby at_92) (by decide) (by decide) ?_
            show Steps p.tables e below (T15.setTop (mkF m 135 #[.val (.long q1), .second, .val (.long q2), .second, .val (.long q3), .second, .val (.long q4), .second, .val (.int p5), .val (.long q3), .second, .val (.long q4), .second, .val (.ref b7), .val (.ref b14), .val (.int (0 : Int32)), .val (.ref b14), .val (.int (0 : Int32)), .unset, .unset] [])) _
            refine XS.aload X15.here hx rfl (hb hby at_135) rfl rfl ?_
            show Steps p.tables e below (T15.setTop (mkF m 137 #[.val (.long q1), .second, .val (.long q2), .second, .val (.long q3), .second, .val (.long q4), .second, .val (.int p5), .val (.long q3), .second, .val (.long q4), .second, .val (.ref b7), .val (.ref b14), .val (.int (0 : Int32)), .val (.ref b14), .val (.int (0 : Int32)), .unset, .unset] [(.ref b7)])) _
            refine XS.aload X15.here hx rfl (hb hby at_137) rfl rfl ?_
            exact k
          have X100 : Stand p l e room_1 s m #[(.long q1), (.long q2), (.long q3), (.long q4), (.int p5)] below meth c T100 _ 2 4 := X100
          rcases hQ100 with ⟨hc102, hc103, rfl, Nq104, e105⟩ | ⟨hc106, hc107, rfl, Nq108, e109⟩ | ⟨hc110, rfl, Nq111, e112⟩
          ·
            exact absurd hc102 hc25
          ·
            exact absurd hc106 hc25
          ·
            have N100 := Fr.app N15 Nq111
            obtain ⟨cq113, kq113, q113a, q113b, q113c⟩ := isOf hZ e112 f18
            obtain ⟨_, _, ⟨T114, L114, c114, n114⟩, -, X114, ⟨Lc114, hQ114, l114, y114, z114⟩, st114⟩ := X100.virtualBack hx (y := (⟨"com/example/sablegrid/sablegrid/model/WriteId", "equals", "(Ljava/lang/Object;)Z"⟩ : MethodName)) (z := (⟨"com/example/sablegrid/sablegrid/model/WriteId", "equals", "(Ljava/lang/Object;)Z"⟩ : MethodName)) hown (mvT hZ (hw _ (List.mem_of_getElem? (i := 13) rfl))) (mvT hZ (hw _ (List.mem_of_getElem? (i := 14) rfl))) (notFace_of_selects (args := #[]) (mvT hZ (hw _ (List.mem_of_getElem? (i := 16) rfl)))) (mvT hZ (hw _ (List.mem_of_getElem? (i := 16) rfl))) (mvT hZ (hw _ (List.mem_of_getElem? (i := 15) rfl))) (by decide) (backOf (W := 0) (rm2 l Z a0 hw [] b14 b7 q3 q4 q1 q2 T15.heap n0 O15 g_b14 g_b7 f19 f20 f99 f96 f97) hZ (hw _ (List.mem_of_getElem? (i := 17) rfl)) (hw _ (List.mem_of_getElem? (i := 2) rfl)) (by decide) (by decide)) q113a q113c (g := (mkF m 162 #[.val (.long q1), .second, .val (.long q2), .second, .val (.long q3), .second, .val (.long q4), .second, .val (.int p5), .val (.long q3), .second, .val (.long q4), .second, .val (.ref b7), .val (.ref b14), .val (.int (0 : Int32)), .val (.ref b14), .val (.int (0 : Int32)), .val (.int (0 : Int32)), .unset] [(.ref b7), (.ref b14)])) rfl (by rw [hml]; rfl) (Steps.refl _) (argsL := [(.ref b7)]) (rest := []) (lenOf pd1 rfl) rfl (by show 2 * 0 + _ ≤ _; exact Nat.le_of_eq rfl) (hb hby at_162) (fun _ _ => ⟨rfl, e112, (by decide : 2 + 0 ≤ _), (by decide : 4 + 0 ≤ _)⟩)
            dsimp only [Pt.U, Pt.locs, Pt.cells, Pt.slots] at X114 l114 y114 z114 st114 hQ114
            subst l114 y114 z114
            have pre115 : ∀ t, Steps p.tables e below (T100.setTop (mkF m 162 #[.val (.long q1), .second, .val (.long q2), .second, .val (.long q3), .second, .val (.long q4), .second, .val (.int p5), .val (.long q3), .second, .val (.long q4), .second, .val (.ref b7), .val (.ref b14), .val (.int (0 : Int32)), .val (.ref b14), .val (.int (0 : Int32)), .val (.int (0 : Int32)), .unset] [(.ref b7), (.ref b14)])) t → Steps p.tables e below (s₁.setTop (entryFrame m #[(.long q1), (.long q2), (.long q3), (.long q4), (.int p5)] maxLocals)) t := fun t k => by
              refine pre101 _ ?_
              show Steps p.tables e below (T15.setTop (mkF m 139 #[.val (.long q1), .second, .val (.long q2), .second, .val (.long q3), .second, .val (.long q4), .second, .val (.int p5), .val (.long q3), .second, .val (.long q4), .second, .val (.ref b7), .val (.ref b14), .val (.int (0 : Int32)), .val (.ref b14), .val (.int (0 : Int32)), .unset, .unset] [(.ref b14), (.ref b7)])) _
              refine st100.trans ?_
              show Steps p.tables e below (T100.setTop (mkF m 142 #[.val (.long q1), .second, .val (.long q2), .second, .val (.long q3), .second, .val (.long q4), .second, .val (.int p5), .val (.long q3), .second, .val (.long q4), .second, .val (.ref b7), .val (.ref b14), .val (.int (0 : Int32)), .val (.ref b14), .val (.int (0 : Int32)), .unset, .unset] [(.int (0 : Int32))])) _
              refine XS.istore X100.here hx rfl (hb hby at_142) rfl (l' := #[.val (.long q1), .second, .val (.long q2), .second, .val (.long q3), .second, .val (.long q4), .second, .val (.int p5), .val (.long q3), .second, .val (.long q4), .second, .val (.ref b7), .val (.ref b14), .val (.int (0 : Int32)), .val (.ref b14), .val (.int (0 : Int32)), .val (.int (0 : Int32)), .unset]) rfl ?_
              show Steps p.tables e below (T100.setTop (mkF m 144 #[.val (.long q1), .second, .val (.long q2), .second, .val (.long q3), .second, .val (.long q4), .second, .val (.int p5), .val (.long q3), .second, .val (.long q4), .second, .val (.ref b7), .val (.ref b14), .val (.int (0 : Int32)), .val (.ref b14), .val (.int (0 : Int32)), .val (.int (0 : Int32)), .unset] [])) _
              refine XS.iload X100.here hx rfl (hb hby at_144) rfl ?_
              show Steps p.tables e below (T100.setTop (mkF m 146 #[.val (.long q1), .second, .val (.long q2), .second, .val (.long q3), .second, .val (.long q4), .second, .val (.int p5), .val (.long q3), .second, .val (.long q4), .second, .val (.ref b7), .val (.ref b14), .val (.int (0 : Int32)), .val (.ref b14), .val (.int (0 : Int32)), .val (.int (0 : Int32)), .unset] [(.int (0 : Int32))])) _
              refine XS.iload X100.here hx rfl (hb hby at_146) rfl ?_
              show Steps p.tables e below (T100.setTop (mkF m 148 #[.val (.long q1), .second, .val (.long q2), .second, .val (.long q3), .second, .val (.long q4), .second, .val (.int p5), .val (.long q3), .second, .val (.long q4), .second, .val (.ref b7), .val (.ref b14), .val (.int (0 : Int32)), .val (.ref b14), .val (.int (0 : Int32)), .val (.int (0 : Int32)), .unset] [(.int (0 : Int32)), (.int (0 : Int32))])) _
              refine XS.icmpYes X100.here hx rfl (pc0 := 148) (pc' := 153) rfl (hb hby at_148) rfl (teq (by decide : (0 : Int32) = (0 : Int32))).1 (by decide) (by decide) ?_
              show Steps p.tables e below (T100.setTop (mkF m 153 #[.val (.long q1), .second, .val (.long q2), .second, .val (.long q3), .second, .val (.long q4), .second, .val (.int p5), .val (.long q3), .second, .val (.long q4), .second, .val (.ref b7), .val (.ref b14), .val (.int (0 : Int32)), .val (.ref b14), .val (.int (0 : Int32)), .val (.int (0 : Int32)), .unset] [])) _
              refine XS.iload X100.here hx rfl (hb hby at_153) rfl ?_
              show Steps p.tables e below (T100.setTop (mkF m 155 #[.val (.long q1), .second, .val (.long q2), .second, .val (.long q3), .second, .val (.long q4), .second, .val (.int p5), .val (.long q3), .second, .val (.long q4), .second, .val (.ref b7), .val (.ref b14), .val (.int (0 : Int32)), .val (.ref b14), .val (.int (0 : Int32)), .val (.int (0 : Int32)), .unset] [(.int (0 : Int32))])) _
              refine XS.ifNo X100.here hx rfl (hb hby at_155) rfl ((if0 _ _).trans (teq (by decide : (0 : Int32) = (0 : Int32))).2) ?_
              show Steps p.tables e below (T100.setTop (mkF m 158 #[.val (.long q1), .second, .val (.long q2), .second, .val (.long q3), .second, .val (.long q4), .second, .val (.int p5), .val (.long q3), .second, .val (.long q4), .second, .val (.ref b7), .val (.ref b14), .val (.int (0 : Int32)), .val (.ref b14), .val (.int (0 : Int32)), .val (.int (0 : Int32)), .unset] [])) _
              refine XS.aload X100.here hx rfl (hb hby at_158) rfl rfl ?_
              show Steps p.tables e below (T100.setTop (mkF m 160 #[.val (.long q1), .second, .val (.long q2), .second, .val (.long q3), .second, .val (.long q4), .second, .val (.int p5), .val (.long q3), .second, .val (.long q4), .second, .val (.ref b7), .val (.ref b14), .val (.int (0 : Int32)), .val (.ref b14), .val (.int (0 : Int32)), .val (.int (0 : Int32)), .unset] [(.ref b14)])) _
              refine XS.aload X100.here hx rfl (hb hby at_160) rfl rfl ?_
              exact k
            have X114 : Stand p l e room_1 s m #[(.long q1), (.long q2), (.long q3), (.long q4), (.int p5)] below meth c T114 _ 2 4 := X114
            rcases hQ114 with ⟨hc116, hc117, rfl, Nq118, e119⟩ | ⟨hc120, hc121, rfl, Nq122, e123⟩ | ⟨hc124, rfl, Nq125, e126⟩
            ·
              exact absurd hc116 (Ne.symm hc25)
            ·
              exact absurd hc120 (Ne.symm hc25)
            ·
              have N114 := Fr.app N100 Nq125
              obtain ⟨fs, hr, hrun, hended, hW, hsame⟩ := X114.leave (v := some (.int (1 : Int32))) (fun h => by rw [hret] at h; cases h)
              refine ⟨_, _, pre115 _ ?_, hrun, hended, _, _, rfl, ?_, ⟨_, rfl⟩, hW, hsame.mono (by decide) (by decide)⟩
              ·
                show Steps p.tables e below (T100.setTop (mkF m 162 #[.val (.long q1), .second, .val (.long q2), .second, .val (.long q3), .second, .val (.long q4), .second, .val (.int p5), .val (.long q3), .second, .val (.long q4), .second, .val (.ref b7), .val (.ref b14), .val (.int (0 : Int32)), .val (.ref b14), .val (.int (0 : Int32)), .val (.int (0 : Int32)), .unset] [(.ref b7), (.ref b14)])) _
                refine st114.trans ?_
                show Steps p.tables e below (T114.setTop (mkF m 165 #[.val (.long q1), .second, .val (.long q2), .second, .val (.long q3), .second, .val (.long q4), .second, .val (.int p5), .val (.long q3), .second, .val (.long q4), .second, .val (.ref b7), .val (.ref b14), .val (.int (0 : Int32)), .val (.ref b14), .val (.int (0 : Int32)), .val (.int (0 : Int32)), .unset] [(.int (0 : Int32))])) _
                refine XS.istore X114.here hx rfl (hb hby at_165) rfl (l' := #[.val (.long q1), .second, .val (.long q2), .second, .val (.long q3), .second, .val (.long q4), .second, .val (.int p5), .val (.long q3), .second, .val (.long q4), .second, .val (.ref b7), .val (.ref b14), .val (.int (0 : Int32)), .val (.ref b14), .val (.int (0 : Int32)), .val (.int (0 : Int32)), .val (.int (0 : Int32))]) rfl ?_
                show Steps p.tables e below (T114.setTop (mkF m 167 #[.val (.long q1), .second, .val (.long q2), .second, .val (.long q3), .second, .val (.long q4), .second, .val (.int p5), .val (.long q3), .second, .val (.long q4), .second, .val (.ref b7), .val (.ref b14), .val (.int (0 : Int32)), .val (.ref b14), .val (.int (0 : Int32)), .val (.int (0 : Int32)), .val (.int (0 : Int32))] [])) _
                refine XS.iload X114.here hx rfl (hb hby at_167) rfl ?_
                show Steps p.tables e below (T114.setTop (mkF m 169 #[.val (.long q1), .second, .val (.long q2), .second, .val (.long q3), .second, .val (.long q4), .second, .val (.int p5), .val (.long q3), .second, .val (.long q4), .second, .val (.ref b7), .val (.ref b14), .val (.int (0 : Int32)), .val (.ref b14), .val (.int (0 : Int32)), .val (.int (0 : Int32)), .val (.int (0 : Int32))] [(.int (0 : Int32))])) _
                refine XS.iload X114.here hx rfl (hb hby at_169) rfl ?_
                show Steps p.tables e below (T114.setTop (mkF m 171 #[.val (.long q1), .second, .val (.long q2), .second, .val (.long q3), .second, .val (.long q4), .second, .val (.int p5), .val (.long q3), .second, .val (.long q4), .second, .val (.ref b7), .val (.ref b14), .val (.int (0 : Int32)), .val (.ref b14), .val (.int (0 : Int32)), .val (.int (0 : Int32)), .val (.int (0 : Int32))] [(.int (0 : Int32)), (.int (0 : Int32))])) _
                refine XS.icmpYes X114.here hx rfl (pc0 := 171) (pc' := 176) rfl (hb hby at_171) rfl (teq (by decide : (0 : Int32) = (0 : Int32))).1 (by decide) (by decide) ?_
                show Steps p.tables e below (T114.setTop (mkF m 176 #[.val (.long q1), .second, .val (.long q2), .second, .val (.long q3), .second, .val (.long q4), .second, .val (.int p5), .val (.long q3), .second, .val (.long q4), .second, .val (.ref b7), .val (.ref b14), .val (.int (0 : Int32)), .val (.ref b14), .val (.int (0 : Int32)), .val (.int (0 : Int32)), .val (.int (0 : Int32))] [])) _
                refine XS.iconst X114.here hx rfl (hb hby at_176) ?_
                show Steps p.tables e below (T114.setTop (mkF m 177 #[.val (.long q1), .second, .val (.long q2), .second, .val (.long q3), .second, .val (.long q4), .second, .val (.int p5), .val (.long q3), .second, .val (.long q4), .second, .val (.ref b7), .val (.ref b14), .val (.int (0 : Int32)), .val (.ref b14), .val (.int (0 : Int32)), .val (.int (0 : Int32)), .val (.int (0 : Int32))] [(.int (1 : Int32))])) _
                exact retN X114 hx (t := .boolean) hret (by simp) (hb hby at_177) hr
              ·
                show Q0 n0 _ T114.heap _
                rw [e126]
                exact ⟨rfl, N114⟩
      ·
        have pre127 : ∀ t, Steps p.tables e below (T15.setTop (mkF m 98 #[.val (.long q1), .second, .val (.long q2), .second, .val (.long q3), .second, .val (.long q4), .second, .val (.int p5), .val (.long q3), .second, .val (.long q4), .second, .val (.ref b7), .val (.ref b14), .val (.int (((p5.toUInt32 >>> ((2 : Int32) &&& 31).toUInt32).toInt32) &&& (3 : Int32))), .unset, .unset, .unset, .unset] [(.int (1 : Int32)), (.int (((p5.toUInt32 >>> ((2 : Int32) &&& 31).toUInt32).toInt32) &&& (3 : Int32)))])) t → Steps p.tables e below (s₁.setTop (entryFrame m #[(.long q1), (.long q2), (.long q3), (.long q4), (.int p5)] maxLocals)) t := fun t k => by
          refine pre21 _ ?_
          show Steps p.tables e below (T15.setTop (mkF m 64 #[.val (.long q1), .second, .val (.long q2), .second, .val (.long q3), .second, .val (.long q4), .second, .val (.int p5), .val (.long q3), .second, .val (.long q4), .second, .val (.ref b7), .val (.ref b14), .val (.int (((p5.toUInt32 >>> ((2 : Int32) &&& 31).toUInt32).toInt32) &&& (3 : Int32))), .unset, .unset, .unset, .unset] [(.int (((p5.toUInt32 >>> ((2 : Int32) &&& 31).toUInt32).toInt32) &&& (3 : Int32)))])) _
          refine XS.ifYes X15.here hx rfl (pc0 := 64) (pc' := 95) rfl (hb hby at_64) rfl ((if0 _ _).trans (feq hc22).2) (by decide) (by decide) ?_
          show Steps p.tables e below (T15.setTop (mkF m 95 #[.val (.long q1), .second, .val (.long q2), .second, .val (.long q3), .second, .val (.long q4), .second, .val (.int p5), .val (.long q3), .second, .val (.long q4), .second, .val (.ref b7), .val (.ref b14), .val (.int (((p5.toUInt32 >>> ((2 : Int32) &&& 31).toUInt32).toInt32) &&& (3 : Int32))), .unset, .unset, .unset, .unset] [])) _
          refine XS.iload X15.here hx rfl (hb hby at_95) rfl ?_
          show Steps p.tables e below (T15.setTop (mkF m 97 #[.val (.long q1), .second, .val (.long q2), .second, .val (.long q3), .second, .val (.long q4), .second, .val (.int p5), .val (.long q3), .second, .val (.long q4), .second, .val (.ref b7), .val (.ref b14), .val (.int (((p5.toUInt32 >>> ((2 : Int32) &&& 31).toUInt32).toInt32) &&& (3 : Int32))), .unset, .unset, .unset, .unset] [(.int (((p5.toUInt32 >>> ((2 : Int32) &&& 31).toUInt32).toInt32) &&& (3 : Int32)))])) _
          refine XS.iconst X15.here hx rfl (hb hby at_97) ?_
          exact k
        by_cases hc128 : (((p5.toUInt32 >>> ((2 : Int32) &&& 31).toUInt32).toInt32) &&& (3 : Int32)) = (1 : Int32)
        ·
          have pre129 : ∀ t, Steps p.tables e below (T15.setTop (mkF m 98 #[.val (.long q1), .second, .val (.long q2), .second, .val (.long q3), .second, .val (.long q4), .second, .val (.int p5), .val (.long q3), .second, .val (.long q4), .second, .val (.ref b7), .val (.ref b14), .val (.int (1 : Int32)), .unset, .unset, .unset, .unset] [(.int (1 : Int32)), (.int (1 : Int32))])) t → Steps p.tables e below (s₁.setTop (entryFrame m #[(.long q1), (.long q2), (.long q3), (.long q4), (.int p5)] maxLocals)) t := fun t k => pre127 t (by rw [hc128]; exact k)
          have f131 := ((f11.ext E14).keep K17)
          obtain ⟨cq130, kq130, q130a, q130b, q130c⟩ := isOf hZ rfl f131
          obtain ⟨_, _, ⟨T132, L132, c132, n132⟩, -, X132, ⟨Lc132, hQ132, l132, y132, z132⟩, st132⟩ := X15.virtualBack hx (y := (⟨"com/example/sablegrid/sablegrid/model/WriteId", "equals", "(Ljava/lang/Object;)Z"⟩ : MethodName)) (z := (⟨"com/example/sablegrid/sablegrid/model/WriteId", "equals", "(Ljava/lang/Object;)Z"⟩ : MethodName)) hown (mvT hZ (hw _ (List.mem_of_getElem? (i := 13) rfl))) (mvT hZ (hw _ (List.mem_of_getElem? (i := 14) rfl))) (notFace_of_selects (args := #[]) (mvT hZ (hw _ (List.mem_of_getElem? (i := 16) rfl)))) (mvT hZ (hw _ (List.mem_of_getElem? (i := 16) rfl))) (mvT hZ (hw _ (List.mem_of_getElem? (i := 15) rfl))) (by decide) (backOf (W := 0) (rm3 l Z a0 hw [] b7 T15.heap n0 O15 g_b7) hZ (hw _ (List.mem_of_getElem? (i := 17) rfl)) (hw _ (List.mem_of_getElem? (i := 2) rfl)) (by decide) (by decide)) q130a q130c (g := (mkF m 139 #[.val (.long q1), .second, .val (.long q2), .second, .val (.long q3), .second, .val (.long q4), .second, .val (.int p5), .val (.long q3), .second, .val (.long q4), .second, .val (.ref b7), .val (.ref b14), .val (.int (1 : Int32)), .val .null, .val (.int (0 : Int32)), .unset, .unset] [.null, (.ref b7)])) rfl (by rw [hml]; rfl) (Steps.refl _) (argsL := [.null]) (rest := []) (lenOf pd1 rfl) rfl (by show 2 * 0 + _ ≤ _; exact Nat.le_of_eq rfl) (hb hby at_139) (fun _ _ => ⟨rfl, rfl, (by decide : 2 + 0 ≤ _), (by decide : 4 + 0 ≤ _)⟩)
          dsimp only [Pt.U, Pt.locs, Pt.cells, Pt.slots] at X132 l132 y132 z132 st132 hQ132
          subst l132 y132 z132
          have X132 : Stand p l e room_1 s m #[(.long q1), (.long q2), (.long q3), (.long q4), (.int p5)] below meth c T132 _ 2 4 := X132
          obtain ⟨rfl, Nq133, e134⟩ := hQ132
          have N132 := Fr.app N15 Nq133
          obtain ⟨fs, hr, hrun, hended, hW, hsame⟩ := X132.leave (v := some (.int (1 : Int32))) (fun h => by rw [hret] at h; cases h)
          refine ⟨_, _, pre129 _ ?_, hrun, hended, _, _, rfl, ?_, ⟨_, rfl⟩, hW, hsame.mono (by decide) (by decide)⟩
          ·
            show Steps p.tables e below (T15.setTop (mkF m 98 #[.val (.long q1), .second, .val (.long q2), .second, .val (.long q3), .second, .val (.long q4), .second, .val (.int p5), .val (.long q3), .second, .val (.long q4), .second, .val (.ref b7), .val (.ref b14), .val (.int (1 : Int32)), .unset, .unset, .unset, .unset] [(.int (1 : Int32)), (.int (1 : Int32))])) _
            refine XS.icmpNo X15.here hx rfl (hb hby at_98) rfl (teq (by decide : (1 : Int32) = (1 : Int32))).2 ?_
            show Steps p.tables e below (T15.setTop (mkF m 101 #[.val (.long q1), .second, .val (.long q2), .second, .val (.long q3), .second, .val (.long q4), .second, .val (.int p5), .val (.long q3), .second, .val (.long q4), .second, .val (.ref b7), .val (.ref b14), .val (.int (1 : Int32)), .unset, .unset, .unset, .unset] [])) _
            refine XS.aconstNull X15.here hx rfl (hb hby at_101) ?_
            show Steps p.tables e below (T15.setTop (mkF m 102 #[.val (.long q1), .second, .val (.long q2), .second, .val (.long q3), .second, .val (.long q4), .second, .val (.int p5), .val (.long q3), .second, .val (.long q4), .second, .val (.ref b7), .val (.ref b14), .val (.int (1 : Int32)), .unset, .unset, .unset, .unset] [.null])) _
            refine XS.astore X15.here hx rfl (hb hby at_102) rfl rfl (l' := #[.val (.long q1), .second, .val (.long q2), .second, .val (.long q3), .second, .val (.long q4), .second, .val (.int p5), .val (.long q3), .second, .val (.long q4), .second, .val (.ref b7), .val (.ref b14), .val (.int (1 : Int32)), .val .null, .unset, .unset, .unset]) rfl ?_
            show Steps p.tables e below (T15.setTop (mkF m 104 #[.val (.long q1), .second, .val (.long q2), .second, .val (.long q3), .second, .val (.long q4), .second, .val (.int p5), .val (.long q3), .second, .val (.long q4), .second, .val (.ref b7), .val (.ref b14), .val (.int (1 : Int32)), .val .null, .unset, .unset, .unset] [])) _
            refine XS.iconst X15.here hx rfl (hb hby at_104) ?_
            show Steps p.tables e below (T15.setTop (mkF m 105 #[.val (.long q1), .second, .val (.long q2), .second, .val (.long q3), .second, .val (.long q4), .second, .val (.int p5), .val (.long q3), .second, .val (.long q4), .second, .val (.ref b7), .val (.ref b14), .val (.int (1 : Int32)), .val .null, .unset, .unset, .unset] [(.int (0 : Int32))])) _
            refine XS.istore X15.here hx rfl (hb hby at_105) rfl (l' := #[.val (.long q1), .second, .val (.long q2), .second, .val (.long q3), .second, .val (.long q4), .second, .val (.int p5), .val (.long q3), .second, .val (.long q4), .second, .val (.ref b7), .val (.ref b14), .val (.int (1 : Int32)), .val .null, .val (.int (0 : Int32)), .unset, .unset]) rfl ?_
            show Steps p.tables e below (T15.setTop (mkF m 107 #[.val (.long q1), .second, .val (.long q2), .second, .val (.long q3), .second, .val (.long q4), .second, .val (.int p5), .val (.long q3), .second, .val (.long q4), .second, .val (.ref b7), .val (.ref b14), .val (.int (1 : Int32)), .val .null, .val (.int (0 : Int32)), .unset, .unset] [])) _
            refine XS.goto X15.here hx rfl (pc0 := 107) (pc' := 135) rfl (hb hby at_107) (by decide) (by decide) ?_
            show Steps p.tables e below (T15.setTop (mkF m 135 #[.val (.long q1), .second, .val (.long q2), .second, .val (.long q3), .second, .val (.long q4), .second, .val (.int p5), .val (.long q3), .second, .val (.long q4), .second, .val (.ref b7), .val (.ref b14), .val (.int (1 : Int32)), .val .null, .val (.int (0 : Int32)), .unset, .unset] [])) _
            refine XS.aload X15.here hx rfl (hb hby at_135) rfl rfl ?_
            show Steps p.tables e below (T15.setTop (mkF m 137 #[.val (.long q1), .second, .val (.long q2), .second, .val (.long q3), .second, .val (.long q4), .second, .val (.int p5), .val (.long q3), .second, .val (.long q4), .second, .val (.ref b7), .val (.ref b14), .val (.int (1 : Int32)), .val .null, .val (.int (0 : Int32)), .unset, .unset] [(.ref b7)])) _
            refine XS.aload X15.here hx rfl (hb hby at_137) rfl rfl ?_
            show Steps p.tables e below (T15.setTop (mkF m 139 #[.val (.long q1), .second, .val (.long q2), .second, .val (.long q3), .second, .val (.long q4), .second, .val (.int p5), .val (.long q3), .second, .val (.long q4), .second, .val (.ref b7), .val (.ref b14), .val (.int (1 : Int32)), .val .null, .val (.int (0 : Int32)), .unset, .unset] [.null, (.ref b7)])) _
            refine st132.trans ?_
            show Steps p.tables e below (T132.setTop (mkF m 142 #[.val (.long q1), .second, .val (.long q2), .second, .val (.long q3), .second, .val (.long q4), .second, .val (.int p5), .val (.long q3), .second, .val (.long q4), .second, .val (.ref b7), .val (.ref b14), .val (.int (1 : Int32)), .val .null, .val (.int (0 : Int32)), .unset, .unset] [(.int (0 : Int32))])) _
            refine XS.istore X132.here hx rfl (hb hby at_142) rfl (l' := #[.val (.long q1), .second, .val (.long q2), .second, .val (.long q3), .second, .val (.long q4), .second, .val (.int p5), .val (.long q3), .second, .val (.long q4), .second, .val (.ref b7), .val (.ref b14), .val (.int (1 : Int32)), .val .null, .val (.int (0 : Int32)), .val (.int (0 : Int32)), .unset]) rfl ?_
            show Steps p.tables e below (T132.setTop (mkF m 144 #[.val (.long q1), .second, .val (.long q2), .second, .val (.long q3), .second, .val (.long q4), .second, .val (.int p5), .val (.long q3), .second, .val (.long q4), .second, .val (.ref b7), .val (.ref b14), .val (.int (1 : Int32)), .val .null, .val (.int (0 : Int32)), .val (.int (0 : Int32)), .unset] [])) _
            refine XS.iload X132.here hx rfl (hb hby at_144) rfl ?_
            show Steps p.tables e below (T132.setTop (mkF m 146 #[.val (.long q1), .second, .val (.long q2), .second, .val (.long q3), .second, .val (.long q4), .second, .val (.int p5), .val (.long q3), .second, .val (.long q4), .second, .val (.ref b7), .val (.ref b14), .val (.int (1 : Int32)), .val .null, .val (.int (0 : Int32)), .val (.int (0 : Int32)), .unset] [(.int (0 : Int32))])) _
            refine XS.iload X132.here hx rfl (hb hby at_146) rfl ?_
            show Steps p.tables e below (T132.setTop (mkF m 148 #[.val (.long q1), .second, .val (.long q2), .second, .val (.long q3), .second, .val (.long q4), .second, .val (.int p5), .val (.long q3), .second, .val (.long q4), .second, .val (.ref b7), .val (.ref b14), .val (.int (1 : Int32)), .val .null, .val (.int (0 : Int32)), .val (.int (0 : Int32)), .unset] [(.int (0 : Int32)), (.int (0 : Int32))])) _
            refine XS.icmpYes X132.here hx rfl (pc0 := 148) (pc' := 153) rfl (hb hby at_148) rfl (teq (by decide : (0 : Int32) = (0 : Int32))).1 (by decide) (by decide) ?_
            show Steps p.tables e below (T132.setTop (mkF m 153 #[.val (.long q1), .second, .val (.long q2), .second, .val (.long q3), .second, .val (.long q4), .second, .val (.int p5), .val (.long q3), .second, .val (.long q4), .second, .val (.ref b7), .val (.ref b14), .val (.int (1 : Int32)), .val .null, .val (.int (0 : Int32)), .val (.int (0 : Int32)), .unset] [])) _
            refine XS.iload X132.here hx rfl (hb hby at_153) rfl ?_
            show Steps p.tables e below (T132.setTop (mkF m 155 #[.val (.long q1), .second, .val (.long q2), .second, .val (.long q3), .second, .val (.long q4), .second, .val (.int p5), .val (.long q3), .second, .val (.long q4), .second, .val (.ref b7), .val (.ref b14), .val (.int (1 : Int32)), .val .null, .val (.int (0 : Int32)), .val (.int (0 : Int32)), .unset] [(.int (1 : Int32))])) _
            refine XS.ifYes X132.here hx rfl (pc0 := 155) (pc' := 176) rfl (hb hby at_155) rfl ((if0 _ _).trans (feq (by decide : ¬ ((1 : Int32) = (0 : Int32)))).2) (by decide) (by decide) ?_
            show Steps p.tables e below (T132.setTop (mkF m 176 #[.val (.long q1), .second, .val (.long q2), .second, .val (.long q3), .second, .val (.long q4), .second, .val (.int p5), .val (.long q3), .second, .val (.long q4), .second, .val (.ref b7), .val (.ref b14), .val (.int (1 : Int32)), .val .null, .val (.int (0 : Int32)), .val (.int (0 : Int32)), .unset] [])) _
            refine XS.iconst X132.here hx rfl (hb hby at_176) ?_
            show Steps p.tables e below (T132.setTop (mkF m 177 #[.val (.long q1), .second, .val (.long q2), .second, .val (.long q3), .second, .val (.long q4), .second, .val (.int p5), .val (.long q3), .second, .val (.long q4), .second, .val (.ref b7), .val (.ref b14), .val (.int (1 : Int32)), .val .null, .val (.int (0 : Int32)), .val (.int (0 : Int32)), .unset] [(.int (1 : Int32))])) _
            exact retN X132 hx (t := .boolean) hret (by simp) (hb hby at_177) hr
          ·
            show Q0 n0 _ T132.heap _
            rw [e134]
            exact ⟨rfl, N132⟩
        ·
          have pre135 : ∀ t, Steps p.tables e below (T15.setTop (mkF m 113 #[.val (.long q1), .second, .val (.long q2), .second, .val (.long q3), .second, .val (.long q4), .second, .val (.int p5), .val (.long q3), .second, .val (.long q4), .second, .val (.ref b7), .val (.ref b14), .val (.int (((p5.toUInt32 >>> ((2 : Int32) &&& 31).toUInt32).toInt32) &&& (3 : Int32))), .unset, .unset, .unset, .unset] [(.int (2 : Int32)), (.int (((p5.toUInt32 >>> ((2 : Int32) &&& 31).toUInt32).toInt32) &&& (3 : Int32)))])) t → Steps p.tables e below (s₁.setTop (entryFrame m #[(.long q1), (.long q2), (.long q3), (.long q4), (.int p5)] maxLocals)) t := fun t k => by
            refine pre127 _ ?_
            show Steps p.tables e below (T15.setTop (mkF m 98 #[.val (.long q1), .second, .val (.long q2), .second, .val (.long q3), .second, .val (.long q4), .second, .val (.int p5), .val (.long q3), .second, .val (.long q4), .second, .val (.ref b7), .val (.ref b14), .val (.int (((p5.toUInt32 >>> ((2 : Int32) &&& 31).toUInt32).toInt32) &&& (3 : Int32))), .unset, .unset, .unset, .unset] [(.int (1 : Int32)), (.int (((p5.toUInt32 >>> ((2 : Int32) &&& 31).toUInt32).toInt32) &&& (3 : Int32)))])) _
            refine XS.icmpYes X15.here hx rfl (pc0 := 98) (pc' := 110) rfl (hb hby at_98) rfl (feq hc128).2 (by decide) (by decide) ?_
            show Steps p.tables e below (T15.setTop (mkF m 110 #[.val (.long q1), .second, .val (.long q2), .second, .val (.long q3), .second, .val (.long q4), .second, .val (.int p5), .val (.long q3), .second, .val (.long q4), .second, .val (.ref b7), .val (.ref b14), .val (.int (((p5.toUInt32 >>> ((2 : Int32) &&& 31).toUInt32).toInt32) &&& (3 : Int32))), .unset, .unset, .unset, .unset] [])) _
            refine XS.iload X15.here hx rfl (hb hby at_110) rfl ?_
            show Steps p.tables e below (T15.setTop (mkF m 112 #[.val (.long q1), .second, .val (.long q2), .second, .val (.long q3), .second, .val (.long q4), .second, .val (.int p5), .val (.long q3), .second, .val (.long q4), .second, .val (.ref b7), .val (.ref b14), .val (.int (((p5.toUInt32 >>> ((2 : Int32) &&& 31).toUInt32).toInt32) &&& (3 : Int32))), .unset, .unset, .unset, .unset] [(.int (((p5.toUInt32 >>> ((2 : Int32) &&& 31).toUInt32).toInt32) &&& (3 : Int32)))])) _
            refine XS.iconst X15.here hx rfl (hb hby at_112) ?_
            exact k
          by_cases hc136 : (((p5.toUInt32 >>> ((2 : Int32) &&& 31).toUInt32).toInt32) &&& (3 : Int32)) = (2 : Int32)
          ·
            have pre137 : ∀ t, Steps p.tables e below (T15.setTop (mkF m 113 #[.val (.long q1), .second, .val (.long q2), .second, .val (.long q3), .second, .val (.long q4), .second, .val (.int p5), .val (.long q3), .second, .val (.long q4), .second, .val (.ref b7), .val (.ref b14), .val (.int (2 : Int32)), .unset, .unset, .unset, .unset] [(.int (2 : Int32)), (.int (2 : Int32))])) t → Steps p.tables e below (s₁.setTop (entryFrame m #[(.long q1), (.long q2), (.long q3), (.long q4), (.int p5)] maxLocals)) t := fun t k => pre135 t (by rw [hc136]; exact k)
            obtain ⟨_, _, ⟨T138, L138, c138, n138⟩, -, X138, ⟨Lc138, hQ138, l138, y138, z138⟩, st138⟩ := Jvm.LawKit.callS X15 hx (y := (⟨"java/lang/Long", "valueOf", "(J)Ljava/lang/Long;"⟩ : MethodName)) hown (mvT hZ (hw _ (List.mem_of_getElem? (i := 20) rfl))) (mvT hZ (hw _ (List.mem_of_getElem? (i := 21) rfl))) (mvT hZ (hw _ (List.mem_of_getElem? (i := 22) rfl))) (mvT hZ (hw _ (List.mem_of_getElem? (i := 23) rfl))) (by decide) (backOf (W := 0) (rm6 l Z a0 hw w1 cw1 G [] q1 T15.heap n0 O15 ) hZ (hw _ (List.mem_of_getElem? (i := 23) rfl)) (hw _ (List.mem_of_getElem? (i := 22) rfl)) (by decide) (by decide)) (g := (mkF m 117 #[.val (.long q1), .second, .val (.long q2), .second, .val (.long q3), .second, .val (.long q4), .second, .val (.int p5), .val (.long q3), .second, .val (.long q4), .second, .val (.ref b7), .val (.ref b14), .val (.int (2 : Int32)), .unset, .unset, .unset, .unset] [(.long q1)])) rfl (by rw [hml]; rfl) (argsL := [(.long q1)]) (rest := []) (lenOf pd4 rfl) rfl (by show 2 * 0 + _ ≤ _; exact Nat.le_of_eq rfl) (hb hby at_117) (fun _ _ => ⟨rfl, rfl, (by decide : 2 + 1 ≤ _), (by decide : 4 + 1 ≤ _)⟩)
            dsimp only [Pt.U, Pt.locs, Pt.cells, Pt.slots] at X138 l138 y138 z138 st138 hQ138
            subst l138 y138 z138
            have pre139 : ∀ t, Steps p.tables e below (T15.setTop (mkF m 117 #[.val (.long q1), .second, .val (.long q2), .second, .val (.long q3), .second, .val (.long q4), .second, .val (.int p5), .val (.long q3), .second, .val (.long q4), .second, .val (.ref b7), .val (.ref b14), .val (.int (2 : Int32)), .unset, .unset, .unset, .unset] [(.long q1)])) t → Steps p.tables e below (s₁.setTop (entryFrame m #[(.long q1), (.long q2), (.long q3), (.long q4), (.int p5)] maxLocals)) t := fun t k => by
              refine pre137 _ ?_
              show Steps p.tables e below (T15.setTop (mkF m 113 #[.val (.long q1), .second, .val (.long q2), .second, .val (.long q3), .second, .val (.long q4), .second, .val (.int p5), .val (.long q3), .second, .val (.long q4), .second, .val (.ref b7), .val (.ref b14), .val (.int (2 : Int32)), .unset, .unset, .unset, .unset] [(.int (2 : Int32)), (.int (2 : Int32))])) _
              refine XS.icmpNo X15.here hx rfl (hb hby at_113) rfl (teq (by decide : (2 : Int32) = (2 : Int32))).2 ?_
              show Steps p.tables e below (T15.setTop (mkF m 116 #[.val (.long q1), .second, .val (.long q2), .second, .val (.long q3), .second, .val (.long q4), .second, .val (.int p5), .val (.long q3), .second, .val (.long q4), .second, .val (.ref b7), .val (.ref b14), .val (.int (2 : Int32)), .unset, .unset, .unset, .unset] [])) _
              refine XS.lloadN X15.here hx rfl (hb hby at_116) rfl ?_
              exact k
            have X138 : Stand p l e room_1 s m #[(.long q1), (.long q2), (.long q3), (.long q4), (.int p5)] below meth c T138 _ 3 5 := X138
            rcases hQ138 with ⟨b140, hc141, rfl, Nq142, K143, sz_b140, f144, f145⟩ | ⟨b146, hc147, hc148, rfl, Nq149, K150, sz_b146, f151, f152⟩ | ⟨v153, hc154, hc155, rfl, Nq156, e157, f158⟩
            ·
              have N138 := Fr.app N15 Nq142
              have g_b140 : n0 ≤ b140 := Nat.le_trans (own_oz O15) sz_b140
              have M138 : h0.size ≤ T138.heap.size := Nat.le_trans M15 K143.1
              have O138 := Old.keep O15 K143 all0
              have f160 := (((f11.ext E14).keep K17).keep K143)
              obtain ⟨cq159, kq159, q159a, q159b, q159c⟩ := isOf hZ rfl f160
              obtain ⟨_, _, ⟨T161, L161, c161, n161⟩, -, X161, ⟨Lc161, hQ161, l161, y161, z161⟩, st161⟩ := X138.virtualBack hx (y := (⟨"com/example/sablegrid/sablegrid/model/WriteId", "equals", "(Ljava/lang/Object;)Z"⟩ : MethodName)) (z := (⟨"com/example/sablegrid/sablegrid/model/WriteId", "equals", "(Ljava/lang/Object;)Z"⟩ : MethodName)) hown (mvT hZ (hw _ (List.mem_of_getElem? (i := 13) rfl))) (mvT hZ (hw _ (List.mem_of_getElem? (i := 14) rfl))) (notFace_of_selects (args := #[]) (mvT hZ (hw _ (List.mem_of_getElem? (i := 16) rfl)))) (mvT hZ (hw _ (List.mem_of_getElem? (i := 16) rfl))) (mvT hZ (hw _ (List.mem_of_getElem? (i := 15) rfl))) (by decide) (backOf (W := 0) (rm7 l Z a0 hw [] b7 b140 T138.heap n0 O138 g_b7 g_b140 f144) hZ (hw _ (List.mem_of_getElem? (i := 17) rfl)) (hw _ (List.mem_of_getElem? (i := 2) rfl)) (by decide) (by decide)) q159a q159c (g := (mkF m 139 #[.val (.long q1), .second, .val (.long q2), .second, .val (.long q3), .second, .val (.long q4), .second, .val (.int p5), .val (.long q3), .second, .val (.long q4), .second, .val (.ref b7), .val (.ref b14), .val (.int (2 : Int32)), .val (.ref b140), .val (.int (0 : Int32)), .unset, .unset] [(.ref b140), (.ref b7)])) rfl (by rw [hml]; rfl) (Steps.refl _) (argsL := [(.ref b140)]) (rest := []) (lenOf pd1 rfl) rfl (by show 2 * 0 + _ ≤ _; exact Nat.le_of_eq rfl) (hb hby at_139) (fun _ _ => ⟨rfl, rfl, (by decide : 3 + 0 ≤ _), (by decide : 5 + 0 ≤ _)⟩)
              dsimp only [Pt.U, Pt.locs, Pt.cells, Pt.slots] at X161 l161 y161 z161 st161 hQ161
              subst l161 y161 z161
              have X161 : Stand p l e room_1 s m #[(.long q1), (.long q2), (.long q3), (.long q4), (.int p5)] below meth c T161 _ 3 5 := X161
              obtain ⟨rfl, Nq162, e163⟩ := hQ161
              have N161 := Fr.app N138 Nq162
              obtain ⟨fs, hr, hrun, hended, hW, hsame⟩ := X161.leave (v := some (.int (1 : Int32))) (fun h => by rw [hret] at h; cases h)
              refine ⟨_, _, pre139 _ ?_, hrun, hended, _, _, rfl, ?_, ⟨_, rfl⟩, hW, hsame.mono (by decide) (by decide)⟩
              ·
                show Steps p.tables e below (T15.setTop (mkF m 117 #[.val (.long q1), .second, .val (.long q2), .second, .val (.long q3), .second, .val (.long q4), .second, .val (.int p5), .val (.long q3), .second, .val (.long q4), .second, .val (.ref b7), .val (.ref b14), .val (.int (2 : Int32)), .unset, .unset, .unset, .unset] [(.long q1)])) _
                refine st138 _ ?_
                show Steps p.tables e below (T138.setTop (mkF m 120 #[.val (.long q1), .second, .val (.long q2), .second, .val (.long q3), .second, .val (.long q4), .second, .val (.int p5), .val (.long q3), .second, .val (.long q4), .second, .val (.ref b7), .val (.ref b14), .val (.int (2 : Int32)), .unset, .unset, .unset, .unset] [(.ref b140)])) _
                refine XS.astore X138.here hx rfl (hb hby at_120) rfl rfl (l' := #[.val (.long q1), .second, .val (.long q2), .second, .val (.long q3), .second, .val (.long q4), .second, .val (.int p5), .val (.long q3), .second, .val (.long q4), .second, .val (.ref b7), .val (.ref b14), .val (.int (2 : Int32)), .val (.ref b140), .unset, .unset, .unset]) rfl ?_
                show Steps p.tables e below (T138.setTop (mkF m 122 #[.val (.long q1), .second, .val (.long q2), .second, .val (.long q3), .second, .val (.long q4), .second, .val (.int p5), .val (.long q3), .second, .val (.long q4), .second, .val (.ref b7), .val (.ref b14), .val (.int (2 : Int32)), .val (.ref b140), .unset, .unset, .unset] [])) _
                refine XS.iconst X138.here hx rfl (hb hby at_122) ?_
                show Steps p.tables e below (T138.setTop (mkF m 123 #[.val (.long q1), .second, .val (.long q2), .second, .val (.long q3), .second, .val (.long q4), .second, .val (.int p5), .val (.long q3), .second, .val (.long q4), .second, .val (.ref b7), .val (.ref b14), .val (.int (2 : Int32)), .val (.ref b140), .unset, .unset, .unset] [(.int (0 : Int32))])) _
                refine XS.istore X138.here hx rfl (hb hby at_123) rfl (l' := #[.val (.long q1), .second, .val (.long q2), .second, .val (.long q3), .second, .val (.long q4), .second, .val (.int p5), .val (.long q3), .second, .val (.long q4), .second, .val (.ref b7), .val (.ref b14), .val (.int (2 : Int32)), .val (.ref b140), .val (.int (0 : Int32)), .unset, .unset]) rfl ?_
                show Steps p.tables e below (T138.setTop (mkF m 125 #[.val (.long q1), .second, .val (.long q2), .second, .val (.long q3), .second, .val (.long q4), .second, .val (.int p5), .val (.long q3), .second, .val (.long q4), .second, .val (.ref b7), .val (.ref b14), .val (.int (2 : Int32)), .val (.ref b140), .val (.int (0 : Int32)), .unset, .unset] [])) _
                refine XS.goto X138.here hx rfl (pc0 := 125) (pc' := 135) rfl (hb hby at_125) (by decide) (by decide) ?_
                show Steps p.tables e below (T138.setTop (mkF m 135 #[.val (.long q1), .second, .val (.long q2), .second, .val (.long q3), .second, .val (.long q4), .second, .val (.int p5), .val (.long q3), .second, .val (.long q4), .second, .val (.ref b7), .val (.ref b14), .val (.int (2 : Int32)), .val (.ref b140), .val (.int (0 : Int32)), .unset, .unset] [])) _
                refine XS.aload X138.here hx rfl (hb hby at_135) rfl rfl ?_
                show Steps p.tables e below (T138.setTop (mkF m 137 #[.val (.long q1), .second, .val (.long q2), .second, .val (.long q3), .second, .val (.long q4), .second, .val (.int p5), .val (.long q3), .second, .val (.long q4), .second, .val (.ref b7), .val (.ref b14), .val (.int (2 : Int32)), .val (.ref b140), .val (.int (0 : Int32)), .unset, .unset] [(.ref b7)])) _
                refine XS.aload X138.here hx rfl (hb hby at_137) rfl rfl ?_
                show Steps p.tables e below (T138.setTop (mkF m 139 #[.val (.long q1), .second, .val (.long q2), .second, .val (.long q3), .second, .val (.long q4), .second, .val (.int p5), .val (.long q3), .second, .val (.long q4), .second, .val (.ref b7), .val (.ref b14), .val (.int (2 : Int32)), .val (.ref b140), .val (.int (0 : Int32)), .unset, .unset] [(.ref b140), (.ref b7)])) _
                refine st161.trans ?_
                show Steps p.tables e below (T161.setTop (mkF m 142 #[.val (.long q1), .second, .val (.long q2), .second, .val (.long q3), .second, .val (.long q4), .second, .val (.int p5), .val (.long q3), .second, .val (.long q4), .second, .val (.ref b7), .val (.ref b14), .val (.int (2 : Int32)), .val (.ref b140), .val (.int (0 : Int32)), .unset, .unset] [(.int (0 : Int32))])) _
                refine XS.istore X161.here hx rfl (hb hby at_142) rfl (l' := #[.val (.long q1), .second, .val (.long q2), .second, .val (.long q3), .second, .val (.long q4), .second, .val (.int p5), .val (.long q3), .second, .val (.long q4), .second, .val (.ref b7), .val (.ref b14), .val (.int (2 : Int32)), .val (.ref b140), .val (.int (0 : Int32)), .val (.int (0 : Int32)), .unset]) rfl ?_
                show Steps p.tables e below (T161.setTop (mkF m 144 #[.val (.long q1), .second, .val (.long q2), .second, .val (.long q3), .second, .val (.long q4), .second, .val (.int p5), .val (.long q3), .second, .val (.long q4), .second, .val (.ref b7), .val (.ref b14), .val (.int (2 : Int32)), .val (.ref b140), .val (.int (0 : Int32)), .val (.int (0 : Int32)), .unset] [])) _
                refine XS.iload X161.here hx rfl (hb hby at_144) rfl ?_
                show Steps p.tables e below (T161.setTop (mkF m 146 #[.val (.long q1), .second, .val (.long q2), .second, .val (.long q3), .second, .val (.long q4), .second, .val (.int p5), .val (.long q3), .second, .val (.long q4), .second, .val (.ref b7), .val (.ref b14), .val (.int (2 : Int32)), .val (.ref b140), .val (.int (0 : Int32)), .val (.int (0 : Int32)), .unset] [(.int (0 : Int32))])) _
                refine XS.iload X161.here hx rfl (hb hby at_146) rfl ?_
                show Steps p.tables e below (T161.setTop (mkF m 148 #[.val (.long q1), .second, .val (.long q2), .second, .val (.long q3), .second, .val (.long q4), .second, .val (.int p5), .val (.long q3), .second, .val (.long q4), .second, .val (.ref b7), .val (.ref b14), .val (.int (2 : Int32)), .val (.ref b140), .val (.int (0 : Int32)), .val (.int (0 : Int32)), .unset] [(.int (0 : Int32)), (.int (0 : Int32))])) _
                refine XS.icmpYes X161.here hx rfl (pc0 := 148) (pc' := 153) rfl (hb hby at_148) rfl (teq (by decide : (0 : Int32) = (0 : Int32))).1 (by decide) (by decide) ?_
                show Steps p.tables e below (T161.setTop (mkF m 153 #[.val (.long q1), .second, .val (.long q2), .second, .val (.long q3), .second, .val (.long q4), .second, .val (.int p5), .val (.long q3), .second, .val (.long q4), .second, .val (.ref b7), .val (.ref b14), .val (.int (2 : Int32)), .val (.ref b140), .val (.int (0 : Int32)), .val (.int (0 : Int32)), .unset] [])) _
                refine XS.iload X161.here hx rfl (hb hby at_153) rfl ?_
                show Steps p.tables e below (T161.setTop (mkF m 155 #[.val (.long q1), .second, .val (.long q2), .second, .val (.long q3), .second, .val (.long q4), .second, .val (.int p5), .val (.long q3), .second, .val (.long q4), .second, .val (.ref b7), .val (.ref b14), .val (.int (2 : Int32)), .val (.ref b140), .val (.int (0 : Int32)), .val (.int (0 : Int32)), .unset] [(.int (2 : Int32))])) _
                refine XS.ifYes X161.here hx rfl (pc0 := 155) (pc' := 176) rfl (hb hby at_155) rfl ((if0 _ _).trans (feq (by decide : ¬ ((2 : Int32) = (0 : Int32)))).2) (by decide) (by decide) ?_
                show Steps p.tables e below (T161.setTop (mkF m 176 #[.val (.long q1), .second, .val (.long q2), .second, .val (.long q3), .second, .val (.long q4), .second, .val (.int p5), .val (.long q3), .second, .val (.long q4), .second, .val (.ref b7), .val (.ref b14), .val (.int (2 : Int32)), .val (.ref b140), .val (.int (0 : Int32)), .val (.int (0 : Int32)), .unset] [])) _
                refine XS.iconst X161.here hx rfl (hb hby at_176) ?_
                show Steps p.tables e below (T161.setTop (mkF m 177 #[.val (.long q1), .second, .val (.long q2), .second, .val (.long q3), .second, .val (.long q4), .second, .val (.int p5), .val (.long q3), .second, .val (.long q4), .second, .val (.ref b7), .val (.ref b14), .val (.int (2 : Int32)), .val (.ref b140), .val (.int (0 : Int32)), .val (.int (0 : Int32)), .unset] [(.int (1 : Int32))])) _
                exact retN X161 hx (t := .boolean) hret (by simp) (hb hby at_177) hr
              ·
                show Q0 n0 _ T161.heap _
                rw [e163]
                exact ⟨rfl, N161⟩
            ·
              have N138 := Fr.app N15 Nq149
              have g_b146 : n0 ≤ b146 := Nat.le_trans (own_oz O15) sz_b146
              have M138 : h0.size ≤ T138.heap.size := Nat.le_trans M15 K150.1
              have O138 := Old.keep O15 K150 all0
              have f165 := (((f11.ext E14).keep K17).keep K150)
              obtain ⟨cq164, kq164, q164a, q164b, q164c⟩ := isOf hZ rfl f165
              obtain ⟨_, _, ⟨T166, L166, c166, n166⟩, -, X166, ⟨Lc166, hQ166, l166, y166, z166⟩, st166⟩ := X138.virtualBack hx (y := (⟨"com/example/sablegrid/sablegrid/model/WriteId", "equals", "(Ljava/lang/Object;)Z"⟩ : MethodName)) (z := (⟨"com/example/sablegrid/sablegrid/model/WriteId", "equals", "(Ljava/lang/Object;)Z"⟩ : MethodName)) hown (mvT hZ (hw _ (List.mem_of_getElem? (i := 13) rfl))) (mvT hZ (hw _ (List.mem_of_getElem? (i := 14) rfl))) (notFace_of_selects (args := #[]) (mvT hZ (hw _ (List.mem_of_getElem? (i := 16) rfl)))) (mvT hZ (hw _ (List.mem_of_getElem? (i := 16) rfl))) (mvT hZ (hw _ (List.mem_of_getElem? (i := 15) rfl))) (by decide) (backOf (W := 0) (rm7 l Z a0 hw [] b7 b146 T138.heap n0 O138 g_b7 g_b146 f151) hZ (hw _ (List.mem_of_getElem? (i := 17) rfl)) (hw _ (List.mem_of_getElem? (i := 2) rfl)) (by decide) (by decide)) q164a q164c (g := (mkF m 139 #[.val (.long q1), .second, .val (.long q2), .second, .val (.long q3), .second, .val (.long q4), .second, .val (.int p5), .val (.long q3), .second, .val (.long q4), .second, .val (.ref b7), .val (.ref b14), .val (.int (2 : Int32)), .val (.ref b146), .val (.int (0 : Int32)), .unset, .unset] [(.ref b146), (.ref b7)])) rfl (by rw [hml]; rfl) (Steps.refl _) (argsL := [(.ref b146)]) (rest := []) (lenOf pd1 rfl) rfl (by show 2 * 0 + _ ≤ _; exact Nat.le_of_eq rfl) (hb hby at_139) (fun _ _ => ⟨rfl, rfl, (by decide : 3 + 0 ≤ _), (by decide : 5 + 0 ≤ _)⟩)
              dsimp only [Pt.U, Pt.locs, Pt.cells, Pt.slots] at X166 l166 y166 z166 st166 hQ166
              subst l166 y166 z166
              have X166 : Stand p l e room_1 s m #[(.long q1), (.long q2), (.long q3), (.long q4), (.int p5)] below meth c T166 _ 3 5 := X166
              obtain ⟨rfl, Nq167, e168⟩ := hQ166
              have N166 := Fr.app N138 Nq167
              obtain ⟨fs, hr, hrun, hended, hW, hsame⟩ := X166.leave (v := some (.int (1 : Int32))) (fun h => by rw [hret] at h; cases h)
              refine ⟨_, _, pre139 _ ?_, hrun, hended, _, _, rfl, ?_, ⟨_, rfl⟩, hW, hsame.mono (by decide) (by decide)⟩
              ·
                show Steps p.tables e below (T15.setTop (mkF m 117 #[.val (.long q1), .second, .val (.long q2), .second, .val (.long q3), .second, .val (.long q4), .second, .val (.int p5), .val (.long q3), .second, .val (.long q4), .second, .val (.ref b7), .val (.ref b14), .val (.int (2 : Int32)), .unset, .unset, .unset, .unset] [(.long q1)])) _
                refine st138 _ ?_
                show Steps p.tables e below (T138.setTop (mkF m 120 #[.val (.long q1), .second, .val (.long q2), .second, .val (.long q3), .second, .val (.long q4), .second, .val (.int p5), .val (.long q3), .second, .val (.long q4), .second, .val (.ref b7), .val (.ref b14), .val (.int (2 : Int32)), .unset, .unset, .unset, .unset] [(.ref b146)])) _
                refine XS.astore X138.here hx rfl (hb hby at_120) rfl rfl (l' := #[.val (.long q1), .second, .val (.long q2), .second, .val (.long q3), .second, .val (.long q4), .second, .val (.int p5), .val (.long q3), .second, .val (.long q4), .second, .val (.ref b7), .val (.ref b14), .val (.int (2 : Int32)), .val (.ref b146), .unset, .unset, .unset]) rfl ?_
                show Steps p.tables e below (T138.setTop (mkF m 122 #[.val (.long q1), .second, .val (.long q2), .second, .val (.long q3), .second, .val (.long q4), .second, .val (.int p5), .val (.long q3), .second, .val (.long q4), .second, .val (.ref b7), .val (.ref b14), .val (.int (2 : Int32)), .val (.ref b146), .unset, .unset, .unset] [])) _
                refine XS.iconst X138.here hx rfl (hb hby at_122) ?_
                show Steps p.tables e below (T138.setTop (mkF m 123 #[.val (.long q1), .second, .val (.long q2), .second, .val (.long q3), .second, .val (.long q4), .second, .val (.int p5), .val (.long q3), .second, .val (.long q4), .second, .val (.ref b7), .val (.ref b14), .val (.int (2 : Int32)), .val (.ref b146), .unset, .unset, .unset] [(.int (0 : Int32))])) _
                refine XS.istore X138.here hx rfl (hb hby at_123) rfl (l' := #[.val (.long q1), .second, .val (.long q2), .second, .val (.long q3), .second, .val (.long q4), .second, .val (.int p5), .val (.long q3), .second, .val (.long q4), .second, .val (.ref b7), .val (.ref b14), .val (.int (2 : Int32)), .val (.ref b146), .val (.int (0 : Int32)), .unset, .unset]) rfl ?_
                show Steps p.tables e below (T138.setTop (mkF m 125 #[.val (.long q1), .second, .val (.long q2), .second, .val (.long q3), .second, .val (.long q4), .second, .val (.int p5), .val (.long q3), .second, .val (.long q4), .second, .val (.ref b7), .val (.ref b14), .val (.int (2 : Int32)), .val (.ref b146), .val (.int (0 : Int32)), .unset, .unset] [])) _
                refine XS.goto X138.here hx rfl (pc0 := 125) (pc' := 135) rfl (hb hby at_125) (by decide) (by decide) ?_
                show Steps p.tables e below (T138.setTop (mkF m 135 #[.val (.long q1), .second, .val (.long q2), .second, .val (.long q3), .second, .val (.long q4), .second, .val (.int p5), .val (.long q3), .second, .val (.long q4), .second, .val (.ref b7), .val (.ref b14), .val (.int (2 : Int32)), .val (.ref b146), .val (.int (0 : Int32)), .unset, .unset] [])) _
                refine XS.aload X138.here hx rfl (hb hby at_135) rfl rfl ?_
                show Steps p.tables e below (T138.setTop (mkF m 137 #[.val (.long q1), .second, .val (.long q2), .second, .val (.long q3), .second, .val (.long q4), .second, .val (.int p5), .val (.long q3), .second, .val (.long q4), .second, .val (.ref b7), .val (.ref b14), .val (.int (2 : Int32)), .val (.ref b146), .val (.int (0 : Int32)), .unset, .unset] [(.ref b7)])) _
                refine XS.aload X138.here hx rfl (hb hby at_137) rfl rfl ?_
                show Steps p.tables e below (T138.setTop (mkF m 139 #[.val (.long q1), .second, .val (.long q2), .second, .val (.long q3), .second, .val (.long q4), .second, .val (.int p5), .val (.long q3), .second, .val (.long q4), .second, .val (.ref b7), .val (.ref b14), .val (.int (2 : Int32)), .val (.ref b146), .val (.int (0 : Int32)), .unset, .unset] [(.ref b146), (.ref b7)])) _
                refine st166.trans ?_
                show Steps p.tables e below (T166.setTop (mkF m 142 #[.val (.long q1), .second, .val (.long q2), .second, .val (.long q3), .second, .val (.long q4), .second, .val (.int p5), .val (.long q3), .second, .val (.long q4), .second, .val (.ref b7), .val (.ref b14), .val (.int (2 : Int32)), .val (.ref b146), .val (.int (0 : Int32)), .unset, .unset] [(.int (0 : Int32))])) _
                refine XS.istore X166.here hx rfl (hb hby at_142) rfl (l' := #[.val (.long q1), .second, .val (.long q2), .second, .val (.long q3), .second, .val (.long q4), .second, .val (.int p5), .val (.long q3), .second, .val (.long q4), .second, .val (.ref b7), .val (.ref b14), .val (.int (2 : Int32)), .val (.ref b146), .val (.int (0 : Int32)), .val (.int (0 : Int32)), .unset]) rfl ?_
                show Steps p.tables e below (T166.setTop (mkF m 144 #[.val (.long q1), .second, .val (.long q2), .second, .val (.long q3), .second, .val (.long q4), .second, .val (.int p5), .val (.long q3), .second, .val (.long q4), .second, .val (.ref b7), .val (.ref b14), .val (.int (2 : Int32)), .val (.ref b146), .val (.int (0 : Int32)), .val (.int (0 : Int32)), .unset] [])) _
                refine XS.iload X166.here hx rfl (hb hby at_144) rfl ?_
                show Steps p.tables e below (T166.setTop (mkF m 146 #[.val (.long q1), .second, .val (.long q2), .second, .val (.long q3), .second, .val (.long q4), .second, .val (.int p5), .val (.long q3), .second, .val (.long q4), .second, .val (.ref b7), .val (.ref b14), .val (.int (2 : Int32)), .val (.ref b146), .val (.int (0 : Int32)), .val (.int (0 : Int32)), .unset] [(.int (0 : Int32))])) _
                refine XS.iload X166.here hx rfl (hb hby at_146) rfl ?_
                show Steps p.tables e below (T166.setTop (mkF m 148 #[.val (.long q1), .second, .val (.long q2), .second, .val (.long q3), .second, .val (.long q4), .second, .val (.int p5), .val (.long q3), .second, .val (.long q4), .second, .val (.ref b7), .val (.ref b14), .val (.int (2 : Int32)), .val (.ref b146), .val (.int (0 : Int32)), .val (.int (0 : Int32)), .unset] [(.int (0 : Int32)), (.int (0 : Int32))])) _
                refine XS.icmpYes X166.here hx rfl (pc0 := 148) (pc' := 153) rfl (hb hby at_148) rfl (teq (by decide : (0 : Int32) = (0 : Int32))).1 (by decide) (by decide) ?_
                show Steps p.tables e below (T166.setTop (mkF m 153 #[.val (.long q1), .second, .val (.long q2), .second, .val (.long q3), .second, .val (.long q4), .second, .val (.int p5), .val (.long q3), .second, .val (.long q4), .second, .val (.ref b7), .val (.ref b14), .val (.int (2 : Int32)), .val (.ref b146), .val (.int (0 : Int32)), .val (.int (0 : Int32)), .unset] [])) _
                refine XS.iload X166.here hx rfl (hb hby at_153) rfl ?_
                show Steps p.tables e below (T166.setTop (mkF m 155 #[.val (.long q1), .second, .val (.long q2), .second, .val (.long q3), .second, .val (.long q4), .second, .val (.int p5), .val (.long q3), .second, .val (.long q4), .second, .val (.ref b7), .val (.ref b14), .val (.int (2 : Int32)), .val (.ref b146), .val (.int (0 : Int32)), .val (.int (0 : Int32)), .unset] [(.int (2 : Int32))])) _
                refine XS.ifYes X166.here hx rfl (pc0 := 155) (pc' := 176) rfl (hb hby at_155) rfl ((if0 _ _).trans (feq (by decide : ¬ ((2 : Int32) = (0 : Int32)))).2) (by decide) (by decide) ?_
                show Steps p.tables e below (T166.setTop (mkF m 176 #[.val (.long q1), .second, .val (.long q2), .second, .val (.long q3), .second, .val (.long q4), .second, .val (.int p5), .val (.long q3), .second, .val (.long q4), .second, .val (.ref b7), .val (.ref b14), .val (.int (2 : Int32)), .val (.ref b146), .val (.int (0 : Int32)), .val (.int (0 : Int32)), .unset] [])) _
                refine XS.iconst X166.here hx rfl (hb hby at_176) ?_
                show Steps p.tables e below (T166.setTop (mkF m 177 #[.val (.long q1), .second, .val (.long q2), .second, .val (.long q3), .second, .val (.long q4), .second, .val (.int p5), .val (.long q3), .second, .val (.long q4), .second, .val (.ref b7), .val (.ref b14), .val (.int (2 : Int32)), .val (.ref b146), .val (.int (0 : Int32)), .val (.int (0 : Int32)), .unset] [(.int (1 : Int32))])) _
                exact retN X166 hx (t := .boolean) hret (by simp) (hb hby at_177) hr
              ·
                show Q0 n0 _ T166.heap _
                rw [e168]
                exact ⟨rfl, N166⟩
            ·
              have N138 := Fr.app N15 Nq156
              have f170 := ((f11.ext E14).keep K17)
              obtain ⟨cq169, kq169, q169a, q169b, q169c⟩ := isOf hZ e157 f170
              obtain ⟨_, _, ⟨T171, L171, c171, n171⟩, -, X171, ⟨Lc171, hQ171, l171, y171, z171⟩, st171⟩ := X138.virtualBack hx (y := (⟨"com/example/sablegrid/sablegrid/model/WriteId", "equals", "(Ljava/lang/Object;)Z"⟩ : MethodName)) (z := (⟨"com/example/sablegrid/sablegrid/model/WriteId", "equals", "(Ljava/lang/Object;)Z"⟩ : MethodName)) hown (mvT hZ (hw _ (List.mem_of_getElem? (i := 13) rfl))) (mvT hZ (hw _ (List.mem_of_getElem? (i := 14) rfl))) (notFace_of_selects (args := #[]) (mvT hZ (hw _ (List.mem_of_getElem? (i := 16) rfl)))) (mvT hZ (hw _ (List.mem_of_getElem? (i := 16) rfl))) (mvT hZ (hw _ (List.mem_of_getElem? (i := 15) rfl))) (by decide) (backOf (W := 0) (rm8 l Z a0 hw [] b7 v153 T15.heap n0 O15 g_b7 f158) hZ (hw _ (List.mem_of_getElem? (i := 17) rfl)) (hw _ (List.mem_of_getElem? (i := 2) rfl)) (by decide) (by decide)) q169a q169c (g := (mkF m 139 #[.val (.long q1), .second, .val (.long q2), .second, .val (.long q3), .second, .val (.long q4), .second, .val (.int p5), .val (.long q3), .second, .val (.long q4), .second, .val (.ref b7), .val (.ref b14), .val (.int (2 : Int32)), .val (.ref v153), .val (.int (0 : Int32)), .unset, .unset] [(.ref v153), (.ref b7)])) rfl (by rw [hml]; rfl) (Steps.refl _) (argsL := [(.ref v153)]) (rest := []) (lenOf pd1 rfl) rfl (by show 2 * 0 + _ ≤ _; exact Nat.le_of_eq rfl) (hb hby at_139) (fun _ _ => ⟨rfl, e157, (by decide : 3 + 0 ≤ _), (by decide : 5 + 0 ≤ _)⟩)
              dsimp only [Pt.U, Pt.locs, Pt.cells, Pt.slots] at X171 l171 y171 z171 st171 hQ171
              subst l171 y171 z171
              have X171 : Stand p l e room_1 s m #[(.long q1), (.long q2), (.long q3), (.long q4), (.int p5)] below meth c T171 _ 3 5 := X171
              obtain ⟨rfl, Nq172, e173⟩ := hQ171
              have N171 := Fr.app N138 Nq172
              obtain ⟨fs, hr, hrun, hended, hW, hsame⟩ := X171.leave (v := some (.int (1 : Int32))) (fun h => by rw [hret] at h; cases h)
              refine ⟨_, _, pre139 _ ?_, hrun, hended, _, _, rfl, ?_, ⟨_, rfl⟩, hW, hsame.mono (by decide) (by decide)⟩
              ·
                show Steps p.tables e below (T15.setTop (mkF m 117 #[.val (.long q1), .second, .val (.long q2), .second, .val (.long q3), .second, .val (.long q4), .second, .val (.int p5), .val (.long q3), .second, .val (.long q4), .second, .val (.ref b7), .val (.ref b14), .val (.int (2 : Int32)), .unset, .unset, .unset, .unset] [(.long q1)])) _
                refine st138 _ ?_
                show Steps p.tables e below (T138.setTop (mkF m 120 #[.val (.long q1), .second, .val (.long q2), .second, .val (.long q3), .second, .val (.long q4), .second, .val (.int p5), .val (.long q3), .second, .val (.long q4), .second, .val (.ref b7), .val (.ref b14), .val (.int (2 : Int32)), .unset, .unset, .unset, .unset] [(.ref v153)])) _
                refine XS.astore X138.here hx rfl (hb hby at_120) rfl rfl (l' := #[.val (.long q1), .second, .val (.long q2), .second, .val (.long q3), .second, .val (.long q4), .second, .val (.int p5), .val (.long q3), .second, .val (.long q4), .second, .val (.ref b7), .val (.ref b14), .val (.int (2 : Int32)), .val (.ref v153), .unset, .unset, .unset]) rfl ?_
                show Steps p.tables e below (T138.setTop (mkF m 122 #[.val (.long q1), .second, .val (.long q2), .second, .val (.long q3), .second, .val (.long q4), .second, .val (.int p5), .val (.long q3), .second, .val (.long q4), .second, .val (.ref b7), .val (.ref b14), .val (.int (2 : Int32)), .val (.ref v153), .unset, .unset, .unset] [])) _
                refine XS.iconst X138.here hx rfl (hb hby at_122) ?_
                show Steps p.tables e below (T138.setTop (mkF m 123 #[.val (.long q1), .second, .val (.long q2), .second, .val (.long q3), .second, .val (.long q4), .second, .val (.int p5), .val (.long q3), .second, .val (.long q4), .second, .val (.ref b7), .val (.ref b14), .val (.int (2 : Int32)), .val (.ref v153), .unset, .unset, .unset] [(.int (0 : Int32))])) _
                refine XS.istore X138.here hx rfl (hb hby at_123) rfl (l' := #[.val (.long q1), .second, .val (.long q2), .second, .val (.long q3), .second, .val (.long q4), .second, .val (.int p5), .val (.long q3), .second, .val (.long q4), .second, .val (.ref b7), .val (.ref b14), .val (.int (2 : Int32)), .val (.ref v153), .val (.int (0 : Int32)), .unset, .unset]) rfl ?_
                show Steps p.tables e below (T138.setTop (mkF m 125 #[.val (.long q1), .second, .val (.long q2), .second, .val (.long q3), .second, .val (.long q4), .second, .val (.int p5), .val (.long q3), .second, .val (.long q4), .second, .val (.ref b7), .val (.ref b14), .val (.int (2 : Int32)), .val (.ref v153), .val (.int (0 : Int32)), .unset, .unset] [])) _
                refine XS.goto X138.here hx rfl (pc0 := 125) (pc' := 135) rfl (hb hby at_125) (by decide) (by decide) ?_
                show Steps p.tables e below (T138.setTop (mkF m 135 #[.val (.long q1), .second, .val (.long q2), .second, .val (.long q3), .second, .val (.long q4), .second, .val (.int p5), .val (.long q3), .second, .val (.long q4), .second, .val (.ref b7), .val (.ref b14), .val (.int (2 : Int32)), .val (.ref v153), .val (.int (0 : Int32)), .unset, .unset] [])) _
                refine XS.aload X138.here hx rfl (hb hby at_135) rfl rfl ?_
                show Steps p.tables e below (T138.setTop (mkF m 137 #[.val (.long q1), .second, .val (.long q2), .second, .val (.long q3), .second, .val (.long q4), .second, .val (.int p5), .val (.long q3), .second, .val (.long q4), .second, .val (.ref b7), .val (.ref b14), .val (.int (2 : Int32)), .val (.ref v153), .val (.int (0 : Int32)), .unset, .unset] [(.ref b7)])) _
                refine XS.aload X138.here hx rfl (hb hby at_137) rfl rfl ?_
                show Steps p.tables e below (T138.setTop (mkF m 139 #[.val (.long q1), .second, .val (.long q2), .second, .val (.long q3), .second, .val (.long q4), .second, .val (.int p5), .val (.long q3), .second, .val (.long q4), .second, .val (.ref b7), .val (.ref b14), .val (.int (2 : Int32)), .val (.ref v153), .val (.int (0 : Int32)), .unset, .unset] [(.ref v153), (.ref b7)])) _
                refine st171.trans ?_
                show Steps p.tables e below (T171.setTop (mkF m 142 #[.val (.long q1), .second, .val (.long q2), .second, .val (.long q3), .second, .val (.long q4), .second, .val (.int p5), .val (.long q3), .second, .val (.long q4), .second, .val (.ref b7), .val (.ref b14), .val (.int (2 : Int32)), .val (.ref v153), .val (.int (0 : Int32)), .unset, .unset] [(.int (0 : Int32))])) _
                refine XS.istore X171.here hx rfl (hb hby at_142) rfl (l' := #[.val (.long q1), .second, .val (.long q2), .second, .val (.long q3), .second, .val (.long q4), .second, .val (.int p5), .val (.long q3), .second, .val (.long q4), .second, .val (.ref b7), .val (.ref b14), .val (.int (2 : Int32)), .val (.ref v153), .val (.int (0 : Int32)), .val (.int (0 : Int32)), .unset]) rfl ?_
                show Steps p.tables e below (T171.setTop (mkF m 144 #[.val (.long q1), .second, .val (.long q2), .second, .val (.long q3), .second, .val (.long q4), .second, .val (.int p5), .val (.long q3), .second, .val (.long q4), .second, .val (.ref b7), .val (.ref b14), .val (.int (2 : Int32)), .val (.ref v153), .val (.int (0 : Int32)), .val (.int (0 : Int32)), .unset] [])) _
                refine XS.iload X171.here hx rfl (hb hby at_144) rfl ?_
                show Steps p.tables e below (T171.setTop (mkF m 146 #[.val (.long q1), .second, .val (.long q2), .second, .val (.long q3), .second, .val (.long q4), .second, .val (.int p5), .val (.long q3), .second, .val (.long q4), .second, .val (.ref b7), .val (.ref b14), .val (.int (2 : Int32)), .val (.ref v153), .val (.int (0 : Int32)), .val (.int (0 : Int32)), .unset] [(.int (0 : Int32))])) _
                refine XS.iload X171.here hx rfl (hb hby at_146) rfl ?_
                show Steps p.tables e below (T171.setTop (mkF m 148 #[.val (.long q1), .second, .val (.long q2), .second, .val (.long q3), .second, .val (.long q4), .second, .val (.int p5), .val (.long q3), .second, .val (.long q4), .second, .val (.ref b7), .val (.ref b14), .val (.int (2 : Int32)), .val (.ref v153), .val (.int (0 : Int32)), .val (.int (0 : Int32)), .unset] [(.int (0 : Int32)), (.int (0 : Int32))])) _
                refine XS.icmpYes X171.here hx rfl (pc0 := 148) (pc' := 153) rfl (hb hby at_148) rfl (teq (by decide : (0 : Int32) = (0 : Int32))).1 (by decide) (by decide) ?_
                show Steps p.tables e below (T171.setTop (mkF m 153 #[.val (.long q1), .second, .val (.long q2), .second, .val (.long q3), .second, .val (.long q4), .second, .val (.int p5), .val (.long q3), .second, .val (.long q4), .second, .val (.ref b7), .val (.ref b14), .val (.int (2 : Int32)), .val (.ref v153), .val (.int (0 : Int32)), .val (.int (0 : Int32)), .unset] [])) _
                refine XS.iload X171.here hx rfl (hb hby at_153) rfl ?_
                show Steps p.tables e below (T171.setTop (mkF m 155 #[.val (.long q1), .second, .val (.long q2), .second, .val (.long q3), .second, .val (.long q4), .second, .val (.int p5), .val (.long q3), .second, .val (.long q4), .second, .val (.ref b7), .val (.ref b14), .val (.int (2 : Int32)), .val (.ref v153), .val (.int (0 : Int32)), .val (.int (0 : Int32)), .unset] [(.int (2 : Int32))])) _
                refine XS.ifYes X171.here hx rfl (pc0 := 155) (pc' := 176) rfl (hb hby at_155) rfl ((if0 _ _).trans (feq (by decide : ¬ ((2 : Int32) = (0 : Int32)))).2) (by decide) (by decide) ?_
                show Steps p.tables e below (T171.setTop (mkF m 176 #[.val (.long q1), .second, .val (.long q2), .second, .val (.long q3), .second, .val (.long q4), .second, .val (.int p5), .val (.long q3), .second, .val (.long q4), .second, .val (.ref b7), .val (.ref b14), .val (.int (2 : Int32)), .val (.ref v153), .val (.int (0 : Int32)), .val (.int (0 : Int32)), .unset] [])) _
                refine XS.iconst X171.here hx rfl (hb hby at_176) ?_
                show Steps p.tables e below (T171.setTop (mkF m 177 #[.val (.long q1), .second, .val (.long q2), .second, .val (.long q3), .second, .val (.long q4), .second, .val (.int p5), .val (.long q3), .second, .val (.long q4), .second, .val (.ref b7), .val (.ref b14), .val (.int (2 : Int32)), .val (.ref v153), .val (.int (0 : Int32)), .val (.int (0 : Int32)), .unset] [(.int (1 : Int32))])) _
                exact retN X171 hx (t := .boolean) hret (by simp) (hb hby at_177) hr
              ·
                show Q0 n0 _ T171.heap _
                rw [e173]
                exact ⟨rfl, N171⟩
          ·
            have hq174 : (((p5.toUInt32 >>> ((2 : Int32) &&& 31).toUInt32).toInt32) &&& (3 : Int32)) = (3 : Int32) := (own_geq (n := 3) (k := (3 : Int32)) (by decide) (by have q0 := own_and (x := ((p5.toUInt32 >>> ((2 : Int32) &&& 31).toUInt32).toInt32)) (k := (3 : Int32)) (n := 3) (by decide) (by decide); have q1 := own_neq (n := 0) (k := (0 : Int32)) (by decide) hc22; have q2 := own_neq (n := 1) (k := (1 : Int32)) (by decide) hc128; have q3 := own_neq (n := 2) (k := (2 : Int32)) (by decide) hc136; omega))
            have pre175 : ∀ t, Steps p.tables e below (T15.setTop (mkF m 113 #[.val (.long q1), .second, .val (.long q2), .second, .val (.long q3), .second, .val (.long q4), .second, .val (.int p5), .val (.long q3), .second, .val (.long q4), .second, .val (.ref b7), .val (.ref b14), .val (.int (3 : Int32)), .unset, .unset, .unset, .unset] [(.int (2 : Int32)), (.int (3 : Int32))])) t → Steps p.tables e below (s₁.setTop (entryFrame m #[(.long q1), (.long q2), (.long q3), (.long q4), (.int p5)] maxLocals)) t := fun t k => pre135 t (by rw [hq174]; exact k)
            have f176 := ((f11.ext E14).keep K17)
            have lt177 : b7 < T8.heap.size := (Nat.lt_of_lt_of_le A7.lt K10.1)
            have ne178 : b7 ≠ b14 := Nat.ne_of_lt (Nat.lt_of_lt_of_le lt177 sz_b14)
            have f179 := ((f12.ext E14).keep K17 (ninS ne178 nin0))
            have f180 := ((f13.ext E14).keep K17 (ninS ne178 nin0))
            obtain ⟨cq181, kq181, q181a, q181b, q181c⟩ := isOf hZ rfl f176
            obtain ⟨_, _, ⟨T182, L182, c182, n182⟩, -, X182, ⟨Lc182, hQ182, l182, y182, z182⟩, st182⟩ := X15.virtualBack hx (y := (⟨"com/example/sablegrid/sablegrid/model/WriteId", "equals", "(Ljava/lang/Object;)Z"⟩ : MethodName)) (z := (⟨"com/example/sablegrid/sablegrid/model/WriteId", "equals", "(Ljava/lang/Object;)Z"⟩ : MethodName)) hown (mvT hZ (hw _ (List.mem_of_getElem? (i := 13) rfl))) (mvT hZ (hw _ (List.mem_of_getElem? (i := 14) rfl))) (notFace_of_selects (args := #[]) (mvT hZ (hw _ (List.mem_of_getElem? (i := 16) rfl)))) (mvT hZ (hw _ (List.mem_of_getElem? (i := 16) rfl))) (mvT hZ (hw _ (List.mem_of_getElem? (i := 15) rfl))) (by decide) (backOf (W := 0) (rm9 l Z a0 hw [] b7 q1 q2 T15.heap n0 O15 g_b7 f176 f179 f180) hZ (hw _ (List.mem_of_getElem? (i := 17) rfl)) (hw _ (List.mem_of_getElem? (i := 2) rfl)) (by decide) (by decide)) q181a q181c (g := (mkF m 139 #[.val (.long q1), .second, .val (.long q2), .second, .val (.long q3), .second, .val (.long q4), .second, .val (.int p5), .val (.long q3), .second, .val (.long q4), .second, .val (.ref b7), .val (.ref b14), .val (.int (3 : Int32)), .val (.ref b7), .val (.int (1 : Int32)), .unset, .unset] [(.ref b7), (.ref b7)])) rfl (by rw [hml]; rfl) (Steps.refl _) (argsL := [(.ref b7)]) (rest := []) (lenOf pd1 rfl) rfl (by show 2 * 0 + _ ≤ _; exact Nat.le_of_eq rfl) (hb hby at_139) (fun _ _ => ⟨rfl, rfl, (by decide : 2 + 0 ≤ _), (by decide : 4 + 0 ≤ _)⟩)
            dsimp only [Pt.U, Pt.locs, Pt.cells, Pt.slots] at X182 l182 y182 z182 st182 hQ182
            subst l182 y182 z182
            have X182 : Stand p l e room_1 s m #[(.long q1), (.long q2), (.long q3), (.long q4), (.int p5)] below meth c T182 _ 2 4 := X182
            obtain ⟨rfl, Nq183, e184⟩ := hQ182
            have N182 := Fr.app N15 Nq183
            obtain ⟨fs, hr, hrun, hended, hW, hsame⟩ := X182.leave (v := some (.int (1 : Int32))) (fun h => by rw [hret] at h; cases h)
            refine ⟨_, _, pre175 _ ?_, hrun, hended, _, _, rfl, ?_, ⟨_, rfl⟩, hW, hsame.mono (by decide) (by decide)⟩
            ·
              show Steps p.tables e below (T15.setTop (mkF m 113 #[.val (.long q1), .second, .val (.long q2), .second, .val (.long q3), .second, .val (.long q4), .second, .val (.int p5), .val (.long q3), .second, .val (.long q4), .second, .val (.ref b7), .val (.ref b14), .val (.int (3 : Int32)), .unset, .unset, .unset, .unset] [(.int (2 : Int32)), (.int (3 : Int32))])) _
              refine XS.icmpYes X15.here hx rfl (pc0 := 113) (pc' := 128) rfl (hb hby at_113) rfl (feq (by decide : ¬ ((3 : Int32) = (2 : Int32)))).2 (by decide) (by decide) ?_
              show Steps p.tables e below (T15.setTop (mkF m 128 #[.val (.long q1), .second, .val (.long q2), .second, .val (.long q3), .second, .val (.long q4), .second, .val (.int p5), .val (.long q3), .second, .val (.long q4), .second, .val (.ref b7), .val (.ref b14), .val (.int (3 : Int32)), .unset, .unset, .unset, .unset] [])) _
              refine XS.aload X15.here hx rfl (hb hby at_128) rfl rfl ?_
              show Steps p.tables e below (T15.setTop (mkF m 130 #[.val (.long q1), .second, .val (.long q2), .second, .val (.long q3), .second, .val (.long q4), .second, .val (.int p5), .val (.long q3), .second, .val (.long q4), .second, .val (.ref b7), .val (.ref b14), .val (.int (3 : Int32)), .unset, .unset, .unset, .unset] [(.ref b7)])) _
              refine XS.astore X15.here hx rfl (hb hby at_130) rfl rfl (l' := #[.val (.long q1), .second, .val (.long q2), .second, .val (.long q3), .second, .val (.long q4), .second, .val (.int p5), .val (.long q3), .second, .val (.long q4), .second, .val (.ref b7), .val (.ref b14), .val (.int (3 : Int32)), .val (.ref b7), .unset, .unset, .unset]) rfl ?_
              show Steps p.tables e below (T15.setTop (mkF m 132 #[.val (.long q1), .second, .val (.long q2), .second, .val (.long q3), .second, .val (.long q4), .second, .val (.int p5), .val (.long q3), .second, .val (.long q4), .second, .val (.ref b7), .val (.ref b14), .val (.int (3 : Int32)), .val (.ref b7), .unset, .unset, .unset] [])) _
              refine XS.iconst X15.here hx rfl (hb hby at_132) ?_
              show Steps p.tables e below (T15.setTop (mkF m 133 #[.val (.long q1), .second, .val (.long q2), .second, .val (.long q3), .second, .val (.long q4), .second, .val (.int p5), .val (.long q3), .second, .val (.long q4), .second, .val (.ref b7), .val (.ref b14), .val (.int (3 : Int32)), .val (.ref b7), .unset, .unset, .unset] [(.int (1 : Int32))])) _
              refine XS.istore X15.here hx rfl (hb hby at_133) rfl (l' := #[.val (.long q1), .second, .val (.long q2), .second, .val (.long q3), .second, .val (.long q4), .second, .val (.int p5), .val (.long q3), .second, .val (.long q4), .second, .val (.ref b7), .val (.ref b14), .val (.int (3 : Int32)), .val (.ref b7), .val (.int (1 : Int32)), .unset, .unset]) rfl ?_
              show Steps p.tables e below (T15.setTop (mkF m 135 #[.val (.long q1), .second, .val (.long q2), .second, .val (.long q3), .second, .val (.long q4), .second, .val (.int p5), .val (.long q3), .second, .val (.long q4), .second, .val (.ref b7), .val (.ref b14), .val (.int (3 : Int32)), .val (.ref b7), .val (.int (1 : Int32)), .unset, .unset] [])) _
              refine XS.aload X15.here hx rfl (hb hby at_135) rfl rfl ?_
              show Steps p.tables e below (T15.setTop (mkF m 137 #[.val (.long q1), .second, .val (.long q2), .second, .val (.long q3), .second, .val (.long q4), .second, .val (.int p5), .val (.long q3), .second, .val (.long q4), .second, .val (.ref b7), .val (.ref b14), .val (.int (3 : Int32)), .val (.ref b7), .val (.int (1 : Int32)), .unset, .unset] [(.ref b7)])) _
              refine XS.aload X15.here hx rfl (hb hby at_137) rfl rfl ?_
              show Steps p.tables e below (T15.setTop (mkF m 139 #[.val (.long q1), .second, .val (.long q2), .second, .val (.long q3), .second, .val (.long q4), .second, .val (.int p5), .val (.long q3), .second, .val (.long q4), .second, .val (.ref b7), .val (.ref b14), .val (.int (3 : Int32)), .val (.ref b7), .val (.int (1 : Int32)), .unset, .unset] [(.ref b7), (.ref b7)])) _
              refine st182.trans ?_
              show Steps p.tables e below (T182.setTop (mkF m 142 #[.val (.long q1), .second, .val (.long q2), .second, .val (.long q3), .second, .val (.long q4), .second, .val (.int p5), .val (.long q3), .second, .val (.long q4), .second, .val (.ref b7), .val (.ref b14), .val (.int (3 : Int32)), .val (.ref b7), .val (.int (1 : Int32)), .unset, .unset] [(.int (1 : Int32))])) _
              refine XS.istore X182.here hx rfl (hb hby at_142) rfl (l' := #[.val (.long q1), .second, .val (.long q2), .second, .val (.long q3), .second, .val (.long q4), .second, .val (.int p5), .val (.long q3), .second, .val (.long q4), .second, .val (.ref b7), .val (.ref b14), .val (.int (3 : Int32)), .val (.ref b7), .val (.int (1 : Int32)), .val (.int (1 : Int32)), .unset]) rfl ?_
              show Steps p.tables e below (T182.setTop (mkF m 144 #[.val (.long q1), .second, .val (.long q2), .second, .val (.long q3), .second, .val (.long q4), .second, .val (.int p5), .val (.long q3), .second, .val (.long q4), .second, .val (.ref b7), .val (.ref b14), .val (.int (3 : Int32)), .val (.ref b7), .val (.int (1 : Int32)), .val (.int (1 : Int32)), .unset] [])) _
              refine XS.iload X182.here hx rfl (hb hby at_144) rfl ?_
              show Steps p.tables e below (T182.setTop (mkF m 146 #[.val (.long q1), .second, .val (.long q2), .second, .val (.long q3), .second, .val (.long q4), .second, .val (.int p5), .val (.long q3), .second, .val (.long q4), .second, .val (.ref b7), .val (.ref b14), .val (.int (3 : Int32)), .val (.ref b7), .val (.int (1 : Int32)), .val (.int (1 : Int32)), .unset] [(.int (1 : Int32))])) _
              refine XS.iload X182.here hx rfl (hb hby at_146) rfl ?_
              show Steps p.tables e below (T182.setTop (mkF m 148 #[.val (.long q1), .second, .val (.long q2), .second, .val (.long q3), .second, .val (.long q4), .second, .val (.int p5), .val (.long q3), .second, .val (.long q4), .second, .val (.ref b7), .val (.ref b14), .val (.int (3 : Int32)), .val (.ref b7), .val (.int (1 : Int32)), .val (.int (1 : Int32)), .unset] [(.int (1 : Int32)), (.int (1 : Int32))])) _
              refine XS.icmpYes X182.here hx rfl (pc0 := 148) (pc' := 153) rfl (hb hby at_148) rfl (teq (by decide : (1 : Int32) = (1 : Int32))).1 (by decide) (by decide) ?_
              show Steps p.tables e below (T182.setTop (mkF m 153 #[.val (.long q1), .second, .val (.long q2), .second, .val (.long q3), .second, .val (.long q4), .second, .val (.int p5), .val (.long q3), .second, .val (.long q4), .second, .val (.ref b7), .val (.ref b14), .val (.int (3 : Int32)), .val (.ref b7), .val (.int (1 : Int32)), .val (.int (1 : Int32)), .unset] [])) _
              refine XS.iload X182.here hx rfl (hb hby at_153) rfl ?_
              show Steps p.tables e below (T182.setTop (mkF m 155 #[.val (.long q1), .second, .val (.long q2), .second, .val (.long q3), .second, .val (.long q4), .second, .val (.int p5), .val (.long q3), .second, .val (.long q4), .second, .val (.ref b7), .val (.ref b14), .val (.int (3 : Int32)), .val (.ref b7), .val (.int (1 : Int32)), .val (.int (1 : Int32)), .unset] [(.int (3 : Int32))])) _
              refine XS.ifYes X182.here hx rfl (pc0 := 155) (pc' := 176) rfl (hb hby at_155) rfl ((if0 _ _).trans (feq (by decide : ¬ ((3 : Int32) = (0 : Int32)))).2) (by decide) (by decide) ?_
              show Steps p.tables e below (T182.setTop (mkF m 176 #[.val (.long q1), .second, .val (.long q2), .second, .val (.long q3), .second, .val (.long q4), .second, .val (.int p5), .val (.long q3), .second, .val (.long q4), .second, .val (.ref b7), .val (.ref b14), .val (.int (3 : Int32)), .val (.ref b7), .val (.int (1 : Int32)), .val (.int (1 : Int32)), .unset] [])) _
              refine XS.iconst X182.here hx rfl (hb hby at_176) ?_
              show Steps p.tables e below (T182.setTop (mkF m 177 #[.val (.long q1), .second, .val (.long q2), .second, .val (.long q3), .second, .val (.long q4), .second, .val (.int p5), .val (.long q3), .second, .val (.long q4), .second, .val (.ref b7), .val (.ref b14), .val (.int (3 : Int32)), .val (.ref b7), .val (.int (1 : Int32)), .val (.int (1 : Int32)), .unset] [(.int (1 : Int32))])) _
              exact retN X182 hx (t := .boolean) hret (by simp) (hb hby at_177) hr
            ·
              show Q0 n0 _ T182.heap _
              rw [e184]
              exact ⟨rfl, N182⟩
    ·
      obtain ⟨T185, h185, X185, e185, E185, A185, D185, -, st185⟩ := newO X0 hx hZ hown (hw _ (List.mem_of_getElem? (i := 0) rfl)) (hw _ (List.mem_of_getElem? (i := 1) rfl)) (hw _ (List.mem_of_getElem? (i := 2) rfl)) e0 (g := (mkF m 30 #[.val (.long q1), .second, .val (.long q2), .second, .val (.long q3), .second, .val (.long q4), .second, .val (.int p5), .val (.long q3), .second, .val (.long q2), .second, .unset, .unset, .unset, .unset, .unset, .unset, .unset] [])) rfl (hb hby at_30) (by decide) (by decide)
      obtain ⟨b185, g185⟩ : ∃ z, z = h0.size := ⟨_, rfl⟩
      rw [← g185] at A185 D185 st185
      have M185 : h0.size ≤ h185.size := Nat.le_trans (Nat.le_refl _) E185.1
      have O185 := Old.ext O0 E185
      have sz_b185 : h0.size ≤ b185 := Nat.le_of_eq g185.symm
      have g_b185 : n0 ≤ b185 := Nat.le_trans (own_oz O0) (Nat.le_trans (Nat.le_refl _) sz_b185)
      have F185_10 : Fld Z h185 b185 "com/example/sablegrid/sablegrid/model/WriteId" "origin" "J" (.long (0 : Int64)) := D185 (Or.inr (hw _ (List.mem_of_getElem? (i := 10) rfl))) (ty := .long) (by decide)
      have F185_12 : Fld Z h185 b185 "com/example/sablegrid/sablegrid/model/WriteId" "sequence" "J" (.long (0 : Int64)) := D185 (Or.inr (hw _ (List.mem_of_getElem? (i := 12) rfl))) (ty := .long) (by decide)
      obtain ⟨_, _, ⟨T186, L186, c186, n186⟩, -, X186, ⟨Lc186, hQ186, l186, y186, z186⟩, st186⟩ := X185.specialBack hx (y := (⟨"com/example/sablegrid/sablegrid/model/WriteId", "<init>", "(JJ)V"⟩ : MethodName)) rfl hown (mvT hZ (hw _ (List.mem_of_getElem? (i := 3) rfl))) (mvT hZ (hw _ (List.mem_of_getElem? (i := 4) rfl))) (mvT hZ (hw _ (List.mem_of_getElem? (i := 5) rfl))) (by decide) (backOf (W := 1) (rm1 l Z a0 hw [] b185 q1 q2 h185 n0 O185 g_b185 A185 F185_10 F185_12) hZ (hw _ (List.mem_of_getElem? (i := 5) rfl)) (hw _ (List.mem_of_getElem? (i := 2) rfl)) (by decide) (by decide)) (g := (mkF m 36 #[.val (.long q1), .second, .val (.long q2), .second, .val (.long q3), .second, .val (.long q4), .second, .val (.int p5), .val (.long q3), .second, .val (.long q2), .second, .unset, .unset, .unset, .unset, .unset, .unset, .unset] [(.long q2), (.long q1), (.ref b185), (.ref b185)])) rfl (by rw [hml]; rfl) (Steps.refl _) (a := b185) (argsL := [(.long q1), (.long q2)]) (rest := [(.ref b185)]) (lenOf pd0 rfl) rfl (by show 2 * 0 + _ ≤ _; exact Nat.le_of_eq rfl) (hb hby at_36) (fun _ _ => ⟨rfl, e185, (by decide : 1 + 0 ≤ _), (by decide : 2 + 0 ≤ _)⟩)
      dsimp only [Pt.U, Pt.locs, Pt.cells, Pt.slots] at X186 l186 y186 z186 st186 hQ186
      subst l186 y186 z186
      have X186 : Stand p l e room_1 s m #[(.long q1), (.long q2), (.long q3), (.long q4), (.int p5)] below meth c T186 _ 1 2 := X186
      obtain ⟨rfl, Nq187, K188, f189, f190, f191⟩ := hQ186
      have N186 := Fr.app N0 Nq187
      have M186 : h0.size ≤ T186.heap.size := Nat.le_trans M185 K188.1
      have O186 := Old.keep O185 K188 (allS g_b185 all0)
      obtain ⟨T192, h192, X192, e192, E192, A192, D192, -, st192⟩ := newO X186 hx hZ hown (hw _ (List.mem_of_getElem? (i := 0) rfl)) (hw _ (List.mem_of_getElem? (i := 1) rfl)) (hw _ (List.mem_of_getElem? (i := 2) rfl)) rfl (g := (mkF m 41 #[.val (.long q1), .second, .val (.long q2), .second, .val (.long q3), .second, .val (.long q4), .second, .val (.int p5), .val (.long q3), .second, .val (.long q2), .second, .val (.ref b185), .unset, .unset, .unset, .unset, .unset, .unset] [])) rfl (hb hby at_41) (by decide) (by decide)
      obtain ⟨b192, g192⟩ : ∃ z, z = T186.heap.size := ⟨_, rfl⟩
      rw [← g192] at A192 D192 st192
      have M192 : h0.size ≤ h192.size := Nat.le_trans M186 E192.1
      have O192 := Old.ext O186 E192
      have sz_b192 : T186.heap.size ≤ b192 := Nat.le_of_eq g192.symm
      have g_b192 : n0 ≤ b192 := Nat.le_trans (own_oz O0) (Nat.le_trans M186 sz_b192)
      have F192_10 : Fld Z h192 b192 "com/example/sablegrid/sablegrid/model/WriteId" "origin" "J" (.long (0 : Int64)) := D192 (Or.inr (hw _ (List.mem_of_getElem? (i := 10) rfl))) (ty := .long) (by decide)
      have F192_12 : Fld Z h192 b192 "com/example/sablegrid/sablegrid/model/WriteId" "sequence" "J" (.long (0 : Int64)) := D192 (Or.inr (hw _ (List.mem_of_getElem? (i := 12) rfl))) (ty := .long) (by decide)
      obtain ⟨_, _, ⟨T193, L193, c193, n193⟩, -, X193, ⟨Lc193, hQ193, l193, y193, z193⟩, st193⟩ := X192.specialBack hx (y := (⟨"com/example/sablegrid/sablegrid/model/WriteId", "<init>", "(JJ)V"⟩ : MethodName)) rfl hown (mvT hZ (hw _ (List.mem_of_getElem? (i := 3) rfl))) (mvT hZ (hw _ (List.mem_of_getElem? (i := 4) rfl))) (mvT hZ (hw _ (List.mem_of_getElem? (i := 5) rfl))) (by decide) (backOf (W := 1) (rm1 l Z a0 hw [] b192 q3 q2 h192 n0 O192 g_b192 A192 F192_10 F192_12) hZ (hw _ (List.mem_of_getElem? (i := 5) rfl)) (hw _ (List.mem_of_getElem? (i := 2) rfl)) (by decide) (by decide)) (g := (mkF m 49 #[.val (.long q1), .second, .val (.long q2), .second, .val (.long q3), .second, .val (.long q4), .second, .val (.int p5), .val (.long q3), .second, .val (.long q2), .second, .val (.ref b185), .unset, .unset, .unset, .unset, .unset, .unset] [(.long q2), (.long q3), (.ref b192), (.ref b192)])) rfl (by rw [hml]; rfl) (Steps.refl _) (a := b192) (argsL := [(.long q3), (.long q2)]) (rest := [(.ref b192)]) (lenOf pd0 rfl) rfl (by show 2 * 0 + _ ≤ _; exact Nat.le_of_eq rfl) (hb hby at_49) (fun _ _ => ⟨rfl, e192, (by decide : 2 + 0 ≤ _), (by decide : 4 + 0 ≤ _)⟩)
      dsimp only [Pt.U, Pt.locs, Pt.cells, Pt.slots] at X193 l193 y193 z193 st193 hQ193
      subst l193 y193 z193
      have X193 : Stand p l e room_1 s m #[(.long q1), (.long q2), (.long q3), (.long q4), (.int p5)] below meth c T193 _ 2 4 := X193
      obtain ⟨rfl, Nq194, K195, f196, f197, f198⟩ := hQ193
      have N193 := Fr.app N186 Nq194
      have M193 : h0.size ≤ T193.heap.size := Nat.le_trans M192 K195.1
      have O193 := Old.keep O192 K195 (allS g_b192 all0)
      have pre199 : ∀ t, Steps p.tables e below (T193.setTop (mkF m 64 #[.val (.long q1), .second, .val (.long q2), .second, .val (.long q3), .second, .val (.long q4), .second, .val (.int p5), .val (.long q3), .second, .val (.long q2), .second, .val (.ref b185), .val (.ref b192), .val (.int (((p5.toUInt32 >>> ((2 : Int32) &&& 31).toUInt32).toInt32) &&& (3 : Int32))), .unset, .unset, .unset, .unset] [(.int (((p5.toUInt32 >>> ((2 : Int32) &&& 31).toUInt32).toInt32) &&& (3 : Int32)))])) t → Steps p.tables e below (s₁.setTop (entryFrame m #[(.long q1), (.long q2), (.long q3), (.long q4), (.int p5)] maxLocals)) t := fun t k => by
        refine pre4 _ ?_
        show Steps p.tables e below (s₁.setTop (mkF m 19 #[.val (.long q1), .second, .val (.long q2), .second, .val (.long q3), .second, .val (.long q4), .second, .val (.int p5), .val (.long q3), .second, .unset, .unset, .unset, .unset, .unset, .unset, .unset, .unset, .unset] [(.int (p5 &&& (2 : Int32)))])) _
        refine XS.ifNo X0.here hx rfl (hb hby at_19) rfl ((if0 _ _).trans (feq hc5).1) ?_
        show Steps p.tables e below (s₁.setTop (mkF m 22 #[.val (.long q1), .second, .val (.long q2), .second, .val (.long q3), .second, .val (.long q4), .second, .val (.int p5), .val (.long q3), .second, .unset, .unset, .unset, .unset, .unset, .unset, .unset, .unset, .unset] [])) _
        refine XS.lloadN X0.here hx rfl (hb hby at_22) rfl ?_
        show Steps p.tables e below (s₁.setTop (mkF m 23 #[.val (.long q1), .second, .val (.long q2), .second, .val (.long q3), .second, .val (.long q4), .second, .val (.int p5), .val (.long q3), .second, .unset, .unset, .unset, .unset, .unset, .unset, .unset, .unset, .unset] [(.long q2)])) _
        refine XS.goto X0.here hx rfl (pc0 := 23) (pc' := 28) rfl (hb hby at_23) (by decide) (by decide) ?_
        show Steps p.tables e below (s₁.setTop (mkF m 28 #[.val (.long q1), .second, .val (.long q2), .second, .val (.long q3), .second, .val (.long q4), .second, .val (.int p5), .val (.long q3), .second, .unset, .unset, .unset, .unset, .unset, .unset, .unset, .unset, .unset] [(.long q2)])) _
        refine XS.lstore X0.here hx rfl (hb hby at_28) rfl (l' := #[.val (.long q1), .second, .val (.long q2), .second, .val (.long q3), .second, .val (.long q4), .second, .val (.int p5), .val (.long q3), .second, .val (.long q2), .second, .unset, .unset, .unset, .unset, .unset, .unset, .unset]) rfl ?_
        show Steps p.tables e below (s₁.setTop (mkF m 30 #[.val (.long q1), .second, .val (.long q2), .second, .val (.long q3), .second, .val (.long q4), .second, .val (.int p5), .val (.long q3), .second, .val (.long q2), .second, .unset, .unset, .unset, .unset, .unset, .unset, .unset] [])) _
        refine st185 _ ?_
        show Steps p.tables e below (T185.setTop (mkF m 33 #[.val (.long q1), .second, .val (.long q2), .second, .val (.long q3), .second, .val (.long q4), .second, .val (.int p5), .val (.long q3), .second, .val (.long q2), .second, .unset, .unset, .unset, .unset, .unset, .unset, .unset] [(.ref b185)])) _
        refine XS.dup X185.here hx rfl (hb hby at_33) rfl rfl ?_
        show Steps p.tables e below (T185.setTop (mkF m 34 #[.val (.long q1), .second, .val (.long q2), .second, .val (.long q3), .second, .val (.long q4), .second, .val (.int p5), .val (.long q3), .second, .val (.long q2), .second, .unset, .unset, .unset, .unset, .unset, .unset, .unset] [(.ref b185), (.ref b185)])) _
        refine XS.lloadN X185.here hx rfl (hb hby at_34) rfl ?_
        show Steps p.tables e below (T185.setTop (mkF m 35 #[.val (.long q1), .second, .val (.long q2), .second, .val (.long q3), .second, .val (.long q4), .second, .val (.int p5), .val (.long q3), .second, .val (.long q2), .second, .unset, .unset, .unset, .unset, .unset, .unset, .unset] [(.long q1), (.ref b185), (.ref b185)])) _
        refine XS.lloadN X185.here hx rfl (hb hby at_35) rfl ?_
        show Steps p.tables e below (T185.setTop (mkF m 36 #[.val (.long q1), .second, .val (.long q2), .second, .val (.long q3), .second, .val (.long q4), .second, .val (.int p5), .val (.long q3), .second, .val (.long q2), .second, .unset, .unset, .unset, .unset, .unset, .unset, .unset] [(.long q2), (.long q1), (.ref b185), (.ref b185)])) _
        refine st186.trans ?_
        show Steps p.tables e below (T186.setTop (mkF m 39 #[.val (.long q1), .second, .val (.long q2), .second, .val (.long q3), .second, .val (.long q4), .second, .val (.int p5), .val (.long q3), .second, .val (.long q2), .second, .unset, .unset, .unset, .unset, .unset, .unset, .unset] [(.ref b185)])) _
        refine XS.astore X186.here hx rfl (hb hby at_39) rfl rfl (l' := #[.val (.long q1), .second, .val (.long q2), .second, .val (.long q3), .second, .val (.long q4), .second, .val (.int p5), .val (.long q3), .second, .val (.long q2), .second, .val (.ref b185), .unset, .unset, .unset, .unset, .unset, .unset]) rfl ?_
        show Steps p.tables e below (T186.setTop (mkF m 41 #[.val (.long q1), .second, .val (.long q2), .second, .val (.long q3), .second, .val (.long q4), .second, .val (.int p5), .val (.long q3), .second, .val (.long q2), .second, .val (.ref b185), .unset, .unset, .unset, .unset, .unset, .unset] [])) _
        refine st192 _ ?_
        show Steps p.tables e below (T192.setTop (mkF m 44 #[.val (.long q1), .second, .val (.long q2), .second, .val (.long q3), .second, .val (.long q4), .second, .val (.int p5), .val (.long q3), .second, .val (.long q2), .second, .val (.ref b185), .unset, .unset, .unset, .unset, .unset, .unset] [(.ref b192)])) _
        refine XS.dup X192.here hx rfl (hb hby at_44) rfl rfl ?_
        show Steps p.tables e below (T192.setTop (mkF m 45 #[.val (.long q1), .second, .val (.long q2), .second, .val (.long q3), .second, .val (.long q4), .second, .val (.int p5), .val (.long q3), .second, .val (.long q2), .second, .val (.ref b185), .unset, .unset, .unset, .unset, .unset, .unset] [(.ref b192), (.ref b192)])) _
        refine XS.lload X192.here hx rfl (hb hby at_45) rfl ?_
        show Steps p.tables e below (T192.setTop (mkF m 47 #[.val (.long q1), .second, .val (.long q2), .second, .val (.long q3), .second, .val (.long q4), .second, .val (.int p5), .val (.long q3), .second, .val (.long q2), .second, .val (.ref b185), .unset, .unset, .unset, .unset, .unset, .unset] [(.long q3), (.ref b192), (.ref b192)])) _
        refine XS.lload X192.here hx rfl (hb hby at_47) rfl ?_
        show Steps p.tables e below (T192.setTop (mkF m 49 #[.val (.long q1), .second, .val (.long q2), .second, .val (.long q3), .second, .val (.long q4), .second, .val (.int p5), .val (.long q3), .second, .val (.long q2), .second, .val (.ref b185), .unset, .unset, .unset, .unset, .unset, .unset] [(.long q2), (.long q3), (.ref b192), (.ref b192)])) _
        refine st193.trans ?_
        show Steps p.tables e below (T193.setTop (mkF m 52 #[.val (.long q1), .second, .val (.long q2), .second, .val (.long q3), .second, .val (.long q4), .second, .val (.int p5), .val (.long q3), .second, .val (.long q2), .second, .val (.ref b185), .unset, .unset, .unset, .unset, .unset, .unset] [(.ref b192)])) _
        refine XS.astore X193.here hx rfl (hb hby at_52) rfl rfl (l' := #[.val (.long q1), .second, .val (.long q2), .second, .val (.long q3), .second, .val (.long q4), .second, .val (.int p5), .val (.long q3), .second, .val (.long q2), .second, .val (.ref b185), .val (.ref b192), .unset, .unset, .unset, .unset, .unset]) rfl ?_
        show Steps p.tables e below (T193.setTop (mkF m 54 #[.val (.long q1), .second, .val (.long q2), .second, .val (.long q3), .second, .val (.long q4), .second, .val (.int p5), .val (.long q3), .second, .val (.long q2), .second, .val (.ref b185), .val (.ref b192), .unset, .unset, .unset, .unset, .unset] [])) _
        refine XS.iload X193.here hx rfl (hb hby at_54) rfl ?_
        show Steps p.tables e below (T193.setTop (mkF m 56 #[.val (.long q1), .second, .val (.long q2), .second, .val (.long q3), .second, .val (.long q4), .second, .val (.int p5), .val (.long q3), .second, .val (.long q2), .second, .val (.ref b185), .val (.ref b192), .unset, .unset, .unset, .unset, .unset] [(.int p5)])) _
        refine XS.iconst X193.here hx rfl (hb hby at_56) ?_
        show Steps p.tables e below (T193.setTop (mkF m 57 #[.val (.long q1), .second, .val (.long q2), .second, .val (.long q3), .second, .val (.long q4), .second, .val (.int p5), .val (.long q3), .second, .val (.long q2), .second, .val (.ref b185), .val (.ref b192), .unset, .unset, .unset, .unset, .unset] [(.int (2 : Int32)), (.int p5)])) _
        refine XS.iushr X193.here hx rfl (hb hby at_57) rfl ?_
        show Steps p.tables e below (T193.setTop (mkF m 58 #[.val (.long q1), .second, .val (.long q2), .second, .val (.long q3), .second, .val (.long q4), .second, .val (.int p5), .val (.long q3), .second, .val (.long q2), .second, .val (.ref b185), .val (.ref b192), .unset, .unset, .unset, .unset, .unset] [(.int ((p5.toUInt32 >>> ((2 : Int32) &&& 31).toUInt32).toInt32))])) _
        refine XS.iconst X193.here hx rfl (hb hby at_58) ?_
        show Steps p.tables e below (T193.setTop (mkF m 59 #[.val (.long q1), .second, .val (.long q2), .second, .val (.long q3), .second, .val (.long q4), .second, .val (.int p5), .val (.long q3), .second, .val (.long q2), .second, .val (.ref b185), .val (.ref b192), .unset, .unset, .unset, .unset, .unset] [(.int (3 : Int32)), (.int ((p5.toUInt32 >>> ((2 : Int32) &&& 31).toUInt32).toInt32))])) _
        refine XS.iand X193.here hx rfl (hb hby at_59) rfl ?_
        show Steps p.tables e below (T193.setTop (mkF m 60 #[.val (.long q1), .second, .val (.long q2), .second, .val (.long q3), .second, .val (.long q4), .second, .val (.int p5), .val (.long q3), .second, .val (.long q2), .second, .val (.ref b185), .val (.ref b192), .unset, .unset, .unset, .unset, .unset] [(.int (((p5.toUInt32 >>> ((2 : Int32) &&& 31).toUInt32).toInt32) &&& (3 : Int32)))])) _
        refine XS.istore X193.here hx rfl (hb hby at_60) rfl (l' := #[.val (.long q1), .second, .val (.long q2), .second, .val (.long q3), .second, .val (.long q4), .second, .val (.int p5), .val (.long q3), .second, .val (.long q2), .second, .val (.ref b185), .val (.ref b192), .val (.int (((p5.toUInt32 >>> ((2 : Int32) &&& 31).toUInt32).toInt32) &&& (3 : Int32))), .unset, .unset, .unset, .unset]) rfl ?_
        show Steps p.tables e below (T193.setTop (mkF m 62 #[.val (.long q1), .second, .val (.long q2), .second, .val (.long q3), .second, .val (.long q4), .second, .val (.int p5), .val (.long q3), .second, .val (.long q2), .second, .val (.ref b185), .val (.ref b192), .val (.int (((p5.toUInt32 >>> ((2 : Int32) &&& 31).toUInt32).toInt32) &&& (3 : Int32))), .unset, .unset, .unset, .unset] [])) _
        refine XS.iload X193.here hx rfl (hb hby at_62) rfl ?_
        exact k
      by_cases hc200 : (((p5.toUInt32 >>> ((2 : Int32) &&& 31).toUInt32).toInt32) &&& (3 : Int32)) = (0 : Int32)
      ·
        have pre201 : ∀ t, Steps p.tables e below (T193.setTop (mkF m 64 #[.val (.long q1), .second, .val (.long q2), .second, .val (.long q3), .second, .val (.long q4), .second, .val (.int p5), .val (.long q3), .second, .val (.long q2), .second, .val (.ref b185), .val (.ref b192), .val (.int (0 : Int32)), .unset, .unset, .unset, .unset] [(.int (0 : Int32))])) t → Steps p.tables e below (s₁.setTop (entryFrame m #[(.long q1), (.long q2), (.long q3), (.long q4), (.int p5)] maxLocals)) t := fun t k => pre199 t (by rw [hc200]; exact k)
        have pre202 : ∀ t, Steps p.tables e below (T193.setTop (mkF m 75 #[.val (.long q1), .second, .val (.long q2), .second, .val (.long q3), .second, .val (.long q4), .second, .val (.int p5), .val (.long q3), .second, .val (.long q2), .second, .val (.ref b185), .val (.ref b192), .val (.int (0 : Int32)), .val (.ref b192), .unset, .unset, .unset] [(.int (lcmpW q1 q3))])) t → Steps p.tables e below (s₁.setTop (entryFrame m #[(.long q1), (.long q2), (.long q3), (.long q4), (.int p5)] maxLocals)) t := fun t k => by
          refine pre201 _ ?_
          show Steps p.tables e below (T193.setTop (mkF m 64 #[.val (.long q1), .second, .val (.long q2), .second, .val (.long q3), .second, .val (.long q4), .second, .val (.int p5), .val (.long q3), .second, .val (.long q2), .second, .val (.ref b185), .val (.ref b192), .val (.int (0 : Int32)), .unset, .unset, .unset, .unset] [(.int (0 : Int32))])) _
          refine XS.ifNo X193.here hx rfl (hb hby at_64) rfl ((if0 _ _).trans (teq (by decide : (0 : Int32) = (0 : Int32))).2) ?_
          show Steps p.tables e below (T193.setTop (mkF m 67 #[.val (.long q1), .second, .val (.long q2), .second, .val (.long q3), .second, .val (.long q4), .second, .val (.int p5), .val (.long q3), .second, .val (.long q2), .second, .val (.ref b185), .val (.ref b192), .val (.int (0 : Int32)), .unset, .unset, .unset, .unset] [])) _
          refine XS.aload X193.here hx rfl (hb hby at_67) rfl rfl ?_
          show Steps p.tables e below (T193.setTop (mkF m 69 #[.val (.long q1), .second, .val (.long q2), .second, .val (.long q3), .second, .val (.long q4), .second, .val (.int p5), .val (.long q3), .second, .val (.long q2), .second, .val (.ref b185), .val (.ref b192), .val (.int (0 : Int32)), .unset, .unset, .unset, .unset] [(.ref b192)])) _
          refine XS.astore X193.here hx rfl (hb hby at_69) rfl rfl (l' := #[.val (.long q1), .second, .val (.long q2), .second, .val (.long q3), .second, .val (.long q4), .second, .val (.int p5), .val (.long q3), .second, .val (.long q2), .second, .val (.ref b185), .val (.ref b192), .val (.int (0 : Int32)), .val (.ref b192), .unset, .unset, .unset]) rfl ?_
          show Steps p.tables e below (T193.setTop (mkF m 71 #[.val (.long q1), .second, .val (.long q2), .second, .val (.long q3), .second, .val (.long q4), .second, .val (.int p5), .val (.long q3), .second, .val (.long q2), .second, .val (.ref b185), .val (.ref b192), .val (.int (0 : Int32)), .val (.ref b192), .unset, .unset, .unset] [])) _
          refine XS.lloadN X193.here hx rfl (hb hby at_71) rfl ?_
          show Steps p.tables e below (T193.setTop (mkF m 72 #[.val (.long q1), .second, .val (.long q2), .second, .val (.long q3), .second, .val (.long q4), .second, .val (.int p5), .val (.long q3), .second, .val (.long q2), .second, .val (.ref b185), .val (.ref b192), .val (.int (0 : Int32)), .val (.ref b192), .unset, .unset, .unset] [(.long q1)])) _
          refine XS.lload X193.here hx rfl (hb hby at_72) rfl ?_
          show Steps p.tables e below (T193.setTop (mkF m 74 #[.val (.long q1), .second, .val (.long q2), .second, .val (.long q3), .second, .val (.long q4), .second, .val (.int p5), .val (.long q3), .second, .val (.long q2), .second, .val (.ref b185), .val (.ref b192), .val (.int (0 : Int32)), .val (.ref b192), .unset, .unset, .unset] [(.long q3), (.long q1)])) _
          refine XS.lcmp X193.here hx rfl (hb hby at_74) rfl ?_
          exact k
        by_cases hc203 : q1 = q3
        ·
          have lt204 : b185 < T186.heap.size := (Nat.lt_of_lt_of_le A185.lt K188.1)
          have ne205 : b185 ≠ b192 := Nat.ne_of_lt (Nat.lt_of_lt_of_le lt204 sz_b192)
          have f206 := ((f190.ext E192).keep K195 (ninS ne205 nin0))
          have f207 := ((f191.ext E192).keep K195 (ninS ne205 nin0))
          have f209 := ((f189.ext E192).keep K195)
          obtain ⟨cq208, kq208, q208a, q208b, q208c⟩ := isOf hZ rfl f209
          obtain ⟨_, _, ⟨T210, L210, c210, n210⟩, -, X210, ⟨Lc210, hQ210, l210, y210, z210⟩, st210⟩ := X193.virtualBack hx (y := (⟨"com/example/sablegrid/sablegrid/model/WriteId", "equals", "(Ljava/lang/Object;)Z"⟩ : MethodName)) (z := (⟨"com/example/sablegrid/sablegrid/model/WriteId", "equals", "(Ljava/lang/Object;)Z"⟩ : MethodName)) hown (mvT hZ (hw _ (List.mem_of_getElem? (i := 13) rfl))) (mvT hZ (hw _ (List.mem_of_getElem? (i := 14) rfl))) (notFace_of_selects (args := #[]) (mvT hZ (hw _ (List.mem_of_getElem? (i := 16) rfl)))) (mvT hZ (hw _ (List.mem_of_getElem? (i := 16) rfl))) (mvT hZ (hw _ (List.mem_of_getElem? (i := 15) rfl))) (by decide) (backOf (W := 0) (rm2 l Z a0 hw [] b185 b192 q1 q2 q3 q2 T193.heap n0 O193 g_b185 g_b192 f206 f207 f196 f197 f198) hZ (hw _ (List.mem_of_getElem? (i := 17) rfl)) (hw _ (List.mem_of_getElem? (i := 2) rfl)) (by decide) (by decide)) q208a q208c (g := (mkF m 139 #[.val (.long q1), .second, .val (.long q2), .second, .val (.long q3), .second, .val (.long q4), .second, .val (.int p5), .val (.long q3), .second, .val (.long q2), .second, .val (.ref b185), .val (.ref b192), .val (.int (0 : Int32)), .val (.ref b192), .val (.int (1 : Int32)), .unset, .unset] [(.ref b192), (.ref b185)])) rfl (by rw [hml]; rfl) (Steps.refl _) (argsL := [(.ref b192)]) (rest := []) (lenOf pd1 rfl) rfl (by show 2 * 0 + _ ≤ _; exact Nat.le_of_eq rfl) (hb hby at_139) (fun _ _ => ⟨rfl, rfl, (by decide : 2 + 0 ≤ _), (by decide : 4 + 0 ≤ _)⟩)
          dsimp only [Pt.U, Pt.locs, Pt.cells, Pt.slots] at X210 l210 y210 z210 st210 hQ210
          subst l210 y210 z210
          have pre211 : ∀ t, Steps p.tables e below (T193.setTop (mkF m 139 #[.val (.long q1), .second, .val (.long q2), .second, .val (.long q3), .second, .val (.long q4), .second, .val (.int p5), .val (.long q3), .second, .val (.long q2), .second, .val (.ref b185), .val (.ref b192), .val (.int (0 : Int32)), .val (.ref b192), .val (.int (1 : Int32)), .unset, .unset] [(.ref b192), (.ref b185)])) t → Steps p.tables e below (s₁.setTop (entryFrame m #[(.long q1), (.long q2), (.long q3), (.long q4), (.int p5)] maxLocals)) t := fun t k => by
            refine pre202 _ ?_
            show Steps p.tables e below (T193.setTop (mkF m 75 #[.val (.long q1), .second, .val (.long q2), .second, .val (.long q3), .second, .val (.long q4), .second, .val (.int p5), .val (.long q3), .second, .val (.long q2), .second, .val (.ref b185), .val (.ref b192), .val (.int (0 : Int32)), .val (.ref b192), .unset, .unset, .unset] [(.int (lcmpW q1 q3))])) _
            refine XS.ifNo X193.here hx rfl (hb hby at_75) rfl ((if0 _ _).trans (teq ((lw_eq _ _).mpr hc203)).2) ?_
            show Steps p.tables e below (T193.setTop (mkF m 78 #[.val (.long q1), .second, .val (.long q2), .second, .val (.long q3), .second, .val (.long q4), .second, .val (.int p5), .val (.long q3), .second, .val (.long q2), .second, .val (.ref b185), .val (.ref b192), .val (.int (0 : Int32)), .val (.ref b192), .unset, .unset, .unset] [])) _
            refine XS.lloadN X193.here hx rfl (hb hby at_78) rfl ?_
            show Steps p.tables e below (T193.setTop (mkF m 79 #[.val (.long q1), .second, .val (.long q2), .second, .val (.long q3), .second, .val (.long q4), .second, .val (.int p5), .val (.long q3), .second, .val (.long q2), .second, .val (.ref b185), .val (.ref b192), .val (.int (0 : Int32)), .val (.ref b192), .unset, .unset, .unset] [(.long q2)])) _
            refine XS.lload X193.here hx rfl (hb hby at_79) rfl ?_
            show Steps p.tables e below (T193.setTop (mkF m 81 #[.val (.long q1), .second, .val (.long q2), .second, .val (.long q3), .second, .val (.long q4), .second, .val (.int p5), .val (.long q3), .second, .val (.long q2), .second, .val (.ref b185), .val (.ref b192), .val (.int (0 : Int32)), .val (.ref b192), .unset, .unset, .unset] [(.long q2), (.long q2)])) _
            refine XS.lcmp X193.here hx rfl (hb hby at_81) rfl ?_
            show Steps p.tables e below (T193.setTop (mkF m 82 #[.val (.long q1), .second, .val (.long q2), .second, .val (.long q3), .second, .val (.long q4), .second, .val (.int p5), .val (.long q3), .second, .val (.long q2), .second, .val (.ref b185), .val (.ref b192), .val (.int (0 : Int32)), .val (.ref b192), .unset, .unset, .unset] [(.int (lcmpW q2 q2))])) _
            refine XS.ifNo X193.here hx rfl (hb hby at_82) rfl ((if0 _ _).trans (teq ((lw_eq _ _).mpr (rfl : q2 = q2))).2) ?_
            show Steps p.tables e below (T193.setTop (mkF m 85 #[.val (.long q1), .second, .val (.long q2), .second, .val (.long q3), .second, .val (.long q4), .second, .val (.int p5), .val (.long q3), .second, .val (.long q2), .second, .val (.ref b185), .val (.ref b192), .val (.int (0 : Int32)), .val (.ref b192), .unset, .unset, .unset] [])) _
            refine XS.iconst X193.here hx rfl (hb hby at_85) ?_
            show Steps p.tables e below (T193.setTop (mkF m 86 #[.val (.long q1), .second, .val (.long q2), .second, .val (.long q3), .second, .val (.long q4), .second, .val (.int p5), .val (.long q3), .second, .val (.long q2), .second, .val (.ref b185), .val (.ref b192), .val (.int (0 : Int32)), .val (.ref b192), .unset, .unset, .unset] [(.int (1 : Int32))])) _
            refine XS.goto X193.here hx rfl (pc0 := 86) (pc' := 90) rfl (hb hby at_86) (by decide) (by decide) ?_
            show Steps p.tables e below (T193.setTop (mkF m 90 #[.val (.long q1), .second, .val (.long q2), .second, .val (.long q3), .second, .val (.long q4), .second, .val (.int p5), .val (.long q3), .second, .val (.long q2), .second, .val (.ref b185), .val (.ref b192), .val (.int (0 : Int32)), .val (.ref b192), .unset, .unset, .unset] [(.int (1 : Int32))])) _
            refine XS.istore X193.here hx rfl (hb hby at_90) rfl (l' := #[.val (.long q1), .second, .val (.long q2), .second, .val (.long q3), .second, .val (.long q4), .second, .val (.int p5), .val (.long q3), .second, .val (.long q2), .second, .val (.ref b185), .val (.ref b192), .val (.int (0 : Int32)), .val (.ref b192), .val (.int (1 : Int32)), .unset, .unset]) rfl ?_
            show Steps p.tables e below (T193.setTop (mkF m 92 #[.val (.long q1), .second, .val (.long q2), .second, .val (.long q3), .second, .val (.long q4), .second, .val (.int p5), .val (.long q3), .second, .val (.long q2), .second, .val (.ref b185), .val (.ref b192), .val (.int (0 : Int32)), .val (.ref b192), .val (.int (1 : Int32)), .unset, .unset] [])) _
            refine XS.goto X193.here hx rfl (pc0 := 92) (pc' := 135) rfl (hb hby at_92) (by decide) (by decide) ?_
            show Steps p.tables e below (T193.setTop (mkF m 135 #[.val (.long q1), .second, .val (.long q2), .second, .val (.long q3), .second, .val (.long q4), .second, .val (.int p5), .val (.long q3), .second, .val (.long q2), .second, .val (.ref b185), .val (.ref b192), .val (.int (0 : Int32)), .val (.ref b192), .val (.int (1 : Int32)), .unset, .unset] [])) _
            refine XS.aload X193.here hx rfl (hb hby at_135) rfl rfl ?_
            show Steps p.tables e below (T193.setTop (mkF m 137 #[.val (.long q1), .second, .val (.long q2), .second, .val (.long q3), .second, .val (.long q4), .second, .val (.int p5), .val (.long q3), .second, .val (.long q2), .second, .val (.ref b185), .val (.ref b192), .val (.int (0 : Int32)), .val (.ref b192), .val (.int (1 : Int32)), .unset, .unset] [(.ref b185)])) _
            refine XS.aload X193.here hx rfl (hb hby at_137) rfl rfl ?_
            exact k
          have X210 : Stand p l e room_1 s m #[(.long q1), (.long q2), (.long q3), (.long q4), (.int p5)] below meth c T210 _ 2 4 := X210
          rcases hQ210 with ⟨hc212, hc213, rfl, Nq214, e215⟩ | ⟨hc216, hc217, rfl, Nq218, e219⟩ | ⟨hc220, rfl, Nq221, e222⟩
          ·
            have N210 := Fr.app N193 Nq214
            obtain ⟨cq223, kq223, q223a, q223b, q223c⟩ := isOf hZ e215 f196
            obtain ⟨_, _, ⟨T224, L224, c224, n224⟩, -, X224, ⟨Lc224, hQ224, l224, y224, z224⟩, st224⟩ := X210.virtualBack hx (y := (⟨"com/example/sablegrid/sablegrid/model/WriteId", "equals", "(Ljava/lang/Object;)Z"⟩ : MethodName)) (z := (⟨"com/example/sablegrid/sablegrid/model/WriteId", "equals", "(Ljava/lang/Object;)Z"⟩ : MethodName)) hown (mvT hZ (hw _ (List.mem_of_getElem? (i := 13) rfl))) (mvT hZ (hw _ (List.mem_of_getElem? (i := 14) rfl))) (notFace_of_selects (args := #[]) (mvT hZ (hw _ (List.mem_of_getElem? (i := 16) rfl)))) (mvT hZ (hw _ (List.mem_of_getElem? (i := 16) rfl))) (mvT hZ (hw _ (List.mem_of_getElem? (i := 15) rfl))) (by decide) (backOf (W := 0) (rm2 l Z a0 hw [] b192 b185 q3 q2 q1 q2 T193.heap n0 O193 g_b192 g_b185 f197 f198 f209 f206 f207) hZ (hw _ (List.mem_of_getElem? (i := 17) rfl)) (hw _ (List.mem_of_getElem? (i := 2) rfl)) (by decide) (by decide)) q223a q223c (g := (mkF m 162 #[.val (.long q1), .second, .val (.long q2), .second, .val (.long q3), .second, .val (.long q4), .second, .val (.int p5), .val (.long q3), .second, .val (.long q2), .second, .val (.ref b185), .val (.ref b192), .val (.int (0 : Int32)), .val (.ref b192), .val (.int (1 : Int32)), .val (.int (1 : Int32)), .unset] [(.ref b185), (.ref b192)])) rfl (by rw [hml]; rfl) (Steps.refl _) (argsL := [(.ref b185)]) (rest := []) (lenOf pd1 rfl) rfl (by show 2 * 0 + _ ≤ _; exact Nat.le_of_eq rfl) (hb hby at_162) (fun _ _ => ⟨rfl, e215, (by decide : 2 + 0 ≤ _), (by decide : 4 + 0 ≤ _)⟩)
            dsimp only [Pt.U, Pt.locs, Pt.cells, Pt.slots] at X224 l224 y224 z224 st224 hQ224
            subst l224 y224 z224
            have pre225 : ∀ t, Steps p.tables e below (T210.setTop (mkF m 162 #[.val (.long q1), .second, .val (.long q2), .second, .val (.long q3), .second, .val (.long q4), .second, .val (.int p5), .val (.long q3), .second, .val (.long q2), .second, .val (.ref b185), .val (.ref b192), .val (.int (0 : Int32)), .val (.ref b192), .val (.int (1 : Int32)), .val (.int (1 : Int32)), .unset] [(.ref b185), (.ref b192)])) t → Steps p.tables e below (s₁.setTop (entryFrame m #[(.long q1), (.long q2), (.long q3), (.long q4), (.int p5)] maxLocals)) t := fun t k => by
              refine pre211 _ ?_
              show Steps p.tables e below (T193.setTop (mkF m 139 #[.val (.long q1), .second, .val (.long q2), .second, .val (.long q3), .second, .val (.long q4), .second, .val (.int p5), .val (.long q3), .second, .val (.long q2), .second, .val (.ref b185), .val (.ref b192), .val (.int (0 : Int32)), .val (.ref b192), .val (.int (1 : Int32)), .unset, .unset] [(.ref b192), (.ref b185)])) _
              refine st210.trans ?_
              show Steps p.tables e below (T210.setTop (mkF m 142 #[.val (.long q1), .second, .val (.long q2), .second, .val (.long q3), .second, .val (.long q4), .second, .val (.int p5), .val (.long q3), .second, .val (.long q2), .second, .val (.ref b185), .val (.ref b192), .val (.int (0 : Int32)), .val (.ref b192), .val (.int (1 : Int32)), .unset, .unset] [(.int (1 : Int32))])) _
              refine XS.istore X210.here hx rfl (hb hby at_142) rfl (l' := #[.val (.long q1), .second, .val (.long q2), .second, .val (.long q3), .second, .val (.long q4), .second, .val (.int p5), .val (.long q3), .second, .val (.long q2), .second, .val (.ref b185), .val (.ref b192), .val (.int (0 : Int32)), .val (.ref b192), .val (.int (1 : Int32)), .val (.int (1 : Int32)), .unset]) rfl ?_
              show Steps p.tables e below (T210.setTop (mkF m 144 #[.val (.long q1), .second, .val (.long q2), .second, .val (.long q3), .second, .val (.long q4), .second, .val (.int p5), .val (.long q3), .second, .val (.long q2), .second, .val (.ref b185), .val (.ref b192), .val (.int (0 : Int32)), .val (.ref b192), .val (.int (1 : Int32)), .val (.int (1 : Int32)), .unset] [])) _
              refine XS.iload X210.here hx rfl (hb hby at_144) rfl ?_
              show Steps p.tables e below (T210.setTop (mkF m 146 #[.val (.long q1), .second, .val (.long q2), .second, .val (.long q3), .second, .val (.long q4), .second, .val (.int p5), .val (.long q3), .second, .val (.long q2), .second, .val (.ref b185), .val (.ref b192), .val (.int (0 : Int32)), .val (.ref b192), .val (.int (1 : Int32)), .val (.int (1 : Int32)), .unset] [(.int (1 : Int32))])) _
              refine XS.iload X210.here hx rfl (hb hby at_146) rfl ?_
              show Steps p.tables e below (T210.setTop (mkF m 148 #[.val (.long q1), .second, .val (.long q2), .second, .val (.long q3), .second, .val (.long q4), .second, .val (.int p5), .val (.long q3), .second, .val (.long q2), .second, .val (.ref b185), .val (.ref b192), .val (.int (0 : Int32)), .val (.ref b192), .val (.int (1 : Int32)), .val (.int (1 : Int32)), .unset] [(.int (1 : Int32)), (.int (1 : Int32))])) _
              refine XS.icmpYes X210.here hx rfl (pc0 := 148) (pc' := 153) rfl (hb hby at_148) rfl (teq (by decide : (1 : Int32) = (1 : Int32))).1 (by decide) (by decide) ?_
              show Steps p.tables e below (T210.setTop (mkF m 153 #[.val (.long q1), .second, .val (.long q2), .second, .val (.long q3), .second, .val (.long q4), .second, .val (.int p5), .val (.long q3), .second, .val (.long q2), .second, .val (.ref b185), .val (.ref b192), .val (.int (0 : Int32)), .val (.ref b192), .val (.int (1 : Int32)), .val (.int (1 : Int32)), .unset] [])) _
              refine XS.iload X210.here hx rfl (hb hby at_153) rfl ?_
              show Steps p.tables e below (T210.setTop (mkF m 155 #[.val (.long q1), .second, .val (.long q2), .second, .val (.long q3), .second, .val (.long q4), .second, .val (.int p5), .val (.long q3), .second, .val (.long q2), .second, .val (.ref b185), .val (.ref b192), .val (.int (0 : Int32)), .val (.ref b192), .val (.int (1 : Int32)), .val (.int (1 : Int32)), .unset] [(.int (0 : Int32))])) _
              refine XS.ifNo X210.here hx rfl (hb hby at_155) rfl ((if0 _ _).trans (teq (by decide : (0 : Int32) = (0 : Int32))).2) ?_
              show Steps p.tables e below (T210.setTop (mkF m 158 #[.val (.long q1), .second, .val (.long q2), .second, .val (.long q3), .second, .val (.long q4), .second, .val (.int p5), .val (.long q3), .second, .val (.long q2), .second, .val (.ref b185), .val (.ref b192), .val (.int (0 : Int32)), .val (.ref b192), .val (.int (1 : Int32)), .val (.int (1 : Int32)), .unset] [])) _
              refine XS.aload X210.here hx rfl (hb hby at_158) rfl rfl ?_
              show Steps p.tables e below (T210.setTop (mkF m 160 #[.val (.long q1), .second, .val (.long q2), .second, .val (.long q3), .second, .val (.long q4), .second, .val (.int p5), .val (.long q3), .second, .val (.long q2), .second, .val (.ref b185), .val (.ref b192), .val (.int (0 : Int32)), .val (.ref b192), .val (.int (1 : Int32)), .val (.int (1 : Int32)), .unset] [(.ref b192)])) _
              refine XS.aload X210.here hx rfl (hb hby at_160) rfl rfl ?_
              exact k
            have X224 : Stand p l e room_1 s m #[(.long q1), (.long q2), (.long q3), (.long q4), (.int p5)] below meth c T224 _ 2 4 := X224
            rcases hQ224 with ⟨hc226, hc227, rfl, Nq228, e229⟩ | ⟨hc230, hc231, rfl, Nq232, e233⟩ | ⟨hc234, rfl, Nq235, e236⟩
            ·
              have N224 := Fr.app N210 Nq228
              obtain ⟨fs, hr, hrun, hended, hW, hsame⟩ := X224.leave (v := some (.int (1 : Int32))) (fun h => by rw [hret] at h; cases h)
              refine ⟨_, _, pre225 _ ?_, hrun, hended, _, _, rfl, ?_, ⟨_, rfl⟩, hW, hsame.mono (by decide) (by decide)⟩
              ·
                show Steps p.tables e below (T210.setTop (mkF m 162 #[.val (.long q1), .second, .val (.long q2), .second, .val (.long q3), .second, .val (.long q4), .second, .val (.int p5), .val (.long q3), .second, .val (.long q2), .second, .val (.ref b185), .val (.ref b192), .val (.int (0 : Int32)), .val (.ref b192), .val (.int (1 : Int32)), .val (.int (1 : Int32)), .unset] [(.ref b185), (.ref b192)])) _
                refine st224.trans ?_
                show Steps p.tables e below (T224.setTop (mkF m 165 #[.val (.long q1), .second, .val (.long q2), .second, .val (.long q3), .second, .val (.long q4), .second, .val (.int p5), .val (.long q3), .second, .val (.long q2), .second, .val (.ref b185), .val (.ref b192), .val (.int (0 : Int32)), .val (.ref b192), .val (.int (1 : Int32)), .val (.int (1 : Int32)), .unset] [(.int (1 : Int32))])) _
                refine XS.istore X224.here hx rfl (hb hby at_165) rfl (l' := #[.val (.long q1), .second, .val (.long q2), .second, .val (.long q3), .second, .val (.long q4), .second, .val (.int p5), .val (.long q3), .second, .val (.long q2), .second, .val (.ref b185), .val (.ref b192), .val (.int (0 : Int32)), .val (.ref b192), .val (.int (1 : Int32)), .val (.int (1 : Int32)), .val (.int (1 : Int32))]) rfl ?_
                show Steps p.tables e below (T224.setTop (mkF m 167 #[.val (.long q1), .second, .val (.long q2), .second, .val (.long q3), .second, .val (.long q4), .second, .val (.int p5), .val (.long q3), .second, .val (.long q2), .second, .val (.ref b185), .val (.ref b192), .val (.int (0 : Int32)), .val (.ref b192), .val (.int (1 : Int32)), .val (.int (1 : Int32)), .val (.int (1 : Int32))] [])) _
                refine XS.iload X224.here hx rfl (hb hby at_167) rfl ?_
                show Steps p.tables e below (T224.setTop (mkF m 169 #[.val (.long q1), .second, .val (.long q2), .second, .val (.long q3), .second, .val (.long q4), .second, .val (.int p5), .val (.long q3), .second, .val (.long q2), .second, .val (.ref b185), .val (.ref b192), .val (.int (0 : Int32)), .val (.ref b192), .val (.int (1 : Int32)), .val (.int (1 : Int32)), .val (.int (1 : Int32))] [(.int (1 : Int32))])) _
                refine XS.iload X224.here hx rfl (hb hby at_169) rfl ?_
                show Steps p.tables e below (T224.setTop (mkF m 171 #[.val (.long q1), .second, .val (.long q2), .second, .val (.long q3), .second, .val (.long q4), .second, .val (.int p5), .val (.long q3), .second, .val (.long q2), .second, .val (.ref b185), .val (.ref b192), .val (.int (0 : Int32)), .val (.ref b192), .val (.int (1 : Int32)), .val (.int (1 : Int32)), .val (.int (1 : Int32))] [(.int (1 : Int32)), (.int (1 : Int32))])) _
                refine XS.icmpYes X224.here hx rfl (pc0 := 171) (pc' := 176) rfl (hb hby at_171) rfl (teq (by decide : (1 : Int32) = (1 : Int32))).1 (by decide) (by decide) ?_
                show Steps p.tables e below (T224.setTop (mkF m 176 #[.val (.long q1), .second, .val (.long q2), .second, .val (.long q3), .second, .val (.long q4), .second, .val (.int p5), .val (.long q3), .second, .val (.long q2), .second, .val (.ref b185), .val (.ref b192), .val (.int (0 : Int32)), .val (.ref b192), .val (.int (1 : Int32)), .val (.int (1 : Int32)), .val (.int (1 : Int32))] [])) _
                refine XS.iconst X224.here hx rfl (hb hby at_176) ?_
                show Steps p.tables e below (T224.setTop (mkF m 177 #[.val (.long q1), .second, .val (.long q2), .second, .val (.long q3), .second, .val (.long q4), .second, .val (.int p5), .val (.long q3), .second, .val (.long q2), .second, .val (.ref b185), .val (.ref b192), .val (.int (0 : Int32)), .val (.ref b192), .val (.int (1 : Int32)), .val (.int (1 : Int32)), .val (.int (1 : Int32))] [(.int (1 : Int32))])) _
                exact retN X224 hx (t := .boolean) hret (by simp) (hb hby at_177) hr
              ·
                show Q0 n0 _ T224.heap _
                rw [e229]
                exact ⟨rfl, N224⟩
            ·
              exact absurd (rfl : q2 = q2) hc231
            ·
              exact absurd (hc203).symm hc234
          ·
            exact absurd (rfl : q2 = q2) hc217
          ·
            exact absurd hc203 hc220
        ·
          have lt237 : b185 < T186.heap.size := (Nat.lt_of_lt_of_le A185.lt K188.1)
          have ne238 : b185 ≠ b192 := Nat.ne_of_lt (Nat.lt_of_lt_of_le lt237 sz_b192)
          have f239 := ((f190.ext E192).keep K195 (ninS ne238 nin0))
          have f240 := ((f191.ext E192).keep K195 (ninS ne238 nin0))
          have f242 := ((f189.ext E192).keep K195)
          obtain ⟨cq241, kq241, q241a, q241b, q241c⟩ := isOf hZ rfl f242
          obtain ⟨_, _, ⟨T243, L243, c243, n243⟩, -, X243, ⟨Lc243, hQ243, l243, y243, z243⟩, st243⟩ := X193.virtualBack hx (y := (⟨"com/example/sablegrid/sablegrid/model/WriteId", "equals", "(Ljava/lang/Object;)Z"⟩ : MethodName)) (z := (⟨"com/example/sablegrid/sablegrid/model/WriteId", "equals", "(Ljava/lang/Object;)Z"⟩ : MethodName)) hown (mvT hZ (hw _ (List.mem_of_getElem? (i := 13) rfl))) (mvT hZ (hw _ (List.mem_of_getElem? (i := 14) rfl))) (notFace_of_selects (args := #[]) (mvT hZ (hw _ (List.mem_of_getElem? (i := 16) rfl)))) (mvT hZ (hw _ (List.mem_of_getElem? (i := 16) rfl))) (mvT hZ (hw _ (List.mem_of_getElem? (i := 15) rfl))) (by decide) (backOf (W := 0) (rm2 l Z a0 hw [] b185 b192 q1 q2 q3 q2 T193.heap n0 O193 g_b185 g_b192 f239 f240 f196 f197 f198) hZ (hw _ (List.mem_of_getElem? (i := 17) rfl)) (hw _ (List.mem_of_getElem? (i := 2) rfl)) (by decide) (by decide)) q241a q241c (g := (mkF m 139 #[.val (.long q1), .second, .val (.long q2), .second, .val (.long q3), .second, .val (.long q4), .second, .val (.int p5), .val (.long q3), .second, .val (.long q2), .second, .val (.ref b185), .val (.ref b192), .val (.int (0 : Int32)), .val (.ref b192), .val (.int (0 : Int32)), .unset, .unset] [(.ref b192), (.ref b185)])) rfl (by rw [hml]; rfl) (Steps.refl _) (argsL := [(.ref b192)]) (rest := []) (lenOf pd1 rfl) rfl (by show 2 * 0 + _ ≤ _; exact Nat.le_of_eq rfl) (hb hby at_139) (fun _ _ => ⟨rfl, rfl, (by decide : 2 + 0 ≤ _), (by decide : 4 + 0 ≤ _)⟩)
          dsimp only [Pt.U, Pt.locs, Pt.cells, Pt.slots] at X243 l243 y243 z243 st243 hQ243
          subst l243 y243 z243
          have pre244 : ∀ t, Steps p.tables e below (T193.setTop (mkF m 139 #[.val (.long q1), .second, .val (.long q2), .second, .val (.long q3), .second, .val (.long q4), .second, .val (.int p5), .val (.long q3), .second, .val (.long q2), .second, .val (.ref b185), .val (.ref b192), .val (.int (0 : Int32)), .val (.ref b192), .val (.int (0 : Int32)), .unset, .unset] [(.ref b192), (.ref b185)])) t → Steps p.tables e below (s₁.setTop (entryFrame m #[(.long q1), (.long q2), (.long q3), (.long q4), (.int p5)] maxLocals)) t := fun t k => by
            refine pre202 _ ?_
            show Steps p.tables e below (T193.setTop (mkF m 75 #[.val (.long q1), .second, .val (.long q2), .second, .val (.long q3), .second, .val (.long q4), .second, .val (.int p5), .val (.long q3), .second, .val (.long q2), .second, .val (.ref b185), .val (.ref b192), .val (.int (0 : Int32)), .val (.ref b192), .unset, .unset, .unset] [(.int (lcmpW q1 q3))])) _
            refine XS.ifYes X193.here hx rfl (pc0 := 75) (pc' := 89) rfl (hb hby at_75) rfl ((if0 _ _).trans (feq (fun q => hc203 ((lw_eq _ _).mp q))).2) (by decide) (by decide) ?_
            show Steps p.tables e below (T193.setTop (mkF m 89 #[.val (.long q1), .second, .val (.long q2), .second, .val (.long q3), .second, .val (.long q4), .second, .val (.int p5), .val (.long q3), .second, .val (.long q2), .second, .val (.ref b185), .val (.ref b192), .val (.int (0 : Int32)), .val (.ref b192), .unset, .unset, .unset] [])) _
            refine XS.iconst X193.here hx rfl (hb hby at_89) ?_
            show Steps p.tables e below (T193.setTop (mkF m 90 #[.val (.long q1), .second, .val (.long q2), .second, .val (.long q3), .second, .val (.long q4), .second, .val (.int p5), .val (.long q3), .second, .val (.long q2), .second, .val (.ref b185), .val (.ref b192), .val (.int (0 : Int32)), .val (.ref b192), .unset, .unset, .unset] [(.int (0 : Int32))])) _
            refine XS.istore X193.here hx rfl (hb hby at_90) rfl (l' := #[.val (.long q1), .second, .val (.long q2), .second, .val (.long q3), .second, .val (.long q4), .second, .val (.int p5), .val (.long q3), .second, .val (.long q2), .second, .val (.ref b185), .val (.ref b192), .val (.int (0 : Int32)), .val (.ref b192), .val (.int (0 : Int32)), .unset, .unset]) rfl ?_
            show Steps p.tables e below (T193.setTop (mkF m 92 #[.val (.long q1), .second, .val (.long q2), .second, .val (.long q3), .second, .val (.long q4), .second, .val (.int p5), .val (.long q3), .second, .val (.long q2), .second, .val (.ref b185), .val (.ref b192), .val (.int (0 : Int32)), .val (.ref b192), .val (.int (0 : Int32)), .unset, .unset] [])) _
            refine XS.goto X193.here hx rfl (pc0 := 92) (pc' := 135) rfl (hb hby at_92) (by decide) (by decide) ?_
            show Steps p.tables e below (T193.setTop (mkF m 135 #[.val (.long q1), .second, .val (.long q2), .second, .val (.long q3), .second, .val (.long q4), .second, .val (.int p5), .val (.long q3), .second, .val (.long q2), .second, .val (.ref b185), .val (.ref b192), .val (.int (0 : Int32)), .val (.ref b192), .val (.int (0 : Int32)), .unset, .unset] [])) _
            refine XS.aload X193.here hx rfl (hb hby at_135) rfl rfl ?_
            show Steps p.tables e below (T193.setTop (mkF m 137 #[.val (.long q1), .second, .val (.long q2), .second, .val (.long q3), .second, .val (.long q4), .second, .val (.int p5), .val (.long q3), .second, .val (.long q2), .second, .val (.ref b185), .val (.ref b192), .val (.int (0 : Int32)), .val (.ref b192), .val (.int (0 : Int32)), .unset, .unset] [(.ref b185)])) _
            refine XS.aload X193.here hx rfl (hb hby at_137) rfl rfl ?_
            exact k
          have X243 : Stand p l e room_1 s m #[(.long q1), (.long q2), (.long q3), (.long q4), (.int p5)] below meth c T243 _ 2 4 := X243
          rcases hQ243 with ⟨hc245, hc246, rfl, Nq247, e248⟩ | ⟨hc249, hc250, rfl, Nq251, e252⟩ | ⟨hc253, rfl, Nq254, e255⟩
          ·
            exact absurd hc245 hc203
          ·
            exact absurd hc249 hc203
          ·
            have N243 := Fr.app N193 Nq254
            obtain ⟨cq256, kq256, q256a, q256b, q256c⟩ := isOf hZ e255 f196
            obtain ⟨_, _, ⟨T257, L257, c257, n257⟩, -, X257, ⟨Lc257, hQ257, l257, y257, z257⟩, st257⟩ := X243.virtualBack hx (y := (⟨"com/example/sablegrid/sablegrid/model/WriteId", "equals", "(Ljava/lang/Object;)Z"⟩ : MethodName)) (z := (⟨"com/example/sablegrid/sablegrid/model/WriteId", "equals", "(Ljava/lang/Object;)Z"⟩ : MethodName)) hown (mvT hZ (hw _ (List.mem_of_getElem? (i := 13) rfl))) (mvT hZ (hw _ (List.mem_of_getElem? (i := 14) rfl))) (notFace_of_selects (args := #[]) (mvT hZ (hw _ (List.mem_of_getElem? (i := 16) rfl)))) (mvT hZ (hw _ (List.mem_of_getElem? (i := 16) rfl))) (mvT hZ (hw _ (List.mem_of_getElem? (i := 15) rfl))) (by decide) (backOf (W := 0) (rm2 l Z a0 hw [] b192 b185 q3 q2 q1 q2 T193.heap n0 O193 g_b192 g_b185 f197 f198 f242 f239 f240) hZ (hw _ (List.mem_of_getElem? (i := 17) rfl)) (hw _ (List.mem_of_getElem? (i := 2) rfl)) (by decide) (by decide)) q256a q256c (g := (mkF m 162 #[.val (.long q1), .second, .val (.long q2), .second, .val (.long q3), .second, .val (.long q4), .second, .val (.int p5), .val (.long q3), .second, .val (.long q2), .second, .val (.ref b185), .val (.ref b192), .val (.int (0 : Int32)), .val (.ref b192), .val (.int (0 : Int32)), .val (.int (0 : Int32)), .unset] [(.ref b185), (.ref b192)])) rfl (by rw [hml]; rfl) (Steps.refl _) (argsL := [(.ref b185)]) (rest := []) (lenOf pd1 rfl) rfl (by show 2 * 0 + _ ≤ _; exact Nat.le_of_eq rfl) (hb hby at_162) (fun _ _ => ⟨rfl, e255, (by decide : 2 + 0 ≤ _), (by decide : 4 + 0 ≤ _)⟩)
            dsimp only [Pt.U, Pt.locs, Pt.cells, Pt.slots] at X257 l257 y257 z257 st257 hQ257
            subst l257 y257 z257
            have pre258 : ∀ t, Steps p.tables e below (T243.setTop (mkF m 162 #[.val (.long q1), .second, .val (.long q2), .second, .val (.long q3), .second, .val (.long q4), .second, .val (.int p5), .val (.long q3), .second, .val (.long q2), .second, .val (.ref b185), .val (.ref b192), .val (.int (0 : Int32)), .val (.ref b192), .val (.int (0 : Int32)), .val (.int (0 : Int32)), .unset] [(.ref b185), (.ref b192)])) t → Steps p.tables e below (s₁.setTop (entryFrame m #[(.long q1), (.long q2), (.long q3), (.long q4), (.int p5)] maxLocals)) t := fun t k => by
              refine pre244 _ ?_
              show Steps p.tables e below (T193.setTop (mkF m 139 #[.val (.long q1), .second, .val (.long q2), .second, .val (.long q3), .second, .val (.long q4), .second, .val (.int p5), .val (.long q3), .second, .val (.long q2), .second, .val (.ref b185), .val (.ref b192), .val (.int (0 : Int32)), .val (.ref b192), .val (.int (0 : Int32)), .unset, .unset] [(.ref b192), (.ref b185)])) _
              refine st243.trans ?_
              show Steps p.tables e below (T243.setTop (mkF m 142 #[.val (.long q1), .second, .val (.long q2), .second, .val (.long q3), .second, .val (.long q4), .second, .val (.int p5), .val (.long q3), .second, .val (.long q2), .second, .val (.ref b185), .val (.ref b192), .val (.int (0 : Int32)), .val (.ref b192), .val (.int (0 : Int32)), .unset, .unset] [(.int (0 : Int32))])) _
              refine XS.istore X243.here hx rfl (hb hby at_142) rfl (l' := #[.val (.long q1), .second, .val (.long q2), .second, .val (.long q3), .second, .val (.long q4), .second, .val (.int p5), .val (.long q3), .second, .val (.long q2), .second, .val (.ref b185), .val (.ref b192), .val (.int (0 : Int32)), .val (.ref b192), .val (.int (0 : Int32)), .val (.int (0 : Int32)), .unset]) rfl ?_
              show Steps p.tables e below (T243.setTop (mkF m 144 #[.val (.long q1), .second, .val (.long q2), .second, .val (.long q3), .second, .val (.long q4), .second, .val (.int p5), .val (.long q3), .second, .val (.long q2), .second, .val (.ref b185), .val (.ref b192), .val (.int (0 : Int32)), .val (.ref b192), .val (.int (0 : Int32)), .val (.int (0 : Int32)), .unset] [])) _
              refine XS.iload X243.here hx rfl (hb hby at_144) rfl ?_
              show Steps p.tables e below (T243.setTop (mkF m 146 #[.val (.long q1), .second, .val (.long q2), .second, .val (.long q3), .second, .val (.long q4), .second, .val (.int p5), .val (.long q3), .second, .val (.long q2), .second, .val (.ref b185), .val (.ref b192), .val (.int (0 : Int32)), .val (.ref b192), .val (.int (0 : Int32)), .val (.int (0 : Int32)), .unset] [(.int (0 : Int32))])) _
              refine XS.iload X243.here hx rfl (hb hby at_146) rfl ?_
              show Steps p.tables e below (T243.setTop (mkF m 148 #[.val (.long q1), .second, .val (.long q2), .second, .val (.long q3), .second, .val (.long q4), .second, .val (.int p5), .val (.long q3), .second, .val (.long q2), .second, .val (.ref b185), .val (.ref b192), .val (.int (0 : Int32)), .val (.ref b192), .val (.int (0 : Int32)), .val (.int (0 : Int32)), .unset] [(.int (0 : Int32)), (.int (0 : Int32))])) _
              refine XS.icmpYes X243.here hx rfl (pc0 := 148) (pc' := 153) rfl (hb hby at_148) rfl (teq (by decide : (0 : Int32) = (0 : Int32))).1 (by decide) (by decide) ?_
              show Steps p.tables e below (T243.setTop (mkF m 153 #[.val (.long q1), .second, .val (.long q2), .second, .val (.long q3), .second, .val (.long q4), .second, .val (.int p5), .val (.long q3), .second, .val (.long q2), .second, .val (.ref b185), .val (.ref b192), .val (.int (0 : Int32)), .val (.ref b192), .val (.int (0 : Int32)), .val (.int (0 : Int32)), .unset] [])) _
              refine XS.iload X243.here hx rfl (hb hby at_153) rfl ?_
              show Steps p.tables e below (T243.setTop (mkF m 155 #[.val (.long q1), .second, .val (.long q2), .second, .val (.long q3), .second, .val (.long q4), .second, .val (.int p5), .val (.long q3), .second, .val (.long q2), .second, .val (.ref b185), .val (.ref b192), .val (.int (0 : Int32)), .val (.ref b192), .val (.int (0 : Int32)), .val (.int (0 : Int32)), .unset] [(.int (0 : Int32))])) _
              refine XS.ifNo X243.here hx rfl (hb hby at_155) rfl ((if0 _ _).trans (teq (by decide : (0 : Int32) = (0 : Int32))).2) ?_
              show Steps p.tables e below (T243.setTop (mkF m 158 #[.val (.long q1), .second, .val (.long q2), .second, .val (.long q3), .second, .val (.long q4), .second, .val (.int p5), .val (.long q3), .second, .val (.long q2), .second, .val (.ref b185), .val (.ref b192), .val (.int (0 : Int32)), .val (.ref b192), .val (.int (0 : Int32)), .val (.int (0 : Int32)), .unset] [])) _
              refine XS.aload X243.here hx rfl (hb hby at_158) rfl rfl ?_
              show Steps p.tables e below (T243.setTop (mkF m 160 #[.val (.long q1), .second, .val (.long q2), .second, .val (.long q3), .second, .val (.long q4), .second, .val (.int p5), .val (.long q3), .second, .val (.long q2), .second, .val (.ref b185), .val (.ref b192), .val (.int (0 : Int32)), .val (.ref b192), .val (.int (0 : Int32)), .val (.int (0 : Int32)), .unset] [(.ref b192)])) _
              refine XS.aload X243.here hx rfl (hb hby at_160) rfl rfl ?_
              exact k
            have X257 : Stand p l e room_1 s m #[(.long q1), (.long q2), (.long q3), (.long q4), (.int p5)] below meth c T257 _ 2 4 := X257
            rcases hQ257 with ⟨hc259, hc260, rfl, Nq261, e262⟩ | ⟨hc263, hc264, rfl, Nq265, e266⟩ | ⟨hc267, rfl, Nq268, e269⟩
            ·
              exact absurd hc259 (Ne.symm hc203)
            ·
              exact absurd hc263 (Ne.symm hc203)
            ·
              have N257 := Fr.app N243 Nq268
              obtain ⟨fs, hr, hrun, hended, hW, hsame⟩ := X257.leave (v := some (.int (1 : Int32))) (fun h => by rw [hret] at h; cases h)
              refine ⟨_, _, pre258 _ ?_, hrun, hended, _, _, rfl, ?_, ⟨_, rfl⟩, hW, hsame.mono (by decide) (by decide)⟩
              ·
                show Steps p.tables e below (T243.setTop (mkF m 162 #[.val (.long q1), .second, .val (.long q2), .second, .val (.long q3), .second, .val (.long q4), .second, .val (.int p5), .val (.long q3), .second, .val (.long q2), .second, .val (.ref b185), .val (.ref b192), .val (.int (0 : Int32)), .val (.ref b192), .val (.int (0 : Int32)), .val (.int (0 : Int32)), .unset] [(.ref b185), (.ref b192)])) _
                refine st257.trans ?_
                show Steps p.tables e below (T257.setTop (mkF m 165 #[.val (.long q1), .second, .val (.long q2), .second, .val (.long q3), .second, .val (.long q4), .second, .val (.int p5), .val (.long q3), .second, .val (.long q2), .second, .val (.ref b185), .val (.ref b192), .val (.int (0 : Int32)), .val (.ref b192), .val (.int (0 : Int32)), .val (.int (0 : Int32)), .unset] [(.int (0 : Int32))])) _
                refine XS.istore X257.here hx rfl (hb hby at_165) rfl (l' := #[.val (.long q1), .second, .val (.long q2), .second, .val (.long q3), .second, .val (.long q4), .second, .val (.int p5), .val (.long q3), .second, .val (.long q2), .second, .val (.ref b185), .val (.ref b192), .val (.int (0 : Int32)), .val (.ref b192), .val (.int (0 : Int32)), .val (.int (0 : Int32)), .val (.int (0 : Int32))]) rfl ?_
                show Steps p.tables e below (T257.setTop (mkF m 167 #[.val (.long q1), .second, .val (.long q2), .second, .val (.long q3), .second, .val (.long q4), .second, .val (.int p5), .val (.long q3), .second, .val (.long q2), .second, .val (.ref b185), .val (.ref b192), .val (.int (0 : Int32)), .val (.ref b192), .val (.int (0 : Int32)), .val (.int (0 : Int32)), .val (.int (0 : Int32))] [])) _
                refine XS.iload X257.here hx rfl (hb hby at_167) rfl ?_
                show Steps p.tables e below (T257.setTop (mkF m 169 #[.val (.long q1), .second, .val (.long q2), .second, .val (.long q3), .second, .val (.long q4), .second, .val (.int p5), .val (.long q3), .second, .val (.long q2), .second, .val (.ref b185), .val (.ref b192), .val (.int (0 : Int32)), .val (.ref b192), .val (.int (0 : Int32)), .val (.int (0 : Int32)), .val (.int (0 : Int32))] [(.int (0 : Int32))])) _
                refine XS.iload X257.here hx rfl (hb hby at_169) rfl ?_
                show Steps p.tables e below (T257.setTop (mkF m 171 #[.val (.long q1), .second, .val (.long q2), .second, .val (.long q3), .second, .val (.long q4), .second, .val (.int p5), .val (.long q3), .second, .val (.long q2), .second, .val (.ref b185), .val (.ref b192), .val (.int (0 : Int32)), .val (.ref b192), .val (.int (0 : Int32)), .val (.int (0 : Int32)), .val (.int (0 : Int32))] [(.int (0 : Int32)), (.int (0 : Int32))])) _
                refine XS.icmpYes X257.here hx rfl (pc0 := 171) (pc' := 176) rfl (hb hby at_171) rfl (teq (by decide : (0 : Int32) = (0 : Int32))).1 (by decide) (by decide) ?_
                show Steps p.tables e below (T257.setTop (mkF m 176 #[.val (.long q1), .second, .val (.long q2), .second, .val (.long q3), .second, .val (.long q4), .second, .val (.int p5), .val (.long q3), .second, .val (.long q2), .second, .val (.ref b185), .val (.ref b192), .val (.int (0 : Int32)), .val (.ref b192), .val (.int (0 : Int32)), .val (.int (0 : Int32)), .val (.int (0 : Int32))] [])) _
                refine XS.iconst X257.here hx rfl (hb hby at_176) ?_
                show Steps p.tables e below (T257.setTop (mkF m 177 #[.val (.long q1), .second, .val (.long q2), .second, .val (.long q3), .second, .val (.long q4), .second, .val (.int p5), .val (.long q3), .second, .val (.long q2), .second, .val (.ref b185), .val (.ref b192), .val (.int (0 : Int32)), .val (.ref b192), .val (.int (0 : Int32)), .val (.int (0 : Int32)), .val (.int (0 : Int32))] [(.int (1 : Int32))])) _
                exact retN X257 hx (t := .boolean) hret (by simp) (hb hby at_177) hr
              ·
                show Q0 n0 _ T257.heap _
                rw [e269]
                exact ⟨rfl, N257⟩
      ·
        have pre270 : ∀ t, Steps p.tables e below (T193.setTop (mkF m 98 #[.val (.long q1), .second, .val (.long q2), .second, .val (.long q3), .second, .val (.long q4), .second, .val (.int p5), .val (.long q3), .second, .val (.long q2), .second, .val (.ref b185), .val (.ref b192), .val (.int (((p5.toUInt32 >>> ((2 : Int32) &&& 31).toUInt32).toInt32) &&& (3 : Int32))), .unset, .unset, .unset, .unset] [(.int (1 : Int32)), (.int (((p5.toUInt32 >>> ((2 : Int32) &&& 31).toUInt32).toInt32) &&& (3 : Int32)))])) t → Steps p.tables e below (s₁.setTop (entryFrame m #[(.long q1), (.long q2), (.long q3), (.long q4), (.int p5)] maxLocals)) t := fun t k => by
          refine pre199 _ ?_
          show Steps p.tables e below (T193.setTop (mkF m 64 #[.val (.long q1), .second, .val (.long q2), .second, .val (.long q3), .second, .val (.long q4), .second, .val (.int p5), .val (.long q3), .second, .val (.long q2), .second, .val (.ref b185), .val (.ref b192), .val (.int (((p5.toUInt32 >>> ((2 : Int32) &&& 31).toUInt32).toInt32) &&& (3 : Int32))), .unset, .unset, .unset, .unset] [(.int (((p5.toUInt32 >>> ((2 : Int32) &&& 31).toUInt32).toInt32) &&& (3 : Int32)))])) _
          refine XS.ifYes X193.here hx rfl (pc0 := 64) (pc' := 95) rfl (hb hby at_64) rfl ((if0 _ _).trans (feq hc200).2) (by decide) (by decide) ?_
          show Steps p.tables e below (T193.setTop (mkF m 95 #[.val (.long q1), .second, .val (.long q2), .second, .val (.long q3), .second, .val (.long q4), .second, .val (.int p5), .val (.long q3), .second, .val (.long q2), .second, .val (.ref b185), .val (.ref b192), .val (.int (((p5.toUInt32 >>> ((2 : Int32) &&& 31).toUInt32).toInt32) &&& (3 : Int32))), .unset, .unset, .unset, .unset] [])) _
          refine XS.iload X193.here hx rfl (hb hby at_95) rfl ?_
          show Steps p.tables e below (T193.setTop (mkF m 97 #[.val (.long q1), .second, .val (.long q2), .second, .val (.long q3), .second, .val (.long q4), .second, .val (.int p5), .val (.long q3), .second, .val (.long q2), .second, .val (.ref b185), .val (.ref b192), .val (.int (((p5.toUInt32 >>> ((2 : Int32) &&& 31).toUInt32).toInt32) &&& (3 : Int32))), .unset, .unset, .unset, .unset] [(.int (((p5.toUInt32 >>> ((2 : Int32) &&& 31).toUInt32).toInt32) &&& (3 : Int32)))])) _
          refine XS.iconst X193.here hx rfl (hb hby at_97) ?_
          exact k
        by_cases hc271 : (((p5.toUInt32 >>> ((2 : Int32) &&& 31).toUInt32).toInt32) &&& (3 : Int32)) = (1 : Int32)
        ·
          have pre272 : ∀ t, Steps p.tables e below (T193.setTop (mkF m 98 #[.val (.long q1), .second, .val (.long q2), .second, .val (.long q3), .second, .val (.long q4), .second, .val (.int p5), .val (.long q3), .second, .val (.long q2), .second, .val (.ref b185), .val (.ref b192), .val (.int (1 : Int32)), .unset, .unset, .unset, .unset] [(.int (1 : Int32)), (.int (1 : Int32))])) t → Steps p.tables e below (s₁.setTop (entryFrame m #[(.long q1), (.long q2), (.long q3), (.long q4), (.int p5)] maxLocals)) t := fun t k => pre270 t (by rw [hc271]; exact k)
          have f274 := ((f189.ext E192).keep K195)
          obtain ⟨cq273, kq273, q273a, q273b, q273c⟩ := isOf hZ rfl f274
          obtain ⟨_, _, ⟨T275, L275, c275, n275⟩, -, X275, ⟨Lc275, hQ275, l275, y275, z275⟩, st275⟩ := X193.virtualBack hx (y := (⟨"com/example/sablegrid/sablegrid/model/WriteId", "equals", "(Ljava/lang/Object;)Z"⟩ : MethodName)) (z := (⟨"com/example/sablegrid/sablegrid/model/WriteId", "equals", "(Ljava/lang/Object;)Z"⟩ : MethodName)) hown (mvT hZ (hw _ (List.mem_of_getElem? (i := 13) rfl))) (mvT hZ (hw _ (List.mem_of_getElem? (i := 14) rfl))) (notFace_of_selects (args := #[]) (mvT hZ (hw _ (List.mem_of_getElem? (i := 16) rfl)))) (mvT hZ (hw _ (List.mem_of_getElem? (i := 16) rfl))) (mvT hZ (hw _ (List.mem_of_getElem? (i := 15) rfl))) (by decide) (backOf (W := 0) (rm3 l Z a0 hw [] b185 T193.heap n0 O193 g_b185) hZ (hw _ (List.mem_of_getElem? (i := 17) rfl)) (hw _ (List.mem_of_getElem? (i := 2) rfl)) (by decide) (by decide)) q273a q273c (g := (mkF m 139 #[.val (.long q1), .second, .val (.long q2), .second, .val (.long q3), .second, .val (.long q4), .second, .val (.int p5), .val (.long q3), .second, .val (.long q2), .second, .val (.ref b185), .val (.ref b192), .val (.int (1 : Int32)), .val .null, .val (.int (0 : Int32)), .unset, .unset] [.null, (.ref b185)])) rfl (by rw [hml]; rfl) (Steps.refl _) (argsL := [.null]) (rest := []) (lenOf pd1 rfl) rfl (by show 2 * 0 + _ ≤ _; exact Nat.le_of_eq rfl) (hb hby at_139) (fun _ _ => ⟨rfl, rfl, (by decide : 2 + 0 ≤ _), (by decide : 4 + 0 ≤ _)⟩)
          dsimp only [Pt.U, Pt.locs, Pt.cells, Pt.slots] at X275 l275 y275 z275 st275 hQ275
          subst l275 y275 z275
          have X275 : Stand p l e room_1 s m #[(.long q1), (.long q2), (.long q3), (.long q4), (.int p5)] below meth c T275 _ 2 4 := X275
          obtain ⟨rfl, Nq276, e277⟩ := hQ275
          have N275 := Fr.app N193 Nq276
          obtain ⟨fs, hr, hrun, hended, hW, hsame⟩ := X275.leave (v := some (.int (1 : Int32))) (fun h => by rw [hret] at h; cases h)
          refine ⟨_, _, pre272 _ ?_, hrun, hended, _, _, rfl, ?_, ⟨_, rfl⟩, hW, hsame.mono (by decide) (by decide)⟩
          ·
            show Steps p.tables e below (T193.setTop (mkF m 98 #[.val (.long q1), .second, .val (.long q2), .second, .val (.long q3), .second, .val (.long q4), .second, .val (.int p5), .val (.long q3), .second, .val (.long q2), .second, .val (.ref b185), .val (.ref b192), .val (.int (1 : Int32)), .unset, .unset, .unset, .unset] [(.int (1 : Int32)), (.int (1 : Int32))])) _
            refine XS.icmpNo X193.here hx rfl (hb hby at_98) rfl (teq (by decide : (1 : Int32) = (1 : Int32))).2 ?_
            show Steps p.tables e below (T193.setTop (mkF m 101 #[.val (.long q1), .second, .val (.long q2), .second, .val (.long q3), .second, .val (.long q4), .second, .val (.int p5), .val (.long q3), .second, .val (.long q2), .second, .val (.ref b185), .val (.ref b192), .val (.int (1 : Int32)), .unset, .unset, .unset, .unset] [])) _
            refine XS.aconstNull X193.here hx rfl (hb hby at_101) ?_
            show Steps p.tables e below (T193.setTop (mkF m 102 #[.val (.long q1), .second, .val (.long q2), .second, .val (.long q3), .second, .val (.long q4), .second, .val (.int p5), .val (.long q3), .second, .val (.long q2), .second, .val (.ref b185), .val (.ref b192), .val (.int (1 : Int32)), .unset, .unset, .unset, .unset] [.null])) _
            refine XS.astore X193.here hx rfl (hb hby at_102) rfl rfl (l' := #[.val (.long q1), .second, .val (.long q2), .second, .val (.long q3), .second, .val (.long q4), .second, .val (.int p5), .val (.long q3), .second, .val (.long q2), .second, .val (.ref b185), .val (.ref b192), .val (.int (1 : Int32)), .val .null, .unset, .unset, .unset]) rfl ?_
            show Steps p.tables e below (T193.setTop (mkF m 104 #[.val (.long q1), .second, .val (.long q2), .second, .val (.long q3), .second, .val (.long q4), .second, .val (.int p5), .val (.long q3), .second, .val (.long q2), .second, .val (.ref b185), .val (.ref b192), .val (.int (1 : Int32)), .val .null, .unset, .unset, .unset] [])) _
            refine XS.iconst X193.here hx rfl (hb hby at_104) ?_
            show Steps p.tables e below (T193.setTop (mkF m 105 #[.val (.long q1), .second, .val (.long q2), .second, .val (.long q3), .second, .val (.long q4), .second, .val (.int p5), .val (.long q3), .second, .val (.long q2), .second, .val (.ref b185), .val (.ref b192), .val (.int (1 : Int32)), .val .null, .unset, .unset, .unset] [(.int (0 : Int32))])) _
            refine XS.istore X193.here hx rfl (hb hby at_105) rfl (l' := #[.val (.long q1), .second, .val (.long q2), .second, .val (.long q3), .second, .val (.long q4), .second, .val (.int p5), .val (.long q3), .second, .val (.long q2), .second, .val (.ref b185), .val (.ref b192), .val (.int (1 : Int32)), .val .null, .val (.int (0 : Int32)), .unset, .unset]) rfl ?_
            show Steps p.tables e below (T193.setTop (mkF m 107 #[.val (.long q1), .second, .val (.long q2), .second, .val (.long q3), .second, .val (.long q4), .second, .val (.int p5), .val (.long q3), .second, .val (.long q2), .second, .val (.ref b185), .val (.ref b192), .val (.int (1 : Int32)), .val .null, .val (.int (0 : Int32)), .unset, .unset] [])) _
            refine XS.goto X193.here hx rfl (pc0 := 107) (pc' := 135) rfl (hb hby at_107) (by decide) (by decide) ?_
            show Steps p.tables e below (T193.setTop (mkF m 135 #[.val (.long q1), .second, .val (.long q2), .second, .val (.long q3), .second, .val (.long q4), .second, .val (.int p5), .val (.long q3), .second, .val (.long q2), .second, .val (.ref b185), .val (.ref b192), .val (.int (1 : Int32)), .val .null, .val (.int (0 : Int32)), .unset, .unset] [])) _
            refine XS.aload X193.here hx rfl (hb hby at_135) rfl rfl ?_
            show Steps p.tables e below (T193.setTop (mkF m 137 #[.val (.long q1), .second, .val (.long q2), .second, .val (.long q3), .second, .val (.long q4), .second, .val (.int p5), .val (.long q3), .second, .val (.long q2), .second, .val (.ref b185), .val (.ref b192), .val (.int (1 : Int32)), .val .null, .val (.int (0 : Int32)), .unset, .unset] [(.ref b185)])) _
            refine XS.aload X193.here hx rfl (hb hby at_137) rfl rfl ?_
            show Steps p.tables e below (T193.setTop (mkF m 139 #[.val (.long q1), .second, .val (.long q2), .second, .val (.long q3), .second, .val (.long q4), .second, .val (.int p5), .val (.long q3), .second, .val (.long q2), .second, .val (.ref b185), .val (.ref b192), .val (.int (1 : Int32)), .val .null, .val (.int (0 : Int32)), .unset, .unset] [.null, (.ref b185)])) _
            refine st275.trans ?_
            show Steps p.tables e below (T275.setTop (mkF m 142 #[.val (.long q1), .second, .val (.long q2), .second, .val (.long q3), .second, .val (.long q4), .second, .val (.int p5), .val (.long q3), .second, .val (.long q2), .second, .val (.ref b185), .val (.ref b192), .val (.int (1 : Int32)), .val .null, .val (.int (0 : Int32)), .unset, .unset] [(.int (0 : Int32))])) _
            refine XS.istore X275.here hx rfl (hb hby at_142) rfl (l' := #[.val (.long q1), .second, .val (.long q2), .second, .val (.long q3), .second, .val (.long q4), .second, .val (.int p5), .val (.long q3), .second, .val (.long q2), .second, .val (.ref b185), .val (.ref b192), .val (.int (1 : Int32)), .val .null, .val (.int (0 : Int32)), .val (.int (0 : Int32)), .unset]) rfl ?_
            show Steps p.tables e below (T275.setTop (mkF m 144 #[.val (.long q1), .second, .val (.long q2), .second, .val (.long q3), .second, .val (.long q4), .second, .val (.int p5), .val (.long q3), .second, .val (.long q2), .second, .val (.ref b185), .val (.ref b192), .val (.int (1 : Int32)), .val .null, .val (.int (0 : Int32)), .val (.int (0 : Int32)), .unset] [])) _
            refine XS.iload X275.here hx rfl (hb hby at_144) rfl ?_
            show Steps p.tables e below (T275.setTop (mkF m 146 #[.val (.long q1), .second, .val (.long q2), .second, .val (.long q3), .second, .val (.long q4), .second, .val (.int p5), .val (.long q3), .second, .val (.long q2), .second, .val (.ref b185), .val (.ref b192), .val (.int (1 : Int32)), .val .null, .val (.int (0 : Int32)), .val (.int (0 : Int32)), .unset] [(.int (0 : Int32))])) _
            refine XS.iload X275.here hx rfl (hb hby at_146) rfl ?_
            show Steps p.tables e below (T275.setTop (mkF m 148 #[.val (.long q1), .second, .val (.long q2), .second, .val (.long q3), .second, .val (.long q4), .second, .val (.int p5), .val (.long q3), .second, .val (.long q2), .second, .val (.ref b185), .val (.ref b192), .val (.int (1 : Int32)), .val .null, .val (.int (0 : Int32)), .val (.int (0 : Int32)), .unset] [(.int (0 : Int32)), (.int (0 : Int32))])) _
            refine XS.icmpYes X275.here hx rfl (pc0 := 148) (pc' := 153) rfl (hb hby at_148) rfl (teq (by decide : (0 : Int32) = (0 : Int32))).1 (by decide) (by decide) ?_
            show Steps p.tables e below (T275.setTop (mkF m 153 #[.val (.long q1), .second, .val (.long q2), .second, .val (.long q3), .second, .val (.long q4), .second, .val (.int p5), .val (.long q3), .second, .val (.long q2), .second, .val (.ref b185), .val (.ref b192), .val (.int (1 : Int32)), .val .null, .val (.int (0 : Int32)), .val (.int (0 : Int32)), .unset] [])) _
            refine XS.iload X275.here hx rfl (hb hby at_153) rfl ?_
            show Steps p.tables e below (T275.setTop (mkF m 155 #[.val (.long q1), .second, .val (.long q2), .second, .val (.long q3), .second, .val (.long q4), .second, .val (.int p5), .val (.long q3), .second, .val (.long q2), .second, .val (.ref b185), .val (.ref b192), .val (.int (1 : Int32)), .val .null, .val (.int (0 : Int32)), .val (.int (0 : Int32)), .unset] [(.int (1 : Int32))])) _
            refine XS.ifYes X275.here hx rfl (pc0 := 155) (pc' := 176) rfl (hb hby at_155) rfl ((if0 _ _).trans (feq (by decide : ¬ ((1 : Int32) = (0 : Int32)))).2) (by decide) (by decide) ?_
            show Steps p.tables e below (T275.setTop (mkF m 176 #[.val (.long q1), .second, .val (.long q2), .second, .val (.long q3), .second, .val (.long q4), .second, .val (.int p5), .val (.long q3), .second, .val (.long q2), .second, .val (.ref b185), .val (.ref b192), .val (.int (1 : Int32)), .val .null, .val (.int (0 : Int32)), .val (.int (0 : Int32)), .unset] [])) _
            refine XS.iconst X275.here hx rfl (hb hby at_176) ?_
            show Steps p.tables e below (T275.setTop (mkF m 177 #[.val (.long q1), .second, .val (.long q2), .second, .val (.long q3), .second, .val (.long q4), .second, .val (.int p5), .val (.long q3), .second, .val (.long q2), .second, .val (.ref b185), .val (.ref b192), .val (.int (1 : Int32)), .val .null, .val (.int (0 : Int32)), .val (.int (0 : Int32)), .unset] [(.int (1 : Int32))])) _
            exact retN X275 hx (t := .boolean) hret (by simp) (hb hby at_177) hr
          ·
            show Q0 n0 _ T275.heap _
            rw [e277]
            exact ⟨rfl, N275⟩
        ·
          have pre278 : ∀ t, Steps p.tables e below (T193.setTop (mkF m 113 #[.val (.long q1), .second, .val (.long q2), .second, .val (.long q3), .second, .val (.long q4), .second, .val (.int p5), .val (.long q3), .second, .val (.long q2), .second, .val (.ref b185), .val (.ref b192), .val (.int (((p5.toUInt32 >>> ((2 : Int32) &&& 31).toUInt32).toInt32) &&& (3 : Int32))), .unset, .unset, .unset, .unset] [(.int (2 : Int32)), (.int (((p5.toUInt32 >>> ((2 : Int32) &&& 31).toUInt32).toInt32) &&& (3 : Int32)))])) t → Steps p.tables e below (s₁.setTop (entryFrame m #[(.long q1), (.long q2), (.long q3), (.long q4), (.int p5)] maxLocals)) t := fun t k => by
            refine pre270 _ ?_
            show Steps p.tables e below (T193.setTop (mkF m 98 #[.val (.long q1), .second, .val (.long q2), .second, .val (.long q3), .second, .val (.long q4), .second, .val (.int p5), .val (.long q3), .second, .val (.long q2), .second, .val (.ref b185), .val (.ref b192), .val (.int (((p5.toUInt32 >>> ((2 : Int32) &&& 31).toUInt32).toInt32) &&& (3 : Int32))), .unset, .unset, .unset, .unset] [(.int (1 : Int32)), (.int (((p5.toUInt32 >>> ((2 : Int32) &&& 31).toUInt32).toInt32) &&& (3 : Int32)))])) _
            refine XS.icmpYes X193.here hx rfl (pc0 := 98) (pc' := 110) rfl (hb hby at_98) rfl (feq hc271).2 (by decide) (by decide) ?_
            show Steps p.tables e below (T193.setTop (mkF m 110 #[.val (.long q1), .second, .val (.long q2), .second, .val (.long q3), .second, .val (.long q4), .second, .val (.int p5), .val (.long q3), .second, .val (.long q2), .second, .val (.ref b185), .val (.ref b192), .val (.int (((p5.toUInt32 >>> ((2 : Int32) &&& 31).toUInt32).toInt32) &&& (3 : Int32))), .unset, .unset, .unset, .unset] [])) _
            refine XS.iload X193.here hx rfl (hb hby at_110) rfl ?_
            show Steps p.tables e below (T193.setTop (mkF m 112 #[.val (.long q1), .second, .val (.long q2), .second, .val (.long q3), .second, .val (.long q4), .second, .val (.int p5), .val (.long q3), .second, .val (.long q2), .second, .val (.ref b185), .val (.ref b192), .val (.int (((p5.toUInt32 >>> ((2 : Int32) &&& 31).toUInt32).toInt32) &&& (3 : Int32))), .unset, .unset, .unset, .unset] [(.int (((p5.toUInt32 >>> ((2 : Int32) &&& 31).toUInt32).toInt32) &&& (3 : Int32)))])) _
            refine XS.iconst X193.here hx rfl (hb hby at_112) ?_
            exact k
          by_cases hc279 : (((p5.toUInt32 >>> ((2 : Int32) &&& 31).toUInt32).toInt32) &&& (3 : Int32)) = (2 : Int32)
          ·
            have pre280 : ∀ t, Steps p.tables e below (T193.setTop (mkF m 113 #[.val (.long q1), .second, .val (.long q2), .second, .val (.long q3), .second, .val (.long q4), .second, .val (.int p5), .val (.long q3), .second, .val (.long q2), .second, .val (.ref b185), .val (.ref b192), .val (.int (2 : Int32)), .unset, .unset, .unset, .unset] [(.int (2 : Int32)), (.int (2 : Int32))])) t → Steps p.tables e below (s₁.setTop (entryFrame m #[(.long q1), (.long q2), (.long q3), (.long q4), (.int p5)] maxLocals)) t := fun t k => pre278 t (by rw [hc279]; exact k)
            obtain ⟨_, _, ⟨T281, L281, c281, n281⟩, -, X281, ⟨Lc281, hQ281, l281, y281, z281⟩, st281⟩ := Jvm.LawKit.callS X193 hx (y := (⟨"java/lang/Long", "valueOf", "(J)Ljava/lang/Long;"⟩ : MethodName)) hown (mvT hZ (hw _ (List.mem_of_getElem? (i := 20) rfl))) (mvT hZ (hw _ (List.mem_of_getElem? (i := 21) rfl))) (mvT hZ (hw _ (List.mem_of_getElem? (i := 22) rfl))) (mvT hZ (hw _ (List.mem_of_getElem? (i := 23) rfl))) (by decide) (backOf (W := 0) (rm6 l Z a0 hw w1 cw1 G [] q1 T193.heap n0 O193 ) hZ (hw _ (List.mem_of_getElem? (i := 23) rfl)) (hw _ (List.mem_of_getElem? (i := 22) rfl)) (by decide) (by decide)) (g := (mkF m 117 #[.val (.long q1), .second, .val (.long q2), .second, .val (.long q3), .second, .val (.long q4), .second, .val (.int p5), .val (.long q3), .second, .val (.long q2), .second, .val (.ref b185), .val (.ref b192), .val (.int (2 : Int32)), .unset, .unset, .unset, .unset] [(.long q1)])) rfl (by rw [hml]; rfl) (argsL := [(.long q1)]) (rest := []) (lenOf pd4 rfl) rfl (by show 2 * 0 + _ ≤ _; exact Nat.le_of_eq rfl) (hb hby at_117) (fun _ _ => ⟨rfl, rfl, (by decide : 2 + 1 ≤ _), (by decide : 4 + 1 ≤ _)⟩)
            dsimp only [Pt.U, Pt.locs, Pt.cells, Pt.slots] at X281 l281 y281 z281 st281 hQ281
            subst l281 y281 z281
            have pre282 : ∀ t, Steps p.tables e below (T193.setTop (mkF m 117 #[.val (.long q1), .second, .val (.long q2), .second, .val (.long q3), .second, .val (.long q4), .second, .val (.int p5), .val (.long q3), .second, .val (.long q2), .second, .val (.ref b185), .val (.ref b192), .val (.int (2 : Int32)), .unset, .unset, .unset, .unset] [(.long q1)])) t → Steps p.tables e below (s₁.setTop (entryFrame m #[(.long q1), (.long q2), (.long q3), (.long q4), (.int p5)] maxLocals)) t := fun t k => by
              refine pre280 _ ?_
              show Steps p.tables e below (T193.setTop (mkF m 113 #[.val (.long q1), .second, .val (.long q2), .second, .val (.long q3), .second, .val (.long q4), .second, .val (.int p5), .val (.long q3), .second, .val (.long q2), .second, .val (.ref b185), .val (.ref b192), .val (.int (2 : Int32)), .unset, .unset, .unset, .unset] [(.int (2 : Int32)), (.int (2 : Int32))])) _
              refine XS.icmpNo X193.here hx rfl (hb hby at_113) rfl (teq (by decide : (2 : Int32) = (2 : Int32))).2 ?_
              show Steps p.tables e below (T193.setTop (mkF m 116 #[.val (.long q1), .second, .val (.long q2), .second, .val (.long q3), .second, .val (.long q4), .second, .val (.int p5), .val (.long q3), .second, .val (.long q2), .second, .val (.ref b185), .val (.ref b192), .val (.int (2 : Int32)), .unset, .unset, .unset, .unset] [])) _
              refine XS.lloadN X193.here hx rfl (hb hby at_116) rfl ?_
              exact k
            have X281 : Stand p l e room_1 s m #[(.long q1), (.long q2), (.long q3), (.long q4), (.int p5)] below meth c T281 _ 3 5 := X281
            rcases hQ281 with ⟨b283, hc284, rfl, Nq285, K286, sz_b283, f287, f288⟩ | ⟨b289, hc290, hc291, rfl, Nq292, K293, sz_b289, f294, f295⟩ | ⟨v296, hc297, hc298, rfl, Nq299, e300, f301⟩
            ·
              have N281 := Fr.app N193 Nq285
              have g_b283 : n0 ≤ b283 := Nat.le_trans (own_oz O193) sz_b283
              have M281 : h0.size ≤ T281.heap.size := Nat.le_trans M193 K286.1
              have O281 := Old.keep O193 K286 all0
              have f303 := (((f189.ext E192).keep K195).keep K286)
              obtain ⟨cq302, kq302, q302a, q302b, q302c⟩ := isOf hZ rfl f303
              obtain ⟨_, _, ⟨T304, L304, c304, n304⟩, -, X304, ⟨Lc304, hQ304, l304, y304, z304⟩, st304⟩ := X281.virtualBack hx (y := (⟨"com/example/sablegrid/sablegrid/model/WriteId", "equals", "(Ljava/lang/Object;)Z"⟩ : MethodName)) (z := (⟨"com/example/sablegrid/sablegrid/model/WriteId", "equals", "(Ljava/lang/Object;)Z"⟩ : MethodName)) hown (mvT hZ (hw _ (List.mem_of_getElem? (i := 13) rfl))) (mvT hZ (hw _ (List.mem_of_getElem? (i := 14) rfl))) (notFace_of_selects (args := #[]) (mvT hZ (hw _ (List.mem_of_getElem? (i := 16) rfl)))) (mvT hZ (hw _ (List.mem_of_getElem? (i := 16) rfl))) (mvT hZ (hw _ (List.mem_of_getElem? (i := 15) rfl))) (by decide) (backOf (W := 0) (rm7 l Z a0 hw [] b185 b283 T281.heap n0 O281 g_b185 g_b283 f287) hZ (hw _ (List.mem_of_getElem? (i := 17) rfl)) (hw _ (List.mem_of_getElem? (i := 2) rfl)) (by decide) (by decide)) q302a q302c (g := (mkF m 139 #[.val (.long q1), .second, .val (.long q2), .second, .val (.long q3), .second, .val (.long q4), .second, .val (.int p5), .val (.long q3), .second, .val (.long q2), .second, .val (.ref b185), .val (.ref b192), .val (.int (2 : Int32)), .val (.ref b283), .val (.int (0 : Int32)), .unset, .unset] [(.ref b283), (.ref b185)])) rfl (by rw [hml]; rfl) (Steps.refl _) (argsL := [(.ref b283)]) (rest := []) (lenOf pd1 rfl) rfl (by show 2 * 0 + _ ≤ _; exact Nat.le_of_eq rfl) (hb hby at_139) (fun _ _ => ⟨rfl, rfl, (by decide : 3 + 0 ≤ _), (by decide : 5 + 0 ≤ _)⟩)
              dsimp only [Pt.U, Pt.locs, Pt.cells, Pt.slots] at X304 l304 y304 z304 st304 hQ304
              subst l304 y304 z304
              have X304 : Stand p l e room_1 s m #[(.long q1), (.long q2), (.long q3), (.long q4), (.int p5)] below meth c T304 _ 3 5 := X304
              obtain ⟨rfl, Nq305, e306⟩ := hQ304
              have N304 := Fr.app N281 Nq305
              obtain ⟨fs, hr, hrun, hended, hW, hsame⟩ := X304.leave (v := some (.int (1 : Int32))) (fun h => by rw [hret] at h; cases h)
              refine ⟨_, _, pre282 _ ?_, hrun, hended, _, _, rfl, ?_, ⟨_, rfl⟩, hW, hsame.mono (by decide) (by decide)⟩
              ·
                show Steps p.tables e below (T193.setTop (mkF m 117 #[.val (.long q1), .second, .val (.long q2), .second, .val (.long q3), .second, .val (.long q4), .second, .val (.int p5), .val (.long q3), .second, .val (.long q2), .second, .val (.ref b185), .val (.ref b192), .val (.int (2 : Int32)), .unset, .unset, .unset, .unset] [(.long q1)])) _
                refine st281 _ ?_
                show Steps p.tables e below (T281.setTop (mkF m 120 #[.val (.long q1), .second, .val (.long q2), .second, .val (.long q3), .second, .val (.long q4), .second, .val (.int p5), .val (.long q3), .second, .val (.long q2), .second, .val (.ref b185), .val (.ref b192), .val (.int (2 : Int32)), .unset, .unset, .unset, .unset] [(.ref b283)])) _
                refine XS.astore X281.here hx rfl (hb hby at_120) rfl rfl (l' := #[.val (.long q1), .second, .val (.long q2), .second, .val (.long q3), .second, .val (.long q4), .second, .val (.int p5), .val (.long q3), .second, .val (.long q2), .second, .val (.ref b185), .val (.ref b192), .val (.int (2 : Int32)), .val (.ref b283), .unset, .unset, .unset]) rfl ?_
                show Steps p.tables e below (T281.setTop (mkF m 122 #[.val (.long q1), .second, .val (.long q2), .second, .val (.long q3), .second, .val (.long q4), .second, .val (.int p5), .val (.long q3), .second, .val (.long q2), .second, .val (.ref b185), .val (.ref b192), .val (.int (2 : Int32)), .val (.ref b283), .unset, .unset, .unset] [])) _
                refine XS.iconst X281.here hx rfl (hb hby at_122) ?_
                show Steps p.tables e below (T281.setTop (mkF m 123 #[.val (.long q1), .second, .val (.long q2), .second, .val (.long q3), .second, .val (.long q4), .second, .val (.int p5), .val (.long q3), .second, .val (.long q2), .second, .val (.ref b185), .val (.ref b192), .val (.int (2 : Int32)), .val (.ref b283), .unset, .unset, .unset] [(.int (0 : Int32))])) _
                refine XS.istore X281.here hx rfl (hb hby at_123) rfl (l' := #[.val (.long q1), .second, .val (.long q2), .second, .val (.long q3), .second, .val (.long q4), .second, .val (.int p5), .val (.long q3), .second, .val (.long q2), .second, .val (.ref b185), .val (.ref b192), .val (.int (2 : Int32)), .val (.ref b283), .val (.int (0 : Int32)), .unset, .unset]) rfl ?_
                show Steps p.tables e below (T281.setTop (mkF m 125 #[.val (.long q1), .second, .val (.long q2), .second, .val (.long q3), .second, .val (.long q4), .second, .val (.int p5), .val (.long q3), .second, .val (.long q2), .second, .val (.ref b185), .val (.ref b192), .val (.int (2 : Int32)), .val (.ref b283), .val (.int (0 : Int32)), .unset, .unset] [])) _
                refine XS.goto X281.here hx rfl (pc0 := 125) (pc' := 135) rfl (hb hby at_125) (by decide) (by decide) ?_
                show Steps p.tables e below (T281.setTop (mkF m 135 #[.val (.long q1), .second, .val (.long q2), .second, .val (.long q3), .second, .val (.long q4), .second, .val (.int p5), .val (.long q3), .second, .val (.long q2), .second, .val (.ref b185), .val (.ref b192), .val (.int (2 : Int32)), .val (.ref b283), .val (.int (0 : Int32)), .unset, .unset] [])) _
                refine XS.aload X281.here hx rfl (hb hby at_135) rfl rfl ?_
                show Steps p.tables e below (T281.setTop (mkF m 137 #[.val (.long q1), .second, .val (.long q2), .second, .val (.long q3), .second, .val (.long q4), .second, .val (.int p5), .val (.long q3), .second, .val (.long q2), .second, .val (.ref b185), .val (.ref b192), .val (.int (2 : Int32)), .val (.ref b283), .val (.int (0 : Int32)), .unset, .unset] [(.ref b185)])) _
                refine XS.aload X281.here hx rfl (hb hby at_137) rfl rfl ?_
                show Steps p.tables e below (T281.setTop (mkF m 139 #[.val (.long q1), .second, .val (.long q2), .second, .val (.long q3), .second, .val (.long q4), .second, .val (.int p5), .val (.long q3), .second, .val (.long q2), .second, .val (.ref b185), .val (.ref b192), .val (.int (2 : Int32)), .val (.ref b283), .val (.int (0 : Int32)), .unset, .unset] [(.ref b283), (.ref b185)])) _
                refine st304.trans ?_
                show Steps p.tables e below (T304.setTop (mkF m 142 #[.val (.long q1), .second, .val (.long q2), .second, .val (.long q3), .second, .val (.long q4), .second, .val (.int p5), .val (.long q3), .second, .val (.long q2), .second, .val (.ref b185), .val (.ref b192), .val (.int (2 : Int32)), .val (.ref b283), .val (.int (0 : Int32)), .unset, .unset] [(.int (0 : Int32))])) _
                refine XS.istore X304.here hx rfl (hb hby at_142) rfl (l' := #[.val (.long q1), .second, .val (.long q2), .second, .val (.long q3), .second, .val (.long q4), .second, .val (.int p5), .val (.long q3), .second, .val (.long q2), .second, .val (.ref b185), .val (.ref b192), .val (.int (2 : Int32)), .val (.ref b283), .val (.int (0 : Int32)), .val (.int (0 : Int32)), .unset]) rfl ?_
                show Steps p.tables e below (T304.setTop (mkF m 144 #[.val (.long q1), .second, .val (.long q2), .second, .val (.long q3), .second, .val (.long q4), .second, .val (.int p5), .val (.long q3), .second, .val (.long q2), .second, .val (.ref b185), .val (.ref b192), .val (.int (2 : Int32)), .val (.ref b283), .val (.int (0 : Int32)), .val (.int (0 : Int32)), .unset] [])) _
                refine XS.iload X304.here hx rfl (hb hby at_144) rfl ?_
                show Steps p.tables e below (T304.setTop (mkF m 146 #[.val (.long q1), .second, .val (.long q2), .second, .val (.long q3), .second, .val (.long q4), .second, .val (.int p5), .val (.long q3), .second, .val (.long q2), .second, .val (.ref b185), .val (.ref b192), .val (.int (2 : Int32)), .val (.ref b283), .val (.int (0 : Int32)), .val (.int (0 : Int32)), .unset] [(.int (0 : Int32))])) _
                refine XS.iload X304.here hx rfl (hb hby at_146) rfl ?_
                show Steps p.tables e below (T304.setTop (mkF m 148 #[.val (.long q1), .second, .val (.long q2), .second, .val (.long q3), .second, .val (.long q4), .second, .val (.int p5), .val (.long q3), .second, .val (.long q2), .second, .val (.ref b185), .val (.ref b192), .val (.int (2 : Int32)), .val (.ref b283), .val (.int (0 : Int32)), .val (.int (0 : Int32)), .unset] [(.int (0 : Int32)), (.int (0 : Int32))])) _
                refine XS.icmpYes X304.here hx rfl (pc0 := 148) (pc' := 153) rfl (hb hby at_148) rfl (teq (by decide : (0 : Int32) = (0 : Int32))).1 (by decide) (by decide) ?_
                show Steps p.tables e below (T304.setTop (mkF m 153 #[.val (.long q1), .second, .val (.long q2), .second, .val (.long q3), .second, .val (.long q4), .second, .val (.int p5), .val (.long q3), .second, .val (.long q2), .second, .val (.ref b185), .val (.ref b192), .val (.int (2 : Int32)), .val (.ref b283), .val (.int (0 : Int32)), .val (.int (0 : Int32)), .unset] [])) _
                refine XS.iload X304.here hx rfl (hb hby at_153) rfl ?_
                show Steps p.tables e below (T304.setTop (mkF m 155 #[.val (.long q1), .second, .val (.long q2), .second, .val (.long q3), .second, .val (.long q4), .second, .val (.int p5), .val (.long q3), .second, .val (.long q2), .second, .val (.ref b185), .val (.ref b192), .val (.int (2 : Int32)), .val (.ref b283), .val (.int (0 : Int32)), .val (.int (0 : Int32)), .unset] [(.int (2 : Int32))])) _
                refine XS.ifYes X304.here hx rfl (pc0 := 155) (pc' := 176) rfl (hb hby at_155) rfl ((if0 _ _).trans (feq (by decide : ¬ ((2 : Int32) = (0 : Int32)))).2) (by decide) (by decide) ?_
                show Steps p.tables e below (T304.setTop (mkF m 176 #[.val (.long q1), .second, .val (.long q2), .second, .val (.long q3), .second, .val (.long q4), .second, .val (.int p5), .val (.long q3), .second, .val (.long q2), .second, .val (.ref b185), .val (.ref b192), .val (.int (2 : Int32)), .val (.ref b283), .val (.int (0 : Int32)), .val (.int (0 : Int32)), .unset] [])) _
                refine XS.iconst X304.here hx rfl (hb hby at_176) ?_
                show Steps p.tables e below (T304.setTop (mkF m 177 #[.val (.long q1), .second, .val (.long q2), .second, .val (.long q3), .second, .val (.long q4), .second, .val (.int p5), .val (.long q3), .second, .val (.long q2), .second, .val (.ref b185), .val (.ref b192), .val (.int (2 : Int32)), .val (.ref b283), .val (.int (0 : Int32)), .val (.int (0 : Int32)), .unset] [(.int (1 : Int32))])) _
                exact retN X304 hx (t := .boolean) hret (by simp) (hb hby at_177) hr
              ·
                show Q0 n0 _ T304.heap _
                rw [e306]
                exact ⟨rfl, N304⟩
            ·
              have N281 := Fr.app N193 Nq292
              have g_b289 : n0 ≤ b289 := Nat.le_trans (own_oz O193) sz_b289
              have M281 : h0.size ≤ T281.heap.size := Nat.le_trans M193 K293.1
              have O281 := Old.keep O193 K293 all0
              have f308 := (((f189.ext E192).keep K195).keep K293)
              obtain ⟨cq307, kq307, q307a, q307b, q307c⟩ := isOf hZ rfl f308
              obtain ⟨_, _, ⟨T309, L309, c309, n309⟩, -, X309, ⟨Lc309, hQ309, l309, y309, z309⟩, st309⟩ := X281.virtualBack hx (y := (⟨"com/example/sablegrid/sablegrid/model/WriteId", "equals", "(Ljava/lang/Object;)Z"⟩ : MethodName)) (z := (⟨"com/example/sablegrid/sablegrid/model/WriteId", "equals", "(Ljava/lang/Object;)Z"⟩ : MethodName)) hown (mvT hZ (hw _ (List.mem_of_getElem? (i := 13) rfl))) (mvT hZ (hw _ (List.mem_of_getElem? (i := 14) rfl))) (notFace_of_selects (args := #[]) (mvT hZ (hw _ (List.mem_of_getElem? (i := 16) rfl)))) (mvT hZ (hw _ (List.mem_of_getElem? (i := 16) rfl))) (mvT hZ (hw _ (List.mem_of_getElem? (i := 15) rfl))) (by decide) (backOf (W := 0) (rm7 l Z a0 hw [] b185 b289 T281.heap n0 O281 g_b185 g_b289 f294) hZ (hw _ (List.mem_of_getElem? (i := 17) rfl)) (hw _ (List.mem_of_getElem? (i := 2) rfl)) (by decide) (by decide)) q307a q307c (g := (mkF m 139 #[.val (.long q1), .second, .val (.long q2), .second, .val (.long q3), .second, .val (.long q4), .second, .val (.int p5), .val (.long q3), .second, .val (.long q2), .second, .val (.ref b185), .val (.ref b192), .val (.int (2 : Int32)), .val (.ref b289), .val (.int (0 : Int32)), .unset, .unset] [(.ref b289), (.ref b185)])) rfl (by rw [hml]; rfl) (Steps.refl _) (argsL := [(.ref b289)]) (rest := []) (lenOf pd1 rfl) rfl (by show 2 * 0 + _ ≤ _; exact Nat.le_of_eq rfl) (hb hby at_139) (fun _ _ => ⟨rfl, rfl, (by decide : 3 + 0 ≤ _), (by decide : 5 + 0 ≤ _)⟩)
              dsimp only [Pt.U, Pt.locs, Pt.cells, Pt.slots] at X309 l309 y309 z309 st309 hQ309
              subst l309 y309 z309
              have X309 : Stand p l e room_1 s m #[(.long q1), (.long q2), (.long q3), (.long q4), (.int p5)] below meth c T309 _ 3 5 := X309
              obtain ⟨rfl, Nq310, e311⟩ := hQ309
              have N309 := Fr.app N281 Nq310
              obtain ⟨fs, hr, hrun, hended, hW, hsame⟩ := X309.leave (v := some (.int (1 : Int32))) (fun h => by rw [hret] at h; cases h)
              refine ⟨_, _, pre282 _ ?_, hrun, hended, _, _, rfl, ?_, ⟨_, rfl⟩, hW, hsame.mono (by decide) (by decide)⟩
              ·
                show Steps p.tables e below (T193.setTop (mkF m 117 #[.val (.long q1), .second, .val (.long q2), .second, .val (.long q3), .second, .val (.long q4), .second, .val (.int p5), .val (.long q3), .second, .val (.long q2), .second, .val (.ref b185), .val (.ref b192), .val (.int (2 : Int32)), .unset, .unset, .unset, .unset] [(.long q1)])) _
                refine st281 _ ?_
                show Steps p.tables e below (T281.setTop (mkF m 120 #[.val (.long q1), .second, .val (.long q2), .second, .val (.long q3), .second, .val (.long q4), .second, .val (.int p5), .val (.long q3), .second, .val (.long q2), .second, .val (.ref b185), .val (.ref b192), .val (.int (2 : Int32)), .unset, .unset, .unset, .unset] [(.ref b289)])) _
                refine XS.astore X281.here hx rfl (hb hby at_120) rfl rfl (l' := #[.val (.long q1), .second, .val (.long q2), .second, .val (.long q3), .second, .val (.long q4), .second, .val (.int p5), .val (.long q3), .second, .val (.long q2), .second, .val (.ref b185), .val (.ref b192), .val (.int (2 : Int32)), .val (.ref b289), .unset, .unset, .unset]) rfl ?_
                show Steps p.tables e below (T281.setTop (mkF m 122 #[.val (.long q1), .second, .val (.long q2), .second, .val (.long q3), .second, .val (.long q4), .second, .val (.int p5), .val (.long q3), .second, .val (.long q2), .second, .val (.ref b185), .val (.ref b192), .val (.int (2 : Int32)), .val (.ref b289), .unset, .unset, .unset] [])) _
                refine XS.iconst X281.here hx rfl (hb hby at_122) ?_
                show Steps p.tables e below (T281.setTop (mkF m 123 #[.val (.long q1), .second, .val (.long q2), .second, .val (.long q3), .second, .val (.long q4), .second, .val (.int p5), .val (.long q3), .second, .val (.long q2), .second, .val (.ref b185), .val (.ref b192), .val (.int (2 : Int32)), .val (.ref b289), .unset, .unset, .unset] [(.int (0 : Int32))])) _
                refine XS.istore X281.here hx rfl (hb hby at_123) rfl (l' := #[.val (.long q1), .second, .val (.long q2), .second, .val (.long q3), .second, .val (.long q4), .second, .val (.int p5), .val (.long q3), .second, .val (.long q2), .second, .val (.ref b185), .val (.ref b192), .val (.int (2 : Int32)), .val (.ref b289), .val (.int (0 : Int32)), .unset, .unset]) rfl ?_
                show Steps p.tables e below (T281.setTop (mkF m 125 #[.val (.long q1), .second, .val (.long q2), .second, .val (.long q3), .second, .val (.long q4), .second, .val (.int p5), .val (.long q3), .second, .val (.long q2), .second, .val (.ref b185), .val (.ref b192), .val (.int (2 : Int32)), .val (.ref b289), .val (.int (0 : Int32)), .unset, .unset] [])) _
                refine XS.goto X281.here hx rfl (pc0 := 125) (pc' := 135) rfl (hb hby at_125) (by decide) (by decide) ?_
                show Steps p.tables e below (T281.setTop (mkF m 135 #[.val (.long q1), .second, .val (.long q2), .second, .val (.long q3), .second, .val (.long q4), .second, .val (.int p5), .val (.long q3), .second, .val (.long q2), .second, .val (.ref b185), .val (.ref b192), .val (.int (2 : Int32)), .val (.ref b289), .val (.int (0 : Int32)), .unset, .unset] [])) _
                refine XS.aload X281.here hx rfl (hb hby at_135) rfl rfl ?_
                show Steps p.tables e below (T281.setTop (mkF m 137 #[.val (.long q1), .second, .val (.long q2), .second, .val (.long q3), .second, .val (.long q4), .second, .val (.int p5), .val (.long q3), .second, .val (.long q2), .second, .val (.ref b185), .val (.ref b192), .val (.int (2 : Int32)), .val (.ref b289), .val (.int (0 : Int32)), .unset, .unset] [(.ref b185)])) _
                refine XS.aload X281.here hx rfl (hb hby at_137) rfl rfl ?_
                show Steps p.tables e below (T281.setTop (mkF m 139 #[.val (.long q1), .second, .val (.long q2), .second, .val (.long q3), .second, .val (.long q4), .second, .val (.int p5), .val (.long q3), .second, .val (.long q2), .second, .val (.ref b185), .val (.ref b192), .val (.int (2 : Int32)), .val (.ref b289), .val (.int (0 : Int32)), .unset, .unset] [(.ref b289), (.ref b185)])) _
                refine st309.trans ?_
                show Steps p.tables e below (T309.setTop (mkF m 142 #[.val (.long q1), .second, .val (.long q2), .second, .val (.long q3), .second, .val (.long q4), .second, .val (.int p5), .val (.long q3), .second, .val (.long q2), .second, .val (.ref b185), .val (.ref b192), .val (.int (2 : Int32)), .val (.ref b289), .val (.int (0 : Int32)), .unset, .unset] [(.int (0 : Int32))])) _
                refine XS.istore X309.here hx rfl (hb hby at_142) rfl (l' := #[.val (.long q1), .second, .val (.long q2), .second, .val (.long q3), .second, .val (.long q4), .second, .val (.int p5), .val (.long q3), .second, .val (.long q2), .second, .val (.ref b185), .val (.ref b192), .val (.int (2 : Int32)), .val (.ref b289), .val (.int (0 : Int32)), .val (.int (0 : Int32)), .unset]) rfl ?_
                show Steps p.tables e below (T309.setTop (mkF m 144 #[.val (.long q1), .second, .val (.long q2), .second, .val (.long q3), .second, .val (.long q4), .second, .val (.int p5), .val (.long q3), .second, .val (.long q2), .second, .val (.ref b185), .val (.ref b192), .val (.int (2 : Int32)), .val (.ref b289), .val (.int (0 : Int32)), .val (.int (0 : Int32)), .unset] [])) _
                refine XS.iload X309.here hx rfl (hb hby at_144) rfl ?_
                show Steps p.tables e below (T309.setTop (mkF m 146 #[.val (.long q1), .second, .val (.long q2), .second, .val (.long q3), .second, .val (.long q4), .second, .val (.int p5), .val (.long q3), .second, .val (.long q2), .second, .val (.ref b185), .val (.ref b192), .val (.int (2 : Int32)), .val (.ref b289), .val (.int (0 : Int32)), .val (.int (0 : Int32)), .unset] [(.int (0 : Int32))])) _
                refine XS.iload X309.here hx rfl (hb hby at_146) rfl ?_
                show Steps p.tables e below (T309.setTop (mkF m 148 #[.val (.long q1), .second, .val (.long q2), .second, .val (.long q3), .second, .val (.long q4), .second, .val (.int p5), .val (.long q3), .second, .val (.long q2), .second, .val (.ref b185), .val (.ref b192), .val (.int (2 : Int32)), .val (.ref b289), .val (.int (0 : Int32)), .val (.int (0 : Int32)), .unset] [(.int (0 : Int32)), (.int (0 : Int32))])) _
                refine XS.icmpYes X309.here hx rfl (pc0 := 148) (pc' := 153) rfl (hb hby at_148) rfl (teq (by decide : (0 : Int32) = (0 : Int32))).1 (by decide) (by decide) ?_
                show Steps p.tables e below (T309.setTop (mkF m 153 #[.val (.long q1), .second, .val (.long q2), .second, .val (.long q3), .second, .val (.long q4), .second, .val (.int p5), .val (.long q3), .second, .val (.long q2), .second, .val (.ref b185), .val (.ref b192), .val (.int (2 : Int32)), .val (.ref b289), .val (.int (0 : Int32)), .val (.int (0 : Int32)), .unset] [])) _
                refine XS.iload X309.here hx rfl (hb hby at_153) rfl ?_
                show Steps p.tables e below (T309.setTop (mkF m 155 #[.val (.long q1), .second, .val (.long q2), .second, .val (.long q3), .second, .val (.long q4), .second, .val (.int p5), .val (.long q3), .second, .val (.long q2), .second, .val (.ref b185), .val (.ref b192), .val (.int (2 : Int32)), .val (.ref b289), .val (.int (0 : Int32)), .val (.int (0 : Int32)), .unset] [(.int (2 : Int32))])) _
                refine XS.ifYes X309.here hx rfl (pc0 := 155) (pc' := 176) rfl (hb hby at_155) rfl ((if0 _ _).trans (feq (by decide : ¬ ((2 : Int32) = (0 : Int32)))).2) (by decide) (by decide) ?_
                show Steps p.tables e below (T309.setTop (mkF m 176 #[.val (.long q1), .second, .val (.long q2), .second, .val (.long q3), .second, .val (.long q4), .second, .val (.int p5), .val (.long q3), .second, .val (.long q2), .second, .val (.ref b185), .val (.ref b192), .val (.int (2 : Int32)), .val (.ref b289), .val (.int (0 : Int32)), .val (.int (0 : Int32)), .unset] [])) _
                refine XS.iconst X309.here hx rfl (hb hby at_176) ?_
                show Steps p.tables e below (T309.setTop (mkF m 177 #[.val (.long q1), .second, .val (.long q2), .second, .val (.long q3), .second, .val (.long q4), .second, .val (.int p5), .val (.long q3), .second, .val (.long q2), .second, .val (.ref b185), .val (.ref b192), .val (.int (2 : Int32)), .val (.ref b289), .val (.int (0 : Int32)), .val (.int (0 : Int32)), .unset] [(.int (1 : Int32))])) _
                exact retN X309 hx (t := .boolean) hret (by simp) (hb hby at_177) hr
              ·
                show Q0 n0 _ T309.heap _
                rw [e311]
                exact ⟨rfl, N309⟩
            ·
              have N281 := Fr.app N193 Nq299
              have f313 := ((f189.ext E192).keep K195)
              obtain ⟨cq312, kq312, q312a, q312b, q312c⟩ := isOf hZ e300 f313
              obtain ⟨_, _, ⟨T314, L314, c314, n314⟩, -, X314, ⟨Lc314, hQ314, l314, y314, z314⟩, st314⟩ := X281.virtualBack hx (y := (⟨"com/example/sablegrid/sablegrid/model/WriteId", "equals", "(Ljava/lang/Object;)Z"⟩ : MethodName)) (z := (⟨"com/example/sablegrid/sablegrid/model/WriteId", "equals", "(Ljava/lang/Object;)Z"⟩ : MethodName)) hown (mvT hZ (hw _ (List.mem_of_getElem? (i := 13) rfl))) (mvT hZ (hw _ (List.mem_of_getElem? (i := 14) rfl))) (notFace_of_selects (args := #[]) (mvT hZ (hw _ (List.mem_of_getElem? (i := 16) rfl)))) (mvT hZ (hw _ (List.mem_of_getElem? (i := 16) rfl))) (mvT hZ (hw _ (List.mem_of_getElem? (i := 15) rfl))) (by decide) (backOf (W := 0) (rm8 l Z a0 hw [] b185 v296 T193.heap n0 O193 g_b185 f301) hZ (hw _ (List.mem_of_getElem? (i := 17) rfl)) (hw _ (List.mem_of_getElem? (i := 2) rfl)) (by decide) (by decide)) q312a q312c (g := (mkF m 139 #[.val (.long q1), .second, .val (.long q2), .second, .val (.long q3), .second, .val (.long q4), .second, .val (.int p5), .val (.long q3), .second, .val (.long q2), .second, .val (.ref b185), .val (.ref b192), .val (.int (2 : Int32)), .val (.ref v296), .val (.int (0 : Int32)), .unset, .unset] [(.ref v296), (.ref b185)])) rfl (by rw [hml]; rfl) (Steps.refl _) (argsL := [(.ref v296)]) (rest := []) (lenOf pd1 rfl) rfl (by show 2 * 0 + _ ≤ _; exact Nat.le_of_eq rfl) (hb hby at_139) (fun _ _ => ⟨rfl, e300, (by decide : 3 + 0 ≤ _), (by decide : 5 + 0 ≤ _)⟩)
              dsimp only [Pt.U, Pt.locs, Pt.cells, Pt.slots] at X314 l314 y314 z314 st314 hQ314
              subst l314 y314 z314
              have X314 : Stand p l e room_1 s m #[(.long q1), (.long q2), (.long q3), (.long q4), (.int p5)] below meth c T314 _ 3 5 := X314
              obtain ⟨rfl, Nq315, e316⟩ := hQ314
              have N314 := Fr.app N281 Nq315
              obtain ⟨fs, hr, hrun, hended, hW, hsame⟩ := X314.leave (v := some (.int (1 : Int32))) (fun h => by rw [hret] at h; cases h)
              refine ⟨_, _, pre282 _ ?_, hrun, hended, _, _, rfl, ?_, ⟨_, rfl⟩, hW, hsame.mono (by decide) (by decide)⟩
              ·
                show Steps p.tables e below (T193.setTop (mkF m 117 #[.val (.long q1), .second, .val (.long q2), .second, .val (.long q3), .second, .val (.long q4), .second, .val (.int p5), .val (.long q3), .second, .val (.long q2), .second, .val (.ref b185), .val (.ref b192), .val (.int (2 : Int32)), .unset, .unset, .unset, .unset] [(.long q1)])) _
                refine st281 _ ?_
                show Steps p.tables e below (T281.setTop (mkF m 120 #[.val (.long q1), .second, .val (.long q2), .second, .val (.long q3), .second, .val (.long q4), .second, .val (.int p5), .val (.long q3), .second, .val (.long q2), .second, .val (.ref b185), .val (.ref b192), .val (.int (2 : Int32)), .unset, .unset, .unset, .unset] [(.ref v296)])) _
                refine XS.astore X281.here hx rfl (hb hby at_120) rfl rfl (l' := #[.val (.long q1), .second, .val (.long q2), .second, .val (.long q3), .second, .val (.long q4), .second, .val (.int p5), .val (.long q3), .second, .val (.long q2), .second, .val (.ref b185), .val (.ref b192), .val (.int (2 : Int32)), .val (.ref v296), .unset, .unset, .unset]) rfl ?_
                show Steps p.tables e below (T281.setTop (mkF m 122 #[.val (.long q1), .second, .val (.long q2), .second, .val (.long q3), .second, .val (.long q4), .second, .val (.int p5), .val (.long q3), .second, .val (.long q2), .second, .val (.ref b185), .val (.ref b192), .val (.int (2 : Int32)), .val (.ref v296), .unset, .unset, .unset] [])) _
                refine XS.iconst X281.here hx rfl (hb hby at_122) ?_
                show Steps p.tables e below (T281.setTop (mkF m 123 #[.val (.long q1), .second, .val (.long q2), .second, .val (.long q3), .second, .val (.long q4), .second, .val (.int p5), .val (.long q3), .second, .val (.long q2), .second, .val (.ref b185), .val (.ref b192), .val (.int (2 : Int32)), .val (.ref v296), .unset, .unset, .unset] [(.int (0 : Int32))])) _
                refine XS.istore X281.here hx rfl (hb hby at_123) rfl (l' := #[.val (.long q1), .second, .val (.long q2), .second, .val (.long q3), .second, .val (.long q4), .second, .val (.int p5), .val (.long q3), .second, .val (.long q2), .second, .val (.ref b185), .val (.ref b192), .val (.int (2 : Int32)), .val (.ref v296), .val (.int (0 : Int32)), .unset, .unset]) rfl ?_
                show Steps p.tables e below (T281.setTop (mkF m 125 #[.val (.long q1), .second, .val (.long q2), .second, .val (.long q3), .second, .val (.long q4), .second, .val (.int p5), .val (.long q3), .second, .val (.long q2), .second, .val (.ref b185), .val (.ref b192), .val (.int (2 : Int32)), .val (.ref v296), .val (.int (0 : Int32)), .unset, .unset] [])) _
                refine XS.goto X281.here hx rfl (pc0 := 125) (pc' := 135) rfl (hb hby at_125) (by decide) (by decide) ?_
                show Steps p.tables e below (T281.setTop (mkF m 135 #[.val (.long q1), .second, .val (.long q2), .second, .val (.long q3), .second, .val (.long q4), .second, .val (.int p5), .val (.long q3), .second, .val (.long q2), .second, .val (.ref b185), .val (.ref b192), .val (.int (2 : Int32)), .val (.ref v296), .val (.int (0 : Int32)), .unset, .unset] [])) _
                refine XS.aload X281.here hx rfl (hb hby at_135) rfl rfl ?_
                show Steps p.tables e below (T281.setTop (mkF m 137 #[.val (.long q1), .second, .val (.long q2), .second, .val (.long q3), .second, .val (.long q4), .second, .val (.int p5), .val (.long q3), .second, .val (.long q2), .second, .val (.ref b185), .val (.ref b192), .val (.int (2 : Int32)), .val (.ref v296), .val (.int (0 : Int32)), .unset, .unset] [(.ref b185)])) _
                refine XS.aload X281.here hx rfl (hb hby at_137) rfl rfl ?_
                show Steps p.tables e below (T281.setTop (mkF m 139 #[.val (.long q1), .second, .val (.long q2), .second, .val (.long q3), .second, .val (.long q4), .second, .val (.int p5), .val (.long q3), .second, .val (.long q2), .second, .val (.ref b185), .val (.ref b192), .val (.int (2 : Int32)), .val (.ref v296), .val (.int (0 : Int32)), .unset, .unset] [(.ref v296), (.ref b185)])) _
                refine st314.trans ?_
                show Steps p.tables e below (T314.setTop (mkF m 142 #[.val (.long q1), .second, .val (.long q2), .second, .val (.long q3), .second, .val (.long q4), .second, .val (.int p5), .val (.long q3), .second, .val (.long q2), .second, .val (.ref b185), .val (.ref b192), .val (.int (2 : Int32)), .val (.ref v296), .val (.int (0 : Int32)), .unset, .unset] [(.int (0 : Int32))])) _
                refine XS.istore X314.here hx rfl (hb hby at_142) rfl (l' := #[.val (.long q1), .second, .val (.long q2), .second, .val (.long q3), .second, .val (.long q4), .second, .val (.int p5), .val (.long q3), .second, .val (.long q2), .second, .val (.ref b185), .val (.ref b192), .val (.int (2 : Int32)), .val (.ref v296), .val (.int (0 : Int32)), .val (.int (0 : Int32)), .unset]) rfl ?_
                show Steps p.tables e below (T314.setTop (mkF m 144 #[.val (.long q1), .second, .val (.long q2), .second, .val (.long q3), .second, .val (.long q4), .second, .val (.int p5), .val (.long q3), .second, .val (.long q2), .second, .val (.ref b185), .val (.ref b192), .val (.int (2 : Int32)), .val (.ref v296), .val (.int (0 : Int32)), .val (.int (0 : Int32)), .unset] [])) _
                refine XS.iload X314.here hx rfl (hb hby at_144) rfl ?_
                show Steps p.tables e below (T314.setTop (mkF m 146 #[.val (.long q1), .second, .val (.long q2), .second, .val (.long q3), .second, .val (.long q4), .second, .val (.int p5), .val (.long q3), .second, .val (.long q2), .second, .val (.ref b185), .val (.ref b192), .val (.int (2 : Int32)), .val (.ref v296), .val (.int (0 : Int32)), .val (.int (0 : Int32)), .unset] [(.int (0 : Int32))])) _
                refine XS.iload X314.here hx rfl (hb hby at_146) rfl ?_
                show Steps p.tables e below (T314.setTop (mkF m 148 #[.val (.long q1), .second, .val (.long q2), .second, .val (.long q3), .second, .val (.long q4), .second, .val (.int p5), .val (.long q3), .second, .val (.long q2), .second, .val (.ref b185), .val (.ref b192), .val (.int (2 : Int32)), .val (.ref v296), .val (.int (0 : Int32)), .val (.int (0 : Int32)), .unset] [(.int (0 : Int32)), (.int (0 : Int32))])) _
                refine XS.icmpYes X314.here hx rfl (pc0 := 148) (pc' := 153) rfl (hb hby at_148) rfl (teq (by decide : (0 : Int32) = (0 : Int32))).1 (by decide) (by decide) ?_
                show Steps p.tables e below (T314.setTop (mkF m 153 #[.val (.long q1), .second, .val (.long q2), .second, .val (.long q3), .second, .val (.long q4), .second, .val (.int p5), .val (.long q3), .second, .val (.long q2), .second, .val (.ref b185), .val (.ref b192), .val (.int (2 : Int32)), .val (.ref v296), .val (.int (0 : Int32)), .val (.int (0 : Int32)), .unset] [])) _
                refine XS.iload X314.here hx rfl (hb hby at_153) rfl ?_
                show Steps p.tables e below (T314.setTop (mkF m 155 #[.val (.long q1), .second, .val (.long q2), .second, .val (.long q3), .second, .val (.long q4), .second, .val (.int p5), .val (.long q3), .second, .val (.long q2), .second, .val (.ref b185), .val (.ref b192), .val (.int (2 : Int32)), .val (.ref v296), .val (.int (0 : Int32)), .val (.int (0 : Int32)), .unset] [(.int (2 : Int32))])) _
                refine XS.ifYes X314.here hx rfl (pc0 := 155) (pc' := 176) rfl (hb hby at_155) rfl ((if0 _ _).trans (feq (by decide : ¬ ((2 : Int32) = (0 : Int32)))).2) (by decide) (by decide) ?_
                show Steps p.tables e below (T314.setTop (mkF m 176 #[.val (.long q1), .second, .val (.long q2), .second, .val (.long q3), .second, .val (.long q4), .second, .val (.int p5), .val (.long q3), .second, .val (.long q2), .second, .val (.ref b185), .val (.ref b192), .val (.int (2 : Int32)), .val (.ref v296), .val (.int (0 : Int32)), .val (.int (0 : Int32)), .unset] [])) _
                refine XS.iconst X314.here hx rfl (hb hby at_176) ?_
                show Steps p.tables e below (T314.setTop (mkF m 177 #[.val (.long q1), .second, .val (.long q2), .second, .val (.long q3), .second, .val (.long q4), .second, .val (.int p5), .val (.long q3), .second, .val (.long q2), .second, .val (.ref b185), .val (.ref b192), .val (.int (2 : Int32)), .val (.ref v296), .val (.int (0 : Int32)), .val (.int (0 : Int32)), .unset] [(.int (1 : Int32))])) _
                exact retN X314 hx (t := .boolean) hret (by simp) (hb hby at_177) hr
              ·
                show Q0 n0 _ T314.heap _
                rw [e316]
                exact ⟨rfl, N314⟩
          ·
            have hq317 : (((p5.toUInt32 >>> ((2 : Int32) &&& 31).toUInt32).toInt32) &&& (3 : Int32)) = (3 : Int32) := (own_geq (n := 3) (k := (3 : Int32)) (by decide) (by have q0 := own_and (x := ((p5.toUInt32 >>> ((2 : Int32) &&& 31).toUInt32).toInt32)) (k := (3 : Int32)) (n := 3) (by decide) (by decide); have q1 := own_neq (n := 0) (k := (0 : Int32)) (by decide) hc200; have q2 := own_neq (n := 1) (k := (1 : Int32)) (by decide) hc271; have q3 := own_neq (n := 2) (k := (2 : Int32)) (by decide) hc279; omega))
            have pre318 : ∀ t, Steps p.tables e below (T193.setTop (mkF m 113 #[.val (.long q1), .second, .val (.long q2), .second, .val (.long q3), .second, .val (.long q4), .second, .val (.int p5), .val (.long q3), .second, .val (.long q2), .second, .val (.ref b185), .val (.ref b192), .val (.int (3 : Int32)), .unset, .unset, .unset, .unset] [(.int (2 : Int32)), (.int (3 : Int32))])) t → Steps p.tables e below (s₁.setTop (entryFrame m #[(.long q1), (.long q2), (.long q3), (.long q4), (.int p5)] maxLocals)) t := fun t k => pre278 t (by rw [hq317]; exact k)
            have f319 := ((f189.ext E192).keep K195)
            have lt320 : b185 < T186.heap.size := (Nat.lt_of_lt_of_le A185.lt K188.1)
            have ne321 : b185 ≠ b192 := Nat.ne_of_lt (Nat.lt_of_lt_of_le lt320 sz_b192)
            have f322 := ((f190.ext E192).keep K195 (ninS ne321 nin0))
            have f323 := ((f191.ext E192).keep K195 (ninS ne321 nin0))
            obtain ⟨cq324, kq324, q324a, q324b, q324c⟩ := isOf hZ rfl f319
            obtain ⟨_, _, ⟨T325, L325, c325, n325⟩, -, X325, ⟨Lc325, hQ325, l325, y325, z325⟩, st325⟩ := X193.virtualBack hx (y := (⟨"com/example/sablegrid/sablegrid/model/WriteId", "equals", "(Ljava/lang/Object;)Z"⟩ : MethodName)) (z := (⟨"com/example/sablegrid/sablegrid/model/WriteId", "equals", "(Ljava/lang/Object;)Z"⟩ : MethodName)) hown (mvT hZ (hw _ (List.mem_of_getElem? (i := 13) rfl))) (mvT hZ (hw _ (List.mem_of_getElem? (i := 14) rfl))) (notFace_of_selects (args := #[]) (mvT hZ (hw _ (List.mem_of_getElem? (i := 16) rfl)))) (mvT hZ (hw _ (List.mem_of_getElem? (i := 16) rfl))) (mvT hZ (hw _ (List.mem_of_getElem? (i := 15) rfl))) (by decide) (backOf (W := 0) (rm9 l Z a0 hw [] b185 q1 q2 T193.heap n0 O193 g_b185 f319 f322 f323) hZ (hw _ (List.mem_of_getElem? (i := 17) rfl)) (hw _ (List.mem_of_getElem? (i := 2) rfl)) (by decide) (by decide)) q324a q324c (g := (mkF m 139 #[.val (.long q1), .second, .val (.long q2), .second, .val (.long q3), .second, .val (.long q4), .second, .val (.int p5), .val (.long q3), .second, .val (.long q2), .second, .val (.ref b185), .val (.ref b192), .val (.int (3 : Int32)), .val (.ref b185), .val (.int (1 : Int32)), .unset, .unset] [(.ref b185), (.ref b185)])) rfl (by rw [hml]; rfl) (Steps.refl _) (argsL := [(.ref b185)]) (rest := []) (lenOf pd1 rfl) rfl (by show 2 * 0 + _ ≤ _; exact Nat.le_of_eq rfl) (hb hby at_139) (fun _ _ => ⟨rfl, rfl, (by decide : 2 + 0 ≤ _), (by decide : 4 + 0 ≤ _)⟩)
            dsimp only [Pt.U, Pt.locs, Pt.cells, Pt.slots] at X325 l325 y325 z325 st325 hQ325
            subst l325 y325 z325
            have X325 : Stand p l e room_1 s m #[(.long q1), (.long q2), (.long q3), (.long q4), (.int p5)] below meth c T325 _ 2 4 := X325
            obtain ⟨rfl, Nq326, e327⟩ := hQ325
            have N325 := Fr.app N193 Nq326
            obtain ⟨fs, hr, hrun, hended, hW, hsame⟩ := X325.leave (v := some (.int (1 : Int32))) (fun h => by rw [hret] at h; cases h)
            refine ⟨_, _, pre318 _ ?_, hrun, hended, _, _, rfl, ?_, ⟨_, rfl⟩, hW, hsame.mono (by decide) (by decide)⟩
            ·
              show Steps p.tables e below (T193.setTop (mkF m 113 #[.val (.long q1), .second, .val (.long q2), .second, .val (.long q3), .second, .val (.long q4), .second, .val (.int p5), .val (.long q3), .second, .val (.long q2), .second, .val (.ref b185), .val (.ref b192), .val (.int (3 : Int32)), .unset, .unset, .unset, .unset] [(.int (2 : Int32)), (.int (3 : Int32))])) _
              refine XS.icmpYes X193.here hx rfl (pc0 := 113) (pc' := 128) rfl (hb hby at_113) rfl (feq (by decide : ¬ ((3 : Int32) = (2 : Int32)))).2 (by decide) (by decide) ?_
              show Steps p.tables e below (T193.setTop (mkF m 128 #[.val (.long q1), .second, .val (.long q2), .second, .val (.long q3), .second, .val (.long q4), .second, .val (.int p5), .val (.long q3), .second, .val (.long q2), .second, .val (.ref b185), .val (.ref b192), .val (.int (3 : Int32)), .unset, .unset, .unset, .unset] [])) _
              refine XS.aload X193.here hx rfl (hb hby at_128) rfl rfl ?_
              show Steps p.tables e below (T193.setTop (mkF m 130 #[.val (.long q1), .second, .val (.long q2), .second, .val (.long q3), .second, .val (.long q4), .second, .val (.int p5), .val (.long q3), .second, .val (.long q2), .second, .val (.ref b185), .val (.ref b192), .val (.int (3 : Int32)), .unset, .unset, .unset, .unset] [(.ref b185)])) _
              refine XS.astore X193.here hx rfl (hb hby at_130) rfl rfl (l' := #[.val (.long q1), .second, .val (.long q2), .second, .val (.long q3), .second, .val (.long q4), .second, .val (.int p5), .val (.long q3), .second, .val (.long q2), .second, .val (.ref b185), .val (.ref b192), .val (.int (3 : Int32)), .val (.ref b185), .unset, .unset, .unset]) rfl ?_
              show Steps p.tables e below (T193.setTop (mkF m 132 #[.val (.long q1), .second, .val (.long q2), .second, .val (.long q3), .second, .val (.long q4), .second, .val (.int p5), .val (.long q3), .second, .val (.long q2), .second, .val (.ref b185), .val (.ref b192), .val (.int (3 : Int32)), .val (.ref b185), .unset, .unset, .unset] [])) _
              refine XS.iconst X193.here hx rfl (hb hby at_132) ?_
              show Steps p.tables e below (T193.setTop (mkF m 133 #[.val (.long q1), .second, .val (.long q2), .second, .val (.long q3), .second, .val (.long q4), .second, .val (.int p5), .val (.long q3), .second, .val (.long q2), .second, .val (.ref b185), .val (.ref b192), .val (.int (3 : Int32)), .val (.ref b185), .unset, .unset, .unset] [(.int (1 : Int32))])) _
              refine XS.istore X193.here hx rfl (hb hby at_133) rfl (l' := #[.val (.long q1), .second, .val (.long q2), .second, .val (.long q3), .second, .val (.long q4), .second, .val (.int p5), .val (.long q3), .second, .val (.long q2), .second, .val (.ref b185), .val (.ref b192), .val (.int (3 : Int32)), .val (.ref b185), .val (.int (1 : Int32)), .unset, .unset]) rfl ?_
              show Steps p.tables e below (T193.setTop (mkF m 135 #[.val (.long q1), .second, .val (.long q2), .second, .val (.long q3), .second, .val (.long q4), .second, .val (.int p5), .val (.long q3), .second, .val (.long q2), .second, .val (.ref b185), .val (.ref b192), .val (.int (3 : Int32)), .val (.ref b185), .val (.int (1 : Int32)), .unset, .unset] [])) _
              refine XS.aload X193.here hx rfl (hb hby at_135) rfl rfl ?_
              show Steps p.tables e below (T193.setTop (mkF m 137 #[.val (.long q1), .second, .val (.long q2), .second, .val (.long q3), .second, .val (.long q4), .second, .val (.int p5), .val (.long q3), .second, .val (.long q2), .second, .val (.ref b185), .val (.ref b192), .val (.int (3 : Int32)), .val (.ref b185), .val (.int (1 : Int32)), .unset, .unset] [(.ref b185)])) _
              refine XS.aload X193.here hx rfl (hb hby at_137) rfl rfl ?_
              show Steps p.tables e below (T193.setTop (mkF m 139 #[.val (.long q1), .second, .val (.long q2), .second, .val (.long q3), .second, .val (.long q4), .second, .val (.int p5), .val (.long q3), .second, .val (.long q2), .second, .val (.ref b185), .val (.ref b192), .val (.int (3 : Int32)), .val (.ref b185), .val (.int (1 : Int32)), .unset, .unset] [(.ref b185), (.ref b185)])) _
              refine st325.trans ?_
              show Steps p.tables e below (T325.setTop (mkF m 142 #[.val (.long q1), .second, .val (.long q2), .second, .val (.long q3), .second, .val (.long q4), .second, .val (.int p5), .val (.long q3), .second, .val (.long q2), .second, .val (.ref b185), .val (.ref b192), .val (.int (3 : Int32)), .val (.ref b185), .val (.int (1 : Int32)), .unset, .unset] [(.int (1 : Int32))])) _
              refine XS.istore X325.here hx rfl (hb hby at_142) rfl (l' := #[.val (.long q1), .second, .val (.long q2), .second, .val (.long q3), .second, .val (.long q4), .second, .val (.int p5), .val (.long q3), .second, .val (.long q2), .second, .val (.ref b185), .val (.ref b192), .val (.int (3 : Int32)), .val (.ref b185), .val (.int (1 : Int32)), .val (.int (1 : Int32)), .unset]) rfl ?_
              show Steps p.tables e below (T325.setTop (mkF m 144 #[.val (.long q1), .second, .val (.long q2), .second, .val (.long q3), .second, .val (.long q4), .second, .val (.int p5), .val (.long q3), .second, .val (.long q2), .second, .val (.ref b185), .val (.ref b192), .val (.int (3 : Int32)), .val (.ref b185), .val (.int (1 : Int32)), .val (.int (1 : Int32)), .unset] [])) _
              refine XS.iload X325.here hx rfl (hb hby at_144) rfl ?_
              show Steps p.tables e below (T325.setTop (mkF m 146 #[.val (.long q1), .second, .val (.long q2), .second, .val (.long q3), .second, .val (.long q4), .second, .val (.int p5), .val (.long q3), .second, .val (.long q2), .second, .val (.ref b185), .val (.ref b192), .val (.int (3 : Int32)), .val (.ref b185), .val (.int (1 : Int32)), .val (.int (1 : Int32)), .unset] [(.int (1 : Int32))])) _
              refine XS.iload X325.here hx rfl (hb hby at_146) rfl ?_
              show Steps p.tables e below (T325.setTop (mkF m 148 #[.val (.long q1), .second, .val (.long q2), .second, .val (.long q3), .second, .val (.long q4), .second, .val (.int p5), .val (.long q3), .second, .val (.long q2), .second, .val (.ref b185), .val (.ref b192), .val (.int (3 : Int32)), .val (.ref b185), .val (.int (1 : Int32)), .val (.int (1 : Int32)), .unset] [(.int (1 : Int32)), (.int (1 : Int32))])) _
              refine XS.icmpYes X325.here hx rfl (pc0 := 148) (pc' := 153) rfl (hb hby at_148) rfl (teq (by decide : (1 : Int32) = (1 : Int32))).1 (by decide) (by decide) ?_
              show Steps p.tables e below (T325.setTop (mkF m 153 #[.val (.long q1), .second, .val (.long q2), .second, .val (.long q3), .second, .val (.long q4), .second, .val (.int p5), .val (.long q3), .second, .val (.long q2), .second, .val (.ref b185), .val (.ref b192), .val (.int (3 : Int32)), .val (.ref b185), .val (.int (1 : Int32)), .val (.int (1 : Int32)), .unset] [])) _
              refine XS.iload X325.here hx rfl (hb hby at_153) rfl ?_
              show Steps p.tables e below (T325.setTop (mkF m 155 #[.val (.long q1), .second, .val (.long q2), .second, .val (.long q3), .second, .val (.long q4), .second, .val (.int p5), .val (.long q3), .second, .val (.long q2), .second, .val (.ref b185), .val (.ref b192), .val (.int (3 : Int32)), .val (.ref b185), .val (.int (1 : Int32)), .val (.int (1 : Int32)), .unset] [(.int (3 : Int32))])) _
              refine XS.ifYes X325.here hx rfl (pc0 := 155) (pc' := 176) rfl (hb hby at_155) rfl ((if0 _ _).trans (feq (by decide : ¬ ((3 : Int32) = (0 : Int32)))).2) (by decide) (by decide) ?_
              show Steps p.tables e below (T325.setTop (mkF m 176 #[.val (.long q1), .second, .val (.long q2), .second, .val (.long q3), .second, .val (.long q4), .second, .val (.int p5), .val (.long q3), .second, .val (.long q2), .second, .val (.ref b185), .val (.ref b192), .val (.int (3 : Int32)), .val (.ref b185), .val (.int (1 : Int32)), .val (.int (1 : Int32)), .unset] [])) _
              refine XS.iconst X325.here hx rfl (hb hby at_176) ?_
              show Steps p.tables e below (T325.setTop (mkF m 177 #[.val (.long q1), .second, .val (.long q2), .second, .val (.long q3), .second, .val (.long q4), .second, .val (.int p5), .val (.long q3), .second, .val (.long q2), .second, .val (.ref b185), .val (.ref b192), .val (.int (3 : Int32)), .val (.ref b185), .val (.int (1 : Int32)), .val (.int (1 : Int32)), .unset] [(.int (1 : Int32))])) _
              exact retN X325 hx (t := .boolean) hret (by simp) (hb hby at_177) hr
            ·
              show Q0 n0 _ T325.heap _
              rw [e327]
              exact ⟨rfl, N325⟩
  ·
    have hq328 : (p5 &&& (1 : Int32)) = (1 : Int32) := (own_geq (n := 1) (k := (1 : Int32)) (by decide) (by have q0 := own_and (x := p5) (k := (1 : Int32)) (n := 1) (by decide) (by decide); have q1 := own_neq (n := 0) (k := (0 : Int32)) (by decide) hc2; omega))
    have pre329 : ∀ t, Steps p.tables e below (s₁.setTop (mkF m 4 #[.val (.long q1), .second, .val (.long q2), .second, .val (.long q3), .second, .val (.long q4), .second, .val (.int p5), .unset, .unset, .unset, .unset, .unset, .unset, .unset, .unset, .unset, .unset, .unset] [(.int (1 : Int32))])) t → Steps p.tables e below (s₁.setTop (entryFrame m #[(.long q1), (.long q2), (.long q3), (.long q4), (.int p5)] maxLocals)) t := fun t k => pre1 t (by rw [hq328]; exact k)
    have pre330 : ∀ t, Steps p.tables e below (s₁.setTop (mkF m 19 #[.val (.long q1), .second, .val (.long q2), .second, .val (.long q3), .second, .val (.long q4), .second, .val (.int p5), .val (.long q1), .second, .unset, .unset, .unset, .unset, .unset, .unset, .unset, .unset, .unset] [(.int (p5 &&& (2 : Int32)))])) t → Steps p.tables e below (s₁.setTop (entryFrame m #[(.long q1), (.long q2), (.long q3), (.long q4), (.int p5)] maxLocals)) t := fun t k => by
      refine pre329 _ ?_
      show Steps p.tables e below (s₁.setTop (mkF m 4 #[.val (.long q1), .second, .val (.long q2), .second, .val (.long q3), .second, .val (.long q4), .second, .val (.int p5), .unset, .unset, .unset, .unset, .unset, .unset, .unset, .unset, .unset, .unset, .unset] [(.int (1 : Int32))])) _
      refine XS.ifNo X0.here hx rfl (hb hby at_4) rfl ((if0 _ _).trans (feq (by decide : ¬ ((1 : Int32) = (0 : Int32)))).1) ?_
      show Steps p.tables e below (s₁.setTop (mkF m 7 #[.val (.long q1), .second, .val (.long q2), .second, .val (.long q3), .second, .val (.long q4), .second, .val (.int p5), .unset, .unset, .unset, .unset, .unset, .unset, .unset, .unset, .unset, .unset, .unset] [])) _
      refine XS.lloadN X0.here hx rfl (hb hby at_7) rfl ?_
      show Steps p.tables e below (s₁.setTop (mkF m 8 #[.val (.long q1), .second, .val (.long q2), .second, .val (.long q3), .second, .val (.long q4), .second, .val (.int p5), .unset, .unset, .unset, .unset, .unset, .unset, .unset, .unset, .unset, .unset, .unset] [(.long q1)])) _
      refine XS.goto X0.here hx rfl (pc0 := 8) (pc' := 13) rfl (hb hby at_8) (by decide) (by decide) ?_
      show Steps p.tables e below (s₁.setTop (mkF m 13 #[.val (.long q1), .second, .val (.long q2), .second, .val (.long q3), .second, .val (.long q4), .second, .val (.int p5), .unset, .unset, .unset, .unset, .unset, .unset, .unset, .unset, .unset, .unset, .unset] [(.long q1)])) _
      refine XS.lstore X0.here hx rfl (hb hby at_13) rfl (l' := #[.val (.long q1), .second, .val (.long q2), .second, .val (.long q3), .second, .val (.long q4), .second, .val (.int p5), .val (.long q1), .second, .unset, .unset, .unset, .unset, .unset, .unset, .unset, .unset, .unset]) rfl ?_
      show Steps p.tables e below (s₁.setTop (mkF m 15 #[.val (.long q1), .second, .val (.long q2), .second, .val (.long q3), .second, .val (.long q4), .second, .val (.int p5), .val (.long q1), .second, .unset, .unset, .unset, .unset, .unset, .unset, .unset, .unset, .unset] [])) _
      refine XS.iload X0.here hx rfl (hb hby at_15) rfl ?_
      show Steps p.tables e below (s₁.setTop (mkF m 17 #[.val (.long q1), .second, .val (.long q2), .second, .val (.long q3), .second, .val (.long q4), .second, .val (.int p5), .val (.long q1), .second, .unset, .unset, .unset, .unset, .unset, .unset, .unset, .unset, .unset] [(.int p5)])) _
      refine XS.iconst X0.here hx rfl (hb hby at_17) ?_
      show Steps p.tables e below (s₁.setTop (mkF m 18 #[.val (.long q1), .second, .val (.long q2), .second, .val (.long q3), .second, .val (.long q4), .second, .val (.int p5), .val (.long q1), .second, .unset, .unset, .unset, .unset, .unset, .unset, .unset, .unset, .unset] [(.int (2 : Int32)), (.int p5)])) _
      refine XS.iand X0.here hx rfl (hb hby at_18) rfl ?_
      exact k
    by_cases hc331 : (p5 &&& (2 : Int32)) = (0 : Int32)
    ·
      have pre332 : ∀ t, Steps p.tables e below (s₁.setTop (mkF m 19 #[.val (.long q1), .second, .val (.long q2), .second, .val (.long q3), .second, .val (.long q4), .second, .val (.int p5), .val (.long q1), .second, .unset, .unset, .unset, .unset, .unset, .unset, .unset, .unset, .unset] [(.int (0 : Int32))])) t → Steps p.tables e below (s₁.setTop (entryFrame m #[(.long q1), (.long q2), (.long q3), (.long q4), (.int p5)] maxLocals)) t := fun t k => pre330 t (by rw [hc331]; exact k)
      obtain ⟨T333, h333, X333, e333, E333, A333, D333, -, st333⟩ := newO X0 hx hZ hown (hw _ (List.mem_of_getElem? (i := 0) rfl)) (hw _ (List.mem_of_getElem? (i := 1) rfl)) (hw _ (List.mem_of_getElem? (i := 2) rfl)) e0 (g := (mkF m 30 #[.val (.long q1), .second, .val (.long q2), .second, .val (.long q3), .second, .val (.long q4), .second, .val (.int p5), .val (.long q1), .second, .val (.long q4), .second, .unset, .unset, .unset, .unset, .unset, .unset, .unset] [])) rfl (hb hby at_30) (by decide) (by decide)
      obtain ⟨b333, g333⟩ : ∃ z, z = h0.size := ⟨_, rfl⟩
      rw [← g333] at A333 D333 st333
      have M333 : h0.size ≤ h333.size := Nat.le_trans (Nat.le_refl _) E333.1
      have O333 := Old.ext O0 E333
      have sz_b333 : h0.size ≤ b333 := Nat.le_of_eq g333.symm
      have g_b333 : n0 ≤ b333 := Nat.le_trans (own_oz O0) (Nat.le_trans (Nat.le_refl _) sz_b333)
      have F333_10 : Fld Z h333 b333 "com/example/sablegrid/sablegrid/model/WriteId" "origin" "J" (.long (0 : Int64)) := D333 (Or.inr (hw _ (List.mem_of_getElem? (i := 10) rfl))) (ty := .long) (by decide)
      have F333_12 : Fld Z h333 b333 "com/example/sablegrid/sablegrid/model/WriteId" "sequence" "J" (.long (0 : Int64)) := D333 (Or.inr (hw _ (List.mem_of_getElem? (i := 12) rfl))) (ty := .long) (by decide)
      obtain ⟨_, _, ⟨T334, L334, c334, n334⟩, -, X334, ⟨Lc334, hQ334, l334, y334, z334⟩, st334⟩ := X333.specialBack hx (y := (⟨"com/example/sablegrid/sablegrid/model/WriteId", "<init>", "(JJ)V"⟩ : MethodName)) rfl hown (mvT hZ (hw _ (List.mem_of_getElem? (i := 3) rfl))) (mvT hZ (hw _ (List.mem_of_getElem? (i := 4) rfl))) (mvT hZ (hw _ (List.mem_of_getElem? (i := 5) rfl))) (by decide) (backOf (W := 1) (rm1 l Z a0 hw [] b333 q1 q2 h333 n0 O333 g_b333 A333 F333_10 F333_12) hZ (hw _ (List.mem_of_getElem? (i := 5) rfl)) (hw _ (List.mem_of_getElem? (i := 2) rfl)) (by decide) (by decide)) (g := (mkF m 36 #[.val (.long q1), .second, .val (.long q2), .second, .val (.long q3), .second, .val (.long q4), .second, .val (.int p5), .val (.long q1), .second, .val (.long q4), .second, .unset, .unset, .unset, .unset, .unset, .unset, .unset] [(.long q2), (.long q1), (.ref b333), (.ref b333)])) rfl (by rw [hml]; rfl) (Steps.refl _) (a := b333) (argsL := [(.long q1), (.long q2)]) (rest := [(.ref b333)]) (lenOf pd0 rfl) rfl (by show 2 * 0 + _ ≤ _; exact Nat.le_of_eq rfl) (hb hby at_36) (fun _ _ => ⟨rfl, e333, (by decide : 1 + 0 ≤ _), (by decide : 2 + 0 ≤ _)⟩)
      dsimp only [Pt.U, Pt.locs, Pt.cells, Pt.slots] at X334 l334 y334 z334 st334 hQ334
      subst l334 y334 z334
      have X334 : Stand p l e room_1 s m #[(.long q1), (.long q2), (.long q3), (.long q4), (.int p5)] below meth c T334 _ 1 2 := X334
      obtain ⟨rfl, Nq335, K336, f337, f338, f339⟩ := hQ334
      have N334 := Fr.app N0 Nq335
      have M334 : h0.size ≤ T334.heap.size := Nat.le_trans M333 K336.1
      have O334 := Old.keep O333 K336 (allS g_b333 all0)
      obtain ⟨T340, h340, X340, e340, E340, A340, D340, -, st340⟩ := newO X334 hx hZ hown (hw _ (List.mem_of_getElem? (i := 0) rfl)) (hw _ (List.mem_of_getElem? (i := 1) rfl)) (hw _ (List.mem_of_getElem? (i := 2) rfl)) rfl (g := (mkF m 41 #[.val (.long q1), .second, .val (.long q2), .second, .val (.long q3), .second, .val (.long q4), .second, .val (.int p5), .val (.long q1), .second, .val (.long q4), .second, .val (.ref b333), .unset, .unset, .unset, .unset, .unset, .unset] [])) rfl (hb hby at_41) (by decide) (by decide)
      obtain ⟨b340, g340⟩ : ∃ z, z = T334.heap.size := ⟨_, rfl⟩
      rw [← g340] at A340 D340 st340
      have M340 : h0.size ≤ h340.size := Nat.le_trans M334 E340.1
      have O340 := Old.ext O334 E340
      have sz_b340 : T334.heap.size ≤ b340 := Nat.le_of_eq g340.symm
      have g_b340 : n0 ≤ b340 := Nat.le_trans (own_oz O0) (Nat.le_trans M334 sz_b340)
      have F340_10 : Fld Z h340 b340 "com/example/sablegrid/sablegrid/model/WriteId" "origin" "J" (.long (0 : Int64)) := D340 (Or.inr (hw _ (List.mem_of_getElem? (i := 10) rfl))) (ty := .long) (by decide)
      have F340_12 : Fld Z h340 b340 "com/example/sablegrid/sablegrid/model/WriteId" "sequence" "J" (.long (0 : Int64)) := D340 (Or.inr (hw _ (List.mem_of_getElem? (i := 12) rfl))) (ty := .long) (by decide)
      obtain ⟨_, _, ⟨T341, L341, c341, n341⟩, -, X341, ⟨Lc341, hQ341, l341, y341, z341⟩, st341⟩ := X340.specialBack hx (y := (⟨"com/example/sablegrid/sablegrid/model/WriteId", "<init>", "(JJ)V"⟩ : MethodName)) rfl hown (mvT hZ (hw _ (List.mem_of_getElem? (i := 3) rfl))) (mvT hZ (hw _ (List.mem_of_getElem? (i := 4) rfl))) (mvT hZ (hw _ (List.mem_of_getElem? (i := 5) rfl))) (by decide) (backOf (W := 1) (rm1 l Z a0 hw [] b340 q1 q4 h340 n0 O340 g_b340 A340 F340_10 F340_12) hZ (hw _ (List.mem_of_getElem? (i := 5) rfl)) (hw _ (List.mem_of_getElem? (i := 2) rfl)) (by decide) (by decide)) (g := (mkF m 49 #[.val (.long q1), .second, .val (.long q2), .second, .val (.long q3), .second, .val (.long q4), .second, .val (.int p5), .val (.long q1), .second, .val (.long q4), .second, .val (.ref b333), .unset, .unset, .unset, .unset, .unset, .unset] [(.long q4), (.long q1), (.ref b340), (.ref b340)])) rfl (by rw [hml]; rfl) (Steps.refl _) (a := b340) (argsL := [(.long q1), (.long q4)]) (rest := [(.ref b340)]) (lenOf pd0 rfl) rfl (by show 2 * 0 + _ ≤ _; exact Nat.le_of_eq rfl) (hb hby at_49) (fun _ _ => ⟨rfl, e340, (by decide : 2 + 0 ≤ _), (by decide : 4 + 0 ≤ _)⟩)
      dsimp only [Pt.U, Pt.locs, Pt.cells, Pt.slots] at X341 l341 y341 z341 st341 hQ341
      subst l341 y341 z341
      have X341 : Stand p l e room_1 s m #[(.long q1), (.long q2), (.long q3), (.long q4), (.int p5)] below meth c T341 _ 2 4 := X341
      obtain ⟨rfl, Nq342, K343, f344, f345, f346⟩ := hQ341
      have N341 := Fr.app N334 Nq342
      have M341 : h0.size ≤ T341.heap.size := Nat.le_trans M340 K343.1
      have O341 := Old.keep O340 K343 (allS g_b340 all0)
      have pre347 : ∀ t, Steps p.tables e below (T341.setTop (mkF m 64 #[.val (.long q1), .second, .val (.long q2), .second, .val (.long q3), .second, .val (.long q4), .second, .val (.int p5), .val (.long q1), .second, .val (.long q4), .second, .val (.ref b333), .val (.ref b340), .val (.int (((p5.toUInt32 >>> ((2 : Int32) &&& 31).toUInt32).toInt32) &&& (3 : Int32))), .unset, .unset, .unset, .unset] [(.int (((p5.toUInt32 >>> ((2 : Int32) &&& 31).toUInt32).toInt32) &&& (3 : Int32)))])) t → Steps p.tables e below (s₁.setTop (entryFrame m #[(.long q1), (.long q2), (.long q3), (.long q4), (.int p5)] maxLocals)) t := fun t k => by
        refine pre332 _ ?_
        show Steps p.tables e below (s₁.setTop (mkF m 19 #[.val (.long q1), .second, .val (.long q2), .second, .val (.long q3), .second, .val (.long q4), .second, .val (.int p5), .val (.long q1), .second, .unset, .unset, .unset, .unset, .unset, .unset, .unset, .unset, .unset] [(.int (0 : Int32))])) _
        refine XS.ifYes X0.here hx rfl (pc0 := 19) (pc' := 26) rfl (hb hby at_19) rfl ((if0 _ _).trans (teq (by decide : (0 : Int32) = (0 : Int32))).1) (by decide) (by decide) ?_
        show Steps p.tables e below (s₁.setTop (mkF m 26 #[.val (.long q1), .second, .val (.long q2), .second, .val (.long q3), .second, .val (.long q4), .second, .val (.int p5), .val (.long q1), .second, .unset, .unset, .unset, .unset, .unset, .unset, .unset, .unset, .unset] [])) _
        refine XS.lload X0.here hx rfl (hb hby at_26) rfl ?_
        show Steps p.tables e below (s₁.setTop (mkF m 28 #[.val (.long q1), .second, .val (.long q2), .second, .val (.long q3), .second, .val (.long q4), .second, .val (.int p5), .val (.long q1), .second, .unset, .unset, .unset, .unset, .unset, .unset, .unset, .unset, .unset] [(.long q4)])) _
        refine XS.lstore X0.here hx rfl (hb hby at_28) rfl (l' := #[.val (.long q1), .second, .val (.long q2), .second, .val (.long q3), .second, .val (.long q4), .second, .val (.int p5), .val (.long q1), .second, .val (.long q4), .second, .unset, .unset, .unset, .unset, .unset, .unset, .unset]) rfl ?_
        show Steps p.tables e below (s₁.setTop (mkF m 30 #[.val (.long q1), .second, .val (.long q2), .second, .val (.long q3), .second, .val (.long q4), .second, .val (.int p5), .val (.long q1), .second, .val (.long q4), .second, .unset, .unset, .unset, .unset, .unset, .unset, .unset] [])) _
        refine st333 _ ?_
        show Steps p.tables e below (T333.setTop (mkF m 33 #[.val (.long q1), .second, .val (.long q2), .second, .val (.long q3), .second, .val (.long q4), .second, .val (.int p5), .val (.long q1), .second, .val (.long q4), .second, .unset, .unset, .unset, .unset, .unset, .unset, .unset] [(.ref b333)])) _
        refine XS.dup X333.here hx rfl (hb hby at_33) rfl rfl ?_
        show Steps p.tables e below (T333.setTop (mkF m 34 #[.val (.long q1), .second, .val (.long q2), .second, .val (.long q3), .second, .val (.long q4), .second, .val (.int p5), .val (.long q1), .second, .val (.long q4), .second, .unset, .unset, .unset, .unset, .unset, .unset, .unset] [(.ref b333), (.ref b333)])) _
        refine XS.lloadN X333.here hx rfl (hb hby at_34) rfl ?_
        show Steps p.tables e below (T333.setTop (mkF m 35 #[.val (.long q1), .second, .val (.long q2), .second, .val (.long q3), .second, .val (.long q4), .second, .val (.int p5), .val (.long q1), .second, .val (.long q4), .second, .unset, .unset, .unset, .unset, .unset, .unset, .unset] [(.long q1), (.ref b333), (.ref b333)])) _
        refine XS.lloadN X333.here hx rfl (hb hby at_35) rfl ?_
        show Steps p.tables e below (T333.setTop (mkF m 36 #[.val (.long q1), .second, .val (.long q2), .second, .val (.long q3), .second, .val (.long q4), .second, .val (.int p5), .val (.long q1), .second, .val (.long q4), .second, .unset, .unset, .unset, .unset, .unset, .unset, .unset] [(.long q2), (.long q1), (.ref b333), (.ref b333)])) _
        refine st334.trans ?_
        show Steps p.tables e below (T334.setTop (mkF m 39 #[.val (.long q1), .second, .val (.long q2), .second, .val (.long q3), .second, .val (.long q4), .second, .val (.int p5), .val (.long q1), .second, .val (.long q4), .second, .unset, .unset, .unset, .unset, .unset, .unset, .unset] [(.ref b333)])) _
        refine XS.astore X334.here hx rfl (hb hby at_39) rfl rfl (l' := #[.val (.long q1), .second, .val (.long q2), .second, .val (.long q3), .second, .val (.long q4), .second, .val (.int p5), .val (.long q1), .second, .val (.long q4), .second, .val (.ref b333), .unset, .unset, .unset, .unset, .unset, .unset]) rfl ?_
        show Steps p.tables e below (T334.setTop (mkF m 41 #[.val (.long q1), .second, .val (.long q2), .second, .val (.long q3), .second, .val (.long q4), .second, .val (.int p5), .val (.long q1), .second, .val (.long q4), .second, .val (.ref b333), .unset, .unset, .unset, .unset, .unset, .unset] [])) _
        refine st340 _ ?_
        show Steps p.tables e below (T340.setTop (mkF m 44 #[.val (.long q1), .second, .val (.long q2), .second, .val (.long q3), .second, .val (.long q4), .second, .val (.int p5), .val (.long q1), .second, .val (.long q4), .second, .val (.ref b333), .unset, .unset, .unset, .unset, .unset, .unset] [(.ref b340)])) _
        refine XS.dup X340.here hx rfl (hb hby at_44) rfl rfl ?_
        show Steps p.tables e below (T340.setTop (mkF m 45 #[.val (.long q1), .second, .val (.long q2), .second, .val (.long q3), .second, .val (.long q4), .second, .val (.int p5), .val (.long q1), .second, .val (.long q4), .second, .val (.ref b333), .unset, .unset, .unset, .unset, .unset, .unset] [(.ref b340), (.ref b340)])) _
        refine XS.lload X340.here hx rfl (hb hby at_45) rfl ?_
        show Steps p.tables e below (T340.setTop (mkF m 47 #[.val (.long q1), .second, .val (.long q2), .second, .val (.long q3), .second, .val (.long q4), .second, .val (.int p5), .val (.long q1), .second, .val (.long q4), .second, .val (.ref b333), .unset, .unset, .unset, .unset, .unset, .unset] [(.long q1), (.ref b340), (.ref b340)])) _
        refine XS.lload X340.here hx rfl (hb hby at_47) rfl ?_
        show Steps p.tables e below (T340.setTop (mkF m 49 #[.val (.long q1), .second, .val (.long q2), .second, .val (.long q3), .second, .val (.long q4), .second, .val (.int p5), .val (.long q1), .second, .val (.long q4), .second, .val (.ref b333), .unset, .unset, .unset, .unset, .unset, .unset] [(.long q4), (.long q1), (.ref b340), (.ref b340)])) _
        refine st341.trans ?_
        show Steps p.tables e below (T341.setTop (mkF m 52 #[.val (.long q1), .second, .val (.long q2), .second, .val (.long q3), .second, .val (.long q4), .second, .val (.int p5), .val (.long q1), .second, .val (.long q4), .second, .val (.ref b333), .unset, .unset, .unset, .unset, .unset, .unset] [(.ref b340)])) _
        refine XS.astore X341.here hx rfl (hb hby at_52) rfl rfl (l' := #[.val (.long q1), .second, .val (.long q2), .second, .val (.long q3), .second, .val (.long q4), .second, .val (.int p5), .val (.long q1), .second, .val (.long q4), .second, .val (.ref b333), .val (.ref b340), .unset, .unset, .unset, .unset, .unset]) rfl ?_
        show Steps p.tables e below (T341.setTop (mkF m 54 #[.val (.long q1), .second, .val (.long q2), .second, .val (.long q3), .second, .val (.long q4), .second, .val (.int p5), .val (.long q1), .second, .val (.long q4), .second, .val (.ref b333), .val (.ref b340), .unset, .unset, .unset, .unset, .unset] [])) _
        refine XS.iload X341.here hx rfl (hb hby at_54) rfl ?_
        show Steps p.tables e below (T341.setTop (mkF m 56 #[.val (.long q1), .second, .val (.long q2), .second, .val (.long q3), .second, .val (.long q4), .second, .val (.int p5), .val (.long q1), .second, .val (.long q4), .second, .val (.ref b333), .val (.ref b340), .unset, .unset, .unset, .unset, .unset] [(.int p5)])) _
        refine XS.iconst X341.here hx rfl (hb hby at_56) ?_
        show Steps p.tables e below (T341.setTop (mkF m 57 #[.val (.long q1), .second, .val (.long q2), .second, .val (.long q3), .second, .val (.long q4), .second, .val (.int p5), .val (.long q1), .second, .val (.long q4), .second, .val (.ref b333), .val (.ref b340), .unset, .unset, .unset, .unset, .unset] [(.int (2 : Int32)), (.int p5)])) _
        refine XS.iushr X341.here hx rfl (hb hby at_57) rfl ?_
        show Steps p.tables e below (T341.setTop (mkF m 58 #[.val (.long q1), .second, .val (.long q2), .second, .val (.long q3), .second, .val (.long q4), .second, .val (.int p5), .val (.long q1), .second, .val (.long q4), .second, .val (.ref b333), .val (.ref b340), .unset, .unset, .unset, .unset, .unset] [(.int ((p5.toUInt32 >>> ((2 : Int32) &&& 31).toUInt32).toInt32))])) _
        refine XS.iconst X341.here hx rfl (hb hby at_58) ?_
        show Steps p.tables e below (T341.setTop (mkF m 59 #[.val (.long q1), .second, .val (.long q2), .second, .val (.long q3), .second, .val (.long q4), .second, .val (.int p5), .val (.long q1), .second, .val (.long q4), .second, .val (.ref b333), .val (.ref b340), .unset, .unset, .unset, .unset, .unset] [(.int (3 : Int32)), (.int ((p5.toUInt32 >>> ((2 : Int32) &&& 31).toUInt32).toInt32))])) _
        refine XS.iand X341.here hx rfl (hb hby at_59) rfl ?_
        show Steps p.tables e below (T341.setTop (mkF m 60 #[.val (.long q1), .second, .val (.long q2), .second, .val (.long q3), .second, .val (.long q4), .second, .val (.int p5), .val (.long q1), .second, .val (.long q4), .second, .val (.ref b333), .val (.ref b340), .unset, .unset, .unset, .unset, .unset] [(.int (((p5.toUInt32 >>> ((2 : Int32) &&& 31).toUInt32).toInt32) &&& (3 : Int32)))])) _
        refine XS.istore X341.here hx rfl (hb hby at_60) rfl (l' := #[.val (.long q1), .second, .val (.long q2), .second, .val (.long q3), .second, .val (.long q4), .second, .val (.int p5), .val (.long q1), .second, .val (.long q4), .second, .val (.ref b333), .val (.ref b340), .val (.int (((p5.toUInt32 >>> ((2 : Int32) &&& 31).toUInt32).toInt32) &&& (3 : Int32))), .unset, .unset, .unset, .unset]) rfl ?_
        show Steps p.tables e below (T341.setTop (mkF m 62 #[.val (.long q1), .second, .val (.long q2), .second, .val (.long q3), .second, .val (.long q4), .second, .val (.int p5), .val (.long q1), .second, .val (.long q4), .second, .val (.ref b333), .val (.ref b340), .val (.int (((p5.toUInt32 >>> ((2 : Int32) &&& 31).toUInt32).toInt32) &&& (3 : Int32))), .unset, .unset, .unset, .unset] [])) _
        refine XS.iload X341.here hx rfl (hb hby at_62) rfl ?_
        exact k
      by_cases hc348 : (((p5.toUInt32 >>> ((2 : Int32) &&& 31).toUInt32).toInt32) &&& (3 : Int32)) = (0 : Int32)
      ·
        have pre349 : ∀ t, Steps p.tables e below (T341.setTop (mkF m 64 #[.val (.long q1), .second, .val (.long q2), .second, .val (.long q3), .second, .val (.long q4), .second, .val (.int p5), .val (.long q1), .second, .val (.long q4), .second, .val (.ref b333), .val (.ref b340), .val (.int (0 : Int32)), .unset, .unset, .unset, .unset] [(.int (0 : Int32))])) t → Steps p.tables e below (s₁.setTop (entryFrame m #[(.long q1), (.long q2), (.long q3), (.long q4), (.int p5)] maxLocals)) t := fun t k => pre347 t (by rw [hc348]; exact k)
        have pre350 : ∀ t, Steps p.tables e below (T341.setTop (mkF m 82 #[.val (.long q1), .second, .val (.long q2), .second, .val (.long q3), .second, .val (.long q4), .second, .val (.int p5), .val (.long q1), .second, .val (.long q4), .second, .val (.ref b333), .val (.ref b340), .val (.int (0 : Int32)), .val (.ref b340), .unset, .unset, .unset] [(.int (lcmpW q2 q4))])) t → Steps p.tables e below (s₁.setTop (entryFrame m #[(.long q1), (.long q2), (.long q3), (.long q4), (.int p5)] maxLocals)) t := fun t k => by
          refine pre349 _ ?_
          show Steps p.tables e below (T341.setTop (mkF m 64 #[.val (.long q1), .second, .val (.long q2), .second, .val (.long q3), .second, .val (.long q4), .second, .val (.int p5), .val (.long q1), .second, .val (.long q4), .second, .val (.ref b333), .val (.ref b340), .val (.int (0 : Int32)), .unset, .unset, .unset, .unset] [(.int (0 : Int32))])) _
          refine XS.ifNo X341.here hx rfl (hb hby at_64) rfl ((if0 _ _).trans (teq (by decide : (0 : Int32) = (0 : Int32))).2) ?_
          show Steps p.tables e below (T341.setTop (mkF m 67 #[.val (.long q1), .second, .val (.long q2), .second, .val (.long q3), .second, .val (.long q4), .second, .val (.int p5), .val (.long q1), .second, .val (.long q4), .second, .val (.ref b333), .val (.ref b340), .val (.int (0 : Int32)), .unset, .unset, .unset, .unset] [])) _
          refine XS.aload X341.here hx rfl (hb hby at_67) rfl rfl ?_
          show Steps p.tables e below (T341.setTop (mkF m 69 #[.val (.long q1), .second, .val (.long q2), .second, .val (.long q3), .second, .val (.long q4), .second, .val (.int p5), .val (.long q1), .second, .val (.long q4), .second, .val (.ref b333), .val (.ref b340), .val (.int (0 : Int32)), .unset, .unset, .unset, .unset] [(.ref b340)])) _
          refine XS.astore X341.here hx rfl (hb hby at_69) rfl rfl (l' := #[.val (.long q1), .second, .val (.long q2), .second, .val (.long q3), .second, .val (.long q4), .second, .val (.int p5), .val (.long q1), .second, .val (.long q4), .second, .val (.ref b333), .val (.ref b340), .val (.int (0 : Int32)), .val (.ref b340), .unset, .unset, .unset]) rfl ?_
          show Steps p.tables e below (T341.setTop (mkF m 71 #[.val (.long q1), .second, .val (.long q2), .second, .val (.long q3), .second, .val (.long q4), .second, .val (.int p5), .val (.long q1), .second, .val (.long q4), .second, .val (.ref b333), .val (.ref b340), .val (.int (0 : Int32)), .val (.ref b340), .unset, .unset, .unset] [])) _
          refine XS.lloadN X341.here hx rfl (hb hby at_71) rfl ?_
          show Steps p.tables e below (T341.setTop (mkF m 72 #[.val (.long q1), .second, .val (.long q2), .second, .val (.long q3), .second, .val (.long q4), .second, .val (.int p5), .val (.long q1), .second, .val (.long q4), .second, .val (.ref b333), .val (.ref b340), .val (.int (0 : Int32)), .val (.ref b340), .unset, .unset, .unset] [(.long q1)])) _
          refine XS.lload X341.here hx rfl (hb hby at_72) rfl ?_
          show Steps p.tables e below (T341.setTop (mkF m 74 #[.val (.long q1), .second, .val (.long q2), .second, .val (.long q3), .second, .val (.long q4), .second, .val (.int p5), .val (.long q1), .second, .val (.long q4), .second, .val (.ref b333), .val (.ref b340), .val (.int (0 : Int32)), .val (.ref b340), .unset, .unset, .unset] [(.long q1), (.long q1)])) _
          refine XS.lcmp X341.here hx rfl (hb hby at_74) rfl ?_
          show Steps p.tables e below (T341.setTop (mkF m 75 #[.val (.long q1), .second, .val (.long q2), .second, .val (.long q3), .second, .val (.long q4), .second, .val (.int p5), .val (.long q1), .second, .val (.long q4), .second, .val (.ref b333), .val (.ref b340), .val (.int (0 : Int32)), .val (.ref b340), .unset, .unset, .unset] [(.int (lcmpW q1 q1))])) _
          refine XS.ifNo X341.here hx rfl (hb hby at_75) rfl ((if0 _ _).trans (teq ((lw_eq _ _).mpr (rfl : q1 = q1))).2) ?_
          show Steps p.tables e below (T341.setTop (mkF m 78 #[.val (.long q1), .second, .val (.long q2), .second, .val (.long q3), .second, .val (.long q4), .second, .val (.int p5), .val (.long q1), .second, .val (.long q4), .second, .val (.ref b333), .val (.ref b340), .val (.int (0 : Int32)), .val (.ref b340), .unset, .unset, .unset] [])) _
          refine XS.lloadN X341.here hx rfl (hb hby at_78) rfl ?_
          show Steps p.tables e below (T341.setTop (mkF m 79 #[.val (.long q1), .second, .val (.long q2), .second, .val (.long q3), .second, .val (.long q4), .second, .val (.int p5), .val (.long q1), .second, .val (.long q4), .second, .val (.ref b333), .val (.ref b340), .val (.int (0 : Int32)), .val (.ref b340), .unset, .unset, .unset] [(.long q2)])) _
          refine XS.lload X341.here hx rfl (hb hby at_79) rfl ?_
          show Steps p.tables e below (T341.setTop (mkF m 81 #[.val (.long q1), .second, .val (.long q2), .second, .val (.long q3), .second, .val (.long q4), .second, .val (.int p5), .val (.long q1), .second, .val (.long q4), .second, .val (.ref b333), .val (.ref b340), .val (.int (0 : Int32)), .val (.ref b340), .unset, .unset, .unset] [(.long q4), (.long q2)])) _
          refine XS.lcmp X341.here hx rfl (hb hby at_81) rfl ?_
          exact k
        by_cases hc351 : q2 = q4
        ·
          have lt352 : b333 < T334.heap.size := (Nat.lt_of_lt_of_le A333.lt K336.1)
          have ne353 : b333 ≠ b340 := Nat.ne_of_lt (Nat.lt_of_lt_of_le lt352 sz_b340)
          have f354 := ((f338.ext E340).keep K343 (ninS ne353 nin0))
          have f355 := ((f339.ext E340).keep K343 (ninS ne353 nin0))
          have f357 := ((f337.ext E340).keep K343)
          obtain ⟨cq356, kq356, q356a, q356b, q356c⟩ := isOf hZ rfl f357
          obtain ⟨_, _, ⟨T358, L358, c358, n358⟩, -, X358, ⟨Lc358, hQ358, l358, y358, z358⟩, st358⟩ := X341.virtualBack hx (y := (⟨"com/example/sablegrid/sablegrid/model/WriteId", "equals", "(Ljava/lang/Object;)Z"⟩ : MethodName)) (z := (⟨"com/example/sablegrid/sablegrid/model/WriteId", "equals", "(Ljava/lang/Object;)Z"⟩ : MethodName)) hown (mvT hZ (hw _ (List.mem_of_getElem? (i := 13) rfl))) (mvT hZ (hw _ (List.mem_of_getElem? (i := 14) rfl))) (notFace_of_selects (args := #[]) (mvT hZ (hw _ (List.mem_of_getElem? (i := 16) rfl)))) (mvT hZ (hw _ (List.mem_of_getElem? (i := 16) rfl))) (mvT hZ (hw _ (List.mem_of_getElem? (i := 15) rfl))) (by decide) (backOf (W := 0) (rm2 l Z a0 hw [] b333 b340 q1 q2 q1 q4 T341.heap n0 O341 g_b333 g_b340 f354 f355 f344 f345 f346) hZ (hw _ (List.mem_of_getElem? (i := 17) rfl)) (hw _ (List.mem_of_getElem? (i := 2) rfl)) (by decide) (by decide)) q356a q356c (g := (mkF m 139 #[.val (.long q1), .second, .val (.long q2), .second, .val (.long q3), .second, .val (.long q4), .second, .val (.int p5), .val (.long q1), .second, .val (.long q4), .second, .val (.ref b333), .val (.ref b340), .val (.int (0 : Int32)), .val (.ref b340), .val (.int (1 : Int32)), .unset, .unset] [(.ref b340), (.ref b333)])) rfl (by rw [hml]; rfl) (Steps.refl _) (argsL := [(.ref b340)]) (rest := []) (lenOf pd1 rfl) rfl (by show 2 * 0 + _ ≤ _; exact Nat.le_of_eq rfl) (hb hby at_139) (fun _ _ => ⟨rfl, rfl, (by decide : 2 + 0 ≤ _), (by decide : 4 + 0 ≤ _)⟩)
          dsimp only [Pt.U, Pt.locs, Pt.cells, Pt.slots] at X358 l358 y358 z358 st358 hQ358
          subst l358 y358 z358
          have pre359 : ∀ t, Steps p.tables e below (T341.setTop (mkF m 139 #[.val (.long q1), .second, .val (.long q2), .second, .val (.long q3), .second, .val (.long q4), .second, .val (.int p5), .val (.long q1), .second, .val (.long q4), .second, .val (.ref b333), .val (.ref b340), .val (.int (0 : Int32)), .val (.ref b340), .val (.int (1 : Int32)), .unset, .unset] [(.ref b340), (.ref b333)])) t → Steps p.tables e below (s₁.setTop (entryFrame m #[(.long q1), (.long q2), (.long q3), (.long q4), (.int p5)] maxLocals)) t := fun t k => by
            refine pre350 _ ?_
            show Steps p.tables e below (T341.setTop (mkF m 82 #[.val (.long q1), .second, .val (.long q2), .second, .val (.long q3), .second, .val (.long q4), .second, .val (.int p5), .val (.long q1), .second, .val (.long q4), .second, .val (.ref b333), .val (.ref b340), .val (.int (0 : Int32)), .val (.ref b340), .unset, .unset, .unset] [(.int (lcmpW q2 q4))])) _
            refine XS.ifNo X341.here hx rfl (hb hby at_82) rfl ((if0 _ _).trans (teq ((lw_eq _ _).mpr hc351)).2) ?_
            show Steps p.tables e below (T341.setTop (mkF m 85 #[.val (.long q1), .second, .val (.long q2), .second, .val (.long q3), .second, .val (.long q4), .second, .val (.int p5), .val (.long q1), .second, .val (.long q4), .second, .val (.ref b333), .val (.ref b340), .val (.int (0 : Int32)), .val (.ref b340), .unset, .unset, .unset] [])) _
            refine XS.iconst X341.here hx rfl (hb hby at_85) ?_
            show Steps p.tables e below (T341.setTop (mkF m 86 #[.val (.long q1), .second, .val (.long q2), .second, .val (.long q3), .second, .val (.long q4), .second, .val (.int p5), .val (.long q1), .second, .val (.long q4), .second, .val (.ref b333), .val (.ref b340), .val (.int (0 : Int32)), .val (.ref b340), .unset, .unset, .unset] [(.int (1 : Int32))])) _
            refine XS.goto X341.here hx rfl (pc0 := 86) (pc' := 90) rfl (hb hby at_86) (by decide) (by decide) ?_
            show Steps p.tables e below (T341.setTop (mkF m 90 #[.val (.long q1), .second, .val (.long q2), .second, .val (.long q3), .second, .val (.long q4), .second, .val (.int p5), .val (.long q1), .second, .val (.long q4), .second, .val (.ref b333), .val (.ref b340), .val (.int (0 : Int32)), .val (.ref b340), .unset, .unset, .unset] [(.int (1 : Int32))])) _
            refine XS.istore X341.here hx rfl (hb hby at_90) rfl (l' := #[.val (.long q1), .second, .val (.long q2), .second, .val (.long q3), .second, .val (.long q4), .second, .val (.int p5), .val (.long q1), .second, .val (.long q4), .second, .val (.ref b333), .val (.ref b340), .val (.int (0 : Int32)), .val (.ref b340), .val (.int (1 : Int32)), .unset, .unset]) rfl ?_
            show Steps p.tables e below (T341.setTop (mkF m 92 #[.val (.long q1), .second, .val (.long q2), .second, .val (.long q3), .second, .val (.long q4), .second, .val (.int p5), .val (.long q1), .second, .val (.long q4), .second, .val (.ref b333), .val (.ref b340), .val (.int (0 : Int32)), .val (.ref b340), .val (.int (1 : Int32)), .unset, .unset] [])) _
            refine XS.goto X341.here hx rfl (pc0 := 92) (pc' := 135) rfl (hb hby at_92) (by decide) (by decide) ?_
            show Steps p.tables e below (T341.setTop (mkF m 135 #[.val (.long q1), .second, .val (.long q2), .second, .val (.long q3), .second, .val (.long q4), .second, .val (.int p5), .val (.long q1), .second, .val (.long q4), .second, .val (.ref b333), .val (.ref b340), .val (.int (0 : Int32)), .val (.ref b340), .val (.int (1 : Int32)), .unset, .unset] [])) _
            refine XS.aload X341.here hx rfl (hb hby at_135) rfl rfl ?_
            show Steps p.tables e below (T341.setTop (mkF m 137 #[.val (.long q1), .second, .val (.long q2), .second, .val (.long q3), .second, .val (.long q4), .second, .val (.int p5), .val (.long q1), .second, .val (.long q4), .second, .val (.ref b333), .val (.ref b340), .val (.int (0 : Int32)), .val (.ref b340), .val (.int (1 : Int32)), .unset, .unset] [(.ref b333)])) _
            refine XS.aload X341.here hx rfl (hb hby at_137) rfl rfl ?_
            exact k
          have X358 : Stand p l e room_1 s m #[(.long q1), (.long q2), (.long q3), (.long q4), (.int p5)] below meth c T358 _ 2 4 := X358
          rcases hQ358 with ⟨hc360, hc361, rfl, Nq362, e363⟩ | ⟨hc364, hc365, rfl, Nq366, e367⟩ | ⟨hc368, rfl, Nq369, e370⟩
          ·
            have N358 := Fr.app N341 Nq362
            obtain ⟨cq371, kq371, q371a, q371b, q371c⟩ := isOf hZ e363 f344
            obtain ⟨_, _, ⟨T372, L372, c372, n372⟩, -, X372, ⟨Lc372, hQ372, l372, y372, z372⟩, st372⟩ := X358.virtualBack hx (y := (⟨"com/example/sablegrid/sablegrid/model/WriteId", "equals", "(Ljava/lang/Object;)Z"⟩ : MethodName)) (z := (⟨"com/example/sablegrid/sablegrid/model/WriteId", "equals", "(Ljava/lang/Object;)Z"⟩ : MethodName)) hown (mvT hZ (hw _ (List.mem_of_getElem? (i := 13) rfl))) (mvT hZ (hw _ (List.mem_of_getElem? (i := 14) rfl))) (notFace_of_selects (args := #[]) (mvT hZ (hw _ (List.mem_of_getElem? (i := 16) rfl)))) (mvT hZ (hw _ (List.mem_of_getElem? (i := 16) rfl))) (mvT hZ (hw _ (List.mem_of_getElem? (i := 15) rfl))) (by decide) (backOf (W := 0) (rm2 l Z a0 hw [] b340 b333 q1 q4 q1 q2 T341.heap n0 O341 g_b340 g_b333 f345 f346 f357 f354 f355) hZ (hw _ (List.mem_of_getElem? (i := 17) rfl)) (hw _ (List.mem_of_getElem? (i := 2) rfl)) (by decide) (by decide)) q371a q371c (g := (mkF m 162 #[.val (.long q1), .second, .val (.long q2), .second, .val (.long q3), .second, .val (.long q4), .second, .val (.int p5), .val (.long q1), .second, .val (.long q4), .second, .val (.ref b333), .val (.ref b340), .val (.int (0 : Int32)), .val (.ref b340), .val (.int (1 : Int32)), .val (.int (1 : Int32)), .unset] [(.ref b333), (.ref b340)])) rfl (by rw [hml]; rfl) (Steps.refl _) (argsL := [(.ref b333)]) (rest := []) (lenOf pd1 rfl) rfl (by show 2 * 0 + _ ≤ _; exact Nat.le_of_eq rfl) (hb hby at_162) (fun _ _ => ⟨rfl, e363, (by decide : 2 + 0 ≤ _), (by decide : 4 + 0 ≤ _)⟩)
            dsimp only [Pt.U, Pt.locs, Pt.cells, Pt.slots] at X372 l372 y372 z372 st372 hQ372
            subst l372 y372 z372
            have pre373 : ∀ t, Steps p.tables e below (T358.setTop (mkF m 162 #[.val (.long q1), .second, .val (.long q2), .second, .val (.long q3), .second, .val (.long q4), .second, .val (.int p5), .val (.long q1), .second, .val (.long q4), .second, .val (.ref b333), .val (.ref b340), .val (.int (0 : Int32)), .val (.ref b340), .val (.int (1 : Int32)), .val (.int (1 : Int32)), .unset] [(.ref b333), (.ref b340)])) t → Steps p.tables e below (s₁.setTop (entryFrame m #[(.long q1), (.long q2), (.long q3), (.long q4), (.int p5)] maxLocals)) t := fun t k => by
              refine pre359 _ ?_
              show Steps p.tables e below (T341.setTop (mkF m 139 #[.val (.long q1), .second, .val (.long q2), .second, .val (.long q3), .second, .val (.long q4), .second, .val (.int p5), .val (.long q1), .second, .val (.long q4), .second, .val (.ref b333), .val (.ref b340), .val (.int (0 : Int32)), .val (.ref b340), .val (.int (1 : Int32)), .unset, .unset] [(.ref b340), (.ref b333)])) _
              refine st358.trans ?_
              show Steps p.tables e below (T358.setTop (mkF m 142 #[.val (.long q1), .second, .val (.long q2), .second, .val (.long q3), .second, .val (.long q4), .second, .val (.int p5), .val (.long q1), .second, .val (.long q4), .second, .val (.ref b333), .val (.ref b340), .val (.int (0 : Int32)), .val (.ref b340), .val (.int (1 : Int32)), .unset, .unset] [(.int (1 : Int32))])) _
              refine XS.istore X358.here hx rfl (hb hby at_142) rfl (l' := #[.val (.long q1), .second, .val (.long q2), .second, .val (.long q3), .second, .val (.long q4), .second, .val (.int p5), .val (.long q1), .second, .val (.long q4), .second, .val (.ref b333), .val (.ref b340), .val (.int (0 : Int32)), .val (.ref b340), .val (.int (1 : Int32)), .val (.int (1 : Int32)), .unset]) rfl ?_
              show Steps p.tables e below (T358.setTop (mkF m 144 #[.val (.long q1), .second, .val (.long q2), .second, .val (.long q3), .second, .val (.long q4), .second, .val (.int p5), .val (.long q1), .second, .val (.long q4), .second, .val (.ref b333), .val (.ref b340), .val (.int (0 : Int32)), .val (.ref b340), .val (.int (1 : Int32)), .val (.int (1 : Int32)), .unset] [])) _
              refine XS.iload X358.here hx rfl (hb hby at_144) rfl ?_
              show Steps p.tables e below (T358.setTop (mkF m 146 #[.val (.long q1), .second, .val (.long q2), .second, .val (.long q3), .second, .val (.long q4), .second, .val (.int p5), .val (.long q1), .second, .val (.long q4), .second, .val (.ref b333), .val (.ref b340), .val (.int (0 : Int32)), .val (.ref b340), .val (.int (1 : Int32)), .val (.int (1 : Int32)), .unset] [(.int (1 : Int32))])) _
              refine XS.iload X358.here hx rfl (hb hby at_146) rfl ?_
              show Steps p.tables e below (T358.setTop (mkF m 148 #[.val (.long q1), .second, .val (.long q2), .second, .val (.long q3), .second, .val (.long q4), .second, .val (.int p5), .val (.long q1), .second, .val (.long q4), .second, .val (.ref b333), .val (.ref b340), .val (.int (0 : Int32)), .val (.ref b340), .val (.int (1 : Int32)), .val (.int (1 : Int32)), .unset] [(.int (1 : Int32)), (.int (1 : Int32))])) _
              refine XS.icmpYes X358.here hx rfl (pc0 := 148) (pc' := 153) rfl (hb hby at_148) rfl (teq (by decide : (1 : Int32) = (1 : Int32))).1 (by decide) (by decide) ?_
              show Steps p.tables e below (T358.setTop (mkF m 153 #[.val (.long q1), .second, .val (.long q2), .second, .val (.long q3), .second, .val (.long q4), .second, .val (.int p5), .val (.long q1), .second, .val (.long q4), .second, .val (.ref b333), .val (.ref b340), .val (.int (0 : Int32)), .val (.ref b340), .val (.int (1 : Int32)), .val (.int (1 : Int32)), .unset] [])) _
              refine XS.iload X358.here hx rfl (hb hby at_153) rfl ?_
              show Steps p.tables e below (T358.setTop (mkF m 155 #[.val (.long q1), .second, .val (.long q2), .second, .val (.long q3), .second, .val (.long q4), .second, .val (.int p5), .val (.long q1), .second, .val (.long q4), .second, .val (.ref b333), .val (.ref b340), .val (.int (0 : Int32)), .val (.ref b340), .val (.int (1 : Int32)), .val (.int (1 : Int32)), .unset] [(.int (0 : Int32))])) _
              refine XS.ifNo X358.here hx rfl (hb hby at_155) rfl ((if0 _ _).trans (teq (by decide : (0 : Int32) = (0 : Int32))).2) ?_
              show Steps p.tables e below (T358.setTop (mkF m 158 #[.val (.long q1), .second, .val (.long q2), .second, .val (.long q3), .second, .val (.long q4), .second, .val (.int p5), .val (.long q1), .second, .val (.long q4), .second, .val (.ref b333), .val (.ref b340), .val (.int (0 : Int32)), .val (.ref b340), .val (.int (1 : Int32)), .val (.int (1 : Int32)), .unset] [])) _
              refine XS.aload X358.here hx rfl (hb hby at_158) rfl rfl ?_
              show Steps p.tables e below (T358.setTop (mkF m 160 #[.val (.long q1), .second, .val (.long q2), .second, .val (.long q3), .second, .val (.long q4), .second, .val (.int p5), .val (.long q1), .second, .val (.long q4), .second, .val (.ref b333), .val (.ref b340), .val (.int (0 : Int32)), .val (.ref b340), .val (.int (1 : Int32)), .val (.int (1 : Int32)), .unset] [(.ref b340)])) _
              refine XS.aload X358.here hx rfl (hb hby at_160) rfl rfl ?_
              exact k
            have X372 : Stand p l e room_1 s m #[(.long q1), (.long q2), (.long q3), (.long q4), (.int p5)] below meth c T372 _ 2 4 := X372
            rcases hQ372 with ⟨hc374, hc375, rfl, Nq376, e377⟩ | ⟨hc378, hc379, rfl, Nq380, e381⟩ | ⟨hc382, rfl, Nq383, e384⟩
            ·
              have N372 := Fr.app N358 Nq376
              obtain ⟨fs, hr, hrun, hended, hW, hsame⟩ := X372.leave (v := some (.int (1 : Int32))) (fun h => by rw [hret] at h; cases h)
              refine ⟨_, _, pre373 _ ?_, hrun, hended, _, _, rfl, ?_, ⟨_, rfl⟩, hW, hsame.mono (by decide) (by decide)⟩
              ·
                show Steps p.tables e below (T358.setTop (mkF m 162 #[.val (.long q1), .second, .val (.long q2), .second, .val (.long q3), .second, .val (.long q4), .second, .val (.int p5), .val (.long q1), .second, .val (.long q4), .second, .val (.ref b333), .val (.ref b340), .val (.int (0 : Int32)), .val (.ref b340), .val (.int (1 : Int32)), .val (.int (1 : Int32)), .unset] [(.ref b333), (.ref b340)])) _
                refine st372.trans ?_
                show Steps p.tables e below (T372.setTop (mkF m 165 #[.val (.long q1), .second, .val (.long q2), .second, .val (.long q3), .second, .val (.long q4), .second, .val (.int p5), .val (.long q1), .second, .val (.long q4), .second, .val (.ref b333), .val (.ref b340), .val (.int (0 : Int32)), .val (.ref b340), .val (.int (1 : Int32)), .val (.int (1 : Int32)), .unset] [(.int (1 : Int32))])) _
                refine XS.istore X372.here hx rfl (hb hby at_165) rfl (l' := #[.val (.long q1), .second, .val (.long q2), .second, .val (.long q3), .second, .val (.long q4), .second, .val (.int p5), .val (.long q1), .second, .val (.long q4), .second, .val (.ref b333), .val (.ref b340), .val (.int (0 : Int32)), .val (.ref b340), .val (.int (1 : Int32)), .val (.int (1 : Int32)), .val (.int (1 : Int32))]) rfl ?_
                show Steps p.tables e below (T372.setTop (mkF m 167 #[.val (.long q1), .second, .val (.long q2), .second, .val (.long q3), .second, .val (.long q4), .second, .val (.int p5), .val (.long q1), .second, .val (.long q4), .second, .val (.ref b333), .val (.ref b340), .val (.int (0 : Int32)), .val (.ref b340), .val (.int (1 : Int32)), .val (.int (1 : Int32)), .val (.int (1 : Int32))] [])) _
                refine XS.iload X372.here hx rfl (hb hby at_167) rfl ?_
                show Steps p.tables e below (T372.setTop (mkF m 169 #[.val (.long q1), .second, .val (.long q2), .second, .val (.long q3), .second, .val (.long q4), .second, .val (.int p5), .val (.long q1), .second, .val (.long q4), .second, .val (.ref b333), .val (.ref b340), .val (.int (0 : Int32)), .val (.ref b340), .val (.int (1 : Int32)), .val (.int (1 : Int32)), .val (.int (1 : Int32))] [(.int (1 : Int32))])) _
                refine XS.iload X372.here hx rfl (hb hby at_169) rfl ?_
                show Steps p.tables e below (T372.setTop (mkF m 171 #[.val (.long q1), .second, .val (.long q2), .second, .val (.long q3), .second, .val (.long q4), .second, .val (.int p5), .val (.long q1), .second, .val (.long q4), .second, .val (.ref b333), .val (.ref b340), .val (.int (0 : Int32)), .val (.ref b340), .val (.int (1 : Int32)), .val (.int (1 : Int32)), .val (.int (1 : Int32))] [(.int (1 : Int32)), (.int (1 : Int32))])) _
                refine XS.icmpYes X372.here hx rfl (pc0 := 171) (pc' := 176) rfl (hb hby at_171) rfl (teq (by decide : (1 : Int32) = (1 : Int32))).1 (by decide) (by decide) ?_
                show Steps p.tables e below (T372.setTop (mkF m 176 #[.val (.long q1), .second, .val (.long q2), .second, .val (.long q3), .second, .val (.long q4), .second, .val (.int p5), .val (.long q1), .second, .val (.long q4), .second, .val (.ref b333), .val (.ref b340), .val (.int (0 : Int32)), .val (.ref b340), .val (.int (1 : Int32)), .val (.int (1 : Int32)), .val (.int (1 : Int32))] [])) _
                refine XS.iconst X372.here hx rfl (hb hby at_176) ?_
                show Steps p.tables e below (T372.setTop (mkF m 177 #[.val (.long q1), .second, .val (.long q2), .second, .val (.long q3), .second, .val (.long q4), .second, .val (.int p5), .val (.long q1), .second, .val (.long q4), .second, .val (.ref b333), .val (.ref b340), .val (.int (0 : Int32)), .val (.ref b340), .val (.int (1 : Int32)), .val (.int (1 : Int32)), .val (.int (1 : Int32))] [(.int (1 : Int32))])) _
                exact retN X372 hx (t := .boolean) hret (by simp) (hb hby at_177) hr
              ·
                show Q0 n0 _ T372.heap _
                rw [e377]
                exact ⟨rfl, N372⟩
            ·
              exact absurd (hc351).symm hc379
            ·
              exact absurd (rfl : q1 = q1) hc382
          ·
            exact absurd hc351 hc365
          ·
            exact absurd (rfl : q1 = q1) hc368
        ·
          have lt385 : b333 < T334.heap.size := (Nat.lt_of_lt_of_le A333.lt K336.1)
          have ne386 : b333 ≠ b340 := Nat.ne_of_lt (Nat.lt_of_lt_of_le lt385 sz_b340)
          have f387 := ((f338.ext E340).keep K343 (ninS ne386 nin0))
          have f388 := ((f339.ext E340).keep K343 (ninS ne386 nin0))
          have f390 := ((f337.ext E340).keep K343)
          obtain ⟨cq389, kq389, q389a, q389b, q389c⟩ := isOf hZ rfl f390
          obtain ⟨_, _, ⟨T391, L391, c391, n391⟩, -, X391, ⟨Lc391, hQ391, l391, y391, z391⟩, st391⟩ := X341.virtualBack hx (y := (⟨"com/example/sablegrid/sablegrid/model/WriteId", "equals", "(Ljava/lang/Object;)Z"⟩ : MethodName)) (z := (⟨"com/example/sablegrid/sablegrid/model/WriteId", "equals", "(Ljava/lang/Object;)Z"⟩ : MethodName)) hown (mvT hZ (hw _ (List.mem_of_getElem? (i := 13) rfl))) (mvT hZ (hw _ (List.mem_of_getElem? (i := 14) rfl))) (notFace_of_selects (args := #[]) (mvT hZ (hw _ (List.mem_of_getElem? (i := 16) rfl)))) (mvT hZ (hw _ (List.mem_of_getElem? (i := 16) rfl))) (mvT hZ (hw _ (List.mem_of_getElem? (i := 15) rfl))) (by decide) (backOf (W := 0) (rm2 l Z a0 hw [] b333 b340 q1 q2 q1 q4 T341.heap n0 O341 g_b333 g_b340 f387 f388 f344 f345 f346) hZ (hw _ (List.mem_of_getElem? (i := 17) rfl)) (hw _ (List.mem_of_getElem? (i := 2) rfl)) (by decide) (by decide)) q389a q389c (g := (mkF m 139 #[.val (.long q1), .second, .val (.long q2), .second, .val (.long q3), .second, .val (.long q4), .second, .val (.int p5), .val (.long q1), .second, .val (.long q4), .second, .val (.ref b333), .val (.ref b340), .val (.int (0 : Int32)), .val (.ref b340), .val (.int (0 : Int32)), .unset, .unset] [(.ref b340), (.ref b333)])) rfl (by rw [hml]; rfl) (Steps.refl _) (argsL := [(.ref b340)]) (rest := []) (lenOf pd1 rfl) rfl (by show 2 * 0 + _ ≤ _; exact Nat.le_of_eq rfl) (hb hby at_139) (fun _ _ => ⟨rfl, rfl, (by decide : 2 + 0 ≤ _), (by decide : 4 + 0 ≤ _)⟩)
          dsimp only [Pt.U, Pt.locs, Pt.cells, Pt.slots] at X391 l391 y391 z391 st391 hQ391
          subst l391 y391 z391
          have pre392 : ∀ t, Steps p.tables e below (T341.setTop (mkF m 139 #[.val (.long q1), .second, .val (.long q2), .second, .val (.long q3), .second, .val (.long q4), .second, .val (.int p5), .val (.long q1), .second, .val (.long q4), .second, .val (.ref b333), .val (.ref b340), .val (.int (0 : Int32)), .val (.ref b340), .val (.int (0 : Int32)), .unset, .unset] [(.ref b340), (.ref b333)])) t → Steps p.tables e below (s₁.setTop (entryFrame m #[(.long q1), (.long q2), (.long q3), (.long q4), (.int p5)] maxLocals)) t := fun t k => by
            refine pre350 _ ?_
            show Steps p.tables e below (T341.setTop (mkF m 82 #[.val (.long q1), .second, .val (.long q2), .second, .val (.long q3), .second, .val (.long q4), .second, .val (.int p5), .val (.long q1), .second, .val (.long q4), .second, .val (.ref b333), .val (.ref b340), .val (.int (0 : Int32)), .val (.ref b340), .unset, .unset, .unset] [(.int (lcmpW q2 q4))])) _
            refine XS.ifYes X341.here hx rfl (pc0 := 82) (pc' := 89) rfl (hb hby at_82) rfl ((if0 _ _).trans (feq (fun q => hc351 ((lw_eq _ _).mp q))).2) (by decide) (by decide) ?_
            show Steps p.tables e below (T341.setTop (mkF m 89 #[.val (.long q1), .second, .val (.long q2), .second, .val (.long q3), .second, .val (.long q4), .second, .val (.int p5), .val (.long q1), .second, .val (.long q4), .second, .val (.ref b333), .val (.ref b340), .val (.int (0 : Int32)), .val (.ref b340), .unset, .unset, .unset] [])) _
            refine XS.iconst X341.here hx rfl (hb hby at_89) ?_
            show Steps p.tables e below (T341.setTop (mkF m 90 #[.val (.long q1), .second, .val (.long q2), .second, .val (.long q3), .second, .val (.long q4), .second, .val (.int p5), .val (.long q1), .second, .val (.long q4), .second, .val (.ref b333), .val (.ref b340), .val (.int (0 : Int32)), .val (.ref b340), .unset, .unset, .unset] [(.int (0 : Int32))])) _
            refine XS.istore X341.here hx rfl (hb hby at_90) rfl (l' := #[.val (.long q1), .second, .val (.long q2), .second, .val (.long q3), .second, .val (.long q4), .second, .val (.int p5), .val (.long q1), .second, .val (.long q4), .second, .val (.ref b333), .val (.ref b340), .val (.int (0 : Int32)), .val (.ref b340), .val (.int (0 : Int32)), .unset, .unset]) rfl ?_
            show Steps p.tables e below (T341.setTop (mkF m 92 #[.val (.long q1), .second, .val (.long q2), .second, .val (.long q3), .second, .val (.long q4), .second, .val (.int p5), .val (.long q1), .second, .val (.long q4), .second, .val (.ref b333), .val (.ref b340), .val (.int (0 : Int32)), .val (.ref b340), .val (.int (0 : Int32)), .unset, .unset] [])) _
            refine XS.goto X341.here hx rfl (pc0 := 92) (pc' := 135) rfl (hb hby at_92) (by decide) (by decide) ?_
            show Steps p.tables e below (T341.setTop (mkF m 135 #[.val (.long q1), .second, .val (.long q2), .second, .val (.long q3), .second, .val (.long q4), .second, .val (.int p5), .val (.long q1), .second, .val (.long q4), .second, .val (.ref b333), .val (.ref b340), .val (.int (0 : Int32)), .val (.ref b340), .val (.int (0 : Int32)), .unset, .unset] [])) _
            refine XS.aload X341.here hx rfl (hb hby at_135) rfl rfl ?_
            show Steps p.tables e below (T341.setTop (mkF m 137 #[.val (.long q1), .second, .val (.long q2), .second, .val (.long q3), .second, .val (.long q4), .second, .val (.int p5), .val (.long q1), .second, .val (.long q4), .second, .val (.ref b333), .val (.ref b340), .val (.int (0 : Int32)), .val (.ref b340), .val (.int (0 : Int32)), .unset, .unset] [(.ref b333)])) _
            refine XS.aload X341.here hx rfl (hb hby at_137) rfl rfl ?_
            exact k
          have X391 : Stand p l e room_1 s m #[(.long q1), (.long q2), (.long q3), (.long q4), (.int p5)] below meth c T391 _ 2 4 := X391
          rcases hQ391 with ⟨hc393, hc394, rfl, Nq395, e396⟩ | ⟨hc397, hc398, rfl, Nq399, e400⟩ | ⟨hc401, rfl, Nq402, e403⟩
          ·
            exact absurd hc394 hc351
          ·
            have N391 := Fr.app N341 Nq399
            obtain ⟨cq404, kq404, q404a, q404b, q404c⟩ := isOf hZ e400 f344
            obtain ⟨_, _, ⟨T405, L405, c405, n405⟩, -, X405, ⟨Lc405, hQ405, l405, y405, z405⟩, st405⟩ := X391.virtualBack hx (y := (⟨"com/example/sablegrid/sablegrid/model/WriteId", "equals", "(Ljava/lang/Object;)Z"⟩ : MethodName)) (z := (⟨"com/example/sablegrid/sablegrid/model/WriteId", "equals", "(Ljava/lang/Object;)Z"⟩ : MethodName)) hown (mvT hZ (hw _ (List.mem_of_getElem? (i := 13) rfl))) (mvT hZ (hw _ (List.mem_of_getElem? (i := 14) rfl))) (notFace_of_selects (args := #[]) (mvT hZ (hw _ (List.mem_of_getElem? (i := 16) rfl)))) (mvT hZ (hw _ (List.mem_of_getElem? (i := 16) rfl))) (mvT hZ (hw _ (List.mem_of_getElem? (i := 15) rfl))) (by decide) (backOf (W := 0) (rm2 l Z a0 hw [] b340 b333 q1 q4 q1 q2 T341.heap n0 O341 g_b340 g_b333 f345 f346 f390 f387 f388) hZ (hw _ (List.mem_of_getElem? (i := 17) rfl)) (hw _ (List.mem_of_getElem? (i := 2) rfl)) (by decide) (by decide)) q404a q404c (g := (mkF m 162 #[.val (.long q1), .second, .val (.long q2), .second, .val (.long q3), .second, .val (.long q4), .second, .val (.int p5), .val (.long q1), .second, .val (.long q4), .second, .val (.ref b333), .val (.ref b340), .val (.int (0 : Int32)), .val (.ref b340), .val (.int (0 : Int32)), .val (.int (0 : Int32)), .unset] [(.ref b333), (.ref b340)])) rfl (by rw [hml]; rfl) (Steps.refl _) (argsL := [(.ref b333)]) (rest := []) (lenOf pd1 rfl) rfl (by show 2 * 0 + _ ≤ _; exact Nat.le_of_eq rfl) (hb hby at_162) (fun _ _ => ⟨rfl, e400, (by decide : 2 + 0 ≤ _), (by decide : 4 + 0 ≤ _)⟩)
            dsimp only [Pt.U, Pt.locs, Pt.cells, Pt.slots] at X405 l405 y405 z405 st405 hQ405
            subst l405 y405 z405
            have pre406 : ∀ t, Steps p.tables e below (T391.setTop (mkF m 162 #[.val (.long q1), .second, .val (.long q2), .second, .val (.long q3), .second, .val (.long q4), .second, .val (.int p5), .val (.long q1), .second, .val (.long q4), .second, .val (.ref b333), .val (.ref b340), .val (.int (0 : Int32)), .val (.ref b340), .val (.int (0 : Int32)), .val (.int (0 : Int32)), .unset] [(.ref b333), (.ref b340)])) t → Steps p.tables e below (s₁.setTop (entryFrame m #[(.long q1), (.long q2), (.long q3), (.long q4), (.int p5)] maxLocals)) t := fun t k => by
              refine pre392 _ ?_
              show Steps p.tables e below (T341.setTop (mkF m 139 #[.val (.long q1), .second, .val (.long q2), .second, .val (.long q3), .second, .val (.long q4), .second, .val (.int p5), .val (.long q1), .second, .val (.long q4), .second, .val (.ref b333), .val (.ref b340), .val (.int (0 : Int32)), .val (.ref b340), .val (.int (0 : Int32)), .unset, .unset] [(.ref b340), (.ref b333)])) _
              refine st391.trans ?_
              show Steps p.tables e below (T391.setTop (mkF m 142 #[.val (.long q1), .second, .val (.long q2), .second, .val (.long q3), .second, .val (.long q4), .second, .val (.int p5), .val (.long q1), .second, .val (.long q4), .second, .val (.ref b333), .val (.ref b340), .val (.int (0 : Int32)), .val (.ref b340), .val (.int (0 : Int32)), .unset, .unset] [(.int (0 : Int32))])) _
              refine XS.istore X391.here hx rfl (hb hby at_142) rfl (l' := #[.val (.long q1), .second, .val (.long q2), .second, .val (.long q3), .second, .val (.long q4), .second, .val (.int p5), .val (.long q1), .second, .val (.long q4), .second, .val (.ref b333), .val (.ref b340), .val (.int (0 : Int32)), .val (.ref b340), .val (.int (0 : Int32)), .val (.int (0 : Int32)), .unset]) rfl ?_
              show Steps p.tables e below (T391.setTop (mkF m 144 #[.val (.long q1), .second, .val (.long q2), .second, .val (.long q3), .second, .val (.long q4), .second, .val (.int p5), .val (.long q1), .second, .val (.long q4), .second, .val (.ref b333), .val (.ref b340), .val (.int (0 : Int32)), .val (.ref b340), .val (.int (0 : Int32)), .val (.int (0 : Int32)), .unset] [])) _
              refine XS.iload X391.here hx rfl (hb hby at_144) rfl ?_
              show Steps p.tables e below (T391.setTop (mkF m 146 #[.val (.long q1), .second, .val (.long q2), .second, .val (.long q3), .second, .val (.long q4), .second, .val (.int p5), .val (.long q1), .second, .val (.long q4), .second, .val (.ref b333), .val (.ref b340), .val (.int (0 : Int32)), .val (.ref b340), .val (.int (0 : Int32)), .val (.int (0 : Int32)), .unset] [(.int (0 : Int32))])) _
              refine XS.iload X391.here hx rfl (hb hby at_146) rfl ?_
              show Steps p.tables e below (T391.setTop (mkF m 148 #[.val (.long q1), .second, .val (.long q2), .second, .val (.long q3), .second, .val (.long q4), .second, .val (.int p5), .val (.long q1), .second, .val (.long q4), .second, .val (.ref b333), .val (.ref b340), .val (.int (0 : Int32)), .val (.ref b340), .val (.int (0 : Int32)), .val (.int (0 : Int32)), .unset] [(.int (0 : Int32)), (.int (0 : Int32))])) _
              refine XS.icmpYes X391.here hx rfl (pc0 := 148) (pc' := 153) rfl (hb hby at_148) rfl (teq (by decide : (0 : Int32) = (0 : Int32))).1 (by decide) (by decide) ?_
              show Steps p.tables e below (T391.setTop (mkF m 153 #[.val (.long q1), .second, .val (.long q2), .second, .val (.long q3), .second, .val (.long q4), .second, .val (.int p5), .val (.long q1), .second, .val (.long q4), .second, .val (.ref b333), .val (.ref b340), .val (.int (0 : Int32)), .val (.ref b340), .val (.int (0 : Int32)), .val (.int (0 : Int32)), .unset] [])) _
              refine XS.iload X391.here hx rfl (hb hby at_153) rfl ?_
              show Steps p.tables e below (T391.setTop (mkF m 155 #[.val (.long q1), .second, .val (.long q2), .second, .val (.long q3), .second, .val (.long q4), .second, .val (.int p5), .val (.long q1), .second, .val (.long q4), .second, .val (.ref b333), .val (.ref b340), .val (.int (0 : Int32)), .val (.ref b340), .val (.int (0 : Int32)), .val (.int (0 : Int32)), .unset] [(.int (0 : Int32))])) _
              refine XS.ifNo X391.here hx rfl (hb hby at_155) rfl ((if0 _ _).trans (teq (by decide : (0 : Int32) = (0 : Int32))).2) ?_
              show Steps p.tables e below (T391.setTop (mkF m 158 #[.val (.long q1), .second, .val (.long q2), .second, .val (.long q3), .second, .val (.long q4), .second, .val (.int p5), .val (.long q1), .second, .val (.long q4), .second, .val (.ref b333), .val (.ref b340), .val (.int (0 : Int32)), .val (.ref b340), .val (.int (0 : Int32)), .val (.int (0 : Int32)), .unset] [])) _
              refine XS.aload X391.here hx rfl (hb hby at_158) rfl rfl ?_
              show Steps p.tables e below (T391.setTop (mkF m 160 #[.val (.long q1), .second, .val (.long q2), .second, .val (.long q3), .second, .val (.long q4), .second, .val (.int p5), .val (.long q1), .second, .val (.long q4), .second, .val (.ref b333), .val (.ref b340), .val (.int (0 : Int32)), .val (.ref b340), .val (.int (0 : Int32)), .val (.int (0 : Int32)), .unset] [(.ref b340)])) _
              refine XS.aload X391.here hx rfl (hb hby at_160) rfl rfl ?_
              exact k
            have X405 : Stand p l e room_1 s m #[(.long q1), (.long q2), (.long q3), (.long q4), (.int p5)] below meth c T405 _ 2 4 := X405
            rcases hQ405 with ⟨hc407, hc408, rfl, Nq409, e410⟩ | ⟨hc411, hc412, rfl, Nq413, e414⟩ | ⟨hc415, rfl, Nq416, e417⟩
            ·
              exact absurd hc408 (Ne.symm hc351)
            ·
              have N405 := Fr.app N391 Nq413
              obtain ⟨fs, hr, hrun, hended, hW, hsame⟩ := X405.leave (v := some (.int (1 : Int32))) (fun h => by rw [hret] at h; cases h)
              refine ⟨_, _, pre406 _ ?_, hrun, hended, _, _, rfl, ?_, ⟨_, rfl⟩, hW, hsame.mono (by decide) (by decide)⟩
              ·
                show Steps p.tables e below (T391.setTop (mkF m 162 #[.val (.long q1), .second, .val (.long q2), .second, .val (.long q3), .second, .val (.long q4), .second, .val (.int p5), .val (.long q1), .second, .val (.long q4), .second, .val (.ref b333), .val (.ref b340), .val (.int (0 : Int32)), .val (.ref b340), .val (.int (0 : Int32)), .val (.int (0 : Int32)), .unset] [(.ref b333), (.ref b340)])) _
                refine st405.trans ?_
                show Steps p.tables e below (T405.setTop (mkF m 165 #[.val (.long q1), .second, .val (.long q2), .second, .val (.long q3), .second, .val (.long q4), .second, .val (.int p5), .val (.long q1), .second, .val (.long q4), .second, .val (.ref b333), .val (.ref b340), .val (.int (0 : Int32)), .val (.ref b340), .val (.int (0 : Int32)), .val (.int (0 : Int32)), .unset] [(.int (0 : Int32))])) _
                refine XS.istore X405.here hx rfl (hb hby at_165) rfl (l' := #[.val (.long q1), .second, .val (.long q2), .second, .val (.long q3), .second, .val (.long q4), .second, .val (.int p5), .val (.long q1), .second, .val (.long q4), .second, .val (.ref b333), .val (.ref b340), .val (.int (0 : Int32)), .val (.ref b340), .val (.int (0 : Int32)), .val (.int (0 : Int32)), .val (.int (0 : Int32))]) rfl ?_
                show Steps p.tables e below (T405.setTop (mkF m 167 #[.val (.long q1), .second, .val (.long q2), .second, .val (.long q3), .second, .val (.long q4), .second, .val (.int p5), .val (.long q1), .second, .val (.long q4), .second, .val (.ref b333), .val (.ref b340), .val (.int (0 : Int32)), .val (.ref b340), .val (.int (0 : Int32)), .val (.int (0 : Int32)), .val (.int (0 : Int32))] [])) _
                refine XS.iload X405.here hx rfl (hb hby at_167) rfl ?_
                show Steps p.tables e below (T405.setTop (mkF m 169 #[.val (.long q1), .second, .val (.long q2), .second, .val (.long q3), .second, .val (.long q4), .second, .val (.int p5), .val (.long q1), .second, .val (.long q4), .second, .val (.ref b333), .val (.ref b340), .val (.int (0 : Int32)), .val (.ref b340), .val (.int (0 : Int32)), .val (.int (0 : Int32)), .val (.int (0 : Int32))] [(.int (0 : Int32))])) _
                refine XS.iload X405.here hx rfl (hb hby at_169) rfl ?_
                show Steps p.tables e below (T405.setTop (mkF m 171 #[.val (.long q1), .second, .val (.long q2), .second, .val (.long q3), .second, .val (.long q4), .second, .val (.int p5), .val (.long q1), .second, .val (.long q4), .second, .val (.ref b333), .val (.ref b340), .val (.int (0 : Int32)), .val (.ref b340), .val (.int (0 : Int32)), .val (.int (0 : Int32)), .val (.int (0 : Int32))] [(.int (0 : Int32)), (.int (0 : Int32))])) _
                refine XS.icmpYes X405.here hx rfl (pc0 := 171) (pc' := 176) rfl (hb hby at_171) rfl (teq (by decide : (0 : Int32) = (0 : Int32))).1 (by decide) (by decide) ?_
                show Steps p.tables e below (T405.setTop (mkF m 176 #[.val (.long q1), .second, .val (.long q2), .second, .val (.long q3), .second, .val (.long q4), .second, .val (.int p5), .val (.long q1), .second, .val (.long q4), .second, .val (.ref b333), .val (.ref b340), .val (.int (0 : Int32)), .val (.ref b340), .val (.int (0 : Int32)), .val (.int (0 : Int32)), .val (.int (0 : Int32))] [])) _
                refine XS.iconst X405.here hx rfl (hb hby at_176) ?_
                show Steps p.tables e below (T405.setTop (mkF m 177 #[.val (.long q1), .second, .val (.long q2), .second, .val (.long q3), .second, .val (.long q4), .second, .val (.int p5), .val (.long q1), .second, .val (.long q4), .second, .val (.ref b333), .val (.ref b340), .val (.int (0 : Int32)), .val (.ref b340), .val (.int (0 : Int32)), .val (.int (0 : Int32)), .val (.int (0 : Int32))] [(.int (1 : Int32))])) _
                exact retN X405 hx (t := .boolean) hret (by simp) (hb hby at_177) hr
              ·
                show Q0 n0 _ T405.heap _
                rw [e414]
                exact ⟨rfl, N405⟩
            ·
              exact absurd (rfl : q1 = q1) hc415
          ·
            exact absurd (rfl : q1 = q1) hc401
      ·
        have pre418 : ∀ t, Steps p.tables e below (T341.setTop (mkF m 98 #[.val (.long q1), .second, .val (.long q2), .second, .val (.long q3), .second, .val (.long q4), .second, .val (.int p5), .val (.long q1), .second, .val (.long q4), .second, .val (.ref b333), .val (.ref b340), .val (.int (((p5.toUInt32 >>> ((2 : Int32) &&& 31).toUInt32).toInt32) &&& (3 : Int32))), .unset, .unset, .unset, .unset] [(.int (1 : Int32)), (.int (((p5.toUInt32 >>> ((2 : Int32) &&& 31).toUInt32).toInt32) &&& (3 : Int32)))])) t → Steps p.tables e below (s₁.setTop (entryFrame m #[(.long q1), (.long q2), (.long q3), (.long q4), (.int p5)] maxLocals)) t := fun t k => by
          refine pre347 _ ?_
          show Steps p.tables e below (T341.setTop (mkF m 64 #[.val (.long q1), .second, .val (.long q2), .second, .val (.long q3), .second, .val (.long q4), .second, .val (.int p5), .val (.long q1), .second, .val (.long q4), .second, .val (.ref b333), .val (.ref b340), .val (.int (((p5.toUInt32 >>> ((2 : Int32) &&& 31).toUInt32).toInt32) &&& (3 : Int32))), .unset, .unset, .unset, .unset] [(.int (((p5.toUInt32 >>> ((2 : Int32) &&& 31).toUInt32).toInt32) &&& (3 : Int32)))])) _
          refine XS.ifYes X341.here hx rfl (pc0 := 64) (pc' := 95) rfl (hb hby at_64) rfl ((if0 _ _).trans (feq hc348).2) (by decide) (by decide) ?_
          show Steps p.tables e below (T341.setTop (mkF m 95 #[.val (.long q1), .second, .val (.long q2), .second, .val (.long q3), .second, .val (.long q4), .second, .val (.int p5), .val (.long q1), .second, .val (.long q4), .second, .val (.ref b333), .val (.ref b340), .val (.int (((p5.toUInt32 >>> ((2 : Int32) &&& 31).toUInt32).toInt32) &&& (3 : Int32))), .unset, .unset, .unset, .unset] [])) _
          refine XS.iload X341.here hx rfl (hb hby at_95) rfl ?_
          show Steps p.tables e below (T341.setTop (mkF m 97 #[.val (.long q1), .second, .val (.long q2), .second, .val (.long q3), .second, .val (.long q4), .second, .val (.int p5), .val (.long q1), .second, .val (.long q4), .second, .val (.ref b333), .val (.ref b340), .val (.int (((p5.toUInt32 >>> ((2 : Int32) &&& 31).toUInt32).toInt32) &&& (3 : Int32))), .unset, .unset, .unset, .unset] [(.int (((p5.toUInt32 >>> ((2 : Int32) &&& 31).toUInt32).toInt32) &&& (3 : Int32)))])) _
          refine XS.iconst X341.here hx rfl (hb hby at_97) ?_
          exact k
        by_cases hc419 : (((p5.toUInt32 >>> ((2 : Int32) &&& 31).toUInt32).toInt32) &&& (3 : Int32)) = (1 : Int32)
        ·
          have pre420 : ∀ t, Steps p.tables e below (T341.setTop (mkF m 98 #[.val (.long q1), .second, .val (.long q2), .second, .val (.long q3), .second, .val (.long q4), .second, .val (.int p5), .val (.long q1), .second, .val (.long q4), .second, .val (.ref b333), .val (.ref b340), .val (.int (1 : Int32)), .unset, .unset, .unset, .unset] [(.int (1 : Int32)), (.int (1 : Int32))])) t → Steps p.tables e below (s₁.setTop (entryFrame m #[(.long q1), (.long q2), (.long q3), (.long q4), (.int p5)] maxLocals)) t := fun t k => pre418 t (by rw [hc419]; exact k)
          have f422 := ((f337.ext E340).keep K343)
          obtain ⟨cq421, kq421, q421a, q421b, q421c⟩ := isOf hZ rfl f422
          obtain ⟨_, _, ⟨T423, L423, c423, n423⟩, -, X423, ⟨Lc423, hQ423, l423, y423, z423⟩, st423⟩ := X341.virtualBack hx (y := (⟨"com/example/sablegrid/sablegrid/model/WriteId", "equals", "(Ljava/lang/Object;)Z"⟩ : MethodName)) (z := (⟨"com/example/sablegrid/sablegrid/model/WriteId", "equals", "(Ljava/lang/Object;)Z"⟩ : MethodName)) hown (mvT hZ (hw _ (List.mem_of_getElem? (i := 13) rfl))) (mvT hZ (hw _ (List.mem_of_getElem? (i := 14) rfl))) (notFace_of_selects (args := #[]) (mvT hZ (hw _ (List.mem_of_getElem? (i := 16) rfl)))) (mvT hZ (hw _ (List.mem_of_getElem? (i := 16) rfl))) (mvT hZ (hw _ (List.mem_of_getElem? (i := 15) rfl))) (by decide) (backOf (W := 0) (rm3 l Z a0 hw [] b333 T341.heap n0 O341 g_b333) hZ (hw _ (List.mem_of_getElem? (i := 17) rfl)) (hw _ (List.mem_of_getElem? (i := 2) rfl)) (by decide) (by decide)) q421a q421c (g := (mkF m 139 #[.val (.long q1), .second, .val (.long q2), .second, .val (.long q3), .second, .val (.long q4), .second, .val (.int p5), .val (.long q1), .second, .val (.long q4), .second, .val (.ref b333), .val (.ref b340), .val (.int (1 : Int32)), .val .null, .val (.int (0 : Int32)), .unset, .unset] [.null, (.ref b333)])) rfl (by rw [hml]; rfl) (Steps.refl _) (argsL := [.null]) (rest := []) (lenOf pd1 rfl) rfl (by show 2 * 0 + _ ≤ _; exact Nat.le_of_eq rfl) (hb hby at_139) (fun _ _ => ⟨rfl, rfl, (by decide : 2 + 0 ≤ _), (by decide : 4 + 0 ≤ _)⟩)
          dsimp only [Pt.U, Pt.locs, Pt.cells, Pt.slots] at X423 l423 y423 z423 st423 hQ423
          subst l423 y423 z423
          have X423 : Stand p l e room_1 s m #[(.long q1), (.long q2), (.long q3), (.long q4), (.int p5)] below meth c T423 _ 2 4 := X423
          obtain ⟨rfl, Nq424, e425⟩ := hQ423
          have N423 := Fr.app N341 Nq424
          obtain ⟨fs, hr, hrun, hended, hW, hsame⟩ := X423.leave (v := some (.int (1 : Int32))) (fun h => by rw [hret] at h; cases h)
          refine ⟨_, _, pre420 _ ?_, hrun, hended, _, _, rfl, ?_, ⟨_, rfl⟩, hW, hsame.mono (by decide) (by decide)⟩
          ·
            show Steps p.tables e below (T341.setTop (mkF m 98 #[.val (.long q1), .second, .val (.long q2), .second, .val (.long q3), .second, .val (.long q4), .second, .val (.int p5), .val (.long q1), .second, .val (.long q4), .second, .val (.ref b333), .val (.ref b340), .val (.int (1 : Int32)), .unset, .unset, .unset, .unset] [(.int (1 : Int32)), (.int (1 : Int32))])) _
            refine XS.icmpNo X341.here hx rfl (hb hby at_98) rfl (teq (by decide : (1 : Int32) = (1 : Int32))).2 ?_
            show Steps p.tables e below (T341.setTop (mkF m 101 #[.val (.long q1), .second, .val (.long q2), .second, .val (.long q3), .second, .val (.long q4), .second, .val (.int p5), .val (.long q1), .second, .val (.long q4), .second, .val (.ref b333), .val (.ref b340), .val (.int (1 : Int32)), .unset, .unset, .unset, .unset] [])) _
            refine XS.aconstNull X341.here hx rfl (hb hby at_101) ?_
            show Steps p.tables e below (T341.setTop (mkF m 102 #[.val (.long q1), .second, .val (.long q2), .second, .val (.long q3), .second, .val (.long q4), .second, .val (.int p5), .val (.long q1), .second, .val (.long q4), .second, .val (.ref b333), .val (.ref b340), .val (.int (1 : Int32)), .unset, .unset, .unset, .unset] [.null])) _
            refine XS.astore X341.here hx rfl (hb hby at_102) rfl rfl (l' := #[.val (.long q1), .second, .val (.long q2), .second, .val (.long q3), .second, .val (.long q4), .second, .val (.int p5), .val (.long q1), .second, .val (.long q4), .second, .val (.ref b333), .val (.ref b340), .val (.int (1 : Int32)), .val .null, .unset, .unset, .unset]) rfl ?_
            show Steps p.tables e below (T341.setTop (mkF m 104 #[.val (.long q1), .second, .val (.long q2), .second, .val (.long q3), .second, .val (.long q4), .second, .val (.int p5), .val (.long q1), .second, .val (.long q4), .second, .val (.ref b333), .val (.ref b340), .val (.int (1 : Int32)), .val .null, .unset, .unset, .unset] [])) _
            refine XS.iconst X341.here hx rfl (hb hby at_104) ?_
            show Steps p.tables e below (T341.setTop (mkF m 105 #[.val (.long q1), .second, .val (.long q2), .second, .val (.long q3), .second, .val (.long q4), .second, .val (.int p5), .val (.long q1), .second, .val (.long q4), .second, .val (.ref b333), .val (.ref b340), .val (.int (1 : Int32)), .val .null, .unset, .unset, .unset] [(.int (0 : Int32))])) _
            refine XS.istore X341.here hx rfl (hb hby at_105) rfl (l' := #[.val (.long q1), .second, .val (.long q2), .second, .val (.long q3), .second, .val (.long q4), .second, .val (.int p5), .val (.long q1), .second, .val (.long q4), .second, .val (.ref b333), .val (.ref b340), .val (.int (1 : Int32)), .val .null, .val (.int (0 : Int32)), .unset, .unset]) rfl ?_
            show Steps p.tables e below (T341.setTop (mkF m 107 #[.val (.long q1), .second, .val (.long q2), .second, .val (.long q3), .second, .val (.long q4), .second, .val (.int p5), .val (.long q1), .second, .val (.long q4), .second, .val (.ref b333), .val (.ref b340), .val (.int (1 : Int32)), .val .null, .val (.int (0 : Int32)), .unset, .unset] [])) _
            refine XS.goto X341.here hx rfl (pc0 := 107) (pc' := 135) rfl (hb hby at_107) (by decide) (by decide) ?_
            show Steps p.tables e below (T341.setTop (mkF m 135 #[.val (.long q1), .second, .val (.long q2), .second, .val (.long q3), .second, .val (.long q4), .second, .val (.int p5), .val (.long q1), .second, .val (.long q4), .second, .val (.ref b333), .val (.ref b340), .val (.int (1 : Int32)), .val .null, .val (.int (0 : Int32)), .unset, .unset] [])) _
            refine XS.aload X341.here hx rfl (hb hby at_135) rfl rfl ?_
            show Steps p.tables e below (T341.setTop (mkF m 137 #[.val (.long q1), .second, .val (.long q2), .second, .val (.long q3), .second, .val (.long q4), .second, .val (.int p5), .val (.long q1), .second, .val (.long q4), .second, .val (.ref b333), .val (.ref b340), .val (.int (1 : Int32)), .val .null, .val (.int (0 : Int32)), .unset, .unset] [(.ref b333)])) _
            refine XS.aload X341.here hx rfl (hb hby at_137) rfl rfl ?_
            show Steps p.tables e below (T341.setTop (mkF m 139 #[.val (.long q1), .second, .val (.long q2), .second, .val (.long q3), .second, .val (.long q4), .second, .val (.int p5), .val (.long q1), .second, .val (.long q4), .second, .val (.ref b333), .val (.ref b340), .val (.int (1 : Int32)), .val .null, .val (.int (0 : Int32)), .unset, .unset] [.null, (.ref b333)])) _
            refine st423.trans ?_
            show Steps p.tables e below (T423.setTop (mkF m 142 #[.val (.long q1), .second, .val (.long q2), .second, .val (.long q3), .second, .val (.long q4), .second, .val (.int p5), .val (.long q1), .second, .val (.long q4), .second, .val (.ref b333), .val (.ref b340), .val (.int (1 : Int32)), .val .null, .val (.int (0 : Int32)), .unset, .unset] [(.int (0 : Int32))])) _
            refine XS.istore X423.here hx rfl (hb hby at_142) rfl (l' := #[.val (.long q1), .second, .val (.long q2), .second, .val (.long q3), .second, .val (.long q4), .second, .val (.int p5), .val (.long q1), .second, .val (.long q4), .second, .val (.ref b333), .val (.ref b340), .val (.int (1 : Int32)), .val .null, .val (.int (0 : Int32)), .val (.int (0 : Int32)), .unset]) rfl ?_
            show Steps p.tables e below (T423.setTop (mkF m 144 #[.val (.long q1), .second, .val (.long q2), .second, .val (.long q3), .second, .val (.long q4), .second, .val (.int p5), .val (.long q1), .second, .val (.long q4), .second, .val (.ref b333), .val (.ref b340), .val (.int (1 : Int32)), .val .null, .val (.int (0 : Int32)), .val (.int (0 : Int32)), .unset] [])) _
            refine XS.iload X423.here hx rfl (hb hby at_144) rfl ?_
            show Steps p.tables e below (T423.setTop (mkF m 146 #[.val (.long q1), .second, .val (.long q2), .second, .val (.long q3), .second, .val (.long q4), .second, .val (.int p5), .val (.long q1), .second, .val (.long q4), .second, .val (.ref b333), .val (.ref b340), .val (.int (1 : Int32)), .val .null, .val (.int (0 : Int32)), .val (.int (0 : Int32)), .unset] [(.int (0 : Int32))])) _
            refine XS.iload X423.here hx rfl (hb hby at_146) rfl ?_
            show Steps p.tables e below (T423.setTop (mkF m 148 #[.val (.long q1), .second, .val (.long q2), .second, .val (.long q3), .second, .val (.long q4), .second, .val (.int p5), .val (.long q1), .second, .val (.long q4), .second, .val (.ref b333), .val (.ref b340), .val (.int (1 : Int32)), .val .null, .val (.int (0 : Int32)), .val (.int (0 : Int32)), .unset] [(.int (0 : Int32)), (.int (0 : Int32))])) _
            refine XS.icmpYes X423.here hx rfl (pc0 := 148) (pc' := 153) rfl (hb hby at_148) rfl (teq (by decide : (0 : Int32) = (0 : Int32))).1 (by decide) (by decide) ?_
            show Steps p.tables e below (T423.setTop (mkF m 153 #[.val (.long q1), .second, .val (.long q2), .second, .val (.long q3), .second, .val (.long q4), .second, .val (.int p5), .val (.long q1), .second, .val (.long q4), .second, .val (.ref b333), .val (.ref b340), .val (.int (1 : Int32)), .val .null, .val (.int (0 : Int32)), .val (.int (0 : Int32)), .unset] [])) _
            refine XS.iload X423.here hx rfl (hb hby at_153) rfl ?_
            show Steps p.tables e below (T423.setTop (mkF m 155 #[.val (.long q1), .second, .val (.long q2), .second, .val (.long q3), .second, .val (.long q4), .second, .val (.int p5), .val (.long q1), .second, .val (.long q4), .second, .val (.ref b333), .val (.ref b340), .val (.int (1 : Int32)), .val .null, .val (.int (0 : Int32)), .val (.int (0 : Int32)), .unset] [(.int (1 : Int32))])) _
            refine XS.ifYes X423.here hx rfl (pc0 := 155) (pc' := 176) rfl (hb hby at_155) rfl ((if0 _ _).trans (feq (by decide : ¬ ((1 : Int32) = (0 : Int32)))).2) (by decide) (by decide) ?_
            show Steps p.tables e below (T423.setTop (mkF m 176 #[.val (.long q1), .second, .val (.long q2), .second, .val (.long q3), .second, .val (.long q4), .second, .val (.int p5), .val (.long q1), .second, .val (.long q4), .second, .val (.ref b333), .val (.ref b340), .val (.int (1 : Int32)), .val .null, .val (.int (0 : Int32)), .val (.int (0 : Int32)), .unset] [])) _
            refine XS.iconst X423.here hx rfl (hb hby at_176) ?_
            show Steps p.tables e below (T423.setTop (mkF m 177 #[.val (.long q1), .second, .val (.long q2), .second, .val (.long q3), .second, .val (.long q4), .second, .val (.int p5), .val (.long q1), .second, .val (.long q4), .second, .val (.ref b333), .val (.ref b340), .val (.int (1 : Int32)), .val .null, .val (.int (0 : Int32)), .val (.int (0 : Int32)), .unset] [(.int (1 : Int32))])) _
            exact retN X423 hx (t := .boolean) hret (by simp) (hb hby at_177) hr
          ·
            show Q0 n0 _ T423.heap _
            rw [e425]
            exact ⟨rfl, N423⟩
        ·
          have pre426 : ∀ t, Steps p.tables e below (T341.setTop (mkF m 113 #[.val (.long q1), .second, .val (.long q2), .second, .val (.long q3), .second, .val (.long q4), .second, .val (.int p5), .val (.long q1), .second, .val (.long q4), .second, .val (.ref b333), .val (.ref b340), .val (.int (((p5.toUInt32 >>> ((2 : Int32) &&& 31).toUInt32).toInt32) &&& (3 : Int32))), .unset, .unset, .unset, .unset] [(.int (2 : Int32)), (.int (((p5.toUInt32 >>> ((2 : Int32) &&& 31).toUInt32).toInt32) &&& (3 : Int32)))])) t → Steps p.tables e below (s₁.setTop (entryFrame m #[(.long q1), (.long q2), (.long q3), (.long q4), (.int p5)] maxLocals)) t := fun t k => by
            refine pre418 _ ?_
            show Steps p.tables e below (T341.setTop (mkF m 98 #[.val (.long q1), .second, .val (.long q2), .second, .val (.long q3), .second, .val (.long q4), .second, .val (.int p5), .val (.long q1), .second, .val (.long q4), .second, .val (.ref b333), .val (.ref b340), .val (.int (((p5.toUInt32 >>> ((2 : Int32) &&& 31).toUInt32).toInt32) &&& (3 : Int32))), .unset, .unset, .unset, .unset] [(.int (1 : Int32)), (.int (((p5.toUInt32 >>> ((2 : Int32) &&& 31).toUInt32).toInt32) &&& (3 : Int32)))])) _
            refine XS.icmpYes X341.here hx rfl (pc0 := 98) (pc' := 110) rfl (hb hby at_98) rfl (feq hc419).2 (by decide) (by decide) ?_
            show Steps p.tables e below (T341.setTop (mkF m 110 #[.val (.long q1), .second, .val (.long q2), .second, .val (.long q3), .second, .val (.long q4), .second, .val (.int p5), .val (.long q1), .second, .val (.long q4), .second, .val (.ref b333), .val (.ref b340), .val (.int (((p5.toUInt32 >>> ((2 : Int32) &&& 31).toUInt32).toInt32) &&& (3 : Int32))), .unset, .unset, .unset, .unset] [])) _
            refine XS.iload X341.here hx rfl (hb hby at_110) rfl ?_
            show Steps p.tables e below (T341.setTop (mkF m 112 #[.val (.long q1), .second, .val (.long q2), .second, .val (.long q3), .second, .val (.long q4), .second, .val (.int p5), .val (.long q1), .second, .val (.long q4), .second, .val (.ref b333), .val (.ref b340), .val (.int (((p5.toUInt32 >>> ((2 : Int32) &&& 31).toUInt32).toInt32) &&& (3 : Int32))), .unset, .unset, .unset, .unset] [(.int (((p5.toUInt32 >>> ((2 : Int32) &&& 31).toUInt32).toInt32) &&& (3 : Int32)))])) _
            refine XS.iconst X341.here hx rfl (hb hby at_112) ?_
            exact k
          by_cases hc427 : (((p5.toUInt32 >>> ((2 : Int32) &&& 31).toUInt32).toInt32) &&& (3 : Int32)) = (2 : Int32)
          ·
            have pre428 : ∀ t, Steps p.tables e below (T341.setTop (mkF m 113 #[.val (.long q1), .second, .val (.long q2), .second, .val (.long q3), .second, .val (.long q4), .second, .val (.int p5), .val (.long q1), .second, .val (.long q4), .second, .val (.ref b333), .val (.ref b340), .val (.int (2 : Int32)), .unset, .unset, .unset, .unset] [(.int (2 : Int32)), (.int (2 : Int32))])) t → Steps p.tables e below (s₁.setTop (entryFrame m #[(.long q1), (.long q2), (.long q3), (.long q4), (.int p5)] maxLocals)) t := fun t k => pre426 t (by rw [hc427]; exact k)
            obtain ⟨_, _, ⟨T429, L429, c429, n429⟩, -, X429, ⟨Lc429, hQ429, l429, y429, z429⟩, st429⟩ := Jvm.LawKit.callS X341 hx (y := (⟨"java/lang/Long", "valueOf", "(J)Ljava/lang/Long;"⟩ : MethodName)) hown (mvT hZ (hw _ (List.mem_of_getElem? (i := 20) rfl))) (mvT hZ (hw _ (List.mem_of_getElem? (i := 21) rfl))) (mvT hZ (hw _ (List.mem_of_getElem? (i := 22) rfl))) (mvT hZ (hw _ (List.mem_of_getElem? (i := 23) rfl))) (by decide) (backOf (W := 0) (rm6 l Z a0 hw w1 cw1 G [] q1 T341.heap n0 O341 ) hZ (hw _ (List.mem_of_getElem? (i := 23) rfl)) (hw _ (List.mem_of_getElem? (i := 22) rfl)) (by decide) (by decide)) (g := (mkF m 117 #[.val (.long q1), .second, .val (.long q2), .second, .val (.long q3), .second, .val (.long q4), .second, .val (.int p5), .val (.long q1), .second, .val (.long q4), .second, .val (.ref b333), .val (.ref b340), .val (.int (2 : Int32)), .unset, .unset, .unset, .unset] [(.long q1)])) rfl (by rw [hml]; rfl) (argsL := [(.long q1)]) (rest := []) (lenOf pd4 rfl) rfl (by show 2 * 0 + _ ≤ _; exact Nat.le_of_eq rfl) (hb hby at_117) (fun _ _ => ⟨rfl, rfl, (by decide : 2 + 1 ≤ _), (by decide : 4 + 1 ≤ _)⟩)
            dsimp only [Pt.U, Pt.locs, Pt.cells, Pt.slots] at X429 l429 y429 z429 st429 hQ429
            subst l429 y429 z429
            have pre430 : ∀ t, Steps p.tables e below (T341.setTop (mkF m 117 #[.val (.long q1), .second, .val (.long q2), .second, .val (.long q3), .second, .val (.long q4), .second, .val (.int p5), .val (.long q1), .second, .val (.long q4), .second, .val (.ref b333), .val (.ref b340), .val (.int (2 : Int32)), .unset, .unset, .unset, .unset] [(.long q1)])) t → Steps p.tables e below (s₁.setTop (entryFrame m #[(.long q1), (.long q2), (.long q3), (.long q4), (.int p5)] maxLocals)) t := fun t k => by
              refine pre428 _ ?_
              show Steps p.tables e below (T341.setTop (mkF m 113 #[.val (.long q1), .second, .val (.long q2), .second, .val (.long q3), .second, .val (.long q4), .second, .val (.int p5), .val (.long q1), .second, .val (.long q4), .second, .val (.ref b333), .val (.ref b340), .val (.int (2 : Int32)), .unset, .unset, .unset, .unset] [(.int (2 : Int32)), (.int (2 : Int32))])) _
              refine XS.icmpNo X341.here hx rfl (hb hby at_113) rfl (teq (by decide : (2 : Int32) = (2 : Int32))).2 ?_
              show Steps p.tables e below (T341.setTop (mkF m 116 #[.val (.long q1), .second, .val (.long q2), .second, .val (.long q3), .second, .val (.long q4), .second, .val (.int p5), .val (.long q1), .second, .val (.long q4), .second, .val (.ref b333), .val (.ref b340), .val (.int (2 : Int32)), .unset, .unset, .unset, .unset] [])) _
              refine XS.lloadN X341.here hx rfl (hb hby at_116) rfl ?_
              exact k
            have X429 : Stand p l e room_1 s m #[(.long q1), (.long q2), (.long q3), (.long q4), (.int p5)] below meth c T429 _ 3 5 := X429
            rcases hQ429 with ⟨b431, hc432, rfl, Nq433, K434, sz_b431, f435, f436⟩ | ⟨b437, hc438, hc439, rfl, Nq440, K441, sz_b437, f442, f443⟩ | ⟨v444, hc445, hc446, rfl, Nq447, e448, f449⟩
            ·
              have N429 := Fr.app N341 Nq433
              have g_b431 : n0 ≤ b431 := Nat.le_trans (own_oz O341) sz_b431
              have M429 : h0.size ≤ T429.heap.size := Nat.le_trans M341 K434.1
              have O429 := Old.keep O341 K434 all0
              have f451 := (((f337.ext E340).keep K343).keep K434)
              obtain ⟨cq450, kq450, q450a, q450b, q450c⟩ := isOf hZ rfl f451
              obtain ⟨_, _, ⟨T452, L452, c452, n452⟩, -, X452, ⟨Lc452, hQ452, l452, y452, z452⟩, st452⟩ := X429.virtualBack hx (y := (⟨"com/example/sablegrid/sablegrid/model/WriteId", "equals", "(Ljava/lang/Object;)Z"⟩ : MethodName)) (z := (⟨"com/example/sablegrid/sablegrid/model/WriteId", "equals", "(Ljava/lang/Object;)Z"⟩ : MethodName)) hown (mvT hZ (hw _ (List.mem_of_getElem? (i := 13) rfl))) (mvT hZ (hw _ (List.mem_of_getElem? (i := 14) rfl))) (notFace_of_selects (args := #[]) (mvT hZ (hw _ (List.mem_of_getElem? (i := 16) rfl)))) (mvT hZ (hw _ (List.mem_of_getElem? (i := 16) rfl))) (mvT hZ (hw _ (List.mem_of_getElem? (i := 15) rfl))) (by decide) (backOf (W := 0) (rm7 l Z a0 hw [] b333 b431 T429.heap n0 O429 g_b333 g_b431 f435) hZ (hw _ (List.mem_of_getElem? (i := 17) rfl)) (hw _ (List.mem_of_getElem? (i := 2) rfl)) (by decide) (by decide)) q450a q450c (g := (mkF m 139 #[.val (.long q1), .second, .val (.long q2), .second, .val (.long q3), .second, .val (.long q4), .second, .val (.int p5), .val (.long q1), .second, .val (.long q4), .second, .val (.ref b333), .val (.ref b340), .val (.int (2 : Int32)), .val (.ref b431), .val (.int (0 : Int32)), .unset, .unset] [(.ref b431), (.ref b333)])) rfl (by rw [hml]; rfl) (Steps.refl _) (argsL := [(.ref b431)]) (rest := []) (lenOf pd1 rfl) rfl (by show 2 * 0 + _ ≤ _; exact Nat.le_of_eq rfl) (hb hby at_139) (fun _ _ => ⟨rfl, rfl, (by decide : 3 + 0 ≤ _), (by decide : 5 + 0 ≤ _)⟩)
              dsimp only [Pt.U, Pt.locs, Pt.cells, Pt.slots] at X452 l452 y452 z452 st452 hQ452
              subst l452 y452 z452
              have X452 : Stand p l e room_1 s m #[(.long q1), (.long q2), (.long q3), (.long q4), (.int p5)] below meth c T452 _ 3 5 := X452
              obtain ⟨rfl, Nq453, e454⟩ := hQ452
              have N452 := Fr.app N429 Nq453
              obtain ⟨fs, hr, hrun, hended, hW, hsame⟩ := X452.leave (v := some (.int (1 : Int32))) (fun h => by rw [hret] at h; cases h)
              refine ⟨_, _, pre430 _ ?_, hrun, hended, _, _, rfl, ?_, ⟨_, rfl⟩, hW, hsame.mono (by decide) (by decide)⟩
              ·
                show Steps p.tables e below (T341.setTop (mkF m 117 #[.val (.long q1), .second, .val (.long q2), .second, .val (.long q3), .second, .val (.long q4), .second, .val (.int p5), .val (.long q1), .second, .val (.long q4), .second, .val (.ref b333), .val (.ref b340), .val (.int (2 : Int32)), .unset, .unset, .unset, .unset] [(.long q1)])) _
                refine st429 _ ?_
                show Steps p.tables e below (T429.setTop (mkF m 120 #[.val (.long q1), .second, .val (.long q2), .second, .val (.long q3), .second, .val (.long q4), .second, .val (.int p5), .val (.long q1), .second, .val (.long q4), .second, .val (.ref b333), .val (.ref b340), .val (.int (2 : Int32)), .unset, .unset, .unset, .unset] [(.ref b431)])) _
                refine XS.astore X429.here hx rfl (hb hby at_120) rfl rfl (l' := #[.val (.long q1), .second, .val (.long q2), .second, .val (.long q3), .second, .val (.long q4), .second, .val (.int p5), .val (.long q1), .second, .val (.long q4), .second, .val (.ref b333), .val (.ref b340), .val (.int (2 : Int32)), .val (.ref b431), .unset, .unset, .unset]) rfl ?_
                show Steps p.tables e below (T429.setTop (mkF m 122 #[.val (.long q1), .second, .val (.long q2), .second, .val (.long q3), .second, .val (.long q4), .second, .val (.int p5), .val (.long q1), .second, .val (.long q4), .second, .val (.ref b333), .val (.ref b340), .val (.int (2 : Int32)), .val (.ref b431), .unset, .unset, .unset] [])) _
                refine XS.iconst X429.here hx rfl (hb hby at_122) ?_
                show Steps p.tables e below (T429.setTop (mkF m 123 #[.val (.long q1), .second, .val (.long q2), .second, .val (.long q3), .second, .val (.long q4), .second, .val (.int p5), .val (.long q1), .second, .val (.long q4), .second, .val (.ref b333), .val (.ref b340), .val (.int (2 : Int32)), .val (.ref b431), .unset, .unset, .unset] [(.int (0 : Int32))])) _
                refine XS.istore X429.here hx rfl (hb hby at_123) rfl (l' := #[.val (.long q1), .second, .val (.long q2), .second, .val (.long q3), .second, .val (.long q4), .second, .val (.int p5), .val (.long q1), .second, .val (.long q4), .second, .val (.ref b333), .val (.ref b340), .val (.int (2 : Int32)), .val (.ref b431), .val (.int (0 : Int32)), .unset, .unset]) rfl ?_
                show Steps p.tables e below (T429.setTop (mkF m 125 #[.val (.long q1), .second, .val (.long q2), .second, .val (.long q3), .second, .val (.long q4), .second, .val (.int p5), .val (.long q1), .second, .val (.long q4), .second, .val (.ref b333), .val (.ref b340), .val (.int (2 : Int32)), .val (.ref b431), .val (.int (0 : Int32)), .unset, .unset] [])) _
                refine XS.goto X429.here hx rfl (pc0 := 125) (pc' := 135) rfl (hb hby at_125) (by decide) (by decide) ?_
                show Steps p.tables e below (T429.setTop (mkF m 135 #[.val (.long q1), .second, .val (.long q2), .second, .val (.long q3), .second, .val (.long q4), .second, .val (.int p5), .val (.long q1), .second, .val (.long q4), .second, .val (.ref b333), .val (.ref b340), .val (.int (2 : Int32)), .val (.ref b431), .val (.int (0 : Int32)), .unset, .unset] [])) _
                refine XS.aload X429.here hx rfl (hb hby at_135) rfl rfl ?_
                show Steps p.tables e below (T429.setTop (mkF m 137 #[.val (.long q1), .second, .val (.long q2), .second, .val (.long q3), .second, .val (.long q4), .second, .val (.int p5), .val (.long q1), .second, .val (.long q4), .second, .val (.ref b333), .val (.ref b340), .val (.int (2 : Int32)), .val (.ref b431), .val (.int (0 : Int32)), .unset, .unset] [(.ref b333)])) _
                refine XS.aload X429.here hx rfl (hb hby at_137) rfl rfl ?_
                show Steps p.tables e below (T429.setTop (mkF m 139 #[.val (.long q1), .second, .val (.long q2), .second, .val (.long q3), .second, .val (.long q4), .second, .val (.int p5), .val (.long q1), .second, .val (.long q4), .second, .val (.ref b333), .val (.ref b340), .val (.int (2 : Int32)), .val (.ref b431), .val (.int (0 : Int32)), .unset, .unset] [(.ref b431), (.ref b333)])) _
                refine st452.trans ?_
                show Steps p.tables e below (T452.setTop (mkF m 142 #[.val (.long q1), .second, .val (.long q2), .second, .val (.long q3), .second, .val (.long q4), .second, .val (.int p5), .val (.long q1), .second, .val (.long q4), .second, .val (.ref b333), .val (.ref b340), .val (.int (2 : Int32)), .val (.ref b431), .val (.int (0 : Int32)), .unset, .unset] [(.int (0 : Int32))])) _
                refine XS.istore X452.here hx rfl (hb hby at_142) rfl (l' := #[.val (.long q1), .second, .val (.long q2), .second, .val (.long q3), .second, .val (.long q4), .second, .val (.int p5), .val (.long q1), .second, .val (.long q4), .second, .val (.ref b333), .val (.ref b340), .val (.int (2 : Int32)), .val (.ref b431), .val (.int (0 : Int32)), .val (.int (0 : Int32)), .unset]) rfl ?_
                show Steps p.tables e below (T452.setTop (mkF m 144 #[.val (.long q1), .second, .val (.long q2), .second, .val (.long q3), .second, .val (.long q4), .second, .val (.int p5), .val (.long q1), .second, .val (.long q4), .second, .val (.ref b333), .val (.ref b340), .val (.int (2 : Int32)), .val (.ref b431), .val (.int (0 : Int32)), .val (.int (0 : Int32)), .unset] [])) _
                refine XS.iload X452.here hx rfl (hb hby at_144) rfl ?_
                show Steps p.tables e below (T452.setTop (mkF m 146 #[.val (.long q1), .second, .val (.long q2), .second, .val (.long q3), .second, .val (.long q4), .second, .val (.int p5), .val (.long q1), .second, .val (.long q4), .second, .val (.ref b333), .val (.ref b340), .val (.int (2 : Int32)), .val (.ref b431), .val (.int (0 : Int32)), .val (.int (0 : Int32)), .unset] [(.int (0 : Int32))])) _
                refine XS.iload X452.here hx rfl (hb hby at_146) rfl ?_
                show Steps p.tables e below (T452.setTop (mkF m 148 #[.val (.long q1), .second, .val (.long q2), .second, .val (.long q3), .second, .val (.long q4), .second, .val (.int p5), .val (.long q1), .second, .val (.long q4), .second, .val (.ref b333), .val (.ref b340), .val (.int (2 : Int32)), .val (.ref b431), .val (.int (0 : Int32)), .val (.int (0 : Int32)), .unset] [(.int (0 : Int32)), (.int (0 : Int32))])) _
                refine XS.icmpYes X452.here hx rfl (pc0 := 148) (pc' := 153) rfl (hb hby at_148) rfl (teq (by decide : (0 : Int32) = (0 : Int32))).1 (by decide) (by decide) ?_
                show Steps p.tables e below (T452.setTop (mkF m 153 #[.val (.long q1), .second, .val (.long q2), .second, .val (.long q3), .second, .val (.long q4), .second, .val (.int p5), .val (.long q1), .second, .val (.long q4), .second, .val (.ref b333), .val (.ref b340), .val (.int (2 : Int32)), .val (.ref b431), .val (.int (0 : Int32)), .val (.int (0 : Int32)), .unset] [])) _
                refine XS.iload X452.here hx rfl (hb hby at_153) rfl ?_
                show Steps p.tables e below (T452.setTop (mkF m 155 #[.val (.long q1), .second, .val (.long q2), .second, .val (.long q3), .second, .val (.long q4), .second, .val (.int p5), .val (.long q1), .second, .val (.long q4), .second, .val (.ref b333), .val (.ref b340), .val (.int (2 : Int32)), .val (.ref b431), .val (.int (0 : Int32)), .val (.int (0 : Int32)), .unset] [(.int (2 : Int32))])) _
                refine XS.ifYes X452.here hx rfl (pc0 := 155) (pc' := 176) rfl (hb hby at_155) rfl ((if0 _ _).trans (feq (by decide : ¬ ((2 : Int32) = (0 : Int32)))).2) (by decide) (by decide) ?_
                show Steps p.tables e below (T452.setTop (mkF m 176 #[.val (.long q1), .second, .val (.long q2), .second, .val (.long q3), .second, .val (.long q4), .second, .val (.int p5), .val (.long q1), .second, .val (.long q4), .second, .val (.ref b333), .val (.ref b340), .val (.int (2 : Int32)), .val (.ref b431), .val (.int (0 : Int32)), .val (.int (0 : Int32)), .unset] [])) _
                refine XS.iconst X452.here hx rfl (hb hby at_176) ?_
                show Steps p.tables e below (T452.setTop (mkF m 177 #[.val (.long q1), .second, .val (.long q2), .second, .val (.long q3), .second, .val (.long q4), .second, .val (.int p5), .val (.long q1), .second, .val (.long q4), .second, .val (.ref b333), .val (.ref b340), .val (.int (2 : Int32)), .val (.ref b431), .val (.int (0 : Int32)), .val (.int (0 : Int32)), .unset] [(.int (1 : Int32))])) _
                exact retN X452 hx (t := .boolean) hret (by simp) (hb hby at_177) hr
              ·
                show Q0 n0 _ T452.heap _
                rw [e454]
                exact ⟨rfl, N452⟩
            ·
              have N429 := Fr.app N341 Nq440
              have g_b437 : n0 ≤ b437 := Nat.le_trans (own_oz O341) sz_b437
              have M429 : h0.size ≤ T429.heap.size := Nat.le_trans M341 K441.1
              have O429 := Old.keep O341 K441 all0
              have f456 := (((f337.ext E340).keep K343).keep K441)
              obtain ⟨cq455, kq455, q455a, q455b, q455c⟩ := isOf hZ rfl f456
              obtain ⟨_, _, ⟨T457, L457, c457, n457⟩, -, X457, ⟨Lc457, hQ457, l457, y457, z457⟩, st457⟩ := X429.virtualBack hx (y := (⟨"com/example/sablegrid/sablegrid/model/WriteId", "equals", "(Ljava/lang/Object;)Z"⟩ : MethodName)) (z := (⟨"com/example/sablegrid/sablegrid/model/WriteId", "equals", "(Ljava/lang/Object;)Z"⟩ : MethodName)) hown (mvT hZ (hw _ (List.mem_of_getElem? (i := 13) rfl))) (mvT hZ (hw _ (List.mem_of_getElem? (i := 14) rfl))) (notFace_of_selects (args := #[]) (mvT hZ (hw _ (List.mem_of_getElem? (i := 16) rfl)))) (mvT hZ (hw _ (List.mem_of_getElem? (i := 16) rfl))) (mvT hZ (hw _ (List.mem_of_getElem? (i := 15) rfl))) (by decide) (backOf (W := 0) (rm7 l Z a0 hw [] b333 b437 T429.heap n0 O429 g_b333 g_b437 f442) hZ (hw _ (List.mem_of_getElem? (i := 17) rfl)) (hw _ (List.mem_of_getElem? (i := 2) rfl)) (by decide) (by decide)) q455a q455c (g := (mkF m 139 #[.val (.long q1), .second, .val (.long q2), .second, .val (.long q3), .second, .val (.long q4), .second, .val (.int p5), .val (.long q1), .second, .val (.long q4), .second, .val (.ref b333), .val (.ref b340), .val (.int (2 : Int32)), .val (.ref b437), .val (.int (0 : Int32)), .unset, .unset] [(.ref b437), (.ref b333)])) rfl (by rw [hml]; rfl) (Steps.refl _) (argsL := [(.ref b437)]) (rest := []) (lenOf pd1 rfl) rfl (by show 2 * 0 + _ ≤ _; exact Nat.le_of_eq rfl) (hb hby at_139) (fun _ _ => ⟨rfl, rfl, (by decide : 3 + 0 ≤ _), (by decide : 5 + 0 ≤ _)⟩)
              dsimp only [Pt.U, Pt.locs, Pt.cells, Pt.slots] at X457 l457 y457 z457 st457 hQ457
              subst l457 y457 z457
              have X457 : Stand p l e room_1 s m #[(.long q1), (.long q2), (.long q3), (.long q4), (.int p5)] below meth c T457 _ 3 5 := X457
              obtain ⟨rfl, Nq458, e459⟩ := hQ457
              have N457 := Fr.app N429 Nq458
              obtain ⟨fs, hr, hrun, hended, hW, hsame⟩ := X457.leave (v := some (.int (1 : Int32))) (fun h => by rw [hret] at h; cases h)
              refine ⟨_, _, pre430 _ ?_, hrun, hended, _, _, rfl, ?_, ⟨_, rfl⟩, hW, hsame.mono (by decide) (by decide)⟩
              ·
                show Steps p.tables e below (T341.setTop (mkF m 117 #[.val (.long q1), .second, .val (.long q2), .second, .val (.long q3), .second, .val (.long q4), .second, .val (.int p5), .val (.long q1), .second, .val (.long q4), .second, .val (.ref b333), .val (.ref b340), .val (.int (2 : Int32)), .unset, .unset, .unset, .unset] [(.long q1)])) _
                refine st429 _ ?_
                show Steps p.tables e below (T429.setTop (mkF m 120 #[.val (.long q1), .second, .val (.long q2), .second, .val (.long q3), .second, .val (.long q4), .second, .val (.int p5), .val (.long q1), .second, .val (.long q4), .second, .val (.ref b333), .val (.ref b340), .val (.int (2 : Int32)), .unset, .unset, .unset, .unset] [(.ref b437)])) _
                refine XS.astore X429.here hx rfl (hb hby at_120) rfl rfl (l' := #[.val (.long q1), .second, .val (.long q2), .second, .val (.long q3), .second, .val (.long q4), .second, .val (.int p5), .val (.long q1), .second, .val (.long q4), .second, .val (.ref b333), .val (.ref b340), .val (.int (2 : Int32)), .val (.ref b437), .unset, .unset, .unset]) rfl ?_
                show Steps p.tables e below (T429.setTop (mkF m 122 #[.val (.long q1), .second, .val (.long q2), .second, .val (.long q3), .second, .val (.long q4), .second, .val (.int p5), .val (.long q1), .second, .val (.long q4), .second, .val (.ref b333), .val (.ref b340), .val (.int (2 : Int32)), .val (.ref b437), .unset, .unset, .unset] [])) _
                refine XS.iconst X429.here hx rfl (hb hby at_122) ?_
                show Steps p.tables e below (T429.setTop (mkF m 123 #[.val (.long q1), .second, .val (.long q2), .second, .val (.long q3), .second, .val (.long q4), .second, .val (.int p5), .val (.long q1), .second, .val (.long q4), .second, .val (.ref b333), .val (.ref b340), .val (.int (2 : Int32)), .val (.ref b437), .unset, .unset, .unset] [(.int (0 : Int32))])) _
                refine XS.istore X429.here hx rfl (hb hby at_123) rfl (l' := #[.val (.long q1), .second, .val (.long q2), .second, .val (.long q3), .second, .val (.long q4), .second, .val (.int p5), .val (.long q1), .second, .val (.long q4), .second, .val (.ref b333), .val (.ref b340), .val (.int (2 : Int32)), .val (.ref b437), .val (.int (0 : Int32)), .unset, .unset]) rfl ?_
                show Steps p.tables e below (T429.setTop (mkF m 125 #[.val (.long q1), .second, .val (.long q2), .second, .val (.long q3), .second, .val (.long q4), .second, .val (.int p5), .val (.long q1), .second, .val (.long q4), .second, .val (.ref b333), .val (.ref b340), .val (.int (2 : Int32)), .val (.ref b437), .val (.int (0 : Int32)), .unset, .unset] [])) _
                refine XS.goto X429.here hx rfl (pc0 := 125) (pc' := 135) rfl (hb hby at_125) (by decide) (by decide) ?_
                show Steps p.tables e below (T429.setTop (mkF m 135 #[.val (.long q1), .second, .val (.long q2), .second, .val (.long q3), .second, .val (.long q4), .second, .val (.int p5), .val (.long q1), .second, .val (.long q4), .second, .val (.ref b333), .val (.ref b340), .val (.int (2 : Int32)), .val (.ref b437), .val (.int (0 : Int32)), .unset, .unset] [])) _
                refine XS.aload X429.here hx rfl (hb hby at_135) rfl rfl ?_
                show Steps p.tables e below (T429.setTop (mkF m 137 #[.val (.long q1), .second, .val (.long q2), .second, .val (.long q3), .second, .val (.long q4), .second, .val (.int p5), .val (.long q1), .second, .val (.long q4), .second, .val (.ref b333), .val (.ref b340), .val (.int (2 : Int32)), .val (.ref b437), .val (.int (0 : Int32)), .unset, .unset] [(.ref b333)])) _
                refine XS.aload X429.here hx rfl (hb hby at_137) rfl rfl ?_
                show Steps p.tables e below (T429.setTop (mkF m 139 #[.val (.long q1), .second, .val (.long q2), .second, .val (.long q3), .second, .val (.long q4), .second, .val (.int p5), .val (.long q1), .second, .val (.long q4), .second, .val (.ref b333), .val (.ref b340), .val (.int (2 : Int32)), .val (.ref b437), .val (.int (0 : Int32)), .unset, .unset] [(.ref b437), (.ref b333)])) _
                refine st457.trans ?_
                show Steps p.tables e below (T457.setTop (mkF m 142 #[.val (.long q1), .second, .val (.long q2), .second, .val (.long q3), .second, .val (.long q4), .second, .val (.int p5), .val (.long q1), .second, .val (.long q4), .second, .val (.ref b333), .val (.ref b340), .val (.int (2 : Int32)), .val (.ref b437), .val (.int (0 : Int32)), .unset, .unset] [(.int (0 : Int32))])) _
                refine XS.istore X457.here hx rfl (hb hby at_142) rfl (l' := #[.val (.long q1), .second, .val (.long q2), .second, .val (.long q3), .second, .val (.long q4), .second, .val (.int p5), .val (.long q1), .second, .val (.long q4), .second, .val (.ref b333), .val (.ref b340), .val (.int (2 : Int32)), .val (.ref b437), .val (.int (0 : Int32)), .val (.int (0 : Int32)), .unset]) rfl ?_
                show Steps p.tables e below (T457.setTop (mkF m 144 #[.val (.long q1), .second, .val (.long q2), .second, .val (.long q3), .second, .val (.long q4), .second, .val (.int p5), .val (.long q1), .second, .val (.long q4), .second, .val (.ref b333), .val (.ref b340), .val (.int (2 : Int32)), .val (.ref b437), .val (.int (0 : Int32)), .val (.int (0 : Int32)), .unset] [])) _
                refine XS.iload X457.here hx rfl (hb hby at_144) rfl ?_
                show Steps p.tables e below (T457.setTop (mkF m 146 #[.val (.long q1), .second, .val (.long q2), .second, .val (.long q3), .second, .val (.long q4), .second, .val (.int p5), .val (.long q1), .second, .val (.long q4), .second, .val (.ref b333), .val (.ref b340), .val (.int (2 : Int32)), .val (.ref b437), .val (.int (0 : Int32)), .val (.int (0 : Int32)), .unset] [(.int (0 : Int32))])) _
                refine XS.iload X457.here hx rfl (hb hby at_146) rfl ?_
                show Steps p.tables e below (T457.setTop (mkF m 148 #[.val (.long q1), .second, .val (.long q2), .second, .val (.long q3), .second, .val (.long q4), .second, .val (.int p5), .val (.long q1), .second, .val (.long q4), .second, .val (.ref b333), .val (.ref b340), .val (.int (2 : Int32)), .val (.ref b437), .val (.int (0 : Int32)), .val (.int (0 : Int32)), .unset] [(.int (0 : Int32)), (.int (0 : Int32))])) _
                refine XS.icmpYes X457.here hx rfl (pc0 := 148) (pc' := 153) rfl (hb hby at_148) rfl (teq (by decide : (0 : Int32) = (0 : Int32))).1 (by decide) (by decide) ?_
                show Steps p.tables e below (T457.setTop (mkF m 153 #[.val (.long q1), .second, .val (.long q2), .second, .val (.long q3), .second, .val (.long q4), .second, .val (.int p5), .val (.long q1), .second, .val (.long q4), .second, .val (.ref b333), .val (.ref b340), .val (.int (2 : Int32)), .val (.ref b437), .val (.int (0 : Int32)), .val (.int (0 : Int32)), .unset] [])) _
                refine XS.iload X457.here hx rfl (hb hby at_153) rfl ?_
                show Steps p.tables e below (T457.setTop (mkF m 155 #[.val (.long q1), .second, .val (.long q2), .second, .val (.long q3), .second, .val (.long q4), .second, .val (.int p5), .val (.long q1), .second, .val (.long q4), .second, .val (.ref b333), .val (.ref b340), .val (.int (2 : Int32)), .val (.ref b437), .val (.int (0 : Int32)), .val (.int (0 : Int32)), .unset] [(.int (2 : Int32))])) _
                refine XS.ifYes X457.here hx rfl (pc0 := 155) (pc' := 176) rfl (hb hby at_155) rfl ((if0 _ _).trans (feq (by decide : ¬ ((2 : Int32) = (0 : Int32)))).2) (by decide) (by decide) ?_
                show Steps p.tables e below (T457.setTop (mkF m 176 #[.val (.long q1), .second, .val (.long q2), .second, .val (.long q3), .second, .val (.long q4), .second, .val (.int p5), .val (.long q1), .second, .val (.long q4), .second, .val (.ref b333), .val (.ref b340), .val (.int (2 : Int32)), .val (.ref b437), .val (.int (0 : Int32)), .val (.int (0 : Int32)), .unset] [])) _
                refine XS.iconst X457.here hx rfl (hb hby at_176) ?_
                show Steps p.tables e below (T457.setTop (mkF m 177 #[.val (.long q1), .second, .val (.long q2), .second, .val (.long q3), .second, .val (.long q4), .second, .val (.int p5), .val (.long q1), .second, .val (.long q4), .second, .val (.ref b333), .val (.ref b340), .val (.int (2 : Int32)), .val (.ref b437), .val (.int (0 : Int32)), .val (.int (0 : Int32)), .unset] [(.int (1 : Int32))])) _
                exact retN X457 hx (t := .boolean) hret (by simp) (hb hby at_177) hr
              ·
                show Q0 n0 _ T457.heap _
                rw [e459]
                exact ⟨rfl, N457⟩
            ·
              have N429 := Fr.app N341 Nq447
              have f461 := ((f337.ext E340).keep K343)
              obtain ⟨cq460, kq460, q460a, q460b, q460c⟩ := isOf hZ e448 f461
              obtain ⟨_, _, ⟨T462, L462, c462, n462⟩, -, X462, ⟨Lc462, hQ462, l462, y462, z462⟩, st462⟩ := X429.virtualBack hx (y := (⟨"com/example/sablegrid/sablegrid/model/WriteId", "equals", "(Ljava/lang/Object;)Z"⟩ : MethodName)) (z := (⟨"com/example/sablegrid/sablegrid/model/WriteId", "equals", "(Ljava/lang/Object;)Z"⟩ : MethodName)) hown (mvT hZ (hw _ (List.mem_of_getElem? (i := 13) rfl))) (mvT hZ (hw _ (List.mem_of_getElem? (i := 14) rfl))) (notFace_of_selects (args := #[]) (mvT hZ (hw _ (List.mem_of_getElem? (i := 16) rfl)))) (mvT hZ (hw _ (List.mem_of_getElem? (i := 16) rfl))) (mvT hZ (hw _ (List.mem_of_getElem? (i := 15) rfl))) (by decide) (backOf (W := 0) (rm8 l Z a0 hw [] b333 v444 T341.heap n0 O341 g_b333 f449) hZ (hw _ (List.mem_of_getElem? (i := 17) rfl)) (hw _ (List.mem_of_getElem? (i := 2) rfl)) (by decide) (by decide)) q460a q460c (g := (mkF m 139 #[.val (.long q1), .second, .val (.long q2), .second, .val (.long q3), .second, .val (.long q4), .second, .val (.int p5), .val (.long q1), .second, .val (.long q4), .second, .val (.ref b333), .val (.ref b340), .val (.int (2 : Int32)), .val (.ref v444), .val (.int (0 : Int32)), .unset, .unset] [(.ref v444), (.ref b333)])) rfl (by rw [hml]; rfl) (Steps.refl _) (argsL := [(.ref v444)]) (rest := []) (lenOf pd1 rfl) rfl (by show 2 * 0 + _ ≤ _; exact Nat.le_of_eq rfl) (hb hby at_139) (fun _ _ => ⟨rfl, e448, (by decide : 3 + 0 ≤ _), (by decide : 5 + 0 ≤ _)⟩)
              dsimp only [Pt.U, Pt.locs, Pt.cells, Pt.slots] at X462 l462 y462 z462 st462 hQ462
              subst l462 y462 z462
              have X462 : Stand p l e room_1 s m #[(.long q1), (.long q2), (.long q3), (.long q4), (.int p5)] below meth c T462 _ 3 5 := X462
              obtain ⟨rfl, Nq463, e464⟩ := hQ462
              have N462 := Fr.app N429 Nq463
              obtain ⟨fs, hr, hrun, hended, hW, hsame⟩ := X462.leave (v := some (.int (1 : Int32))) (fun h => by rw [hret] at h; cases h)
              refine ⟨_, _, pre430 _ ?_, hrun, hended, _, _, rfl, ?_, ⟨_, rfl⟩, hW, hsame.mono (by decide) (by decide)⟩
              ·
                show Steps p.tables e below (T341.setTop (mkF m 117 #[.val (.long q1), .second, .val (.long q2), .second, .val (.long q3), .second, .val (.long q4), .second, .val (.int p5), .val (.long q1), .second, .val (.long q4), .second, .val (.ref b333), .val (.ref b340), .val (.int (2 : Int32)), .unset, .unset, .unset, .unset] [(.long q1)])) _
                refine st429 _ ?_
                show Steps p.tables e below (T429.setTop (mkF m 120 #[.val (.long q1), .second, .val (.long q2), .second, .val (.long q3), .second, .val (.long q4), .second, .val (.int p5), .val (.long q1), .second, .val (.long q4), .second, .val (.ref b333), .val (.ref b340), .val (.int (2 : Int32)), .unset, .unset, .unset, .unset] [(.ref v444)])) _
                refine XS.astore X429.here hx rfl (hb hby at_120) rfl rfl (l' := #[.val (.long q1), .second, .val (.long q2), .second, .val (.long q3), .second, .val (.long q4), .second, .val (.int p5), .val (.long q1), .second, .val (.long q4), .second, .val (.ref b333), .val (.ref b340), .val (.int (2 : Int32)), .val (.ref v444), .unset, .unset, .unset]) rfl ?_
                show Steps p.tables e below (T429.setTop (mkF m 122 #[.val (.long q1), .second, .val (.long q2), .second, .val (.long q3), .second, .val (.long q4), .second, .val (.int p5), .val (.long q1), .second, .val (.long q4), .second, .val (.ref b333), .val (.ref b340), .val (.int (2 : Int32)), .val (.ref v444), .unset, .unset, .unset] [])) _
                refine XS.iconst X429.here hx rfl (hb hby at_122) ?_
                show Steps p.tables e below (T429.setTop (mkF m 123 #[.val (.long q1), .second, .val (.long q2), .second, .val (.long q3), .second, .val (.long q4), .second, .val (.int p5), .val (.long q1), .second, .val (.long q4), .second, .val (.ref b333), .val (.ref b340), .val (.int (2 : Int32)), .val (.ref v444), .unset, .unset, .unset] [(.int (0 : Int32))])) _
                refine XS.istore X429.here hx rfl (hb hby at_123) rfl (l' := #[.val (.long q1), .second, .val (.long q2), .second, .val (.long q3), .second, .val (.long q4), .second, .val (.int p5), .val (.long q1), .second, .val (.long q4), .second, .val (.ref b333), .val (.ref b340), .val (.int (2 : Int32)), .val (.ref v444), .val (.int (0 : Int32)), .unset, .unset]) rfl ?_
                show Steps p.tables e below (T429.setTop (mkF m 125 #[.val (.long q1), .second, .val (.long q2), .second, .val (.long q3), .second, .val (.long q4), .second, .val (.int p5), .val (.long q1), .second, .val (.long q4), .second, .val (.ref b333), .val (.ref b340), .val (.int (2 : Int32)), .val (.ref v444), .val (.int (0 : Int32)), .unset, .unset] [])) _
                refine XS.goto X429.here hx rfl (pc0 := 125) (pc' := 135) rfl (hb hby at_125) (by decide) (by decide) ?_
                show Steps p.tables e below (T429.setTop (mkF m 135 #[.val (.long q1), .second, .val (.long q2), .second, .val (.long q3), .second, .val (.long q4), .second, .val (.int p5), .val (.long q1), .second, .val (.long q4), .second, .val (.ref b333), .val (.ref b340), .val (.int (2 : Int32)), .val (.ref v444), .val (.int (0 : Int32)), .unset, .unset] [])) _
                refine XS.aload X429.here hx rfl (hb hby at_135) rfl rfl ?_
                show Steps p.tables e below (T429.setTop (mkF m 137 #[.val (.long q1), .second, .val (.long q2), .second, .val (.long q3), .second, .val (.long q4), .second, .val (.int p5), .val (.long q1), .second, .val (.long q4), .second, .val (.ref b333), .val (.ref b340), .val (.int (2 : Int32)), .val (.ref v444), .val (.int (0 : Int32)), .unset, .unset] [(.ref b333)])) _
                refine XS.aload X429.here hx rfl (hb hby at_137) rfl rfl ?_
                show Steps p.tables e below (T429.setTop (mkF m 139 #[.val (.long q1), .second, .val (.long q2), .second, .val (.long q3), .second, .val (.long q4), .second, .val (.int p5), .val (.long q1), .second, .val (.long q4), .second, .val (.ref b333), .val (.ref b340), .val (.int (2 : Int32)), .val (.ref v444), .val (.int (0 : Int32)), .unset, .unset] [(.ref v444), (.ref b333)])) _
                refine st462.trans ?_
                show Steps p.tables e below (T462.setTop (mkF m 142 #[.val (.long q1), .second, .val (.long q2), .second, .val (.long q3), .second, .val (.long q4), .second, .val (.int p5), .val (.long q1), .second, .val (.long q4), .second, .val (.ref b333), .val (.ref b340), .val (.int (2 : Int32)), .val (.ref v444), .val (.int (0 : Int32)), .unset, .unset] [(.int (0 : Int32))])) _
                refine XS.istore X462.here hx rfl (hb hby at_142) rfl (l' := #[.val (.long q1), .second, .val (.long q2), .second, .val (.long q3), .second, .val (.long q4), .second, .val (.int p5), .val (.long q1), .second, .val (.long q4), .second, .val (.ref b333), .val (.ref b340), .val (.int (2 : Int32)), .val (.ref v444), .val (.int (0 : Int32)), .val (.int (0 : Int32)), .unset]) rfl ?_
                show Steps p.tables e below (T462.setTop (mkF m 144 #[.val (.long q1), .second, .val (.long q2), .second, .val (.long q3), .second, .val (.long q4), .second, .val (.int p5), .val (.long q1), .second, .val (.long q4), .second, .val (.ref b333), .val (.ref b340), .val (.int (2 : Int32)), .val (.ref v444), .val (.int (0 : Int32)), .val (.int (0 : Int32)), .unset] [])) _
                refine XS.iload X462.here hx rfl (hb hby at_144) rfl ?_
                show Steps p.tables e below (T462.setTop (mkF m 146 #[.val (.long q1), .second, .val (.long q2), .second, .val (.long q3), .second, .val (.long q4), .second, .val (.int p5), .val (.long q1), .second, .val (.long q4), .second, .val (.ref b333), .val (.ref b340), .val (.int (2 : Int32)), .val (.ref v444), .val (.int (0 : Int32)), .val (.int (0 : Int32)), .unset] [(.int (0 : Int32))])) _
                refine XS.iload X462.here hx rfl (hb hby at_146) rfl ?_
                show Steps p.tables e below (T462.setTop (mkF m 148 #[.val (.long q1), .second, .val (.long q2), .second, .val (.long q3), .second, .val (.long q4), .second, .val (.int p5), .val (.long q1), .second, .val (.long q4), .second, .val (.ref b333), .val (.ref b340), .val (.int (2 : Int32)), .val (.ref v444), .val (.int (0 : Int32)), .val (.int (0 : Int32)), .unset] [(.int (0 : Int32)), (.int (0 : Int32))])) _
                refine XS.icmpYes X462.here hx rfl (pc0 := 148) (pc' := 153) rfl (hb hby at_148) rfl (teq (by decide : (0 : Int32) = (0 : Int32))).1 (by decide) (by decide) ?_
                show Steps p.tables e below (T462.setTop (mkF m 153 #[.val (.long q1), .second, .val (.long q2), .second, .val (.long q3), .second, .val (.long q4), .second, .val (.int p5), .val (.long q1), .second, .val (.long q4), .second, .val (.ref b333), .val (.ref b340), .val (.int (2 : Int32)), .val (.ref v444), .val (.int (0 : Int32)), .val (.int (0 : Int32)), .unset] [])) _
                refine XS.iload X462.here hx rfl (hb hby at_153) rfl ?_
                show Steps p.tables e below (T462.setTop (mkF m 155 #[.val (.long q1), .second, .val (.long q2), .second, .val (.long q3), .second, .val (.long q4), .second, .val (.int p5), .val (.long q1), .second, .val (.long q4), .second, .val (.ref b333), .val (.ref b340), .val (.int (2 : Int32)), .val (.ref v444), .val (.int (0 : Int32)), .val (.int (0 : Int32)), .unset] [(.int (2 : Int32))])) _
                refine XS.ifYes X462.here hx rfl (pc0 := 155) (pc' := 176) rfl (hb hby at_155) rfl ((if0 _ _).trans (feq (by decide : ¬ ((2 : Int32) = (0 : Int32)))).2) (by decide) (by decide) ?_
                show Steps p.tables e below (T462.setTop (mkF m 176 #[.val (.long q1), .second, .val (.long q2), .second, .val (.long q3), .second, .val (.long q4), .second, .val (.int p5), .val (.long q1), .second, .val (.long q4), .second, .val (.ref b333), .val (.ref b340), .val (.int (2 : Int32)), .val (.ref v444), .val (.int (0 : Int32)), .val (.int (0 : Int32)), .unset] [])) _
                refine XS.iconst X462.here hx rfl (hb hby at_176) ?_
                show Steps p.tables e below (T462.setTop (mkF m 177 #[.val (.long q1), .second, .val (.long q2), .second, .val (.long q3), .second, .val (.long q4), .second, .val (.int p5), .val (.long q1), .second, .val (.long q4), .second, .val (.ref b333), .val (.ref b340), .val (.int (2 : Int32)), .val (.ref v444), .val (.int (0 : Int32)), .val (.int (0 : Int32)), .unset] [(.int (1 : Int32))])) _
                exact retN X462 hx (t := .boolean) hret (by simp) (hb hby at_177) hr
              ·
                show Q0 n0 _ T462.heap _
                rw [e464]
                exact ⟨rfl, N462⟩
          ·
            have hq465 : (((p5.toUInt32 >>> ((2 : Int32) &&& 31).toUInt32).toInt32) &&& (3 : Int32)) = (3 : Int32) := (own_geq (n := 3) (k := (3 : Int32)) (by decide) (by have q0 := own_and (x := ((p5.toUInt32 >>> ((2 : Int32) &&& 31).toUInt32).toInt32)) (k := (3 : Int32)) (n := 3) (by decide) (by decide); have q1 := own_neq (n := 0) (k := (0 : Int32)) (by decide) hc348; have q2 := own_neq (n := 1) (k := (1 : Int32)) (by decide) hc419; have q3 := own_neq (n := 2) (k := (2 : Int32)) (by decide) hc427; omega))
            have pre466 : ∀ t, Steps p.tables e below (T341.setTop (mkF m 113 #[.val (.long q1), .second, .val (.long q2), .second, .val (.long q3), .second, .val (.long q4), .second, .val (.int p5), .val (.long q1), .second, .val (.long q4), .second, .val (.ref b333), .val (.ref b340), .val (.int (3 : Int32)), .unset, .unset, .unset, .unset] [(.int (2 : Int32)), (.int (3 : Int32))])) t → Steps p.tables e below (s₁.setTop (entryFrame m #[(.long q1), (.long q2), (.long q3), (.long q4), (.int p5)] maxLocals)) t := fun t k => pre426 t (by rw [hq465]; exact k)
            have f467 := ((f337.ext E340).keep K343)
            have lt468 : b333 < T334.heap.size := (Nat.lt_of_lt_of_le A333.lt K336.1)
            have ne469 : b333 ≠ b340 := Nat.ne_of_lt (Nat.lt_of_lt_of_le lt468 sz_b340)
            have f470 := ((f338.ext E340).keep K343 (ninS ne469 nin0))
            have f471 := ((f339.ext E340).keep K343 (ninS ne469 nin0))
            obtain ⟨cq472, kq472, q472a, q472b, q472c⟩ := isOf hZ rfl f467
            obtain ⟨_, _, ⟨T473, L473, c473, n473⟩, -, X473, ⟨Lc473, hQ473, l473, y473, z473⟩, st473⟩ := X341.virtualBack hx (y := (⟨"com/example/sablegrid/sablegrid/model/WriteId", "equals", "(Ljava/lang/Object;)Z"⟩ : MethodName)) (z := (⟨"com/example/sablegrid/sablegrid/model/WriteId", "equals", "(Ljava/lang/Object;)Z"⟩ : MethodName)) hown (mvT hZ (hw _ (List.mem_of_getElem? (i := 13) rfl))) (mvT hZ (hw _ (List.mem_of_getElem? (i := 14) rfl))) (notFace_of_selects (args := #[]) (mvT hZ (hw _ (List.mem_of_getElem? (i := 16) rfl)))) (mvT hZ (hw _ (List.mem_of_getElem? (i := 16) rfl))) (mvT hZ (hw _ (List.mem_of_getElem? (i := 15) rfl))) (by decide) (backOf (W := 0) (rm9 l Z a0 hw [] b333 q1 q2 T341.heap n0 O341 g_b333 f467 f470 f471) hZ (hw _ (List.mem_of_getElem? (i := 17) rfl)) (hw _ (List.mem_of_getElem? (i := 2) rfl)) (by decide) (by decide)) q472a q472c (g := (mkF m 139 #[.val (.long q1), .second, .val (.long q2), .second, .val (.long q3), .second, .val (.long q4), .second, .val (.int p5), .val (.long q1), .second, .val (.long q4), .second, .val (.ref b333), .val (.ref b340), .val (.int (3 : Int32)), .val (.ref b333), .val (.int (1 : Int32)), .unset, .unset] [(.ref b333), (.ref b333)])) rfl (by rw [hml]; rfl) (Steps.refl _) (argsL := [(.ref b333)]) (rest := []) (lenOf pd1 rfl) rfl (by show 2 * 0 + _ ≤ _; exact Nat.le_of_eq rfl) (hb hby at_139) (fun _ _ => ⟨rfl, rfl, (by decide : 2 + 0 ≤ _), (by decide : 4 + 0 ≤ _)⟩)
            dsimp only [Pt.U, Pt.locs, Pt.cells, Pt.slots] at X473 l473 y473 z473 st473 hQ473
            subst l473 y473 z473
            have X473 : Stand p l e room_1 s m #[(.long q1), (.long q2), (.long q3), (.long q4), (.int p5)] below meth c T473 _ 2 4 := X473
            obtain ⟨rfl, Nq474, e475⟩ := hQ473
            have N473 := Fr.app N341 Nq474
            obtain ⟨fs, hr, hrun, hended, hW, hsame⟩ := X473.leave (v := some (.int (1 : Int32))) (fun h => by rw [hret] at h; cases h)
            refine ⟨_, _, pre466 _ ?_, hrun, hended, _, _, rfl, ?_, ⟨_, rfl⟩, hW, hsame.mono (by decide) (by decide)⟩
            ·
              show Steps p.tables e below (T341.setTop (mkF m 113 #[.val (.long q1), .second, .val (.long q2), .second, .val (.long q3), .second, .val (.long q4), .second, .val (.int p5), .val (.long q1), .second, .val (.long q4), .second, .val (.ref b333), .val (.ref b340), .val (.int (3 : Int32)), .unset, .unset, .unset, .unset] [(.int (2 : Int32)), (.int (3 : Int32))])) _
              refine XS.icmpYes X341.here hx rfl (pc0 := 113) (pc' := 128) rfl (hb hby at_113) rfl (feq (by decide : ¬ ((3 : Int32) = (2 : Int32)))).2 (by decide) (by decide) ?_
              show Steps p.tables e below (T341.setTop (mkF m 128 #[.val (.long q1), .second, .val (.long q2), .second, .val (.long q3), .second, .val (.long q4), .second, .val (.int p5), .val (.long q1), .second, .val (.long q4), .second, .val (.ref b333), .val (.ref b340), .val (.int (3 : Int32)), .unset, .unset, .unset, .unset] [])) _
              refine XS.aload X341.here hx rfl (hb hby at_128) rfl rfl ?_
              show Steps p.tables e below (T341.setTop (mkF m 130 #[.val (.long q1), .second, .val (.long q2), .second, .val (.long q3), .second, .val (.long q4), .second, .val (.int p5), .val (.long q1), .second, .val (.long q4), .second, .val (.ref b333), .val (.ref b340), .val (.int (3 : Int32)), .unset, .unset, .unset, .unset] [(.ref b333)])) _
              refine XS.astore X341.here hx rfl (hb hby at_130) rfl rfl (l' := #[.val (.long q1), .second, .val (.long q2), .second, .val (.long q3), .second, .val (.long q4), .second, .val (.int p5), .val (.long q1), .second, .val (.long q4), .second, .val (.ref b333), .val (.ref b340), .val (.int (3 : Int32)), .val (.ref b333), .unset, .unset, .unset]) rfl ?_
              show Steps p.tables e below (T341.setTop (mkF m 132 #[.val (.long q1), .second, .val (.long q2), .second, .val (.long q3), .second, .val (.long q4), .second, .val (.int p5), .val (.long q1), .second, .val (.long q4), .second, .val (.ref b333), .val (.ref b340), .val (.int (3 : Int32)), .val (.ref b333), .unset, .unset, .unset] [])) _
              refine XS.iconst X341.here hx rfl (hb hby at_132) ?_
              show Steps p.tables e below (T341.setTop (mkF m 133 #[.val (.long q1), .second, .val (.long q2), .second, .val (.long q3), .second, .val (.long q4), .second, .val (.int p5), .val (.long q1), .second, .val (.long q4), .second, .val (.ref b333), .val (.ref b340), .val (.int (3 : Int32)), .val (.ref b333), .unset, .unset, .unset] [(.int (1 : Int32))])) _
              refine XS.istore X341.here hx rfl (hb hby at_133) rfl (l' := #[.val (.long q1), .second, .val (.long q2), .second, .val (.long q3), .second, .val (.long q4), .second, .val (.int p5), .val (.long q1), .second, .val (.long q4), .second, .val (.ref b333), .val (.ref b340), .val (.int (3 : Int32)), .val (.ref b333), .val (.int (1 : Int32)), .unset, .unset]) rfl ?_
              show Steps p.tables e below (T341.setTop (mkF m 135 #[.val (.long q1), .second, .val (.long q2), .second, .val (.long q3), .second, .val (.long q4), .second, .val (.int p5), .val (.long q1), .second, .val (.long q4), .second, .val (.ref b333), .val (.ref b340), .val (.int (3 : Int32)), .val (.ref b333), .val (.int (1 : Int32)), .unset, .unset] [])) _
              refine XS.aload X341.here hx rfl (hb hby at_135) rfl rfl ?_
              show Steps p.tables e below (T341.setTop (mkF m 137 #[.val (.long q1), .second, .val (.long q2), .second, .val (.long q3), .second, .val (.long q4), .second, .val (.int p5), .val (.long q1), .second, .val (.long q4), .second, .val (.ref b333), .val (.ref b340), .val (.int (3 : Int32)), .val (.ref b333), .val (.int (1 : Int32)), .unset, .unset] [(.ref b333)])) _
              refine XS.aload X341.here hx rfl (hb hby at_137) rfl rfl ?_
              show Steps p.tables e below (T341.setTop (mkF m 139 #[.val (.long q1), .second, .val (.long q2), .second, .val (.long q3), .second, .val (.long q4), .second, .val (.int p5), .val (.long q1), .second, .val (.long q4), .second, .val (.ref b333), .val (.ref b340), .val (.int (3 : Int32)), .val (.ref b333), .val (.int (1 : Int32)), .unset, .unset] [(.ref b333), (.ref b333)])) _
              refine st473.trans ?_
              show Steps p.tables e below (T473.setTop (mkF m 142 #[.val (.long q1), .second, .val (.long q2), .second, .val (.long q3), .second, .val (.long q4), .second, .val (.int p5), .val (.long q1), .second, .val (.long q4), .second, .val (.ref b333), .val (.ref b340), .val (.int (3 : Int32)), .val (.ref b333), .val (.int (1 : Int32)), .unset, .unset] [(.int (1 : Int32))])) _
              refine XS.istore X473.here hx rfl (hb hby at_142) rfl (l' := #[.val (.long q1), .second, .val (.long q2), .second, .val (.long q3), .second, .val (.long q4), .second, .val (.int p5), .val (.long q1), .second, .val (.long q4), .second, .val (.ref b333), .val (.ref b340), .val (.int (3 : Int32)), .val (.ref b333), .val (.int (1 : Int32)), .val (.int (1 : Int32)), .unset]) rfl ?_
              show Steps p.tables e below (T473.setTop (mkF m 144 #[.val (.long q1), .second, .val (.long q2), .second, .val (.long q3), .second, .val (.long q4), .second, .val (.int p5), .val (.long q1), .second, .val (.long q4), .second, .val (.ref b333), .val (.ref b340), .val (.int (3 : Int32)), .val (.ref b333), .val (.int (1 : Int32)), .val (.int (1 : Int32)), .unset] [])) _
              refine XS.iload X473.here hx rfl (hb hby at_144) rfl ?_
              show Steps p.tables e below (T473.setTop (mkF m 146 #[.val (.long q1), .second, .val (.long q2), .second, .val (.long q3), .second, .val (.long q4), .second, .val (.int p5), .val (.long q1), .second, .val (.long q4), .second, .val (.ref b333), .val (.ref b340), .val (.int (3 : Int32)), .val (.ref b333), .val (.int (1 : Int32)), .val (.int (1 : Int32)), .unset] [(.int (1 : Int32))])) _
              refine XS.iload X473.here hx rfl (hb hby at_146) rfl ?_
              show Steps p.tables e below (T473.setTop (mkF m 148 #[.val (.long q1), .second, .val (.long q2), .second, .val (.long q3), .second, .val (.long q4), .second, .val (.int p5), .val (.long q1), .second, .val (.long q4), .second, .val (.ref b333), .val (.ref b340), .val (.int (3 : Int32)), .val (.ref b333), .val (.int (1 : Int32)), .val (.int (1 : Int32)), .unset] [(.int (1 : Int32)), (.int (1 : Int32))])) _
              refine XS.icmpYes X473.here hx rfl (pc0 := 148) (pc' := 153) rfl (hb hby at_148) rfl (teq (by decide : (1 : Int32) = (1 : Int32))).1 (by decide) (by decide) ?_
              show Steps p.tables e below (T473.setTop (mkF m 153 #[.val (.long q1), .second, .val (.long q2), .second, .val (.long q3), .second, .val (.long q4), .second, .val (.int p5), .val (.long q1), .second, .val (.long q4), .second, .val (.ref b333), .val (.ref b340), .val (.int (3 : Int32)), .val (.ref b333), .val (.int (1 : Int32)), .val (.int (1 : Int32)), .unset] [])) _
              refine XS.iload X473.here hx rfl (hb hby at_153) rfl ?_
              show Steps p.tables e below (T473.setTop (mkF m 155 #[.val (.long q1), .second, .val (.long q2), .second, .val (.long q3), .second, .val (.long q4), .second, .val (.int p5), .val (.long q1), .second, .val (.long q4), .second, .val (.ref b333), .val (.ref b340), .val (.int (3 : Int32)), .val (.ref b333), .val (.int (1 : Int32)), .val (.int (1 : Int32)), .unset] [(.int (3 : Int32))])) _
              refine XS.ifYes X473.here hx rfl (pc0 := 155) (pc' := 176) rfl (hb hby at_155) rfl ((if0 _ _).trans (feq (by decide : ¬ ((3 : Int32) = (0 : Int32)))).2) (by decide) (by decide) ?_
              show Steps p.tables e below (T473.setTop (mkF m 176 #[.val (.long q1), .second, .val (.long q2), .second, .val (.long q3), .second, .val (.long q4), .second, .val (.int p5), .val (.long q1), .second, .val (.long q4), .second, .val (.ref b333), .val (.ref b340), .val (.int (3 : Int32)), .val (.ref b333), .val (.int (1 : Int32)), .val (.int (1 : Int32)), .unset] [])) _
              refine XS.iconst X473.here hx rfl (hb hby at_176) ?_
              show Steps p.tables e below (T473.setTop (mkF m 177 #[.val (.long q1), .second, .val (.long q2), .second, .val (.long q3), .second, .val (.long q4), .second, .val (.int p5), .val (.long q1), .second, .val (.long q4), .second, .val (.ref b333), .val (.ref b340), .val (.int (3 : Int32)), .val (.ref b333), .val (.int (1 : Int32)), .val (.int (1 : Int32)), .unset] [(.int (1 : Int32))])) _
              exact retN X473 hx (t := .boolean) hret (by simp) (hb hby at_177) hr
            ·
              show Q0 n0 _ T473.heap _
              rw [e475]
              exact ⟨rfl, N473⟩
    ·
      obtain ⟨T476, h476, X476, e476, E476, A476, D476, -, st476⟩ := newO X0 hx hZ hown (hw _ (List.mem_of_getElem? (i := 0) rfl)) (hw _ (List.mem_of_getElem? (i := 1) rfl)) (hw _ (List.mem_of_getElem? (i := 2) rfl)) e0 (g := (mkF m 30 #[.val (.long q1), .second, .val (.long q2), .second, .val (.long q3), .second, .val (.long q4), .second, .val (.int p5), .val (.long q1), .second, .val (.long q2), .second, .unset, .unset, .unset, .unset, .unset, .unset, .unset] [])) rfl (hb hby at_30) (by decide) (by decide)
      obtain ⟨b476, g476⟩ : ∃ z, z = h0.size := ⟨_, rfl⟩
      rw [← g476] at A476 D476 st476
      have M476 : h0.size ≤ h476.size := Nat.le_trans (Nat.le_refl _) E476.1
      have O476 := Old.ext O0 E476
      have sz_b476 : h0.size ≤ b476 := Nat.le_of_eq g476.symm
      have g_b476 : n0 ≤ b476 := Nat.le_trans (own_oz O0) (Nat.le_trans (Nat.le_refl _) sz_b476)
      have F476_10 : Fld Z h476 b476 "com/example/sablegrid/sablegrid/model/WriteId" "origin" "J" (.long (0 : Int64)) := D476 (Or.inr (hw _ (List.mem_of_getElem? (i := 10) rfl))) (ty := .long) (by decide)
      have F476_12 : Fld Z h476 b476 "com/example/sablegrid/sablegrid/model/WriteId" "sequence" "J" (.long (0 : Int64)) := D476 (Or.inr (hw _ (List.mem_of_getElem? (i := 12) rfl))) (ty := .long) (by decide)
      obtain ⟨_, _, ⟨T477, L477, c477, n477⟩, -, X477, ⟨Lc477, hQ477, l477, y477, z477⟩, st477⟩ := X476.specialBack hx (y := (⟨"com/example/sablegrid/sablegrid/model/WriteId", "<init>", "(JJ)V"⟩ : MethodName)) rfl hown (mvT hZ (hw _ (List.mem_of_getElem? (i := 3) rfl))) (mvT hZ (hw _ (List.mem_of_getElem? (i := 4) rfl))) (mvT hZ (hw _ (List.mem_of_getElem? (i := 5) rfl))) (by decide) (backOf (W := 1) (rm1 l Z a0 hw [] b476 q1 q2 h476 n0 O476 g_b476 A476 F476_10 F476_12) hZ (hw _ (List.mem_of_getElem? (i := 5) rfl)) (hw _ (List.mem_of_getElem? (i := 2) rfl)) (by decide) (by decide)) (g := (mkF m 36 #[.val (.long q1), .second, .val (.long q2), .second, .val (.long q3), .second, .val (.long q4), .second, .val (.int p5), .val (.long q1), .second, .val (.long q2), .second, .unset, .unset, .unset, .unset, .unset, .unset, .unset] [(.long q2), (.long q1), (.ref b476), (.ref b476)])) rfl (by rw [hml]; rfl) (Steps.refl _) (a := b476) (argsL := [(.long q1), (.long q2)]) (rest := [(.ref b476)]) (lenOf pd0 rfl) rfl (by show 2 * 0 + _ ≤ _; exact Nat.le_of_eq rfl) (hb hby at_36) (fun _ _ => ⟨rfl, e476, (by decide : 1 + 0 ≤ _), (by decide : 2 + 0 ≤ _)⟩)
      dsimp only [Pt.U, Pt.locs, Pt.cells, Pt.slots] at X477 l477 y477 z477 st477 hQ477
      subst l477 y477 z477
      have X477 : Stand p l e room_1 s m #[(.long q1), (.long q2), (.long q3), (.long q4), (.int p5)] below meth c T477 _ 1 2 := X477
      obtain ⟨rfl, Nq478, K479, f480, f481, f482⟩ := hQ477
      have N477 := Fr.app N0 Nq478
      have M477 : h0.size ≤ T477.heap.size := Nat.le_trans M476 K479.1
      have O477 := Old.keep O476 K479 (allS g_b476 all0)
      obtain ⟨T483, h483, X483, e483, E483, A483, D483, -, st483⟩ := newO X477 hx hZ hown (hw _ (List.mem_of_getElem? (i := 0) rfl)) (hw _ (List.mem_of_getElem? (i := 1) rfl)) (hw _ (List.mem_of_getElem? (i := 2) rfl)) rfl (g := (mkF m 41 #[.val (.long q1), .second, .val (.long q2), .second, .val (.long q3), .second, .val (.long q4), .second, .val (.int p5), .val (.long q1), .second, .val (.long q2), .second, .val (.ref b476), .unset, .unset, .unset, .unset, .unset, .unset] [])) rfl (hb hby at_41) (by decide) (by decide)
      obtain ⟨b483, g483⟩ : ∃ z, z = T477.heap.size := ⟨_, rfl⟩
      rw [← g483] at A483 D483 st483
      have M483 : h0.size ≤ h483.size := Nat.le_trans M477 E483.1
      have O483 := Old.ext O477 E483
      have sz_b483 : T477.heap.size ≤ b483 := Nat.le_of_eq g483.symm
      have g_b483 : n0 ≤ b483 := Nat.le_trans (own_oz O0) (Nat.le_trans M477 sz_b483)
      have F483_10 : Fld Z h483 b483 "com/example/sablegrid/sablegrid/model/WriteId" "origin" "J" (.long (0 : Int64)) := D483 (Or.inr (hw _ (List.mem_of_getElem? (i := 10) rfl))) (ty := .long) (by decide)
      have F483_12 : Fld Z h483 b483 "com/example/sablegrid/sablegrid/model/WriteId" "sequence" "J" (.long (0 : Int64)) := D483 (Or.inr (hw _ (List.mem_of_getElem? (i := 12) rfl))) (ty := .long) (by decide)
      obtain ⟨_, _, ⟨T484, L484, c484, n484⟩, -, X484, ⟨Lc484, hQ484, l484, y484, z484⟩, st484⟩ := X483.specialBack hx (y := (⟨"com/example/sablegrid/sablegrid/model/WriteId", "<init>", "(JJ)V"⟩ : MethodName)) rfl hown (mvT hZ (hw _ (List.mem_of_getElem? (i := 3) rfl))) (mvT hZ (hw _ (List.mem_of_getElem? (i := 4) rfl))) (mvT hZ (hw _ (List.mem_of_getElem? (i := 5) rfl))) (by decide) (backOf (W := 1) (rm1 l Z a0 hw [] b483 q1 q2 h483 n0 O483 g_b483 A483 F483_10 F483_12) hZ (hw _ (List.mem_of_getElem? (i := 5) rfl)) (hw _ (List.mem_of_getElem? (i := 2) rfl)) (by decide) (by decide)) (g := (mkF m 49 #[.val (.long q1), .second, .val (.long q2), .second, .val (.long q3), .second, .val (.long q4), .second, .val (.int p5), .val (.long q1), .second, .val (.long q2), .second, .val (.ref b476), .unset, .unset, .unset, .unset, .unset, .unset] [(.long q2), (.long q1), (.ref b483), (.ref b483)])) rfl (by rw [hml]; rfl) (Steps.refl _) (a := b483) (argsL := [(.long q1), (.long q2)]) (rest := [(.ref b483)]) (lenOf pd0 rfl) rfl (by show 2 * 0 + _ ≤ _; exact Nat.le_of_eq rfl) (hb hby at_49) (fun _ _ => ⟨rfl, e483, (by decide : 2 + 0 ≤ _), (by decide : 4 + 0 ≤ _)⟩)
      dsimp only [Pt.U, Pt.locs, Pt.cells, Pt.slots] at X484 l484 y484 z484 st484 hQ484
      subst l484 y484 z484
      have X484 : Stand p l e room_1 s m #[(.long q1), (.long q2), (.long q3), (.long q4), (.int p5)] below meth c T484 _ 2 4 := X484
      obtain ⟨rfl, Nq485, K486, f487, f488, f489⟩ := hQ484
      have N484 := Fr.app N477 Nq485
      have M484 : h0.size ≤ T484.heap.size := Nat.le_trans M483 K486.1
      have O484 := Old.keep O483 K486 (allS g_b483 all0)
      have pre490 : ∀ t, Steps p.tables e below (T484.setTop (mkF m 64 #[.val (.long q1), .second, .val (.long q2), .second, .val (.long q3), .second, .val (.long q4), .second, .val (.int p5), .val (.long q1), .second, .val (.long q2), .second, .val (.ref b476), .val (.ref b483), .val (.int (((p5.toUInt32 >>> ((2 : Int32) &&& 31).toUInt32).toInt32) &&& (3 : Int32))), .unset, .unset, .unset, .unset] [(.int (((p5.toUInt32 >>> ((2 : Int32) &&& 31).toUInt32).toInt32) &&& (3 : Int32)))])) t → Steps p.tables e below (s₁.setTop (entryFrame m #[(.long q1), (.long q2), (.long q3), (.long q4), (.int p5)] maxLocals)) t := fun t k => by
        refine pre330 _ ?_
        show Steps p.tables e below (s₁.setTop (mkF m 19 #[.val (.long q1), .second, .val (.long q2), .second, .val (.long q3), .second, .val (.long q4), .second, .val (.int p5), .val (.long q1), .second, .unset, .unset, .unset, .unset, .unset, .unset, .unset, .unset, .unset] [(.int (p5 &&& (2 : Int32)))])) _
        refine XS.ifNo X0.here hx rfl (hb hby at_19) rfl ((if0 _ _).trans (feq hc331).1) ?_
        show Steps p.tables e below (s₁.setTop (mkF m 22 #[.val (.long q1), .second, .val (.long q2), .second, .val (.long q3), .second, .val (.long q4), .second, .val (.int p5), .val (.long q1), .second, .unset, .unset, .unset, .unset, .unset, .unset, .unset, .unset, .unset] [])) _
        refine XS.lloadN X0.here hx rfl (hb hby at_22) rfl ?_
        show Steps p.tables e below (s₁.setTop (mkF m 23 #[.val (.long q1), .second, .val (.long q2), .second, .val (.long q3), .second, .val (.long q4), .second, .val (.int p5), .val (.long q1), .second, .unset, .unset, .unset, .unset, .unset, .unset, .unset, .unset, .unset] [(.long q2)])) _
        refine XS.goto X0.here hx rfl (pc0 := 23) (pc' := 28) rfl (hb hby at_23) (by decide) (by decide) ?_
        show Steps p.tables e below (s₁.setTop (mkF m 28 #[.val (.long q1), .second, .val (.long q2), .second, .val (.long q3), .second, .val (.long q4), .second, .val (.int p5), .val (.long q1), .second, .unset, .unset, .unset, .unset, .unset, .unset, .unset, .unset, .unset] [(.long q2)])) _
        refine XS.lstore X0.here hx rfl (hb hby at_28) rfl (l' := #[.val (.long q1), .second, .val (.long q2), .second, .val (.long q3), .second, .val (.long q4), .second, .val (.int p5), .val (.long q1), .second, .val (.long q2), .second, .unset, .unset, .unset, .unset, .unset, .unset, .unset]) rfl ?_
        show Steps p.tables e below (s₁.setTop (mkF m 30 #[.val (.long q1), .second, .val (.long q2), .second, .val (.long q3), .second, .val (.long q4), .second, .val (.int p5), .val (.long q1), .second, .val (.long q2), .second, .unset, .unset, .unset, .unset, .unset, .unset, .unset] [])) _
        refine st476 _ ?_
        show Steps p.tables e below (T476.setTop (mkF m 33 #[.val (.long q1), .second, .val (.long q2), .second, .val (.long q3), .second, .val (.long q4), .second, .val (.int p5), .val (.long q1), .second, .val (.long q2), .second, .unset, .unset, .unset, .unset, .unset, .unset, .unset] [(.ref b476)])) _
        refine XS.dup X476.here hx rfl (hb hby at_33) rfl rfl ?_
        show Steps p.tables e below (T476.setTop (mkF m 34 #[.val (.long q1), .second, .val (.long q2), .second, .val (.long q3), .second, .val (.long q4), .second, .val (.int p5), .val (.long q1), .second, .val (.long q2), .second, .unset, .unset, .unset, .unset, .unset, .unset, .unset] [(.ref b476), (.ref b476)])) _
        refine XS.lloadN X476.here hx rfl (hb hby at_34) rfl ?_
        show Steps p.tables e below (T476.setTop (mkF m 35 #[.val (.long q1), .second, .val (.long q2), .second, .val (.long q3), .second, .val (.long q4), .second, .val (.int p5), .val (.long q1), .second, .val (.long q2), .second, .unset, .unset, .unset, .unset, .unset, .unset, .unset] [(.long q1), (.ref b476), (.ref b476)])) _
        refine XS.lloadN X476.here hx rfl (hb hby at_35) rfl ?_
        show Steps p.tables e below (T476.setTop (mkF m 36 #[.val (.long q1), .second, .val (.long q2), .second, .val (.long q3), .second, .val (.long q4), .second, .val (.int p5), .val (.long q1), .second, .val (.long q2), .second, .unset, .unset, .unset, .unset, .unset, .unset, .unset] [(.long q2), (.long q1), (.ref b476), (.ref b476)])) _
        refine st477.trans ?_
        show Steps p.tables e below (T477.setTop (mkF m 39 #[.val (.long q1), .second, .val (.long q2), .second, .val (.long q3), .second, .val (.long q4), .second, .val (.int p5), .val (.long q1), .second, .val (.long q2), .second, .unset, .unset, .unset, .unset, .unset, .unset, .unset] [(.ref b476)])) _
        refine XS.astore X477.here hx rfl (hb hby at_39) rfl rfl (l' := #[.val (.long q1), .second, .val (.long q2), .second, .val (.long q3), .second, .val (.long q4), .second, .val (.int p5), .val (.long q1), .second, .val (.long q2), .second, .val (.ref b476), .unset, .unset, .unset, .unset, .unset, .unset]) rfl ?_
        show Steps p.tables e below (T477.setTop (mkF m 41 #[.val (.long q1), .second, .val (.long q2), .second, .val (.long q3), .second, .val (.long q4), .second, .val (.int p5), .val (.long q1), .second, .val (.long q2), .second, .val (.ref b476), .unset, .unset, .unset, .unset, .unset, .unset] [])) _
        refine st483 _ ?_
        show Steps p.tables e below (T483.setTop (mkF m 44 #[.val (.long q1), .second, .val (.long q2), .second, .val (.long q3), .second, .val (.long q4), .second, .val (.int p5), .val (.long q1), .second, .val (.long q2), .second, .val (.ref b476), .unset, .unset, .unset, .unset, .unset, .unset] [(.ref b483)])) _
        refine XS.dup X483.here hx rfl (hb hby at_44) rfl rfl ?_
        show Steps p.tables e below (T483.setTop (mkF m 45 #[.val (.long q1), .second, .val (.long q2), .second, .val (.long q3), .second, .val (.long q4), .second, .val (.int p5), .val (.long q1), .second, .val (.long q2), .second, .val (.ref b476), .unset, .unset, .unset, .unset, .unset, .unset] [(.ref b483), (.ref b483)])) _
        refine XS.lload X483.here hx rfl (hb hby at_45) rfl ?_
        show Steps p.tables e below (T483.setTop (mkF m 47 #[.val (.long q1), .second, .val (.long q2), .second, .val (.long q3), .second, .val (.long q4), .second, .val (.int p5), .val (.long q1), .second, .val (.long q2), .second, .val (.ref b476), .unset, .unset, .unset, .unset, .unset, .unset] [(.long q1), (.ref b483), (.ref b483)])) _
        refine XS.lload X483.here hx rfl (hb hby at_47) rfl ?_
        show Steps p.tables e below (T483.setTop (mkF m 49 #[.val (.long q1), .second, .val (.long q2), .second, .val (.long q3), .second, .val (.long q4), .second, .val (.int p5), .val (.long q1), .second, .val (.long q2), .second, .val (.ref b476), .unset, .unset, .unset, .unset, .unset, .unset] [(.long q2), (.long q1), (.ref b483), (.ref b483)])) _
        refine st484.trans ?_
        show Steps p.tables e below (T484.setTop (mkF m 52 #[.val (.long q1), .second, .val (.long q2), .second, .val (.long q3), .second, .val (.long q4), .second, .val (.int p5), .val (.long q1), .second, .val (.long q2), .second, .val (.ref b476), .unset, .unset, .unset, .unset, .unset, .unset] [(.ref b483)])) _
        refine XS.astore X484.here hx rfl (hb hby at_52) rfl rfl (l' := #[.val (.long q1), .second, .val (.long q2), .second, .val (.long q3), .second, .val (.long q4), .second, .val (.int p5), .val (.long q1), .second, .val (.long q2), .second, .val (.ref b476), .val (.ref b483), .unset, .unset, .unset, .unset, .unset]) rfl ?_
        show Steps p.tables e below (T484.setTop (mkF m 54 #[.val (.long q1), .second, .val (.long q2), .second, .val (.long q3), .second, .val (.long q4), .second, .val (.int p5), .val (.long q1), .second, .val (.long q2), .second, .val (.ref b476), .val (.ref b483), .unset, .unset, .unset, .unset, .unset] [])) _
        refine XS.iload X484.here hx rfl (hb hby at_54) rfl ?_
        show Steps p.tables e below (T484.setTop (mkF m 56 #[.val (.long q1), .second, .val (.long q2), .second, .val (.long q3), .second, .val (.long q4), .second, .val (.int p5), .val (.long q1), .second, .val (.long q2), .second, .val (.ref b476), .val (.ref b483), .unset, .unset, .unset, .unset, .unset] [(.int p5)])) _
        refine XS.iconst X484.here hx rfl (hb hby at_56) ?_
        show Steps p.tables e below (T484.setTop (mkF m 57 #[.val (.long q1), .second, .val (.long q2), .second, .val (.long q3), .second, .val (.long q4), .second, .val (.int p5), .val (.long q1), .second, .val (.long q2), .second, .val (.ref b476), .val (.ref b483), .unset, .unset, .unset, .unset, .unset] [(.int (2 : Int32)), (.int p5)])) _
        refine XS.iushr X484.here hx rfl (hb hby at_57) rfl ?_
        show Steps p.tables e below (T484.setTop (mkF m 58 #[.val (.long q1), .second, .val (.long q2), .second, .val (.long q3), .second, .val (.long q4), .second, .val (.int p5), .val (.long q1), .second, .val (.long q2), .second, .val (.ref b476), .val (.ref b483), .unset, .unset, .unset, .unset, .unset] [(.int ((p5.toUInt32 >>> ((2 : Int32) &&& 31).toUInt32).toInt32))])) _
        refine XS.iconst X484.here hx rfl (hb hby at_58) ?_
        show Steps p.tables e below (T484.setTop (mkF m 59 #[.val (.long q1), .second, .val (.long q2), .second, .val (.long q3), .second, .val (.long q4), .second, .val (.int p5), .val (.long q1), .second, .val (.long q2), .second, .val (.ref b476), .val (.ref b483), .unset, .unset, .unset, .unset, .unset] [(.int (3 : Int32)), (.int ((p5.toUInt32 >>> ((2 : Int32) &&& 31).toUInt32).toInt32))])) _
        refine XS.iand X484.here hx rfl (hb hby at_59) rfl ?_
        show Steps p.tables e below (T484.setTop (mkF m 60 #[.val (.long q1), .second, .val (.long q2), .second, .val (.long q3), .second, .val (.long q4), .second, .val (.int p5), .val (.long q1), .second, .val (.long q2), .second, .val (.ref b476), .val (.ref b483), .unset, .unset, .unset, .unset, .unset] [(.int (((p5.toUInt32 >>> ((2 : Int32) &&& 31).toUInt32).toInt32) &&& (3 : Int32)))])) _
        refine XS.istore X484.here hx rfl (hb hby at_60) rfl (l' := #[.val (.long q1), .second, .val (.long q2), .second, .val (.long q3), .second, .val (.long q4), .second, .val (.int p5), .val (.long q1), .second, .val (.long q2), .second, .val (.ref b476), .val (.ref b483), .val (.int (((p5.toUInt32 >>> ((2 : Int32) &&& 31).toUInt32).toInt32) &&& (3 : Int32))), .unset, .unset, .unset, .unset]) rfl ?_
        show Steps p.tables e below (T484.setTop (mkF m 62 #[.val (.long q1), .second, .val (.long q2), .second, .val (.long q3), .second, .val (.long q4), .second, .val (.int p5), .val (.long q1), .second, .val (.long q2), .second, .val (.ref b476), .val (.ref b483), .val (.int (((p5.toUInt32 >>> ((2 : Int32) &&& 31).toUInt32).toInt32) &&& (3 : Int32))), .unset, .unset, .unset, .unset] [])) _
        refine XS.iload X484.here hx rfl (hb hby at_62) rfl ?_
        exact k
      by_cases hc491 : (((p5.toUInt32 >>> ((2 : Int32) &&& 31).toUInt32).toInt32) &&& (3 : Int32)) = (0 : Int32)
      ·
        have pre492 : ∀ t, Steps p.tables e below (T484.setTop (mkF m 64 #[.val (.long q1), .second, .val (.long q2), .second, .val (.long q3), .second, .val (.long q4), .second, .val (.int p5), .val (.long q1), .second, .val (.long q2), .second, .val (.ref b476), .val (.ref b483), .val (.int (0 : Int32)), .unset, .unset, .unset, .unset] [(.int (0 : Int32))])) t → Steps p.tables e below (s₁.setTop (entryFrame m #[(.long q1), (.long q2), (.long q3), (.long q4), (.int p5)] maxLocals)) t := fun t k => pre490 t (by rw [hc491]; exact k)
        have lt493 : b476 < T477.heap.size := (Nat.lt_of_lt_of_le A476.lt K479.1)
        have ne494 : b476 ≠ b483 := Nat.ne_of_lt (Nat.lt_of_lt_of_le lt493 sz_b483)
        have f495 := ((f481.ext E483).keep K486 (ninS ne494 nin0))
        have f496 := ((f482.ext E483).keep K486 (ninS ne494 nin0))
        have f498 := ((f480.ext E483).keep K486)
        obtain ⟨cq497, kq497, q497a, q497b, q497c⟩ := isOf hZ rfl f498
        obtain ⟨_, _, ⟨T499, L499, c499, n499⟩, -, X499, ⟨Lc499, hQ499, l499, y499, z499⟩, st499⟩ := X484.virtualBack hx (y := (⟨"com/example/sablegrid/sablegrid/model/WriteId", "equals", "(Ljava/lang/Object;)Z"⟩ : MethodName)) (z := (⟨"com/example/sablegrid/sablegrid/model/WriteId", "equals", "(Ljava/lang/Object;)Z"⟩ : MethodName)) hown (mvT hZ (hw _ (List.mem_of_getElem? (i := 13) rfl))) (mvT hZ (hw _ (List.mem_of_getElem? (i := 14) rfl))) (notFace_of_selects (args := #[]) (mvT hZ (hw _ (List.mem_of_getElem? (i := 16) rfl)))) (mvT hZ (hw _ (List.mem_of_getElem? (i := 16) rfl))) (mvT hZ (hw _ (List.mem_of_getElem? (i := 15) rfl))) (by decide) (backOf (W := 0) (rm2 l Z a0 hw [] b476 b483 q1 q2 q1 q2 T484.heap n0 O484 g_b476 g_b483 f495 f496 f487 f488 f489) hZ (hw _ (List.mem_of_getElem? (i := 17) rfl)) (hw _ (List.mem_of_getElem? (i := 2) rfl)) (by decide) (by decide)) q497a q497c (g := (mkF m 139 #[.val (.long q1), .second, .val (.long q2), .second, .val (.long q3), .second, .val (.long q4), .second, .val (.int p5), .val (.long q1), .second, .val (.long q2), .second, .val (.ref b476), .val (.ref b483), .val (.int (0 : Int32)), .val (.ref b483), .val (.int (1 : Int32)), .unset, .unset] [(.ref b483), (.ref b476)])) rfl (by rw [hml]; rfl) (Steps.refl _) (argsL := [(.ref b483)]) (rest := []) (lenOf pd1 rfl) rfl (by show 2 * 0 + _ ≤ _; exact Nat.le_of_eq rfl) (hb hby at_139) (fun _ _ => ⟨rfl, rfl, (by decide : 2 + 0 ≤ _), (by decide : 4 + 0 ≤ _)⟩)
        dsimp only [Pt.U, Pt.locs, Pt.cells, Pt.slots] at X499 l499 y499 z499 st499 hQ499
        subst l499 y499 z499
        have pre500 : ∀ t, Steps p.tables e below (T484.setTop (mkF m 139 #[.val (.long q1), .second, .val (.long q2), .second, .val (.long q3), .second, .val (.long q4), .second, .val (.int p5), .val (.long q1), .second, .val (.long q2), .second, .val (.ref b476), .val (.ref b483), .val (.int (0 : Int32)), .val (.ref b483), .val (.int (1 : Int32)), .unset, .unset] [(.ref b483), (.ref b476)])) t → Steps p.tables e below (s₁.setTop (entryFrame m #[(.long q1), (.long q2), (.long q3), (.long q4), (.int p5)] maxLocals)) t := fun t k => by
          refine pre492 _ ?_
          show Steps p.tables e below (T484.setTop (mkF m 64 #[.val (.long q1), .second, .val (.long q2), .second, .val (.long q3), .second, .val (.long q4), .second, .val (.int p5), .val (.long q1), .second, .val (.long q2), .second, .val (.ref b476), .val (.ref b483), .val (.int (0 : Int32)), .unset, .unset, .unset, .unset] [(.int (0 : Int32))])) _
          refine XS.ifNo X484.here hx rfl (hb hby at_64) rfl ((if0 _ _).trans (teq (by decide : (0 : Int32) = (0 : Int32))).2) ?_
          show Steps p.tables e below (T484.setTop (mkF m 67 #[.val (.long q1), .second, .val (.long q2), .second, .val (.long q3), .second, .val (.long q4), .second, .val (.int p5), .val (.long q1), .second, .val (.long q2), .second, .val (.ref b476), .val (.ref b483), .val (.int (0 : Int32)), .unset, .unset, .unset, .unset] [])) _
          refine XS.aload X484.here hx rfl (hb hby at_67) rfl rfl ?_
          show Steps p.tables e below (T484.setTop (mkF m 69 #[.val (.long q1), .second, .val (.long q2), .second, .val (.long q3), .second, .val (.long q4), .second, .val (.int p5), .val (.long q1), .second, .val (.long q2), .second, .val (.ref b476), .val (.ref b483), .val (.int (0 : Int32)), .unset, .unset, .unset, .unset] [(.ref b483)])) _
          refine XS.astore X484.here hx rfl (hb hby at_69) rfl rfl (l' := #[.val (.long q1), .second, .val (.long q2), .second, .val (.long q3), .second, .val (.long q4), .second, .val (.int p5), .val (.long q1), .second, .val (.long q2), .second, .val (.ref b476), .val (.ref b483), .val (.int (0 : Int32)), .val (.ref b483), .unset, .unset, .unset]) rfl ?_
          show Steps p.tables e below (T484.setTop (mkF m 71 #[.val (.long q1), .second, .val (.long q2), .second, .val (.long q3), .second, .val (.long q4), .second, .val (.int p5), .val (.long q1), .second, .val (.long q2), .second, .val (.ref b476), .val (.ref b483), .val (.int (0 : Int32)), .val (.ref b483), .unset, .unset, .unset] [])) _
          refine XS.lloadN X484.here hx rfl (hb hby at_71) rfl ?_
          show Steps p.tables e below (T484.setTop (mkF m 72 #[.val (.long q1), .second, .val (.long q2), .second, .val (.long q3), .second, .val (.long q4), .second, .val (.int p5), .val (.long q1), .second, .val (.long q2), .second, .val (.ref b476), .val (.ref b483), .val (.int (0 : Int32)), .val (.ref b483), .unset, .unset, .unset] [(.long q1)])) _
          refine XS.lload X484.here hx rfl (hb hby at_72) rfl ?_
          show Steps p.tables e below (T484.setTop (mkF m 74 #[.val (.long q1), .second, .val (.long q2), .second, .val (.long q3), .second, .val (.long q4), .second, .val (.int p5), .val (.long q1), .second, .val (.long q2), .second, .val (.ref b476), .val (.ref b483), .val (.int (0 : Int32)), .val (.ref b483), .unset, .unset, .unset] [(.long q1), (.long q1)])) _
          refine XS.lcmp X484.here hx rfl (hb hby at_74) rfl ?_
          show Steps p.tables e below (T484.setTop (mkF m 75 #[.val (.long q1), .second, .val (.long q2), .second, .val (.long q3), .second, .val (.long q4), .second, .val (.int p5), .val (.long q1), .second, .val (.long q2), .second, .val (.ref b476), .val (.ref b483), .val (.int (0 : Int32)), .val (.ref b483), .unset, .unset, .unset] [(.int (lcmpW q1 q1))])) _
          refine XS.ifNo X484.here hx rfl (hb hby at_75) rfl ((if0 _ _).trans (teq ((lw_eq _ _).mpr (rfl : q1 = q1))).2) ?_
          show Steps p.tables e below (T484.setTop (mkF m 78 #[.val (.long q1), .second, .val (.long q2), .second, .val (.long q3), .second, .val (.long q4), .second, .val (.int p5), .val (.long q1), .second, .val (.long q2), .second, .val (.ref b476), .val (.ref b483), .val (.int (0 : Int32)), .val (.ref b483), .unset, .unset, .unset] [])) _
          refine XS.lloadN X484.here hx rfl (hb hby at_78) rfl ?_
          show Steps p.tables e below (T484.setTop (mkF m 79 #[.val (.long q1), .second, .val (.long q2), .second, .val (.long q3), .second, .val (.long q4), .second, .val (.int p5), .val (.long q1), .second, .val (.long q2), .second, .val (.ref b476), .val (.ref b483), .val (.int (0 : Int32)), .val (.ref b483), .unset, .unset, .unset] [(.long q2)])) _
          refine XS.lload X484.here hx rfl (hb hby at_79) rfl ?_
          show Steps p.tables e below (T484.setTop (mkF m 81 #[.val (.long q1), .second, .val (.long q2), .second, .val (.long q3), .second, .val (.long q4), .second, .val (.int p5), .val (.long q1), .second, .val (.long q2), .second, .val (.ref b476), .val (.ref b483), .val (.int (0 : Int32)), .val (.ref b483), .unset, .unset, .unset] [(.long q2), (.long q2)])) _
          refine XS.lcmp X484.here hx rfl (hb hby at_81) rfl ?_
          show Steps p.tables e below (T484.setTop (mkF m 82 #[.val (.long q1), .second, .val (.long q2), .second, .val (.long q3), .second, .val (.long q4), .second, .val (.int p5), .val (.long q1), .second, .val (.long q2), .second, .val (.ref b476), .val (.ref b483), .val (.int (0 : Int32)), .val (.ref b483), .unset, .unset, .unset] [(.int (lcmpW q2 q2))])) _
          refine XS.ifNo X484.here hx rfl (hb hby at_82) rfl ((if0 _ _).trans (teq ((lw_eq _ _).mpr (rfl : q2 = q2))).2) ?_
          show Steps p.tables e below (T484.setTop (mkF m 85 #[.val (.long q1), .second, .val (.long q2), .second, .val (.long q3), .second, .val (.long q4), .second, .val (.int p5), .val (.long q1), .second, .val (.long q2), .second, .val (.ref b476), .val (.ref b483), .val (.int (0 : Int32)), .val (.ref b483), .unset, .unset, .unset] [])) _
          refine XS.iconst X484.here hx rfl (hb hby at_85) ?_
          show Steps p.tables e below (T484.setTop (mkF m 86 #[.val (.long q1), .second, .val (.long q2), .second, .val (.long q3), .second, .val (.long q4), .second, .val (.int p5), .val (.long q1), .second, .val (.long q2), .second, .val (.ref b476), .val (.ref b483), .val (.int (0 : Int32)), .val (.ref b483), .unset, .unset, .unset] [(.int (1 : Int32))])) _
          refine XS.goto X484.here hx rfl (pc0 := 86) (pc' := 90) rfl (hb hby at_86) (by decide) (by decide) ?_
          show Steps p.tables e below (T484.setTop (mkF m 90 #[.val (.long q1), .second, .val (.long q2), .second, .val (.long q3), .second, .val (.long q4), .second, .val (.int p5), .val (.long q1), .second, .val (.long q2), .second, .val (.ref b476), .val (.ref b483), .val (.int (0 : Int32)), .val (.ref b483), .unset, .unset, .unset] [(.int (1 : Int32))])) _
          refine XS.istore X484.here hx rfl (hb hby at_90) rfl (l' := #[.val (.long q1), .second, .val (.long q2), .second, .val (.long q3), .second, .val (.long q4), .second, .val (.int p5), .val (.long q1), .second, .val (.long q2), .second, .val (.ref b476), .val (.ref b483), .val (.int (0 : Int32)), .val (.ref b483), .val (.int (1 : Int32)), .unset, .unset]) rfl ?_
          show Steps p.tables e below (T484.setTop (mkF m 92 #[.val (.long q1), .second, .val (.long q2), .second, .val (.long q3), .second, .val (.long q4), .second, .val (.int p5), .val (.long q1), .second, .val (.long q2), .second, .val (.ref b476), .val (.ref b483), .val (.int (0 : Int32)), .val (.ref b483), .val (.int (1 : Int32)), .unset, .unset] [])) _
          refine XS.goto X484.here hx rfl (pc0 := 92) (pc' := 135) rfl (hb hby at_92) (by decide) (by decide) ?_
          show Steps p.tables e below (T484.setTop (mkF m 135 #[.val (.long q1), .second, .val (.long q2), .second, .val (.long q3), .second, .val (.long q4), .second, .val (.int p5), .val (.long q1), .second, .val (.long q2), .second, .val (.ref b476), .val (.ref b483), .val (.int (0 : Int32)), .val (.ref b483), .val (.int (1 : Int32)), .unset, .unset] [])) _
          refine XS.aload X484.here hx rfl (hb hby at_135) rfl rfl ?_
          show Steps p.tables e below (T484.setTop (mkF m 137 #[.val (.long q1), .second, .val (.long q2), .second, .val (.long q3), .second, .val (.long q4), .second, .val (.int p5), .val (.long q1), .second, .val (.long q2), .second, .val (.ref b476), .val (.ref b483), .val (.int (0 : Int32)), .val (.ref b483), .val (.int (1 : Int32)), .unset, .unset] [(.ref b476)])) _
          refine XS.aload X484.here hx rfl (hb hby at_137) rfl rfl ?_
          exact k
        have X499 : Stand p l e room_1 s m #[(.long q1), (.long q2), (.long q3), (.long q4), (.int p5)] below meth c T499 _ 2 4 := X499
        rcases hQ499 with ⟨hc501, hc502, rfl, Nq503, e504⟩ | ⟨hc505, hc506, rfl, Nq507, e508⟩ | ⟨hc509, rfl, Nq510, e511⟩
        ·
          have N499 := Fr.app N484 Nq503
          obtain ⟨cq512, kq512, q512a, q512b, q512c⟩ := isOf hZ e504 f487
          obtain ⟨_, _, ⟨T513, L513, c513, n513⟩, -, X513, ⟨Lc513, hQ513, l513, y513, z513⟩, st513⟩ := X499.virtualBack hx (y := (⟨"com/example/sablegrid/sablegrid/model/WriteId", "equals", "(Ljava/lang/Object;)Z"⟩ : MethodName)) (z := (⟨"com/example/sablegrid/sablegrid/model/WriteId", "equals", "(Ljava/lang/Object;)Z"⟩ : MethodName)) hown (mvT hZ (hw _ (List.mem_of_getElem? (i := 13) rfl))) (mvT hZ (hw _ (List.mem_of_getElem? (i := 14) rfl))) (notFace_of_selects (args := #[]) (mvT hZ (hw _ (List.mem_of_getElem? (i := 16) rfl)))) (mvT hZ (hw _ (List.mem_of_getElem? (i := 16) rfl))) (mvT hZ (hw _ (List.mem_of_getElem? (i := 15) rfl))) (by decide) (backOf (W := 0) (rm2 l Z a0 hw [] b483 b476 q1 q2 q1 q2 T484.heap n0 O484 g_b483 g_b476 f488 f489 f498 f495 f496) hZ (hw _ (List.mem_of_getElem? (i := 17) rfl)) (hw _ (List.mem_of_getElem? (i := 2) rfl)) (by decide) (by decide)) q512a q512c (g := (mkF m 162 #[.val (.long q1), .second, .val (.long q2), .second, .val (.long q3), .second, .val (.long q4), .second, .val (.int p5), .val (.long q1), .second, .val (.long q2), .second, .val (.ref b476), .val (.ref b483), .val (.int (0 : Int32)), .val (.ref b483), .val (.int (1 : Int32)), .val (.int (1 : Int32)), .unset] [(.ref b476), (.ref b483)])) rfl (by rw [hml]; rfl) (Steps.refl _) (argsL := [(.ref b476)]) (rest := []) (lenOf pd1 rfl) rfl (by show 2 * 0 + _ ≤ _; exact Nat.le_of_eq rfl) (hb hby at_162) (fun _ _ => ⟨rfl, e504, (by decide : 2 + 0 ≤ _), (by decide : 4 + 0 ≤ _)⟩)
          dsimp only [Pt.U, Pt.locs, Pt.cells, Pt.slots] at X513 l513 y513 z513 st513 hQ513
          subst l513 y513 z513
          have pre514 : ∀ t, Steps p.tables e below (T499.setTop (mkF m 162 #[.val (.long q1), .second, .val (.long q2), .second, .val (.long q3), .second, .val (.long q4), .second, .val (.int p5), .val (.long q1), .second, .val (.long q2), .second, .val (.ref b476), .val (.ref b483), .val (.int (0 : Int32)), .val (.ref b483), .val (.int (1 : Int32)), .val (.int (1 : Int32)), .unset] [(.ref b476), (.ref b483)])) t → Steps p.tables e below (s₁.setTop (entryFrame m #[(.long q1), (.long q2), (.long q3), (.long q4), (.int p5)] maxLocals)) t := fun t k => by
            refine pre500 _ ?_
            show Steps p.tables e below (T484.setTop (mkF m 139 #[.val (.long q1), .second, .val (.long q2), .second, .val (.long q3), .second, .val (.long q4), .second, .val (.int p5), .val (.long q1), .second, .val (.long q2), .second, .val (.ref b476), .val (.ref b483), .val (.int (0 : Int32)), .val (.ref b483), .val (.int (1 : Int32)), .unset, .unset] [(.ref b483), (.ref b476)])) _
            refine st499.trans ?_
            show Steps p.tables e below (T499.setTop (mkF m 142 #[.val (.long q1), .second, .val (.long q2), .second, .val (.long q3), .second, .val (.long q4), .second, .val (.int p5), .val (.long q1), .second, .val (.long q2), .second, .val (.ref b476), .val (.ref b483), .val (.int (0 : Int32)), .val (.ref b483), .val (.int (1 : Int32)), .unset, .unset] [(.int (1 : Int32))])) _
            refine XS.istore X499.here hx rfl (hb hby at_142) rfl (l' := #[.val (.long q1), .second, .val (.long q2), .second, .val (.long q3), .second, .val (.long q4), .second, .val (.int p5), .val (.long q1), .second, .val (.long q2), .second, .val (.ref b476), .val (.ref b483), .val (.int (0 : Int32)), .val (.ref b483), .val (.int (1 : Int32)), .val (.int (1 : Int32)), .unset]) rfl ?_
            show Steps p.tables e below (T499.setTop (mkF m 144 #[.val (.long q1), .second, .val (.long q2), .second, .val (.long q3), .second, .val (.long q4), .second, .val (.int p5), .val (.long q1), .second, .val (.long q2), .second, .val (.ref b476), .val (.ref b483), .val (.int (0 : Int32)), .val (.ref b483), .val (.int (1 : Int32)), .val (.int (1 : Int32)), .unset] [])) _
            refine XS.iload X499.here hx rfl (hb hby at_144) rfl ?_
            show Steps p.tables e below (T499.setTop (mkF m 146 #[.val (.long q1), .second, .val (.long q2), .second, .val (.long q3), .second, .val (.long q4), .second, .val (.int p5), .val (.long q1), .second, .val (.long q2), .second, .val (.ref b476), .val (.ref b483), .val (.int (0 : Int32)), .val (.ref b483), .val (.int (1 : Int32)), .val (.int (1 : Int32)), .unset] [(.int (1 : Int32))])) _
            refine XS.iload X499.here hx rfl (hb hby at_146) rfl ?_
            show Steps p.tables e below (T499.setTop (mkF m 148 #[.val (.long q1), .second, .val (.long q2), .second, .val (.long q3), .second, .val (.long q4), .second, .val (.int p5), .val (.long q1), .second, .val (.long q2), .second, .val (.ref b476), .val (.ref b483), .val (.int (0 : Int32)), .val (.ref b483), .val (.int (1 : Int32)), .val (.int (1 : Int32)), .unset] [(.int (1 : Int32)), (.int (1 : Int32))])) _
            refine XS.icmpYes X499.here hx rfl (pc0 := 148) (pc' := 153) rfl (hb hby at_148) rfl (teq (by decide : (1 : Int32) = (1 : Int32))).1 (by decide) (by decide) ?_
            show Steps p.tables e below (T499.setTop (mkF m 153 #[.val (.long q1), .second, .val (.long q2), .second, .val (.long q3), .second, .val (.long q4), .second, .val (.int p5), .val (.long q1), .second, .val (.long q2), .second, .val (.ref b476), .val (.ref b483), .val (.int (0 : Int32)), .val (.ref b483), .val (.int (1 : Int32)), .val (.int (1 : Int32)), .unset] [])) _
            refine XS.iload X499.here hx rfl (hb hby at_153) rfl ?_
            show Steps p.tables e below (T499.setTop (mkF m 155 #[.val (.long q1), .second, .val (.long q2), .second, .val (.long q3), .second, .val (.long q4), .second, .val (.int p5), .val (.long q1), .second, .val (.long q2), .second, .val (.ref b476), .val (.ref b483), .val (.int (0 : Int32)), .val (.ref b483), .val (.int (1 : Int32)), .val (.int (1 : Int32)), .unset] [(.int (0 : Int32))])) _
            refine XS.ifNo X499.here hx rfl (hb hby at_155) rfl ((if0 _ _).trans (teq (by decide : (0 : Int32) = (0 : Int32))).2) ?_
            show Steps p.tables e below (T499.setTop (mkF m 158 #[.val (.long q1), .second, .val (.long q2), .second, .val (.long q3), .second, .val (.long q4), .second, .val (.int p5), .val (.long q1), .second, .val (.long q2), .second, .val (.ref b476), .val (.ref b483), .val (.int (0 : Int32)), .val (.ref b483), .val (.int (1 : Int32)), .val (.int (1 : Int32)), .unset] [])) _
            refine XS.aload X499.here hx rfl (hb hby at_158) rfl rfl ?_
            show Steps p.tables e below (T499.setTop (mkF m 160 #[.val (.long q1), .second, .val (.long q2), .second, .val (.long q3), .second, .val (.long q4), .second, .val (.int p5), .val (.long q1), .second, .val (.long q2), .second, .val (.ref b476), .val (.ref b483), .val (.int (0 : Int32)), .val (.ref b483), .val (.int (1 : Int32)), .val (.int (1 : Int32)), .unset] [(.ref b483)])) _
            refine XS.aload X499.here hx rfl (hb hby at_160) rfl rfl ?_
            exact k
          have X513 : Stand p l e room_1 s m #[(.long q1), (.long q2), (.long q3), (.long q4), (.int p5)] below meth c T513 _ 2 4 := X513
          rcases hQ513 with ⟨hc515, hc516, rfl, Nq517, e518⟩ | ⟨hc519, hc520, rfl, Nq521, e522⟩ | ⟨hc523, rfl, Nq524, e525⟩
          ·
            have N513 := Fr.app N499 Nq517
            obtain ⟨fs, hr, hrun, hended, hW, hsame⟩ := X513.leave (v := some (.int (1 : Int32))) (fun h => by rw [hret] at h; cases h)
            refine ⟨_, _, pre514 _ ?_, hrun, hended, _, _, rfl, ?_, ⟨_, rfl⟩, hW, hsame.mono (by decide) (by decide)⟩
            ·
              show Steps p.tables e below (T499.setTop (mkF m 162 #[.val (.long q1), .second, .val (.long q2), .second, .val (.long q3), .second, .val (.long q4), .second, .val (.int p5), .val (.long q1), .second, .val (.long q2), .second, .val (.ref b476), .val (.ref b483), .val (.int (0 : Int32)), .val (.ref b483), .val (.int (1 : Int32)), .val (.int (1 : Int32)), .unset] [(.ref b476), (.ref b483)])) _
              refine st513.trans ?_
              show Steps p.tables e below (T513.setTop (mkF m 165 #[.val (.long q1), .second, .val (.long q2), .second, .val (.long q3), .second, .val (.long q4), .second, .val (.int p5), .val (.long q1), .second, .val (.long q2), .second, .val (.ref b476), .val (.ref b483), .val (.int (0 : Int32)), .val (.ref b483), .val (.int (1 : Int32)), .val (.int (1 : Int32)), .unset] [(.int (1 : Int32))])) _
              refine XS.istore X513.here hx rfl (hb hby at_165) rfl (l' := #[.val (.long q1), .second, .val (.long q2), .second, .val (.long q3), .second, .val (.long q4), .second, .val (.int p5), .val (.long q1), .second, .val (.long q2), .second, .val (.ref b476), .val (.ref b483), .val (.int (0 : Int32)), .val (.ref b483), .val (.int (1 : Int32)), .val (.int (1 : Int32)), .val (.int (1 : Int32))]) rfl ?_
              show Steps p.tables e below (T513.setTop (mkF m 167 #[.val (.long q1), .second, .val (.long q2), .second, .val (.long q3), .second, .val (.long q4), .second, .val (.int p5), .val (.long q1), .second, .val (.long q2), .second, .val (.ref b476), .val (.ref b483), .val (.int (0 : Int32)), .val (.ref b483), .val (.int (1 : Int32)), .val (.int (1 : Int32)), .val (.int (1 : Int32))] [])) _
              refine XS.iload X513.here hx rfl (hb hby at_167) rfl ?_
              show Steps p.tables e below (T513.setTop (mkF m 169 #[.val (.long q1), .second, .val (.long q2), .second, .val (.long q3), .second, .val (.long q4), .second, .val (.int p5), .val (.long q1), .second, .val (.long q2), .second, .val (.ref b476), .val (.ref b483), .val (.int (0 : Int32)), .val (.ref b483), .val (.int (1 : Int32)), .val (.int (1 : Int32)), .val (.int (1 : Int32))] [(.int (1 : Int32))])) _
              refine XS.iload X513.here hx rfl (hb hby at_169) rfl ?_
              show Steps p.tables e below (T513.setTop (mkF m 171 #[.val (.long q1), .second, .val (.long q2), .second, .val (.long q3), .second, .val (.long q4), .second, .val (.int p5), .val (.long q1), .second, .val (.long q2), .second, .val (.ref b476), .val (.ref b483), .val (.int (0 : Int32)), .val (.ref b483), .val (.int (1 : Int32)), .val (.int (1 : Int32)), .val (.int (1 : Int32))] [(.int (1 : Int32)), (.int (1 : Int32))])) _
              refine XS.icmpYes X513.here hx rfl (pc0 := 171) (pc' := 176) rfl (hb hby at_171) rfl (teq (by decide : (1 : Int32) = (1 : Int32))).1 (by decide) (by decide) ?_
              show Steps p.tables e below (T513.setTop (mkF m 176 #[.val (.long q1), .second, .val (.long q2), .second, .val (.long q3), .second, .val (.long q4), .second, .val (.int p5), .val (.long q1), .second, .val (.long q2), .second, .val (.ref b476), .val (.ref b483), .val (.int (0 : Int32)), .val (.ref b483), .val (.int (1 : Int32)), .val (.int (1 : Int32)), .val (.int (1 : Int32))] [])) _
              refine XS.iconst X513.here hx rfl (hb hby at_176) ?_
              show Steps p.tables e below (T513.setTop (mkF m 177 #[.val (.long q1), .second, .val (.long q2), .second, .val (.long q3), .second, .val (.long q4), .second, .val (.int p5), .val (.long q1), .second, .val (.long q2), .second, .val (.ref b476), .val (.ref b483), .val (.int (0 : Int32)), .val (.ref b483), .val (.int (1 : Int32)), .val (.int (1 : Int32)), .val (.int (1 : Int32))] [(.int (1 : Int32))])) _
              exact retN X513 hx (t := .boolean) hret (by simp) (hb hby at_177) hr
            ·
              show Q0 n0 _ T513.heap _
              rw [e518]
              exact ⟨rfl, N513⟩
          ·
            exact absurd (rfl : q2 = q2) hc520
          ·
            exact absurd (rfl : q1 = q1) hc523
        ·
          exact absurd (rfl : q2 = q2) hc506
        ·
          exact absurd (rfl : q1 = q1) hc509
      ·
        have pre526 : ∀ t, Steps p.tables e below (T484.setTop (mkF m 98 #[.val (.long q1), .second, .val (.long q2), .second, .val (.long q3), .second, .val (.long q4), .second, .val (.int p5), .val (.long q1), .second, .val (.long q2), .second, .val (.ref b476), .val (.ref b483), .val (.int (((p5.toUInt32 >>> ((2 : Int32) &&& 31).toUInt32).toInt32) &&& (3 : Int32))), .unset, .unset, .unset, .unset] [(.int (1 : Int32)), (.int (((p5.toUInt32 >>> ((2 : Int32) &&& 31).toUInt32).toInt32) &&& (3 : Int32)))])) t → Steps p.tables e below (s₁.setTop (entryFrame m #[(.long q1), (.long q2), (.long q3), (.long q4), (.int p5)] maxLocals)) t := fun t k => by
          refine pre490 _ ?_
          show Steps p.tables e below (T484.setTop (mkF m 64 #[.val (.long q1), .second, .val (.long q2), .second, .val (.long q3), .second, .val (.long q4), .second, .val (.int p5), .val (.long q1), .second, .val (.long q2), .second, .val (.ref b476), .val (.ref b483), .val (.int (((p5.toUInt32 >>> ((2 : Int32) &&& 31).toUInt32).toInt32) &&& (3 : Int32))), .unset, .unset, .unset, .unset] [(.int (((p5.toUInt32 >>> ((2 : Int32) &&& 31).toUInt32).toInt32) &&& (3 : Int32)))])) _
          refine XS.ifYes X484.here hx rfl (pc0 := 64) (pc' := 95) rfl (hb hby at_64) rfl ((if0 _ _).trans (feq hc491).2) (by decide) (by decide) ?_
          show Steps p.tables e below (T484.setTop (mkF m 95 #[.val (.long q1), .second, .val (.long q2), .second, .val (.long q3), .second, .val (.long q4), .second, .val (.int p5), .val (.long q1), .second, .val (.long q2), .second, .val (.ref b476), .val (.ref b483), .val (.int (((p5.toUInt32 >>> ((2 : Int32) &&& 31).toUInt32).toInt32) &&& (3 : Int32))), .unset, .unset, .unset, .unset] [])) _
          refine XS.iload X484.here hx rfl (hb hby at_95) rfl ?_
          show Steps p.tables e below (T484.setTop (mkF m 97 #[.val (.long q1), .second, .val (.long q2), .second, .val (.long q3), .second, .val (.long q4), .second, .val (.int p5), .val (.long q1), .second, .val (.long q2), .second, .val (.ref b476), .val (.ref b483), .val (.int (((p5.toUInt32 >>> ((2 : Int32) &&& 31).toUInt32).toInt32) &&& (3 : Int32))), .unset, .unset, .unset, .unset] [(.int (((p5.toUInt32 >>> ((2 : Int32) &&& 31).toUInt32).toInt32) &&& (3 : Int32)))])) _
          refine XS.iconst X484.here hx rfl (hb hby at_97) ?_
          exact k
        by_cases hc527 : (((p5.toUInt32 >>> ((2 : Int32) &&& 31).toUInt32).toInt32) &&& (3 : Int32)) = (1 : Int32)
        ·
          have pre528 : ∀ t, Steps p.tables e below (T484.setTop (mkF m 98 #[.val (.long q1), .second, .val (.long q2), .second, .val (.long q3), .second, .val (.long q4), .second, .val (.int p5), .val (.long q1), .second, .val (.long q2), .second, .val (.ref b476), .val (.ref b483), .val (.int (1 : Int32)), .unset, .unset, .unset, .unset] [(.int (1 : Int32)), (.int (1 : Int32))])) t → Steps p.tables e below (s₁.setTop (entryFrame m #[(.long q1), (.long q2), (.long q3), (.long q4), (.int p5)] maxLocals)) t := fun t k => pre526 t (by rw [hc527]; exact k)
          have f530 := ((f480.ext E483).keep K486)
          obtain ⟨cq529, kq529, q529a, q529b, q529c⟩ := isOf hZ rfl f530
          obtain ⟨_, _, ⟨T531, L531, c531, n531⟩, -, X531, ⟨Lc531, hQ531, l531, y531, z531⟩, st531⟩ := X484.virtualBack hx (y := (⟨"com/example/sablegrid/sablegrid/model/WriteId", "equals", "(Ljava/lang/Object;)Z"⟩ : MethodName)) (z := (⟨"com/example/sablegrid/sablegrid/model/WriteId", "equals", "(Ljava/lang/Object;)Z"⟩ : MethodName)) hown (mvT hZ (hw _ (List.mem_of_getElem? (i := 13) rfl))) (mvT hZ (hw _ (List.mem_of_getElem? (i := 14) rfl))) (notFace_of_selects (args := #[]) (mvT hZ (hw _ (List.mem_of_getElem? (i := 16) rfl)))) (mvT hZ (hw _ (List.mem_of_getElem? (i := 16) rfl))) (mvT hZ (hw _ (List.mem_of_getElem? (i := 15) rfl))) (by decide) (backOf (W := 0) (rm3 l Z a0 hw [] b476 T484.heap n0 O484 g_b476) hZ (hw _ (List.mem_of_getElem? (i := 17) rfl)) (hw _ (List.mem_of_getElem? (i := 2) rfl)) (by decide) (by decide)) q529a q529c (g := (mkF m 139 #[.val (.long q1), .second, .val (.long q2), .second, .val (.long q3), .second, .val (.long q4), .second, .val (.int p5), .val (.long q1), .second, .val (.long q2), .second, .val (.ref b476), .val (.ref b483), .val (.int (1 : Int32)), .val .null, .val (.int (0 : Int32)), .unset, .unset] [.null, (.ref b476)])) rfl (by rw [hml]; rfl) (Steps.refl _) (argsL := [.null]) (rest := []) (lenOf pd1 rfl) rfl (by show 2 * 0 + _ ≤ _; exact Nat.le_of_eq rfl) (hb hby at_139) (fun _ _ => ⟨rfl, rfl, (by decide : 2 + 0 ≤ _), (by decide : 4 + 0 ≤ _)⟩)
          dsimp only [Pt.U, Pt.locs, Pt.cells, Pt.slots] at X531 l531 y531 z531 st531 hQ531
          subst l531 y531 z531
          have X531 : Stand p l e room_1 s m #[(.long q1), (.long q2), (.long q3), (.long q4), (.int p5)] below meth c T531 _ 2 4 := X531
          obtain ⟨rfl, Nq532, e533⟩ := hQ531
          have N531 := Fr.app N484 Nq532
          obtain ⟨fs, hr, hrun, hended, hW, hsame⟩ := X531.leave (v := some (.int (1 : Int32))) (fun h => by rw [hret] at h; cases h)
          refine ⟨_, _, pre528 _ ?_, hrun, hended, _, _, rfl, ?_, ⟨_, rfl⟩, hW, hsame.mono (by decide) (by decide)⟩
          ·
            show Steps p.tables e below (T484.setTop (mkF m 98 #[.val (.long q1), .second, .val (.long q2), .second, .val (.long q3), .second, .val (.long q4), .second, .val (.int p5), .val (.long q1), .second, .val (.long q2), .second, .val (.ref b476), .val (.ref b483), .val (.int (1 : Int32)), .unset, .unset, .unset, .unset] [(.int (1 : Int32)), (.int (1 : Int32))])) _
            refine XS.icmpNo X484.here hx rfl (hb hby at_98) rfl (teq (by decide : (1 : Int32) = (1 : Int32))).2 ?_
            show Steps p.tables e below (T484.setTop (mkF m 101 #[.val (.long q1), .second, .val (.long q2), .second, .val (.long q3), .second, .val (.long q4), .second, .val (.int p5), .val (.long q1), .second, .val (.long q2), .second, .val (.ref b476), .val (.ref b483), .val (.int (1 : Int32)), .unset, .unset, .unset, .unset] [])) _
            refine XS.aconstNull X484.here hx rfl (hb hby at_101) ?_
            show Steps p.tables e below (T484.setTop (mkF m 102 #[.val (.long q1), .second, .val (.long q2), .second, .val (.long q3), .second, .val (.long q4), .second, .val (.int p5), .val (.long q1), .second, .val (.long q2), .second, .val (.ref b476), .val (.ref b483), .val (.int (1 : Int32)), .unset, .unset, .unset, .unset] [.null])) _
            refine XS.astore X484.here hx rfl (hb hby at_102) rfl rfl (l' := #[.val (.long q1), .second, .val (.long q2), .second, .val (.long q3), .second, .val (.long q4), .second, .val (.int p5), .val (.long q1), .second, .val (.long q2), .second, .val (.ref b476), .val (.ref b483), .val (.int (1 : Int32)), .val .null, .unset, .unset, .unset]) rfl ?_
            show Steps p.tables e below (T484.setTop (mkF m 104 #[.val (.long q1), .second, .val (.long q2), .second, .val (.long q3), .second, .val (.long q4), .second, .val (.int p5), .val (.long q1), .second, .val (.long q2), .second, .val (.ref b476), .val (.ref b483), .val (.int (1 : Int32)), .val .null, .unset, .unset, .unset] [])) _
            refine XS.iconst X484.here hx rfl (hb hby at_104) ?_
            show Steps p.tables e below (T484.setTop (mkF m 105 #[.val (.long q1), .second, .val (.long q2), .second, .val (.long q3), .second, .val (.long q4), .second, .val (.int p5), .val (.long q1), .second, .val (.long q2), .second, .val (.ref b476), .val (.ref b483), .val (.int (1 : Int32)), .val .null, .unset, .unset, .unset] [(.int (0 : Int32))])) _
            refine XS.istore X484.here hx rfl (hb hby at_105) rfl (l' := #[.val (.long q1), .second, .val (.long q2), .second, .val (.long q3), .second, .val (.long q4), .second, .val (.int p5), .val (.long q1), .second, .val (.long q2), .second, .val (.ref b476), .val (.ref b483), .val (.int (1 : Int32)), .val .null, .val (.int (0 : Int32)), .unset, .unset]) rfl ?_
            show Steps p.tables e below (T484.setTop (mkF m 107 #[.val (.long q1), .second, .val (.long q2), .second, .val (.long q3), .second, .val (.long q4), .second, .val (.int p5), .val (.long q1), .second, .val (.long q2), .second, .val (.ref b476), .val (.ref b483), .val (.int (1 : Int32)), .val .null, .val (.int (0 : Int32)), .unset, .unset] [])) _
            refine XS.goto X484.here hx rfl (pc0 := 107) (pc' := 135) rfl (hb hby at_107) (by decide) (by decide) ?_
            show Steps p.tables e below (T484.setTop (mkF m 135 #[.val (.long q1), .second, .val (.long q2), .second, .val (.long q3), .second, .val (.long q4), .second, .val (.int p5), .val (.long q1), .second, .val (.long q2), .second, .val (.ref b476), .val (.ref b483), .val (.int (1 : Int32)), .val .null, .val (.int (0 : Int32)), .unset, .unset] [])) _
            refine XS.aload X484.here hx rfl (hb hby at_135) rfl rfl ?_
            show Steps p.tables e below (T484.setTop (mkF m 137 #[.val (.long q1), .second, .val (.long q2), .second, .val (.long q3), .second, .val (.long q4), .second, .val (.int p5), .val (.long q1), .second, .val (.long q2), .second, .val (.ref b476), .val (.ref b483), .val (.int (1 : Int32)), .val .null, .val (.int (0 : Int32)), .unset, .unset] [(.ref b476)])) _
            refine XS.aload X484.here hx rfl (hb hby at_137) rfl rfl ?_
            show Steps p.tables e below (T484.setTop (mkF m 139 #[.val (.long q1), .second, .val (.long q2), .second, .val (.long q3), .second, .val (.long q4), .second, .val (.int p5), .val (.long q1), .second, .val (.long q2), .second, .val (.ref b476), .val (.ref b483), .val (.int (1 : Int32)), .val .null, .val (.int (0 : Int32)), .unset, .unset] [.null, (.ref b476)])) _
            refine st531.trans ?_
            show Steps p.tables e below (T531.setTop (mkF m 142 #[.val (.long q1), .second, .val (.long q2), .second, .val (.long q3), .second, .val (.long q4), .second, .val (.int p5), .val (.long q1), .second, .val (.long q2), .second, .val (.ref b476), .val (.ref b483), .val (.int (1 : Int32)), .val .null, .val (.int (0 : Int32)), .unset, .unset] [(.int (0 : Int32))])) _
            refine XS.istore X531.here hx rfl (hb hby at_142) rfl (l' := #[.val (.long q1), .second, .val (.long q2), .second, .val (.long q3), .second, .val (.long q4), .second, .val (.int p5), .val (.long q1), .second, .val (.long q2), .second, .val (.ref b476), .val (.ref b483), .val (.int (1 : Int32)), .val .null, .val (.int (0 : Int32)), .val (.int (0 : Int32)), .unset]) rfl ?_
            show Steps p.tables e below (T531.setTop (mkF m 144 #[.val (.long q1), .second, .val (.long q2), .second, .val (.long q3), .second, .val (.long q4), .second, .val (.int p5), .val (.long q1), .second, .val (.long q2), .second, .val (.ref b476), .val (.ref b483), .val (.int (1 : Int32)), .val .null, .val (.int (0 : Int32)), .val (.int (0 : Int32)), .unset] [])) _
            refine XS.iload X531.here hx rfl (hb hby at_144) rfl ?_
            show Steps p.tables e below (T531.setTop (mkF m 146 #[.val (.long q1), .second, .val (.long q2), .second, .val (.long q3), .second, .val (.long q4), .second, .val (.int p5), .val (.long q1), .second, .val (.long q2), .second, .val (.ref b476), .val (.ref b483), .val (.int (1 : Int32)), .val .null, .val (.int (0 : Int32)), .val (.int (0 : Int32)), .unset] [(.int (0 : Int32))])) _
            refine XS.iload X531.here hx rfl (hb hby at_146) rfl ?_
            show Steps p.tables e below (T531.setTop (mkF m 148 #[.val (.long q1), .second, .val (.long q2), .second, .val (.long q3), .second, .val (.long q4), .second, .val (.int p5), .val (.long q1), .second, .val (.long q2), .second, .val (.ref b476), .val (.ref b483), .val (.int (1 : Int32)), .val .null, .val (.int (0 : Int32)), .val (.int (0 : Int32)), .unset] [(.int (0 : Int32)), (.int (0 : Int32))])) _
            refine XS.icmpYes X531.here hx rfl (pc0 := 148) (pc' := 153) rfl (hb hby at_148) rfl (teq (by decide : (0 : Int32) = (0 : Int32))).1 (by decide) (by decide) ?_
            show Steps p.tables e below (T531.setTop (mkF m 153 #[.val (.long q1), .second, .val (.long q2), .second, .val (.long q3), .second, .val (.long q4), .second, .val (.int p5), .val (.long q1), .second, .val (.long q2), .second, .val (.ref b476), .val (.ref b483), .val (.int (1 : Int32)), .val .null, .val (.int (0 : Int32)), .val (.int (0 : Int32)), .unset] [])) _
            refine XS.iload X531.here hx rfl (hb hby at_153) rfl ?_
            show Steps p.tables e below (T531.setTop (mkF m 155 #[.val (.long q1), .second, .val (.long q2), .second, .val (.long q3), .second, .val (.long q4), .second, .val (.int p5), .val (.long q1), .second, .val (.long q2), .second, .val (.ref b476), .val (.ref b483), .val (.int (1 : Int32)), .val .null, .val (.int (0 : Int32)), .val (.int (0 : Int32)), .unset] [(.int (1 : Int32))])) _
            refine XS.ifYes X531.here hx rfl (pc0 := 155) (pc' := 176) rfl (hb hby at_155) rfl ((if0 _ _).trans (feq (by decide : ¬ ((1 : Int32) = (0 : Int32)))).2) (by decide) (by decide) ?_
            show Steps p.tables e below (T531.setTop (mkF m 176 #[.val (.long q1), .second, .val (.long q2), .second, .val (.long q3), .second, .val (.long q4), .second, .val (.int p5), .val (.long q1), .second, .val (.long q2), .second, .val (.ref b476), .val (.ref b483), .val (.int (1 : Int32)), .val .null, .val (.int (0 : Int32)), .val (.int (0 : Int32)), .unset] [])) _
            refine XS.iconst X531.here hx rfl (hb hby at_176) ?_
            show Steps p.tables e below (T531.setTop (mkF m 177 #[.val (.long q1), .second, .val (.long q2), .second, .val (.long q3), .second, .val (.long q4), .second, .val (.int p5), .val (.long q1), .second, .val (.long q2), .second, .val (.ref b476), .val (.ref b483), .val (.int (1 : Int32)), .val .null, .val (.int (0 : Int32)), .val (.int (0 : Int32)), .unset] [(.int (1 : Int32))])) _
            exact retN X531 hx (t := .boolean) hret (by simp) (hb hby at_177) hr
          ·
            show Q0 n0 _ T531.heap _
            rw [e533]
            exact ⟨rfl, N531⟩
        ·
          have pre534 : ∀ t, Steps p.tables e below (T484.setTop (mkF m 113 #[.val (.long q1), .second, .val (.long q2), .second, .val (.long q3), .second, .val (.long q4), .second, .val (.int p5), .val (.long q1), .second, .val (.long q2), .second, .val (.ref b476), .val (.ref b483), .val (.int (((p5.toUInt32 >>> ((2 : Int32) &&& 31).toUInt32).toInt32) &&& (3 : Int32))), .unset, .unset, .unset, .unset] [(.int (2 : Int32)), (.int (((p5.toUInt32 >>> ((2 : Int32) &&& 31).toUInt32).toInt32) &&& (3 : Int32)))])) t → Steps p.tables e below (s₁.setTop (entryFrame m #[(.long q1), (.long q2), (.long q3), (.long q4), (.int p5)] maxLocals)) t := fun t k => by
            refine pre526 _ ?_
            show Steps p.tables e below (T484.setTop (mkF m 98 #[.val (.long q1), .second, .val (.long q2), .second, .val (.long q3), .second, .val (.long q4), .second, .val (.int p5), .val (.long q1), .second, .val (.long q2), .second, .val (.ref b476), .val (.ref b483), .val (.int (((p5.toUInt32 >>> ((2 : Int32) &&& 31).toUInt32).toInt32) &&& (3 : Int32))), .unset, .unset, .unset, .unset] [(.int (1 : Int32)), (.int (((p5.toUInt32 >>> ((2 : Int32) &&& 31).toUInt32).toInt32) &&& (3 : Int32)))])) _
            refine XS.icmpYes X484.here hx rfl (pc0 := 98) (pc' := 110) rfl (hb hby at_98) rfl (feq hc527).2 (by decide) (by decide) ?_
            show Steps p.tables e below (T484.setTop (mkF m 110 #[.val (.long q1), .second, .val (.long q2), .second, .val (.long q3), .second, .val (.long q4), .second, .val (.int p5), .val (.long q1), .second, .val (.long q2), .second, .val (.ref b476), .val (.ref b483), .val (.int (((p5.toUInt32 >>> ((2 : Int32) &&& 31).toUInt32).toInt32) &&& (3 : Int32))), .unset, .unset, .unset, .unset] [])) _
            refine XS.iload X484.here hx rfl (hb hby at_110) rfl ?_
            show Steps p.tables e below (T484.setTop (mkF m 112 #[.val (.long q1), .second, .val (.long q2), .second, .val (.long q3), .second, .val (.long q4), .second, .val (.int p5), .val (.long q1), .second, .val (.long q2), .second, .val (.ref b476), .val (.ref b483), .val (.int (((p5.toUInt32 >>> ((2 : Int32) &&& 31).toUInt32).toInt32) &&& (3 : Int32))), .unset, .unset, .unset, .unset] [(.int (((p5.toUInt32 >>> ((2 : Int32) &&& 31).toUInt32).toInt32) &&& (3 : Int32)))])) _
            refine XS.iconst X484.here hx rfl (hb hby at_112) ?_
            exact k
          by_cases hc535 : (((p5.toUInt32 >>> ((2 : Int32) &&& 31).toUInt32).toInt32) &&& (3 : Int32)) = (2 : Int32)
          ·
            have pre536 : ∀ t, Steps p.tables e below (T484.setTop (mkF m 113 #[.val (.long q1), .second, .val (.long q2), .second, .val (.long q3), .second, .val (.long q4), .second, .val (.int p5), .val (.long q1), .second, .val (.long q2), .second, .val (.ref b476), .val (.ref b483), .val (.int (2 : Int32)), .unset, .unset, .unset, .unset] [(.int (2 : Int32)), (.int (2 : Int32))])) t → Steps p.tables e below (s₁.setTop (entryFrame m #[(.long q1), (.long q2), (.long q3), (.long q4), (.int p5)] maxLocals)) t := fun t k => pre534 t (by rw [hc535]; exact k)
            obtain ⟨_, _, ⟨T537, L537, c537, n537⟩, -, X537, ⟨Lc537, hQ537, l537, y537, z537⟩, st537⟩ := Jvm.LawKit.callS X484 hx (y := (⟨"java/lang/Long", "valueOf", "(J)Ljava/lang/Long;"⟩ : MethodName)) hown (mvT hZ (hw _ (List.mem_of_getElem? (i := 20) rfl))) (mvT hZ (hw _ (List.mem_of_getElem? (i := 21) rfl))) (mvT hZ (hw _ (List.mem_of_getElem? (i := 22) rfl))) (mvT hZ (hw _ (List.mem_of_getElem? (i := 23) rfl))) (by decide) (backOf (W := 0) (rm6 l Z a0 hw w1 cw1 G [] q1 T484.heap n0 O484 ) hZ (hw _ (List.mem_of_getElem? (i := 23) rfl)) (hw _ (List.mem_of_getElem? (i := 22) rfl)) (by decide) (by decide)) (g := (mkF m 117 #[.val (.long q1), .second, .val (.long q2), .second, .val (.long q3), .second, .val (.long q4), .second, .val (.int p5), .val (.long q1), .second, .val (.long q2), .second, .val (.ref b476), .val (.ref b483), .val (.int (2 : Int32)), .unset, .unset, .unset, .unset] [(.long q1)])) rfl (by rw [hml]; rfl) (argsL := [(.long q1)]) (rest := []) (lenOf pd4 rfl) rfl (by show 2 * 0 + _ ≤ _; exact Nat.le_of_eq rfl) (hb hby at_117) (fun _ _ => ⟨rfl, rfl, (by decide : 2 + 1 ≤ _), (by decide : 4 + 1 ≤ _)⟩)
            dsimp only [Pt.U, Pt.locs, Pt.cells, Pt.slots] at X537 l537 y537 z537 st537 hQ537
            subst l537 y537 z537
            have pre538 : ∀ t, Steps p.tables e below (T484.setTop (mkF m 117 #[.val (.long q1), .second, .val (.long q2), .second, .val (.long q3), .second, .val (.long q4), .second, .val (.int p5), .val (.long q1), .second, .val (.long q2), .second, .val (.ref b476), .val (.ref b483), .val (.int (2 : Int32)), .unset, .unset, .unset, .unset] [(.long q1)])) t → Steps p.tables e below (s₁.setTop (entryFrame m #[(.long q1), (.long q2), (.long q3), (.long q4), (.int p5)] maxLocals)) t := fun t k => by
              refine pre536 _ ?_
              show Steps p.tables e below (T484.setTop (mkF m 113 #[.val (.long q1), .second, .val (.long q2), .second, .val (.long q3), .second, .val (.long q4), .second, .val (.int p5), .val (.long q1), .second, .val (.long q2), .second, .val (.ref b476), .val (.ref b483), .val (.int (2 : Int32)), .unset, .unset, .unset, .unset] [(.int (2 : Int32)), (.int (2 : Int32))])) _
              refine XS.icmpNo X484.here hx rfl (hb hby at_113) rfl (teq (by decide : (2 : Int32) = (2 : Int32))).2 ?_
              show Steps p.tables e below (T484.setTop (mkF m 116 #[.val (.long q1), .second, .val (.long q2), .second, .val (.long q3), .second, .val (.long q4), .second, .val (.int p5), .val (.long q1), .second, .val (.long q2), .second, .val (.ref b476), .val (.ref b483), .val (.int (2 : Int32)), .unset, .unset, .unset, .unset] [])) _
              refine XS.lloadN X484.here hx rfl (hb hby at_116) rfl ?_
              exact k
            have X537 : Stand p l e room_1 s m #[(.long q1), (.long q2), (.long q3), (.long q4), (.int p5)] below meth c T537 _ 3 5 := X537
            rcases hQ537 with ⟨b539, hc540, rfl, Nq541, K542, sz_b539, f543, f544⟩ | ⟨b545, hc546, hc547, rfl, Nq548, K549, sz_b545, f550, f551⟩ | ⟨v552, hc553, hc554, rfl, Nq555, e556, f557⟩
            ·
              have N537 := Fr.app N484 Nq541
              have g_b539 : n0 ≤ b539 := Nat.le_trans (own_oz O484) sz_b539
              have M537 : h0.size ≤ T537.heap.size := Nat.le_trans M484 K542.1
              have O537 := Old.keep O484 K542 all0
              have f559 := (((f480.ext E483).keep K486).keep K542)
              obtain ⟨cq558, kq558, q558a, q558b, q558c⟩ := isOf hZ rfl f559
              obtain ⟨_, _, ⟨T560, L560, c560, n560⟩, -, X560, ⟨Lc560, hQ560, l560, y560, z560⟩, st560⟩ := X537.virtualBack hx (y := (⟨"com/example/sablegrid/sablegrid/model/WriteId", "equals", "(Ljava/lang/Object;)Z"⟩ : MethodName)) (z := (⟨"com/example/sablegrid/sablegrid/model/WriteId", "equals", "(Ljava/lang/Object;)Z"⟩ : MethodName)) hown (mvT hZ (hw _ (List.mem_of_getElem? (i := 13) rfl))) (mvT hZ (hw _ (List.mem_of_getElem? (i := 14) rfl))) (notFace_of_selects (args := #[]) (mvT hZ (hw _ (List.mem_of_getElem? (i := 16) rfl)))) (mvT hZ (hw _ (List.mem_of_getElem? (i := 16) rfl))) (mvT hZ (hw _ (List.mem_of_getElem? (i := 15) rfl))) (by decide) (backOf (W := 0) (rm7 l Z a0 hw [] b476 b539 T537.heap n0 O537 g_b476 g_b539 f543) hZ (hw _ (List.mem_of_getElem? (i := 17) rfl)) (hw _ (List.mem_of_getElem? (i := 2) rfl)) (by decide) (by decide)) q558a q558c (g := (mkF m 139 #[.val (.long q1), .second, .val (.long q2), .second, .val (.long q3), .second, .val (.long q4), .second, .val (.int p5), .val (.long q1), .second, .val (.long q2), .second, .val (.ref b476), .val (.ref b483), .val (.int (2 : Int32)), .val (.ref b539), .val (.int (0 : Int32)), .unset, .unset] [(.ref b539), (.ref b476)])) rfl (by rw [hml]; rfl) (Steps.refl _) (argsL := [(.ref b539)]) (rest := []) (lenOf pd1 rfl) rfl (by show 2 * 0 + _ ≤ _; exact Nat.le_of_eq rfl) (hb hby at_139) (fun _ _ => ⟨rfl, rfl, (by decide : 3 + 0 ≤ _), (by decide : 5 + 0 ≤ _)⟩)
              dsimp only [Pt.U, Pt.locs, Pt.cells, Pt.slots] at X560 l560 y560 z560 st560 hQ560
              subst l560 y560 z560
              have X560 : Stand p l e room_1 s m #[(.long q1), (.long q2), (.long q3), (.long q4), (.int p5)] below meth c T560 _ 3 5 := X560
              obtain ⟨rfl, Nq561, e562⟩ := hQ560
              have N560 := Fr.app N537 Nq561
              obtain ⟨fs, hr, hrun, hended, hW, hsame⟩ := X560.leave (v := some (.int (1 : Int32))) (fun h => by rw [hret] at h; cases h)
              refine ⟨_, _, pre538 _ ?_, hrun, hended, _, _, rfl, ?_, ⟨_, rfl⟩, hW, hsame.mono (by decide) (by decide)⟩
              ·
                show Steps p.tables e below (T484.setTop (mkF m 117 #[.val (.long q1), .second, .val (.long q2), .second, .val (.long q3), .second, .val (.long q4), .second, .val (.int p5), .val (.long q1), .second, .val (.long q2), .second, .val (.ref b476), .val (.ref b483), .val (.int (2 : Int32)), .unset, .unset, .unset, .unset] [(.long q1)])) _
                refine st537 _ ?_
                show Steps p.tables e below (T537.setTop (mkF m 120 #[.val (.long q1), .second, .val (.long q2), .second, .val (.long q3), .second, .val (.long q4), .second, .val (.int p5), .val (.long q1), .second, .val (.long q2), .second, .val (.ref b476), .val (.ref b483), .val (.int (2 : Int32)), .unset, .unset, .unset, .unset] [(.ref b539)])) _
                refine XS.astore X537.here hx rfl (hb hby at_120) rfl rfl (l' := #[.val (.long q1), .second, .val (.long q2), .second, .val (.long q3), .second, .val (.long q4), .second, .val (.int p5), .val (.long q1), .second, .val (.long q2), .second, .val (.ref b476), .val (.ref b483), .val (.int (2 : Int32)), .val (.ref b539), .unset, .unset, .unset]) rfl ?_
                show Steps p.tables e below (T537.setTop (mkF m 122 #[.val (.long q1), .second, .val (.long q2), .second, .val (.long q3), .second, .val (.long q4), .second, .val (.int p5), .val (.long q1), .second, .val (.long q2), .second, .val (.ref b476), .val (.ref b483), .val (.int (2 : Int32)), .val (.ref b539), .unset, .unset, .unset] [])) _
                refine XS.iconst X537.here hx rfl (hb hby at_122) ?_
                show Steps p.tables e below (T537.setTop (mkF m 123 #[.val (.long q1), .second, .val (.long q2), .second, .val (.long q3), .second, .val (.long q4), .second, .val (.int p5), .val (.long q1), .second, .val (.long q2), .second, .val (.ref b476), .val (.ref b483), .val (.int (2 : Int32)), .val (.ref b539), .unset, .unset, .unset] [(.int (0 : Int32))])) _
                refine XS.istore X537.here hx rfl (hb hby at_123) rfl (l' := #[.val (.long q1), .second, .val (.long q2), .second, .val (.long q3), .second, .val (.long q4), .second, .val (.int p5), .val (.long q1), .second, .val (.long q2), .second, .val (.ref b476), .val (.ref b483), .val (.int (2 : Int32)), .val (.ref b539), .val (.int (0 : Int32)), .unset, .unset]) rfl ?_
                show Steps p.tables e below (T537.setTop (mkF m 125 #[.val (.long q1), .second, .val (.long q2), .second, .val (.long q3), .second, .val (.long q4), .second, .val (.int p5), .val (.long q1), .second, .val (.long q2), .second, .val (.ref b476), .val (.ref b483), .val (.int (2 : Int32)), .val (.ref b539), .val (.int (0 : Int32)), .unset, .unset] [])) _
                refine XS.goto X537.here hx rfl (pc0 := 125) (pc' := 135) rfl (hb hby at_125) (by decide) (by decide) ?_
                show Steps p.tables e below (T537.setTop (mkF m 135 #[.val (.long q1), .second, .val (.long q2), .second, .val (.long q3), .second, .val (.long q4), .second, .val (.int p5), .val (.long q1), .second, .val (.long q2), .second, .val (.ref b476), .val (.ref b483), .val (.int (2 : Int32)), .val (.ref b539), .val (.int (0 : Int32)), .unset, .unset] [])) _
                refine XS.aload X537.here hx rfl (hb hby at_135) rfl rfl ?_
                show Steps p.tables e below (T537.setTop (mkF m 137 #[.val (.long q1), .second, .val (.long q2), .second, .val (.long q3), .second, .val (.long q4), .second, .val (.int p5), .val (.long q1), .second, .val (.long q2), .second, .val (.ref b476), .val (.ref b483), .val (.int (2 : Int32)), .val (.ref b539), .val (.int (0 : Int32)), .unset, .unset] [(.ref b476)])) _
                refine XS.aload X537.here hx rfl (hb hby at_137) rfl rfl ?_
                show Steps p.tables e below (T537.setTop (mkF m 139 #[.val (.long q1), .second, .val (.long q2), .second, .val (.long q3), .second, .val (.long q4), .second, .val (.int p5), .val (.long q1), .second, .val (.long q2), .second, .val (.ref b476), .val (.ref b483), .val (.int (2 : Int32)), .val (.ref b539), .val (.int (0 : Int32)), .unset, .unset] [(.ref b539), (.ref b476)])) _
                refine st560.trans ?_
                show Steps p.tables e below (T560.setTop (mkF m 142 #[.val (.long q1), .second, .val (.long q2), .second, .val (.long q3), .second, .val (.long q4), .second, .val (.int p5), .val (.long q1), .second, .val (.long q2), .second, .val (.ref b476), .val (.ref b483), .val (.int (2 : Int32)), .val (.ref b539), .val (.int (0 : Int32)), .unset, .unset] [(.int (0 : Int32))])) _
                refine XS.istore X560.here hx rfl (hb hby at_142) rfl (l' := #[.val (.long q1), .second, .val (.long q2), .second, .val (.long q3), .second, .val (.long q4), .second, .val (.int p5), .val (.long q1), .second, .val (.long q2), .second, .val (.ref b476), .val (.ref b483), .val (.int (2 : Int32)), .val (.ref b539), .val (.int (0 : Int32)), .val (.int (0 : Int32)), .unset]) rfl ?_
                show Steps p.tables e below (T560.setTop (mkF m 144 #[.val (.long q1), .second, .val (.long q2), .second, .val (.long q3), .second, .val (.long q4), .second, .val (.int p5), .val (.long q1), .second, .val (.long q2), .second, .val (.ref b476), .val (.ref b483), .val (.int (2 : Int32)), .val (.ref b539), .val (.int (0 : Int32)), .val (.int (0 : Int32)), .unset] [])) _
                refine XS.iload X560.here hx rfl (hb hby at_144) rfl ?_
                show Steps p.tables e below (T560.setTop (mkF m 146 #[.val (.long q1), .second, .val (.long q2), .second, .val (.long q3), .second, .val (.long q4), .second, .val (.int p5), .val (.long q1), .second, .val (.long q2), .second, .val (.ref b476), .val (.ref b483), .val (.int (2 : Int32)), .val (.ref b539), .val (.int (0 : Int32)), .val (.int (0 : Int32)), .unset] [(.int (0 : Int32))])) _
                refine XS.iload X560.here hx rfl (hb hby at_146) rfl ?_
                show Steps p.tables e below (T560.setTop (mkF m 148 #[.val (.long q1), .second, .val (.long q2), .second, .val (.long q3), .second, .val (.long q4), .second, .val (.int p5), .val (.long q1), .second, .val (.long q2), .second, .val (.ref b476), .val (.ref b483), .val (.int (2 : Int32)), .val (.ref b539), .val (.int (0 : Int32)), .val (.int (0 : Int32)), .unset] [(.int (0 : Int32)), (.int (0 : Int32))])) _
                refine XS.icmpYes X560.here hx rfl (pc0 := 148) (pc' := 153) rfl (hb hby at_148) rfl (teq (by decide : (0 : Int32) = (0 : Int32))).1 (by decide) (by decide) ?_
                show Steps p.tables e below (T560.setTop (mkF m 153 #[.val (.long q1), .second, .val (.long q2), .second, .val (.long q3), .second, .val (.long q4), .second, .val (.int p5), .val (.long q1), .second, .val (.long q2), .second, .val (.ref b476), .val (.ref b483), .val (.int (2 : Int32)), .val (.ref b539), .val (.int (0 : Int32)), .val (.int (0 : Int32)), .unset] [])) _
                refine XS.iload X560.here hx rfl (hb hby at_153) rfl ?_
                show Steps p.tables e below (T560.setTop (mkF m 155 #[.val (.long q1), .second, .val (.long q2), .second, .val (.long q3), .second, .val (.long q4), .second, .val (.int p5), .val (.long q1), .second, .val (.long q2), .second, .val (.ref b476), .val (.ref b483), .val (.int (2 : Int32)), .val (.ref b539), .val (.int (0 : Int32)), .val (.int (0 : Int32)), .unset] [(.int (2 : Int32))])) _
                refine XS.ifYes X560.here hx rfl (pc0 := 155) (pc' := 176) rfl (hb hby at_155) rfl ((if0 _ _).trans (feq (by decide : ¬ ((2 : Int32) = (0 : Int32)))).2) (by decide) (by decide) ?_
                show Steps p.tables e below (T560.setTop (mkF m 176 #[.val (.long q1), .second, .val (.long q2), .second, .val (.long q3), .second, .val (.long q4), .second, .val (.int p5), .val (.long q1), .second, .val (.long q2), .second, .val (.ref b476), .val (.ref b483), .val (.int (2 : Int32)), .val (.ref b539), .val (.int (0 : Int32)), .val (.int (0 : Int32)), .unset] [])) _
                refine XS.iconst X560.here hx rfl (hb hby at_176) ?_
                show Steps p.tables e below (T560.setTop (mkF m 177 #[.val (.long q1), .second, .val (.long q2), .second, .val (.long q3), .second, .val (.long q4), .second, .val (.int p5), .val (.long q1), .second, .val (.long q2), .second, .val (.ref b476), .val (.ref b483), .val (.int (2 : Int32)), .val (.ref b539), .val (.int (0 : Int32)), .val (.int (0 : Int32)), .unset] [(.int (1 : Int32))])) _
                exact retN X560 hx (t := .boolean) hret (by simp) (hb hby at_177) hr
              ·
                show Q0 n0 _ T560.heap _
                rw [e562]
                exact ⟨rfl, N560⟩
            ·
              have N537 := Fr.app N484 Nq548
              have g_b545 : n0 ≤ b545 := Nat.le_trans (own_oz O484) sz_b545
              have M537 : h0.size ≤ T537.heap.size := Nat.le_trans M484 K549.1
              have O537 := Old.keep O484 K549 all0
              have f564 := (((f480.ext E483).keep K486).keep K549)
              obtain ⟨cq563, kq563, q563a, q563b, q563c⟩ := isOf hZ rfl f564
              obtain ⟨_, _, ⟨T565, L565, c565, n565⟩, -, X565, ⟨Lc565, hQ565, l565, y565, z565⟩, st565⟩ := X537.virtualBack hx (y := (⟨"com/example/sablegrid/sablegrid/model/WriteId", "equals", "(Ljava/lang/Object;)Z"⟩ : MethodName)) (z := (⟨"com/example/sablegrid/sablegrid/model/WriteId", "equals", "(Ljava/lang/Object;)Z"⟩ : MethodName)) hown (mvT hZ (hw _ (List.mem_of_getElem? (i := 13) rfl))) (mvT hZ (hw _ (List.mem_of_getElem? (i := 14) rfl))) (notFace_of_selects (args := #[]) (mvT hZ (hw _ (List.mem_of_getElem? (i := 16) rfl)))) (mvT hZ (hw _ (List.mem_of_getElem? (i := 16) rfl))) (mvT hZ (hw _ (List.mem_of_getElem? (i := 15) rfl))) (by decide) (backOf (W := 0) (rm7 l Z a0 hw [] b476 b545 T537.heap n0 O537 g_b476 g_b545 f550) hZ (hw _ (List.mem_of_getElem? (i := 17) rfl)) (hw _ (List.mem_of_getElem? (i := 2) rfl)) (by decide) (by decide)) q563a q563c (g := (mkF m 139 #[.val (.long q1), .second, .val (.long q2), .second, .val (.long q3), .second, .val (.long q4), .second, .val (.int p5), .val (.long q1), .second, .val (.long q2), .second, .val (.ref b476), .val (.ref b483), .val (.int (2 : Int32)), .val (.ref b545), .val (.int (0 : Int32)), .unset, .unset] [(.ref b545), (.ref b476)])) rfl (by rw [hml]; rfl) (Steps.refl _) (argsL := [(.ref b545)]) (rest := []) (lenOf pd1 rfl) rfl (by show 2 * 0 + _ ≤ _; exact Nat.le_of_eq rfl) (hb hby at_139) (fun _ _ => ⟨rfl, rfl, (by decide : 3 + 0 ≤ _), (by decide : 5 + 0 ≤ _)⟩)
              dsimp only [Pt.U, Pt.locs, Pt.cells, Pt.slots] at X565 l565 y565 z565 st565 hQ565
              subst l565 y565 z565
              have X565 : Stand p l e room_1 s m #[(.long q1), (.long q2), (.long q3), (.long q4), (.int p5)] below meth c T565 _ 3 5 := X565
              obtain ⟨rfl, Nq566, e567⟩ := hQ565
              have N565 := Fr.app N537 Nq566
              obtain ⟨fs, hr, hrun, hended, hW, hsame⟩ := X565.leave (v := some (.int (1 : Int32))) (fun h => by rw [hret] at h; cases h)
              refine ⟨_, _, pre538 _ ?_, hrun, hended, _, _, rfl, ?_, ⟨_, rfl⟩, hW, hsame.mono (by decide) (by decide)⟩
              ·
                show Steps p.tables e below (T484.setTop (mkF m 117 #[.val (.long q1), .second, .val (.long q2), .second, .val (.long q3), .second, .val (.long q4), .second, .val (.int p5), .val (.long q1), .second, .val (.long q2), .second, .val (.ref b476), .val (.ref b483), .val (.int (2 : Int32)), .unset, .unset, .unset, .unset] [(.long q1)])) _
                refine st537 _ ?_
                show Steps p.tables e below (T537.setTop (mkF m 120 #[.val (.long q1), .second, .val (.long q2), .second, .val (.long q3), .second, .val (.long q4), .second, .val (.int p5), .val (.long q1), .second, .val (.long q2), .second, .val (.ref b476), .val (.ref b483), .val (.int (2 : Int32)), .unset, .unset, .unset, .unset] [(.ref b545)])) _
                refine XS.astore X537.here hx rfl (hb hby at_120) rfl rfl (l' := #[.val (.long q1), .second, .val (.long q2), .second, .val (.long q3), .second, .val (.long q4), .second, .val (.int p5), .val (.long q1), .second, .val (.long q2), .second, .val (.ref b476), .val (.ref b483), .val (.int (2 : Int32)), .val (.ref b545), .unset, .unset, .unset]) rfl ?_
                show Steps p.tables e below (T537.setTop (mkF m 122 #[.val (.long q1), .second, .val (.long q2), .second, .val (.long q3), .second, .val (.long q4), .second, .val (.int p5), .val (.long q1), .second, .val (.long q2), .second, .val (.ref b476), .val (.ref b483), .val (.int (2 : Int32)), .val (.ref b545), .unset, .unset, .unset] [])) _
                refine XS.iconst X537.here hx rfl (hb hby at_122) ?_
                show Steps p.tables e below (T537.setTop (mkF m 123 #[.val (.long q1), .second, .val (.long q2), .second, .val (.long q3), .second, .val (.long q4), .second, .val (.int p5), .val (.long q1), .second, .val (.long q2), .second, .val (.ref b476), .val (.ref b483), .val (.int (2 : Int32)), .val (.ref b545), .unset, .unset, .unset] [(.int (0 : Int32))])) _
                refine XS.istore X537.here hx rfl (hb hby at_123) rfl (l' := #[.val (.long q1), .second, .val (.long q2), .second, .val (.long q3), .second, .val (.long q4), .second, .val (.int p5), .val (.long q1), .second, .val (.long q2), .second, .val (.ref b476), .val (.ref b483), .val (.int (2 : Int32)), .val (.ref b545), .val (.int (0 : Int32)), .unset, .unset]) rfl ?_
                show Steps p.tables e below (T537.setTop (mkF m 125 #[.val (.long q1), .second, .val (.long q2), .second, .val (.long q3), .second, .val (.long q4), .second, .val (.int p5), .val (.long q1), .second, .val (.long q2), .second, .val (.ref b476), .val (.ref b483), .val (.int (2 : Int32)), .val (.ref b545), .val (.int (0 : Int32)), .unset, .unset] [])) _
                refine XS.goto X537.here hx rfl (pc0 := 125) (pc' := 135) rfl (hb hby at_125) (by decide) (by decide) ?_
                show Steps p.tables e below (T537.setTop (mkF m 135 #[.val (.long q1), .second, .val (.long q2), .second, .val (.long q3), .second, .val (.long q4), .second, .val (.int p5), .val (.long q1), .second, .val (.long q2), .second, .val (.ref b476), .val (.ref b483), .val (.int (2 : Int32)), .val (.ref b545), .val (.int (0 : Int32)), .unset, .unset] [])) _
                refine XS.aload X537.here hx rfl (hb hby at_135) rfl rfl ?_
                show Steps p.tables e below (T537.setTop (mkF m 137 #[.val (.long q1), .second, .val (.long q2), .second, .val (.long q3), .second, .val (.long q4), .second, .val (.int p5), .val (.long q1), .second, .val (.long q2), .second, .val (.ref b476), .val (.ref b483), .val (.int (2 : Int32)), .val (.ref b545), .val (.int (0 : Int32)), .unset, .unset] [(.ref b476)])) _
                refine XS.aload X537.here hx rfl (hb hby at_137) rfl rfl ?_
                show Steps p.tables e below (T537.setTop (mkF m 139 #[.val (.long q1), .second, .val (.long q2), .second, .val (.long q3), .second, .val (.long q4), .second, .val (.int p5), .val (.long q1), .second, .val (.long q2), .second, .val (.ref b476), .val (.ref b483), .val (.int (2 : Int32)), .val (.ref b545), .val (.int (0 : Int32)), .unset, .unset] [(.ref b545), (.ref b476)])) _
                refine st565.trans ?_
                show Steps p.tables e below (T565.setTop (mkF m 142 #[.val (.long q1), .second, .val (.long q2), .second, .val (.long q3), .second, .val (.long q4), .second, .val (.int p5), .val (.long q1), .second, .val (.long q2), .second, .val (.ref b476), .val (.ref b483), .val (.int (2 : Int32)), .val (.ref b545), .val (.int (0 : Int32)), .unset, .unset] [(.int (0 : Int32))])) _
                refine XS.istore X565.here hx rfl (hb hby at_142) rfl (l' := #[.val (.long q1), .second, .val (.long q2), .second, .val (.long q3), .second, .val (.long q4), .second, .val (.int p5), .val (.long q1), .second, .val (.long q2), .second, .val (.ref b476), .val (.ref b483), .val (.int (2 : Int32)), .val (.ref b545), .val (.int (0 : Int32)), .val (.int (0 : Int32)), .unset]) rfl ?_
                show Steps p.tables e below (T565.setTop (mkF m 144 #[.val (.long q1), .second, .val (.long q2), .second, .val (.long q3), .second, .val (.long q4), .second, .val (.int p5), .val (.long q1), .second, .val (.long q2), .second, .val (.ref b476), .val (.ref b483), .val (.int (2 : Int32)), .val (.ref b545), .val (.int (0 : Int32)), .val (.int (0 : Int32)), .unset] [])) _
                refine XS.iload X565.here hx rfl (hb hby at_144) rfl ?_
                show Steps p.tables e below (T565.setTop (mkF m 146 #[.val (.long q1), .second, .val (.long q2), .second, .val (.long q3), .second, .val (.long q4), .second, .val (.int p5), .val (.long q1), .second, .val (.long q2), .second, .val (.ref b476), .val (.ref b483), .val (.int (2 : Int32)), .val (.ref b545), .val (.int (0 : Int32)), .val (.int (0 : Int32)), .unset] [(.int (0 : Int32))])) _
                refine XS.iload X565.here hx rfl (hb hby at_146) rfl ?_
                show Steps p.tables e below (T565.setTop (mkF m 148 #[.val (.long q1), .second, .val (.long q2), .second, .val (.long q3), .second, .val (.long q4), .second, .val (.int p5), .val (.long q1), .second, .val (.long q2), .second, .val (.ref b476), .val (.ref b483), .val (.int (2 : Int32)), .val (.ref b545), .val (.int (0 : Int32)), .val (.int (0 : Int32)), .unset] [(.int (0 : Int32)), (.int (0 : Int32))])) _
                refine XS.icmpYes X565.here hx rfl (pc0 := 148) (pc' := 153) rfl (hb hby at_148) rfl (teq (by decide : (0 : Int32) = (0 : Int32))).1 (by decide) (by decide) ?_
                show Steps p.tables e below (T565.setTop (mkF m 153 #[.val (.long q1), .second, .val (.long q2), .second, .val (.long q3), .second, .val (.long q4), .second, .val (.int p5), .val (.long q1), .second, .val (.long q2), .second, .val (.ref b476), .val (.ref b483), .val (.int (2 : Int32)), .val (.ref b545), .val (.int (0 : Int32)), .val (.int (0 : Int32)), .unset] [])) _
                refine XS.iload X565.here hx rfl (hb hby at_153) rfl ?_
                show Steps p.tables e below (T565.setTop (mkF m 155 #[.val (.long q1), .second, .val (.long q2), .second, .val (.long q3), .second, .val (.long q4), .second, .val (.int p5), .val (.long q1), .second, .val (.long q2), .second, .val (.ref b476), .val (.ref b483), .val (.int (2 : Int32)), .val (.ref b545), .val (.int (0 : Int32)), .val (.int (0 : Int32)), .unset] [(.int (2 : Int32))])) _
                refine XS.ifYes X565.here hx rfl (pc0 := 155) (pc' := 176) rfl (hb hby at_155) rfl ((if0 _ _).trans (feq (by decide : ¬ ((2 : Int32) = (0 : Int32)))).2) (by decide) (by decide) ?_
                show Steps p.tables e below (T565.setTop (mkF m 176 #[.val (.long q1), .second, .val (.long q2), .second, .val (.long q3), .second, .val (.long q4), .second, .val (.int p5), .val (.long q1), .second, .val (.long q2), .second, .val (.ref b476), .val (.ref b483), .val (.int (2 : Int32)), .val (.ref b545), .val (.int (0 : Int32)), .val (.int (0 : Int32)), .unset] [])) _
                refine XS.iconst X565.here hx rfl (hb hby at_176) ?_
                show Steps p.tables e below (T565.setTop (mkF m 177 #[.val (.long q1), .second, .val (.long q2), .second, .val (.long q3), .second, .val (.long q4), .second, .val (.int p5), .val (.long q1), .second, .val (.long q2), .second, .val (.ref b476), .val (.ref b483), .val (.int (2 : Int32)), .val (.ref b545), .val (.int (0 : Int32)), .val (.int (0 : Int32)), .unset] [(.int (1 : Int32))])) _
                exact retN X565 hx (t := .boolean) hret (by simp) (hb hby at_177) hr
              ·
                show Q0 n0 _ T565.heap _
                rw [e567]
                exact ⟨rfl, N565⟩
            ·
              have N537 := Fr.app N484 Nq555
              have f569 := ((f480.ext E483).keep K486)
              obtain ⟨cq568, kq568, q568a, q568b, q568c⟩ := isOf hZ e556 f569
              obtain ⟨_, _, ⟨T570, L570, c570, n570⟩, -, X570, ⟨Lc570, hQ570, l570, y570, z570⟩, st570⟩ := X537.virtualBack hx (y := (⟨"com/example/sablegrid/sablegrid/model/WriteId", "equals", "(Ljava/lang/Object;)Z"⟩ : MethodName)) (z := (⟨"com/example/sablegrid/sablegrid/model/WriteId", "equals", "(Ljava/lang/Object;)Z"⟩ : MethodName)) hown (mvT hZ (hw _ (List.mem_of_getElem? (i := 13) rfl))) (mvT hZ (hw _ (List.mem_of_getElem? (i := 14) rfl))) (notFace_of_selects (args := #[]) (mvT hZ (hw _ (List.mem_of_getElem? (i := 16) rfl)))) (mvT hZ (hw _ (List.mem_of_getElem? (i := 16) rfl))) (mvT hZ (hw _ (List.mem_of_getElem? (i := 15) rfl))) (by decide) (backOf (W := 0) (rm8 l Z a0 hw [] b476 v552 T484.heap n0 O484 g_b476 f557) hZ (hw _ (List.mem_of_getElem? (i := 17) rfl)) (hw _ (List.mem_of_getElem? (i := 2) rfl)) (by decide) (by decide)) q568a q568c (g := (mkF m 139 #[.val (.long q1), .second, .val (.long q2), .second, .val (.long q3), .second, .val (.long q4), .second, .val (.int p5), .val (.long q1), .second, .val (.long q2), .second, .val (.ref b476), .val (.ref b483), .val (.int (2 : Int32)), .val (.ref v552), .val (.int (0 : Int32)), .unset, .unset] [(.ref v552), (.ref b476)])) rfl (by rw [hml]; rfl) (Steps.refl _) (argsL := [(.ref v552)]) (rest := []) (lenOf pd1 rfl) rfl (by show 2 * 0 + _ ≤ _; exact Nat.le_of_eq rfl) (hb hby at_139) (fun _ _ => ⟨rfl, e556, (by decide : 3 + 0 ≤ _), (by decide : 5 + 0 ≤ _)⟩)
              dsimp only [Pt.U, Pt.locs, Pt.cells, Pt.slots] at X570 l570 y570 z570 st570 hQ570
              subst l570 y570 z570
              have X570 : Stand p l e room_1 s m #[(.long q1), (.long q2), (.long q3), (.long q4), (.int p5)] below meth c T570 _ 3 5 := X570
              obtain ⟨rfl, Nq571, e572⟩ := hQ570
              have N570 := Fr.app N537 Nq571
              obtain ⟨fs, hr, hrun, hended, hW, hsame⟩ := X570.leave (v := some (.int (1 : Int32))) (fun h => by rw [hret] at h; cases h)
              refine ⟨_, _, pre538 _ ?_, hrun, hended, _, _, rfl, ?_, ⟨_, rfl⟩, hW, hsame.mono (by decide) (by decide)⟩
              ·
                show Steps p.tables e below (T484.setTop (mkF m 117 #[.val (.long q1), .second, .val (.long q2), .second, .val (.long q3), .second, .val (.long q4), .second, .val (.int p5), .val (.long q1), .second, .val (.long q2), .second, .val (.ref b476), .val (.ref b483), .val (.int (2 : Int32)), .unset, .unset, .unset, .unset] [(.long q1)])) _
                refine st537 _ ?_
                show Steps p.tables e below (T537.setTop (mkF m 120 #[.val (.long q1), .second, .val (.long q2), .second, .val (.long q3), .second, .val (.long q4), .second, .val (.int p5), .val (.long q1), .second, .val (.long q2), .second, .val (.ref b476), .val (.ref b483), .val (.int (2 : Int32)), .unset, .unset, .unset, .unset] [(.ref v552)])) _
                refine XS.astore X537.here hx rfl (hb hby at_120) rfl rfl (l' := #[.val (.long q1), .second, .val (.long q2), .second, .val (.long q3), .second, .val (.long q4), .second, .val (.int p5), .val (.long q1), .second, .val (.long q2), .second, .val (.ref b476), .val (.ref b483), .val (.int (2 : Int32)), .val (.ref v552), .unset, .unset, .unset]) rfl ?_
                show Steps p.tables e below (T537.setTop (mkF m 122 #[.val (.long q1), .second, .val (.long q2), .second, .val (.long q3), .second, .val (.long q4), .second, .val (.int p5), .val (.long q1), .second, .val (.long q2), .second, .val (.ref b476), .val (.ref b483), .val (.int (2 : Int32)), .val (.ref v552), .unset, .unset, .unset] [])) _
                refine XS.iconst X537.here hx rfl (hb hby at_122) ?_
                show Steps p.tables e below (T537.setTop (mkF m 123 #[.val (.long q1), .second, .val (.long q2), .second, .val (.long q3), .second, .val (.long q4), .second, .val (.int p5), .val (.long q1), .second, .val (.long q2), .second, .val (.ref b476), .val (.ref b483), .val (.int (2 : Int32)), .val (.ref v552), .unset, .unset, .unset] [(.int (0 : Int32))])) _
                refine XS.istore X537.here hx rfl (hb hby at_123) rfl (l' := #[.val (.long q1), .second, .val (.long q2), .second, .val (.long q3), .second, .val (.long q4), .second, .val (.int p5), .val (.long q1), .second, .val (.long q2), .second, .val (.ref b476), .val (.ref b483), .val (.int (2 : Int32)), .val (.ref v552), .val (.int (0 : Int32)), .unset, .unset]) rfl ?_
                show Steps p.tables e below (T537.setTop (mkF m 125 #[.val (.long q1), .second, .val (.long q2), .second, .val (.long q3), .second, .val (.long q4), .second, .val (.int p5), .val (.long q1), .second, .val (.long q2), .second, .val (.ref b476), .val (.ref b483), .val (.int (2 : Int32)), .val (.ref v552), .val (.int (0 : Int32)), .unset, .unset] [])) _
                refine XS.goto X537.here hx rfl (pc0 := 125) (pc' := 135) rfl (hb hby at_125) (by decide) (by decide) ?_
                show Steps p.tables e below (T537.setTop (mkF m 135 #[.val (.long q1), .second, .val (.long q2), .second, .val (.long q3), .second, .val (.long q4), .second, .val (.int p5), .val (.long q1), .second, .val (.long q2), .second, .val (.ref b476), .val (.ref b483), .val (.int (2 : Int32)), .val (.ref v552), .val (.int (0 : Int32)), .unset, .unset] [])) _
                refine XS.aload X537.here hx rfl (hb hby at_135) rfl rfl ?_
                show Steps p.tables e below (T537.setTop (mkF m 137 #[.val (.long q1), .second, .val (.long q2), .second, .val (.long q3), .second, .val (.long q4), .second, .val (.int p5), .val (.long q1), .second, .val (.long q2), .second, .val (.ref b476), .val (.ref b483), .val (.int (2 : Int32)), .val (.ref v552), .val (.int (0 : Int32)), .unset, .unset] [(.ref b476)])) _
                refine XS.aload X537.here hx rfl (hb hby at_137) rfl rfl ?_
                show Steps p.tables e below (T537.setTop (mkF m 139 #[.val (.long q1), .second, .val (.long q2), .second, .val (.long q3), .second, .val (.long q4), .second, .val (.int p5), .val (.long q1), .second, .val (.long q2), .second, .val (.ref b476), .val (.ref b483), .val (.int (2 : Int32)), .val (.ref v552), .val (.int (0 : Int32)), .unset, .unset] [(.ref v552), (.ref b476)])) _
                refine st570.trans ?_
                show Steps p.tables e below (T570.setTop (mkF m 142 #[.val (.long q1), .second, .val (.long q2), .second, .val (.long q3), .second, .val (.long q4), .second, .val (.int p5), .val (.long q1), .second, .val (.long q2), .second, .val (.ref b476), .val (.ref b483), .val (.int (2 : Int32)), .val (.ref v552), .val (.int (0 : Int32)), .unset, .unset] [(.int (0 : Int32))])) _
                refine XS.istore X570.here hx rfl (hb hby at_142) rfl (l' := #[.val (.long q1), .second, .val (.long q2), .second, .val (.long q3), .second, .val (.long q4), .second, .val (.int p5), .val (.long q1), .second, .val (.long q2), .second, .val (.ref b476), .val (.ref b483), .val (.int (2 : Int32)), .val (.ref v552), .val (.int (0 : Int32)), .val (.int (0 : Int32)), .unset]) rfl ?_
                show Steps p.tables e below (T570.setTop (mkF m 144 #[.val (.long q1), .second, .val (.long q2), .second, .val (.long q3), .second, .val (.long q4), .second, .val (.int p5), .val (.long q1), .second, .val (.long q2), .second, .val (.ref b476), .val (.ref b483), .val (.int (2 : Int32)), .val (.ref v552), .val (.int (0 : Int32)), .val (.int (0 : Int32)), .unset] [])) _
                refine XS.iload X570.here hx rfl (hb hby at_144) rfl ?_
                show Steps p.tables e below (T570.setTop (mkF m 146 #[.val (.long q1), .second, .val (.long q2), .second, .val (.long q3), .second, .val (.long q4), .second, .val (.int p5), .val (.long q1), .second, .val (.long q2), .second, .val (.ref b476), .val (.ref b483), .val (.int (2 : Int32)), .val (.ref v552), .val (.int (0 : Int32)), .val (.int (0 : Int32)), .unset] [(.int (0 : Int32))])) _
                refine XS.iload X570.here hx rfl (hb hby at_146) rfl ?_
                show Steps p.tables e below (T570.setTop (mkF m 148 #[.val (.long q1), .second, .val (.long q2), .second, .val (.long q3), .second, .val (.long q4), .second, .val (.int p5), .val (.long q1), .second, .val (.long q2), .second, .val (.ref b476), .val (.ref b483), .val (.int (2 : Int32)), .val (.ref v552), .val (.int (0 : Int32)), .val (.int (0 : Int32)), .unset] [(.int (0 : Int32)), (.int (0 : Int32))])) _
                refine XS.icmpYes X570.here hx rfl (pc0 := 148) (pc' := 153) rfl (hb hby at_148) rfl (teq (by decide : (0 : Int32) = (0 : Int32))).1 (by decide) (by decide) ?_
                show Steps p.tables e below (T570.setTop (mkF m 153 #[.val (.long q1), .second, .val (.long q2), .second, .val (.long q3), .second, .val (.long q4), .second, .val (.int p5), .val (.long q1), .second, .val (.long q2), .second, .val (.ref b476), .val (.ref b483), .val (.int (2 : Int32)), .val (.ref v552), .val (.int (0 : Int32)), .val (.int (0 : Int32)), .unset] [])) _
                refine XS.iload X570.here hx rfl (hb hby at_153) rfl ?_
                show Steps p.tables e below (T570.setTop (mkF m 155 #[.val (.long q1), .second, .val (.long q2), .second, .val (.long q3), .second, .val (.long q4), .second, .val (.int p5), .val (.long q1), .second, .val (.long q2), .second, .val (.ref b476), .val (.ref b483), .val (.int (2 : Int32)), .val (.ref v552), .val (.int (0 : Int32)), .val (.int (0 : Int32)), .unset] [(.int (2 : Int32))])) _
                refine XS.ifYes X570.here hx rfl (pc0 := 155) (pc' := 176) rfl (hb hby at_155) rfl ((if0 _ _).trans (feq (by decide : ¬ ((2 : Int32) = (0 : Int32)))).2) (by decide) (by decide) ?_
                show Steps p.tables e below (T570.setTop (mkF m 176 #[.val (.long q1), .second, .val (.long q2), .second, .val (.long q3), .second, .val (.long q4), .second, .val (.int p5), .val (.long q1), .second, .val (.long q2), .second, .val (.ref b476), .val (.ref b483), .val (.int (2 : Int32)), .val (.ref v552), .val (.int (0 : Int32)), .val (.int (0 : Int32)), .unset] [])) _
                refine XS.iconst X570.here hx rfl (hb hby at_176) ?_
                show Steps p.tables e below (T570.setTop (mkF m 177 #[.val (.long q1), .second, .val (.long q2), .second, .val (.long q3), .second, .val (.long q4), .second, .val (.int p5), .val (.long q1), .second, .val (.long q2), .second, .val (.ref b476), .val (.ref b483), .val (.int (2 : Int32)), .val (.ref v552), .val (.int (0 : Int32)), .val (.int (0 : Int32)), .unset] [(.int (1 : Int32))])) _
                exact retN X570 hx (t := .boolean) hret (by simp) (hb hby at_177) hr
              ·
                show Q0 n0 _ T570.heap _
                rw [e572]
                exact ⟨rfl, N570⟩
          ·
            have hq573 : (((p5.toUInt32 >>> ((2 : Int32) &&& 31).toUInt32).toInt32) &&& (3 : Int32)) = (3 : Int32) := (own_geq (n := 3) (k := (3 : Int32)) (by decide) (by have q0 := own_and (x := ((p5.toUInt32 >>> ((2 : Int32) &&& 31).toUInt32).toInt32)) (k := (3 : Int32)) (n := 3) (by decide) (by decide); have q1 := own_neq (n := 0) (k := (0 : Int32)) (by decide) hc491; have q2 := own_neq (n := 1) (k := (1 : Int32)) (by decide) hc527; have q3 := own_neq (n := 2) (k := (2 : Int32)) (by decide) hc535; omega))
            have pre574 : ∀ t, Steps p.tables e below (T484.setTop (mkF m 113 #[.val (.long q1), .second, .val (.long q2), .second, .val (.long q3), .second, .val (.long q4), .second, .val (.int p5), .val (.long q1), .second, .val (.long q2), .second, .val (.ref b476), .val (.ref b483), .val (.int (3 : Int32)), .unset, .unset, .unset, .unset] [(.int (2 : Int32)), (.int (3 : Int32))])) t → Steps p.tables e below (s₁.setTop (entryFrame m #[(.long q1), (.long q2), (.long q3), (.long q4), (.int p5)] maxLocals)) t := fun t k => pre534 t (by rw [hq573]; exact k)
            have f575 := ((f480.ext E483).keep K486)
            have lt576 : b476 < T477.heap.size := (Nat.lt_of_lt_of_le A476.lt K479.1)
            have ne577 : b476 ≠ b483 := Nat.ne_of_lt (Nat.lt_of_lt_of_le lt576 sz_b483)
            have f578 := ((f481.ext E483).keep K486 (ninS ne577 nin0))
            have f579 := ((f482.ext E483).keep K486 (ninS ne577 nin0))
            obtain ⟨cq580, kq580, q580a, q580b, q580c⟩ := isOf hZ rfl f575
            obtain ⟨_, _, ⟨T581, L581, c581, n581⟩, -, X581, ⟨Lc581, hQ581, l581, y581, z581⟩, st581⟩ := X484.virtualBack hx (y := (⟨"com/example/sablegrid/sablegrid/model/WriteId", "equals", "(Ljava/lang/Object;)Z"⟩ : MethodName)) (z := (⟨"com/example/sablegrid/sablegrid/model/WriteId", "equals", "(Ljava/lang/Object;)Z"⟩ : MethodName)) hown (mvT hZ (hw _ (List.mem_of_getElem? (i := 13) rfl))) (mvT hZ (hw _ (List.mem_of_getElem? (i := 14) rfl))) (notFace_of_selects (args := #[]) (mvT hZ (hw _ (List.mem_of_getElem? (i := 16) rfl)))) (mvT hZ (hw _ (List.mem_of_getElem? (i := 16) rfl))) (mvT hZ (hw _ (List.mem_of_getElem? (i := 15) rfl))) (by decide) (backOf (W := 0) (rm9 l Z a0 hw [] b476 q1 q2 T484.heap n0 O484 g_b476 f575 f578 f579) hZ (hw _ (List.mem_of_getElem? (i := 17) rfl)) (hw _ (List.mem_of_getElem? (i := 2) rfl)) (by decide) (by decide)) q580a q580c (g := (mkF m 139 #[.val (.long q1), .second, .val (.long q2), .second, .val (.long q3), .second, .val (.long q4), .second, .val (.int p5), .val (.long q1), .second, .val (.long q2), .second, .val (.ref b476), .val (.ref b483), .val (.int (3 : Int32)), .val (.ref b476), .val (.int (1 : Int32)), .unset, .unset] [(.ref b476), (.ref b476)])) rfl (by rw [hml]; rfl) (Steps.refl _) (argsL := [(.ref b476)]) (rest := []) (lenOf pd1 rfl) rfl (by show 2 * 0 + _ ≤ _; exact Nat.le_of_eq rfl) (hb hby at_139) (fun _ _ => ⟨rfl, rfl, (by decide : 2 + 0 ≤ _), (by decide : 4 + 0 ≤ _)⟩)
            dsimp only [Pt.U, Pt.locs, Pt.cells, Pt.slots] at X581 l581 y581 z581 st581 hQ581
            subst l581 y581 z581
            have X581 : Stand p l e room_1 s m #[(.long q1), (.long q2), (.long q3), (.long q4), (.int p5)] below meth c T581 _ 2 4 := X581
            obtain ⟨rfl, Nq582, e583⟩ := hQ581
            have N581 := Fr.app N484 Nq582
            obtain ⟨fs, hr, hrun, hended, hW, hsame⟩ := X581.leave (v := some (.int (1 : Int32))) (fun h => by rw [hret] at h; cases h)
            refine ⟨_, _, pre574 _ ?_, hrun, hended, _, _, rfl, ?_, ⟨_, rfl⟩, hW, hsame.mono (by decide) (by decide)⟩
            ·
              show Steps p.tables e below (T484.setTop (mkF m 113 #[.val (.long q1), .second, .val (.long q2), .second, .val (.long q3), .second, .val (.long q4), .second, .val (.int p5), .val (.long q1), .second, .val (.long q2), .second, .val (.ref b476), .val (.ref b483), .val (.int (3 : Int32)), .unset, .unset, .unset, .unset] [(.int (2 : Int32)), (.int (3 : Int32))])) _
              refine XS.icmpYes X484.here hx rfl (pc0 := 113) (pc' := 128) rfl (hb hby at_113) rfl (feq (by decide : ¬ ((3 : Int32) = (2 : Int32)))).2 (by decide) (by decide) ?_
              show Steps p.tables e below (T484.setTop (mkF m 128 #[.val (.long q1), .second, .val (.long q2), .second, .val (.long q3), .second, .val (.long q4), .second, .val (.int p5), .val (.long q1), .second, .val (.long q2), .second, .val (.ref b476), .val (.ref b483), .val (.int (3 : Int32)), .unset, .unset, .unset, .unset] [])) _
              refine XS.aload X484.here hx rfl (hb hby at_128) rfl rfl ?_
              show Steps p.tables e below (T484.setTop (mkF m 130 #[.val (.long q1), .second, .val (.long q2), .second, .val (.long q3), .second, .val (.long q4), .second, .val (.int p5), .val (.long q1), .second, .val (.long q2), .second, .val (.ref b476), .val (.ref b483), .val (.int (3 : Int32)), .unset, .unset, .unset, .unset] [(.ref b476)])) _
              refine XS.astore X484.here hx rfl (hb hby at_130) rfl rfl (l' := #[.val (.long q1), .second, .val (.long q2), .second, .val (.long q3), .second, .val (.long q4), .second, .val (.int p5), .val (.long q1), .second, .val (.long q2), .second, .val (.ref b476), .val (.ref b483), .val (.int (3 : Int32)), .val (.ref b476), .unset, .unset, .unset]) rfl ?_
              show Steps p.tables e below (T484.setTop (mkF m 132 #[.val (.long q1), .second, .val (.long q2), .second, .val (.long q3), .second, .val (.long q4), .second, .val (.int p5), .val (.long q1), .second, .val (.long q2), .second, .val (.ref b476), .val (.ref b483), .val (.int (3 : Int32)), .val (.ref b476), .unset, .unset, .unset] [])) _
              refine XS.iconst X484.here hx rfl (hb hby at_132) ?_
              show Steps p.tables e below (T484.setTop (mkF m 133 #[.val (.long q1), .second, .val (.long q2), .second, .val (.long q3), .second, .val (.long q4), .second, .val (.int p5), .val (.long q1), .second, .val (.long q2), .second, .val (.ref b476), .val (.ref b483), .val (.int (3 : Int32)), .val (.ref b476), .unset, .unset, .unset] [(.int (1 : Int32))])) _
              refine XS.istore X484.here hx rfl (hb hby at_133) rfl (l' := #[.val (.long q1), .second, .val (.long q2), .second, .val (.long q3), .second, .val (.long q4), .second, .val (.int p5), .val (.long q1), .second, .val (.long q2), .second, .val (.ref b476), .val (.ref b483), .val (.int (3 : Int32)), .val (.ref b476), .val (.int (1 : Int32)), .unset, .unset]) rfl ?_
              show Steps p.tables e below (T484.setTop (mkF m 135 #[.val (.long q1), .second, .val (.long q2), .second, .val (.long q3), .second, .val (.long q4), .second, .val (.int p5), .val (.long q1), .second, .val (.long q2), .second, .val (.ref b476), .val (.ref b483), .val (.int (3 : Int32)), .val (.ref b476), .val (.int (1 : Int32)), .unset, .unset] [])) _
              refine XS.aload X484.here hx rfl (hb hby at_135) rfl rfl ?_
              show Steps p.tables e below (T484.setTop (mkF m 137 #[.val (.long q1), .second, .val (.long q2), .second, .val (.long q3), .second, .val (.long q4), .second, .val (.int p5), .val (.long q1), .second, .val (.long q2), .second, .val (.ref b476), .val (.ref b483), .val (.int (3 : Int32)), .val (.ref b476), .val (.int (1 : Int32)), .unset, .unset] [(.ref b476)])) _
              refine XS.aload X484.here hx rfl (hb hby at_137) rfl rfl ?_
              show Steps p.tables e below (T484.setTop (mkF m 139 #[.val (.long q1), .second, .val (.long q2), .second, .val (.long q3), .second, .val (.long q4), .second, .val (.int p5), .val (.long q1), .second, .val (.long q2), .second, .val (.ref b476), .val (.ref b483), .val (.int (3 : Int32)), .val (.ref b476), .val (.int (1 : Int32)), .unset, .unset] [(.ref b476), (.ref b476)])) _
              refine st581.trans ?_
              show Steps p.tables e below (T581.setTop (mkF m 142 #[.val (.long q1), .second, .val (.long q2), .second, .val (.long q3), .second, .val (.long q4), .second, .val (.int p5), .val (.long q1), .second, .val (.long q2), .second, .val (.ref b476), .val (.ref b483), .val (.int (3 : Int32)), .val (.ref b476), .val (.int (1 : Int32)), .unset, .unset] [(.int (1 : Int32))])) _
              refine XS.istore X581.here hx rfl (hb hby at_142) rfl (l' := #[.val (.long q1), .second, .val (.long q2), .second, .val (.long q3), .second, .val (.long q4), .second, .val (.int p5), .val (.long q1), .second, .val (.long q2), .second, .val (.ref b476), .val (.ref b483), .val (.int (3 : Int32)), .val (.ref b476), .val (.int (1 : Int32)), .val (.int (1 : Int32)), .unset]) rfl ?_
              show Steps p.tables e below (T581.setTop (mkF m 144 #[.val (.long q1), .second, .val (.long q2), .second, .val (.long q3), .second, .val (.long q4), .second, .val (.int p5), .val (.long q1), .second, .val (.long q2), .second, .val (.ref b476), .val (.ref b483), .val (.int (3 : Int32)), .val (.ref b476), .val (.int (1 : Int32)), .val (.int (1 : Int32)), .unset] [])) _
              refine XS.iload X581.here hx rfl (hb hby at_144) rfl ?_
              show Steps p.tables e below (T581.setTop (mkF m 146 #[.val (.long q1), .second, .val (.long q2), .second, .val (.long q3), .second, .val (.long q4), .second, .val (.int p5), .val (.long q1), .second, .val (.long q2), .second, .val (.ref b476), .val (.ref b483), .val (.int (3 : Int32)), .val (.ref b476), .val (.int (1 : Int32)), .val (.int (1 : Int32)), .unset] [(.int (1 : Int32))])) _
              refine XS.iload X581.here hx rfl (hb hby at_146) rfl ?_
              show Steps p.tables e below (T581.setTop (mkF m 148 #[.val (.long q1), .second, .val (.long q2), .second, .val (.long q3), .second, .val (.long q4), .second, .val (.int p5), .val (.long q1), .second, .val (.long q2), .second, .val (.ref b476), .val (.ref b483), .val (.int (3 : Int32)), .val (.ref b476), .val (.int (1 : Int32)), .val (.int (1 : Int32)), .unset] [(.int (1 : Int32)), (.int (1 : Int32))])) _
              refine XS.icmpYes X581.here hx rfl (pc0 := 148) (pc' := 153) rfl (hb hby at_148) rfl (teq (by decide : (1 : Int32) = (1 : Int32))).1 (by decide) (by decide) ?_
              show Steps p.tables e below (T581.setTop (mkF m 153 #[.val (.long q1), .second, .val (.long q2), .second, .val (.long q3), .second, .val (.long q4), .second, .val (.int p5), .val (.long q1), .second, .val (.long q2), .second, .val (.ref b476), .val (.ref b483), .val (.int (3 : Int32)), .val (.ref b476), .val (.int (1 : Int32)), .val (.int (1 : Int32)), .unset] [])) _
              refine XS.iload X581.here hx rfl (hb hby at_153) rfl ?_
              show Steps p.tables e below (T581.setTop (mkF m 155 #[.val (.long q1), .second, .val (.long q2), .second, .val (.long q3), .second, .val (.long q4), .second, .val (.int p5), .val (.long q1), .second, .val (.long q2), .second, .val (.ref b476), .val (.ref b483), .val (.int (3 : Int32)), .val (.ref b476), .val (.int (1 : Int32)), .val (.int (1 : Int32)), .unset] [(.int (3 : Int32))])) _
              refine XS.ifYes X581.here hx rfl (pc0 := 155) (pc' := 176) rfl (hb hby at_155) rfl ((if0 _ _).trans (feq (by decide : ¬ ((3 : Int32) = (0 : Int32)))).2) (by decide) (by decide) ?_
              show Steps p.tables e below (T581.setTop (mkF m 176 #[.val (.long q1), .second, .val (.long q2), .second, .val (.long q3), .second, .val (.long q4), .second, .val (.int p5), .val (.long q1), .second, .val (.long q2), .second, .val (.ref b476), .val (.ref b483), .val (.int (3 : Int32)), .val (.ref b476), .val (.int (1 : Int32)), .val (.int (1 : Int32)), .unset] [])) _
              refine XS.iconst X581.here hx rfl (hb hby at_176) ?_
              show Steps p.tables e below (T581.setTop (mkF m 177 #[.val (.long q1), .second, .val (.long q2), .second, .val (.long q3), .second, .val (.long q4), .second, .val (.int p5), .val (.long q1), .second, .val (.long q2), .second, .val (.ref b476), .val (.ref b483), .val (.int (3 : Int32)), .val (.ref b476), .val (.int (1 : Int32)), .val (.int (1 : Int32)), .unset] [(.int (1 : Int32))])) _
              exact retN X581 hx (t := .boolean) hret (by simp) (hb hby at_177) hr
            ·
              show Q0 n0 _ T581.heap _
              rw [e583]
              exact ⟨rfl, N581⟩
set_option maxRecDepth 65536 in
set_option maxHeartbeats 40000000 in
theorem comes_1 {Post : Tables → Env → Array Value → State → Outcome → State → Prop} (hpost : ∀ tb e args s v u, (limb_1_1.after args s (.returned v) u = true ∧ limb_1_2.after args s (.returned v) u = true ∧ True) → FrameEnd s (.returned v) u (Jvm.fieldLocs frame_1_writes args s ++ Jvm.arrayLocs frame_1_arrays args s ++ Jvm.staticLocs frame_1_statics s) 16 128 → Post tb e args s (.returned v) u) :
    ArmFor flags0 classFile x code maxLocals ret World_1 tables_1 room_1 Calls_1 rest_1 Pre_1 Post := by
  intro l hfl _ _ p e ha hc hk s m args below hf hA hF happ hP
  obtain ⟨hcalls, hrest, hpre⟩ := hP
  obtain ⟨-, -, -, hnamed, -, -, -, hat⟩ := (Spec.applies_iff hf).mp happ
  obtain ⟨hg, hn⟩ := and_e (Cond.before_iff.mp (show (Jvm.Cond.and given_1 narrow_1).before args s = true from hpre))
  obtain ⟨hcount, hk0⟩ := and_e hg
  obtain ⟨hi0, hk1⟩ := and_e hk0
  obtain ⟨hi1, hk2⟩ := and_e hk1
  obtain ⟨hi2, hk3⟩ := and_e hk2
  obtain ⟨hi3, hk4⟩ := and_e hk3
  have hi4 := hk4
  obtain ⟨w_a0, w_a1, w_a2, w_a3, w_a4, rfl⟩ : ∃ w_a0 w_a1 w_a2 w_a3 w_a4 : Value, args = #[w_a0, w_a1, w_a2, w_a3, w_a4] := by
    have hs : args.size = 5 := by simpa [Cond.value, given_1] using hcount
    obtain ⟨L⟩ := args
    match L, hs with
    | [w_a0, w_a1, w_a2, w_a3, w_a4], _ => exact ⟨w_a0, w_a1, w_a2, w_a3, w_a4, rfl⟩
  have hw := fun d (hd : d ∈ tables_1) => atoms_spec (ws := Jvm.Cond.code x code maxLocals ret :: tables_1) hat d (List.mem_cons_of_mem _ hd)
  have hfit : Fit s := fun {y c} hc i hi => by
    obtain ⟨ha, rfl⟩ := Array.getElem?_eq_some_iff.mp hc
    have q := List.all_eq_true.mp ((Array.all_eq_true_iff_forall_mem.mp hF) _ (Array.getElem_mem ha)) i (List.mem_range.mpr hi)
    simpa [Array.getElem?_eq_getElem hi] using q
  obtain ⟨hsets, hown0⟩ := atoms_of _ (rest_1_c_eq ▸ (show rest_1_c.before _ s = true from hrest))
  obtain ⟨i0, ei0⟩ := isL_v hi0
  obtain rfl : w_a0 = (.long i0) := Option.some.inj ei0
  obtain ⟨i1, ei1⟩ := isL_v hi1
  obtain rfl : w_a1 = (.long i1) := Option.some.inj ei1
  obtain ⟨i2, ei2⟩ := isL_v hi2
  obtain rfl : w_a2 = (.long i2) := Option.some.inj ei2
  obtain ⟨i3, ei3⟩ := isL_v hi3
  obtain rfl : w_a3 = (.long i3) := Option.some.inj ei3
  obtain ⟨i4, ei4⟩ := is_v hi4
  obtain rfl : w_a4 = (.int i4) := Option.some.inj ei4
  obtain ⟨w1, ev_w1⟩ := exa_v (Cond.before_iff.mp (hsets _ (List.mem_of_getElem? (i := 3) rfl)))
  have S_w1 : Sta s s.heap "java/lang/Long$LongCache" "cache" "[Ljava/lang/Long;" (.ref w1) := Sta.start ev_w1 (Or.inl (hsets _ (List.mem_of_getElem? (i := 1) rfl)))
  have E_w1 : Exa s s.heap w1 "[Ljava/lang/Long;" := Exa.start ev_w1 (Cond.before_iff.mp (hsets _ (List.mem_of_getElem? (i := 3) rfl)))
  obtain ⟨cw1, Ar_w1⟩ := Arr.start ev_w1 (Cond.before_iff.mp (hsets _ (List.mem_of_getElem? (i := 2) rfl)))
  obtain ⟨lz_w1, ln_w1⟩ := own_len Ar_w1 ev_w1 (eqv_i rfl (Cond.before_iff.mp (hsets _ (List.mem_of_getElem? (i := 4) rfl))))
  have B_w1 : Bxs s w1 cw1 "java/lang/Long" "J" (256 : Int32) (fun j => .long ((j - (128 : Int32)).toInt64)) := Bxs.start (fun _ => ev_w1) Ar_w1 lz_w1 ln_w1 (by decide) (Cond.before_iff.mp (hsets _ (List.mem_of_getElem? (i := 5) rfl))) (fun X j nn h => eqv_l (i2l_at (Term.sub_int (idx_at nn) rfl)) h)
  have G : GW s w1 cw1 := ⟨S_w1, E_w1, B_w1⟩
  obtain ⟨n, o, h1, h2, h3, _, L, rfl, ⟨rfl, N⟩, hq⟩ := rm0 l s _ hw w1 cw1 G tables_1 i0 i1 i2 i3 i4 s.heap s.heap.size (Old.start s) p e ha hc hk s m _ below hf ((Spec.applies_iff_loose hf).mp happ).1 ⟨rfl, State.Warmed39.refl s, rfl⟩ trivial
  refine ⟨n, _, h1, h2, h3, hpost _ _ _ _ _ _ ⟨Cond.after_iff.mpr rfl, Cond.after_iff.mpr (eq_i res_at (Term.int_eval (1)) rfl), trivial⟩ ⟨hq.1, hq.2.1, (hq.2.2.sift fun y hy => Or.inr (N y hy)).mono (by decide) (by decide)⟩⟩
theorem main_1_1 : Claimed_1_1 := comes_1 fun _ _ _ _ _ _ h hF => ⟨h.1, hF⟩
theorem main_1_2 : Claimed_1_2 := comes_1 fun _ _ _ _ _ _ h hF => ⟨h.2.1, hF⟩
end Jvm.Pilot.@@N@@
namespace Jvm.Pilot.@@N@@
open Jvm Jvm.ClassFile Sem Op Lib Jvm.Free Jvm.Stand Jvm.Pilot.@@N@@.Jvm.D
/-! MADE BY PROGRAM (witnessworld.py) out of the Statement's table words and the real class files: 16 classes; the members and pool entries that the words name. The judged class is class 1, her method 1. -/
namespace start1
open Jvm.ClassFile
def u (s : String) : CpInfo := .utf8 (stringToUtf16 s)
/-- a pool by its gaps: so many unusable entries, then the entry; so many at the end -/
def gap : Nat → List CpInfo → List CpInfo
  | 0, r => r
  | n + 1, r => .unusable :: gap n r
def poolList (es : List (Nat × CpInfo)) (last : Nat) : List CpInfo := es.foldr (fun e r => gap e.1 (e.2 :: r)) (gap last [])
def pool (es : List (Nat × CpInfo)) (last : Nat) : Array CpInfo := ⟨poolList es last⟩
def fileOf (pool : Array CpInfo) (this : Nat) (attrs : Array Attribute := #[]) (ms : Array MethodInfo := #[]) (fl : Nat := 33) (sup : Nat := 0) (ifs : Array Nat := #[]) (fds : Array FieldInfo := #[]) : ClassFile where
  minorVersion := 0
  majorVersion := 65
  constantPool := pool
  accessFlags := fl
  thisClass := this
  superClass := sup
  interfaces := ifs
  fields := fds
  methods := ms
  attributes := attrs
def plain (name : String) (sup : Option ClassId) : Class where
  name := name
  kind := .ordinary
  loader := none
  accessFlags := 33
  super := sup
  interfaces := #[]
  cf := none
  fields := #[]
  methods := #[]
  instanceTypes := #[]
  staticTypes := #[]
  resolved := #[]
  callSites := []
  init := .initialized
  statics := none
  mirror := none

def pool0 : Array CpInfo := pool [(5, u "<init>"), (0, u "()V"), (1, .class_ 10), (1, u "java/lang/Object")] 113

def k0c0 : Code := { maxStack := 0, maxLocals := 1, code := object_method_1_code, exceptionTable := #[], attributes := #[] }
def k0m0 : Method := { name := "<init>", desc := "()V", sig := { parameters := [], returnType := none }, accessFlags := 1, code := some k0c0 }
/-- java/lang/Object -/
def k0 : Class := { plain "java/lang/Object" none with
  accessFlags := 33
  interfaces := #[]
  cf := some (fileOf pool0 8 #[] #[{ accessFlags := 1, nameIndex := 5, descriptorIndex := 6, attributes := #[] }] 33 0 #[] #[])
  fields := #[]
  methods := #[k0m0]
  instanceTypes := #[]
  staticTypes := #[]
  resolved := Array.replicate 124 none
  statics := none }

def pool1 : Array CpInfo := pool [(2, .class_ 4), (1, u "java/lang/Object"), (0, u "<init>"), (0, u "()V"), (0, .class_ 8), (0, u "com/example/sablegrid/sablegrid/model/WriteId"), (0, .methodref 7 10), (0, .nameAndType 5 11), (0, u "(JJ)V"), (0, .methodref 13 14), (0, .class_ 15), (0, .nameAndType 16 17), (0, u "java/lang/Long"), (0, u "valueOf"), (0, u "(J)Ljava/lang/Long;"), (0, .methodref 7 19), (0, .nameAndType 20 21), (0, u "equals"), (0, u "(Ljava/lang/Object;)Z"), (0, .class_ 23), (0, u "com/example/sablegrid/sablegrid/model/WriteIdEqualsPinLaw"), (2, u "law"), (0, u "(JJJJI)Z")] 3

def k1m0 : Method := { name := "<init>", desc := "()V", sig := { parameters := [], returnType := none }, accessFlags := 1, code := none }
def k1c1 : Code := { maxStack := 6, maxLocals := 20, code := code, exceptionTable := #[], attributes := #[] }
def k1m1 : Method := { name := "law", desc := "(JJJJI)Z", sig := { parameters := [.long, .long, .long, .long, .int], returnType := some .boolean }, accessFlags := 9, code := some k1c1 }
/-- com/example/sablegrid/sablegrid/model/WriteIdEqualsPinLaw -/
def k1 : Class := { plain "com/example/sablegrid/sablegrid/model/WriteIdEqualsPinLaw" (some 0) with
  accessFlags := 49
  interfaces := #[]
  cf := some (fileOf pool1 22 #[] #[{ accessFlags := 1, nameIndex := 5, descriptorIndex := 6, attributes := #[] }, { accessFlags := 9, nameIndex := 26, descriptorIndex := 27, attributes := #[] }] 49 2 #[] #[])
  fields := #[]
  methods := #[k1m0, k1m1]
  instanceTypes := #[]
  staticTypes := #[]
  resolved := Array.replicate 31 none
  statics := none }

def pool2 : Array CpInfo := pool [(1, .methodref 2 3), (0, .class_ 4), (0, .nameAndType 5 6), (0, u "java/lang/Object"), (0, u "<init>"), (0, u "()V"), (0, .fieldref 8 9), (0, .class_ 10), (0, .nameAndType 11 12), (0, u "com/example/sablegrid/sablegrid/model/WriteId"), (0, u "origin"), (0, u "J"), (0, .fieldref 8 14), (0, .nameAndType 15 12), (0, u "sequence"), (14, u "(JJ)V"), (3, u "equals"), (0, u "(Ljava/lang/Object;)Z")] 21

def k2c0 : Code := { maxStack := 3, maxLocals := 5, code := prog_21_method_1_code, exceptionTable := #[], attributes := #[] }
def k2m0 : Method := { name := "<init>", desc := "(JJ)V", sig := { parameters := [.long, .long], returnType := none }, accessFlags := 1, code := some k2c0 }
def k2c1 : Code := { maxStack := 4, maxLocals := 2, code := prog_21_method_4_code, exceptionTable := #[], attributes := #[] }
def k2m1 : Method := { name := "equals", desc := "(Ljava/lang/Object;)Z", sig := { parameters := [(.object "java/lang/Object")], returnType := some .boolean }, accessFlags := 1, code := some k2c1 }
/-- com/example/sablegrid/sablegrid/model/WriteId -/
def k2 : Class := { plain "com/example/sablegrid/sablegrid/model/WriteId" (some 0) with
  accessFlags := 49
  interfaces := #[]
  cf := some (fileOf pool2 8 #[] #[{ accessFlags := 1, nameIndex := 5, descriptorIndex := 30, attributes := #[] }, { accessFlags := 1, nameIndex := 34, descriptorIndex := 35, attributes := #[] }] 49 2 #[] #[{ accessFlags := 18, nameIndex := 11, descriptorIndex := 12, attributes := #[] }, { accessFlags := 18, nameIndex := 15, descriptorIndex := 12, attributes := #[] }])
  fields := #[{ name := "origin", type := .long, accessFlags := 18, slot := 0, constantValue := 0 }, { name := "sequence", type := .long, accessFlags := 18, slot := 1, constantValue := 0 }]
  methods := #[k2m0, k2m1]
  instanceTypes := #[.long, .long]
  staticTypes := #[]
  resolved := Array.replicate 57 none
  statics := none }

def pool3 : Array CpInfo := pool [(1, .class_ 2), (0, u "java/io/Serializable"), (0, .class_ 4), (0, u "java/lang/Object")] 2

/-- java/io/Serializable -/
def k3 : Class := { plain "java/io/Serializable" (some 0) with
  accessFlags := 1537
  interfaces := #[]
  cf := some (fileOf pool3 1 #[] #[] 1537 3 #[] #[])
  fields := #[]
  methods := #[]
  instanceTypes := #[]
  staticTypes := #[]
  resolved := Array.replicate 7 none
  statics := none }

def pool4 : Array CpInfo := pool [(1, .methodref 2 3), (0, .class_ 4), (0, .nameAndType 5 6), (0, u "java/lang/Object"), (0, u "<init>"), (0, u "()V"), (1, .class_ 10), (1, u "java/lang/Number"), (2, .class_ 14), (0, u "java/io/Serializable"), (0, u "serialVersionUID"), (0, u "J")] 20

def k4c0 : Code := { maxStack := 1, maxLocals := 1, code := jdk_18_method_1_code, exceptionTable := #[], attributes := #[] }
def k4m0 : Method := { name := "<init>", desc := "()V", sig := { parameters := [], returnType := none }, accessFlags := 1, code := some k4c0 }
/-- java/lang/Number -/
def k4 : Class := { plain "java/lang/Number" (some 0) with
  accessFlags := 1057
  interfaces := #[3]
  cf := some (fileOf pool4 8 #[] #[{ accessFlags := 1, nameIndex := 5, descriptorIndex := 6, attributes := #[] }] 1057 2 #[13] #[{ accessFlags := 26, nameIndex := 15, descriptorIndex := 16, attributes := #[] }])
  fields := #[{ name := "serialVersionUID", type := .long, accessFlags := 26, slot := 0, constantValue := 0 }]
  methods := #[k4m0]
  instanceTypes := #[]
  staticTypes := #[.long]
  resolved := Array.replicate 37 none
  statics := none }

def pool5 : Array CpInfo := pool [(1, .class_ 2), (0, u "java/lang/Comparable"), (0, .class_ 4), (0, u "java/lang/Object")] 7

/-- java/lang/Comparable -/
def k5 : Class := { plain "java/lang/Comparable" (some 0) with
  accessFlags := 1537
  interfaces := #[]
  cf := some (fileOf pool5 1 #[] #[] 1537 3 #[] #[])
  fields := #[]
  methods := #[]
  instanceTypes := #[]
  staticTypes := #[]
  resolved := Array.replicate 12 none
  statics := none }

def pool6 : Array CpInfo := pool [(1, .class_ 2), (0, u "java/lang/constant/Constable"), (0, .class_ 4), (0, u "java/lang/Object")] 6

/-- java/lang/constant/Constable -/
def k6 : Class := { plain "java/lang/constant/Constable" (some 0) with
  accessFlags := 1537
  interfaces := #[]
  cf := some (fileOf pool6 1 #[] #[] 1537 3 #[] #[])
  fields := #[]
  methods := #[]
  instanceTypes := #[]
  staticTypes := #[]
  resolved := Array.replicate 11 none
  statics := none }

def pool7 : Array CpInfo := pool [(1, .class_ 2), (0, u "java/lang/constant/ConstantDesc"), (0, .class_ 4), (0, u "java/lang/Object")] 32

/-- java/lang/constant/ConstantDesc -/
def k7 : Class := { plain "java/lang/constant/ConstantDesc" (some 0) with
  accessFlags := 1537
  interfaces := #[]
  cf := some (fileOf pool7 1 #[] #[] 1537 3 #[] #[])
  fields := #[]
  methods := #[]
  instanceTypes := #[]
  staticTypes := #[]
  resolved := Array.replicate 37 none
  statics := none }

def pool8 : Array CpInfo := pool [(1, .class_ 2), (0, u "java/lang/Long"), (55, .nameAndType 59 60), (0, u "<init>"), (0, u "()V"), (24, u "valueOf"), (143, u "(J)Ljava/lang/Long;"), (0, .long 18446744073709551488), (1, .long 127), (1, .fieldref 235 236), (0, .class_ 237), (0, .nameAndType 238 239), (0, u "java/lang/Long$LongCache"), (0, u "cache"), (0, u "[Ljava/lang/Long;"), (0, .methodref 1 241), (0, .nameAndType 59 242), (0, u "(J)V"), (27, .methodref 271 58), (0, .class_ 272), (0, u "java/lang/Number"), (0, .fieldref 1 274), (0, .nameAndType 275 276), (0, u "value"), (0, u "J"), (84, u "TYPE"), (0, u "Ljava/lang/Class;"), (0, .class_ 364), (0, u "java/lang/Comparable"), (0, .class_ 366), (0, u "java/lang/constant/Constable"), (0, .class_ 368), (0, u "java/lang/constant/ConstantDesc"), (0, u "MIN_VALUE"), (1, u "MAX_VALUE"), (4, u "SIZE"), (0, u "I"), (1, u "BYTES"), (1, u "serialVersionUID")] 142

def k8c0 : Code := { maxStack := 4, maxLocals := 3, code := jdk_35_method_24_code, exceptionTable := #[], attributes := #[] }
def k8m0 : Method := { name := "valueOf", desc := "(J)Ljava/lang/Long;", sig := { parameters := [.long], returnType := some (.object "java/lang/Long") }, accessFlags := 9, code := some k8c0 }
def k8c1 : Code := { maxStack := 3, maxLocals := 3, code := jdk_35_method_26_code, exceptionTable := #[], attributes := #[] }
def k8m1 : Method := { name := "<init>", desc := "(J)V", sig := { parameters := [.long], returnType := none }, accessFlags := 1, code := some k8c1 }
/-- java/lang/Long -/
def k8 : Class := { plain "java/lang/Long" (some 4) with
  accessFlags := 49
  interfaces := #[5, 6, 7]
  cf := some (fileOf pool8 1 #[.nestMembers #[235]] #[{ accessFlags := 9, nameIndex := 85, descriptorIndex := 229, attributes := #[] }, { accessFlags := 1, nameIndex := 59, descriptorIndex := 242, attributes := #[] }] 49 271 #[363, 365, 367] #[{ accessFlags := 25, nameIndex := 369, descriptorIndex := 276, attributes := #[] }, { accessFlags := 25, nameIndex := 371, descriptorIndex := 276, attributes := #[] }, { accessFlags := 25, nameIndex := 361, descriptorIndex := 362, attributes := #[] }, { accessFlags := 18, nameIndex := 275, descriptorIndex := 276, attributes := #[] }, { accessFlags := 25, nameIndex := 376, descriptorIndex := 377, attributes := #[] }, { accessFlags := 25, nameIndex := 379, descriptorIndex := 377, attributes := #[] }, { accessFlags := 26, nameIndex := 381, descriptorIndex := 276, attributes := #[] }])
  fields := #[{ name := "MIN_VALUE", type := .long, accessFlags := 25, slot := 0, constantValue := 0 }, { name := "MAX_VALUE", type := .long, accessFlags := 25, slot := 1, constantValue := 0 }, { name := "TYPE", type := (.object "java/lang/Class"), accessFlags := 25, slot := 2, constantValue := 0 }, { name := "value", type := .long, accessFlags := 18, slot := 0, constantValue := 0 }, { name := "SIZE", type := .int, accessFlags := 25, slot := 3, constantValue := 0 }, { name := "BYTES", type := .int, accessFlags := 25, slot := 4, constantValue := 0 }, { name := "serialVersionUID", type := .long, accessFlags := 26, slot := 5, constantValue := 0 }]
  methods := #[k8m0, k8m1]
  instanceTypes := #[.long]
  staticTypes := #[.long, .long, (.object "java/lang/Class"), .int, .int, .long]
  resolved := Array.replicate 524 none
  statics := none }

def pool9 : Array CpInfo := pool [(2, .class_ 4), (1, u "java/lang/Object"), (0, u "<init>"), (0, u "()V"), (0, .class_ 8), (0, u "java/lang/Long"), (7, .class_ 18), (1, u "java/lang/Long$LongCache"), (0, u "$assertionsDisabled"), (0, u "Z"), (8, u "archivedCache"), (0, u "[Ljava/lang/Long;"), (7, u "cache")] 24

def k9m0 : Method := { name := "<init>", desc := "()V", sig := { parameters := [], returnType := none }, accessFlags := 2, code := none }
/-- java/lang/Long$LongCache -/
def k9 : Class := { plain "java/lang/Long$LongCache" (some 0) with
  accessFlags := 48
  interfaces := #[]
  cf := some (fileOf pool9 16 #[.nestHost 7] #[{ accessFlags := 2, nameIndex := 5, descriptorIndex := 6, attributes := #[] }] 48 2 #[] #[{ accessFlags := 24, nameIndex := 38, descriptorIndex := 30, attributes := #[] }, { accessFlags := 8, nameIndex := 29, descriptorIndex := 30, attributes := #[] }, { accessFlags := 4120, nameIndex := 19, descriptorIndex := 20, attributes := #[] }])
  fields := #[{ name := "cache", type := (.array (.object "java/lang/Long")), accessFlags := 24, slot := 0, constantValue := 0 }, { name := "archivedCache", type := (.array (.object "java/lang/Long")), accessFlags := 8, slot := 1, constantValue := 0 }, { name := "$assertionsDisabled", type := .boolean, accessFlags := 4120, slot := 2, constantValue := 0 }]
  methods := #[k9m0]
  instanceTypes := #[]
  staticTypes := #[(.array (.object "java/lang/Long")), (.array (.object "java/lang/Long")), .boolean]
  resolved := Array.replicate 63 none
  statics := some 0 }

def pool10 : Array CpInfo := pool [(1, u "java/lang/Cloneable"), (0, .class_ 1), (0, u "java/lang/Object"), (0, .class_ 3)] 3

/-- java/lang/Cloneable -/
def k10 : Class := { plain "java/lang/Cloneable" (some 0) with
  accessFlags := 1537
  interfaces := #[]
  cf := some (fileOf pool10 2 #[] #[] 1537 4 #[] #[])
  fields := #[]
  methods := #[]
  instanceTypes := #[]
  staticTypes := #[]
  resolved := Array.replicate 8 none
  statics := none }

/-- the primitive byte -/
def k11 : Class := { plain "byte" none with kind := .primitive 'B', accessFlags := 0x411 }
/-- [B -/
def k12 : Class := { plain "[B" (some 0) with kind := .array 11 .byte, interfaces := #[10, 3], accessFlags := 1041 }

/-- the primitive int -/
def k13 : Class := { plain "int" none with kind := .primitive 'I', accessFlags := 0x411 }
/-- [I -/
def k14 : Class := { plain "[I" (some 0) with kind := .array 13 .int, interfaces := #[10, 3], accessFlags := 1041 }

/-- [Ljava/lang/Long; -/
def k15 : Class := { plain "[Ljava/lang/Long;" (some 0) with kind := .array 8 (.object "java/lang/Long"), interfaces := #[10, 3], accessFlags := 1041 }

def heap : Heap := #[{ cls := 9, slots := #[.ref 1, .null, .int 0], vm := .statics 9 },
  { cls := 15, slots := #[.ref 2, .ref 3, .ref 4, .ref 5, .ref 6, .ref 7, .ref 8, .ref 9, .ref 10, .ref 11, .ref 12, .ref 13, .ref 14, .ref 15, .ref 16, .ref 17, .ref 18, .ref 19, .ref 20, .ref 21, .ref 22, .ref 23, .ref 24, .ref 25, .ref 26, .ref 27, .ref 28, .ref 29, .ref 30, .ref 31, .ref 32, .ref 33, .ref 34, .ref 35, .ref 36, .ref 37, .ref 38, .ref 39, .ref 40, .ref 41, .ref 42, .ref 43, .ref 44, .ref 45, .ref 46, .ref 47, .ref 48, .ref 49, .ref 50, .ref 51, .ref 52, .ref 53, .ref 54, .ref 55, .ref 56, .ref 57, .ref 58, .ref 59, .ref 60, .ref 61, .ref 62, .ref 63, .ref 64, .ref 65, .ref 66, .ref 67, .ref 68, .ref 69, .ref 70, .ref 71, .ref 72, .ref 73, .ref 74, .ref 75, .ref 76, .ref 77, .ref 78, .ref 79, .ref 80, .ref 81, .ref 82, .ref 83, .ref 84, .ref 85, .ref 86, .ref 87, .ref 88, .ref 89, .ref 90, .ref 91, .ref 92, .ref 93, .ref 94, .ref 95, .ref 96, .ref 97, .ref 98, .ref 99, .ref 100, .ref 101, .ref 102, .ref 103, .ref 104, .ref 105, .ref 106, .ref 107, .ref 108, .ref 109, .ref 110, .ref 111, .ref 112, .ref 113, .ref 114, .ref 115, .ref 116, .ref 117, .ref 118, .ref 119, .ref 120, .ref 121, .ref 122, .ref 123, .ref 124, .ref 125, .ref 126, .ref 127, .ref 128, .ref 129, .ref 130, .ref 131, .ref 132, .ref 133, .ref 134, .ref 135, .ref 136, .ref 137, .ref 138, .ref 139, .ref 140, .ref 141, .ref 142, .ref 143, .ref 144, .ref 145, .ref 146, .ref 147, .ref 148, .ref 149, .ref 150, .ref 151, .ref 152, .ref 153, .ref 154, .ref 155, .ref 156, .ref 157, .ref 158, .ref 159, .ref 160, .ref 161, .ref 162, .ref 163, .ref 164, .ref 165, .ref 166, .ref 167, .ref 168, .ref 169, .ref 170, .ref 171, .ref 172, .ref 173, .ref 174, .ref 175, .ref 176, .ref 177, .ref 178, .ref 179, .ref 180, .ref 181, .ref 182, .ref 183, .ref 184, .ref 185, .ref 186, .ref 187, .ref 188, .ref 189, .ref 190, .ref 191, .ref 192, .ref 193, .ref 194, .ref 195, .ref 196, .ref 197, .ref 198, .ref 199, .ref 200, .ref 201, .ref 202, .ref 203, .ref 204, .ref 205, .ref 206, .ref 207, .ref 208, .ref 209, .ref 210, .ref 211, .ref 212, .ref 213, .ref 214, .ref 215, .ref 216, .ref 217, .ref 218, .ref 219, .ref 220, .ref 221, .ref 222, .ref 223, .ref 224, .ref 225, .ref 226, .ref 227, .ref 228, .ref 229, .ref 230, .ref 231, .ref 232, .ref 233, .ref 234, .ref 235, .ref 236, .ref 237, .ref 238, .ref 239, .ref 240, .ref 241, .ref 242, .ref 243, .ref 244, .ref 245, .ref 246, .ref 247, .ref 248, .ref 249, .ref 250, .ref 251, .ref 252, .ref 253, .ref 254, .ref 255, .ref 256, .ref 257], vm := .none },
  { cls := 8, slots := #[.long (-128)], vm := .none },
  { cls := 8, slots := #[.long (-127)], vm := .none },
  { cls := 8, slots := #[.long (-126)], vm := .none },
  { cls := 8, slots := #[.long (-125)], vm := .none },
  { cls := 8, slots := #[.long (-124)], vm := .none },
  { cls := 8, slots := #[.long (-123)], vm := .none },
  { cls := 8, slots := #[.long (-122)], vm := .none },
  { cls := 8, slots := #[.long (-121)], vm := .none },
  { cls := 8, slots := #[.long (-120)], vm := .none },
  { cls := 8, slots := #[.long (-119)], vm := .none },
  { cls := 8, slots := #[.long (-118)], vm := .none },
  { cls := 8, slots := #[.long (-117)], vm := .none },
  { cls := 8, slots := #[.long (-116)], vm := .none },
  { cls := 8, slots := #[.long (-115)], vm := .none },
  { cls := 8, slots := #[.long (-114)], vm := .none },
  { cls := 8, slots := #[.long (-113)], vm := .none },
  { cls := 8, slots := #[.long (-112)], vm := .none },
  { cls := 8, slots := #[.long (-111)], vm := .none },
  { cls := 8, slots := #[.long (-110)], vm := .none },
  { cls := 8, slots := #[.long (-109)], vm := .none },
  { cls := 8, slots := #[.long (-108)], vm := .none },
  { cls := 8, slots := #[.long (-107)], vm := .none },
  { cls := 8, slots := #[.long (-106)], vm := .none },
  { cls := 8, slots := #[.long (-105)], vm := .none },
  { cls := 8, slots := #[.long (-104)], vm := .none },
  { cls := 8, slots := #[.long (-103)], vm := .none },
  { cls := 8, slots := #[.long (-102)], vm := .none },
  { cls := 8, slots := #[.long (-101)], vm := .none },
  { cls := 8, slots := #[.long (-100)], vm := .none },
  { cls := 8, slots := #[.long (-99)], vm := .none },
  { cls := 8, slots := #[.long (-98)], vm := .none },
  { cls := 8, slots := #[.long (-97)], vm := .none },
  { cls := 8, slots := #[.long (-96)], vm := .none },
  { cls := 8, slots := #[.long (-95)], vm := .none },
  { cls := 8, slots := #[.long (-94)], vm := .none },
  { cls := 8, slots := #[.long (-93)], vm := .none },
  { cls := 8, slots := #[.long (-92)], vm := .none },
  { cls := 8, slots := #[.long (-91)], vm := .none },
  { cls := 8, slots := #[.long (-90)], vm := .none },
  { cls := 8, slots := #[.long (-89)], vm := .none },
  { cls := 8, slots := #[.long (-88)], vm := .none },
  { cls := 8, slots := #[.long (-87)], vm := .none },
  { cls := 8, slots := #[.long (-86)], vm := .none },
  { cls := 8, slots := #[.long (-85)], vm := .none },
  { cls := 8, slots := #[.long (-84)], vm := .none },
  { cls := 8, slots := #[.long (-83)], vm := .none },
  { cls := 8, slots := #[.long (-82)], vm := .none },
  { cls := 8, slots := #[.long (-81)], vm := .none },
  { cls := 8, slots := #[.long (-80)], vm := .none },
  { cls := 8, slots := #[.long (-79)], vm := .none },
  { cls := 8, slots := #[.long (-78)], vm := .none },
  { cls := 8, slots := #[.long (-77)], vm := .none },
  { cls := 8, slots := #[.long (-76)], vm := .none },
  { cls := 8, slots := #[.long (-75)], vm := .none },
  { cls := 8, slots := #[.long (-74)], vm := .none },
  { cls := 8, slots := #[.long (-73)], vm := .none },
  { cls := 8, slots := #[.long (-72)], vm := .none },
  { cls := 8, slots := #[.long (-71)], vm := .none },
  { cls := 8, slots := #[.long (-70)], vm := .none },
  { cls := 8, slots := #[.long (-69)], vm := .none },
  { cls := 8, slots := #[.long (-68)], vm := .none },
  { cls := 8, slots := #[.long (-67)], vm := .none },
  { cls := 8, slots := #[.long (-66)], vm := .none },
  { cls := 8, slots := #[.long (-65)], vm := .none },
  { cls := 8, slots := #[.long (-64)], vm := .none },
  { cls := 8, slots := #[.long (-63)], vm := .none },
  { cls := 8, slots := #[.long (-62)], vm := .none },
  { cls := 8, slots := #[.long (-61)], vm := .none },
  { cls := 8, slots := #[.long (-60)], vm := .none },
  { cls := 8, slots := #[.long (-59)], vm := .none },
  { cls := 8, slots := #[.long (-58)], vm := .none },
  { cls := 8, slots := #[.long (-57)], vm := .none },
  { cls := 8, slots := #[.long (-56)], vm := .none },
  { cls := 8, slots := #[.long (-55)], vm := .none },
  { cls := 8, slots := #[.long (-54)], vm := .none },
  { cls := 8, slots := #[.long (-53)], vm := .none },
  { cls := 8, slots := #[.long (-52)], vm := .none },
  { cls := 8, slots := #[.long (-51)], vm := .none },
  { cls := 8, slots := #[.long (-50)], vm := .none },
  { cls := 8, slots := #[.long (-49)], vm := .none },
  { cls := 8, slots := #[.long (-48)], vm := .none },
  { cls := 8, slots := #[.long (-47)], vm := .none },
  { cls := 8, slots := #[.long (-46)], vm := .none },
  { cls := 8, slots := #[.long (-45)], vm := .none },
  { cls := 8, slots := #[.long (-44)], vm := .none },
  { cls := 8, slots := #[.long (-43)], vm := .none },
  { cls := 8, slots := #[.long (-42)], vm := .none },
  { cls := 8, slots := #[.long (-41)], vm := .none },
  { cls := 8, slots := #[.long (-40)], vm := .none },
  { cls := 8, slots := #[.long (-39)], vm := .none },
  { cls := 8, slots := #[.long (-38)], vm := .none },
  { cls := 8, slots := #[.long (-37)], vm := .none },
  { cls := 8, slots := #[.long (-36)], vm := .none },
  { cls := 8, slots := #[.long (-35)], vm := .none },
  { cls := 8, slots := #[.long (-34)], vm := .none },
  { cls := 8, slots := #[.long (-33)], vm := .none },
  { cls := 8, slots := #[.long (-32)], vm := .none },
  { cls := 8, slots := #[.long (-31)], vm := .none },
  { cls := 8, slots := #[.long (-30)], vm := .none },
  { cls := 8, slots := #[.long (-29)], vm := .none },
  { cls := 8, slots := #[.long (-28)], vm := .none },
  { cls := 8, slots := #[.long (-27)], vm := .none },
  { cls := 8, slots := #[.long (-26)], vm := .none },
  { cls := 8, slots := #[.long (-25)], vm := .none },
  { cls := 8, slots := #[.long (-24)], vm := .none },
  { cls := 8, slots := #[.long (-23)], vm := .none },
  { cls := 8, slots := #[.long (-22)], vm := .none },
  { cls := 8, slots := #[.long (-21)], vm := .none },
  { cls := 8, slots := #[.long (-20)], vm := .none },
  { cls := 8, slots := #[.long (-19)], vm := .none },
  { cls := 8, slots := #[.long (-18)], vm := .none },
  { cls := 8, slots := #[.long (-17)], vm := .none },
  { cls := 8, slots := #[.long (-16)], vm := .none },
  { cls := 8, slots := #[.long (-15)], vm := .none },
  { cls := 8, slots := #[.long (-14)], vm := .none },
  { cls := 8, slots := #[.long (-13)], vm := .none },
  { cls := 8, slots := #[.long (-12)], vm := .none },
  { cls := 8, slots := #[.long (-11)], vm := .none },
  { cls := 8, slots := #[.long (-10)], vm := .none },
  { cls := 8, slots := #[.long (-9)], vm := .none },
  { cls := 8, slots := #[.long (-8)], vm := .none },
  { cls := 8, slots := #[.long (-7)], vm := .none },
  { cls := 8, slots := #[.long (-6)], vm := .none },
  { cls := 8, slots := #[.long (-5)], vm := .none },
  { cls := 8, slots := #[.long (-4)], vm := .none },
  { cls := 8, slots := #[.long (-3)], vm := .none },
  { cls := 8, slots := #[.long (-2)], vm := .none },
  { cls := 8, slots := #[.long (-1)], vm := .none },
  { cls := 8, slots := #[.long (0)], vm := .none },
  { cls := 8, slots := #[.long (1)], vm := .none },
  { cls := 8, slots := #[.long (2)], vm := .none },
  { cls := 8, slots := #[.long (3)], vm := .none },
  { cls := 8, slots := #[.long (4)], vm := .none },
  { cls := 8, slots := #[.long (5)], vm := .none },
  { cls := 8, slots := #[.long (6)], vm := .none },
  { cls := 8, slots := #[.long (7)], vm := .none },
  { cls := 8, slots := #[.long (8)], vm := .none },
  { cls := 8, slots := #[.long (9)], vm := .none },
  { cls := 8, slots := #[.long (10)], vm := .none },
  { cls := 8, slots := #[.long (11)], vm := .none },
  { cls := 8, slots := #[.long (12)], vm := .none },
  { cls := 8, slots := #[.long (13)], vm := .none },
  { cls := 8, slots := #[.long (14)], vm := .none },
  { cls := 8, slots := #[.long (15)], vm := .none },
  { cls := 8, slots := #[.long (16)], vm := .none },
  { cls := 8, slots := #[.long (17)], vm := .none },
  { cls := 8, slots := #[.long (18)], vm := .none },
  { cls := 8, slots := #[.long (19)], vm := .none },
  { cls := 8, slots := #[.long (20)], vm := .none },
  { cls := 8, slots := #[.long (21)], vm := .none },
  { cls := 8, slots := #[.long (22)], vm := .none },
  { cls := 8, slots := #[.long (23)], vm := .none },
  { cls := 8, slots := #[.long (24)], vm := .none },
  { cls := 8, slots := #[.long (25)], vm := .none },
  { cls := 8, slots := #[.long (26)], vm := .none },
  { cls := 8, slots := #[.long (27)], vm := .none },
  { cls := 8, slots := #[.long (28)], vm := .none },
  { cls := 8, slots := #[.long (29)], vm := .none },
  { cls := 8, slots := #[.long (30)], vm := .none },
  { cls := 8, slots := #[.long (31)], vm := .none },
  { cls := 8, slots := #[.long (32)], vm := .none },
  { cls := 8, slots := #[.long (33)], vm := .none },
  { cls := 8, slots := #[.long (34)], vm := .none },
  { cls := 8, slots := #[.long (35)], vm := .none },
  { cls := 8, slots := #[.long (36)], vm := .none },
  { cls := 8, slots := #[.long (37)], vm := .none },
  { cls := 8, slots := #[.long (38)], vm := .none },
  { cls := 8, slots := #[.long (39)], vm := .none },
  { cls := 8, slots := #[.long (40)], vm := .none },
  { cls := 8, slots := #[.long (41)], vm := .none },
  { cls := 8, slots := #[.long (42)], vm := .none },
  { cls := 8, slots := #[.long (43)], vm := .none },
  { cls := 8, slots := #[.long (44)], vm := .none },
  { cls := 8, slots := #[.long (45)], vm := .none },
  { cls := 8, slots := #[.long (46)], vm := .none },
  { cls := 8, slots := #[.long (47)], vm := .none },
  { cls := 8, slots := #[.long (48)], vm := .none },
  { cls := 8, slots := #[.long (49)], vm := .none },
  { cls := 8, slots := #[.long (50)], vm := .none },
  { cls := 8, slots := #[.long (51)], vm := .none },
  { cls := 8, slots := #[.long (52)], vm := .none },
  { cls := 8, slots := #[.long (53)], vm := .none },
  { cls := 8, slots := #[.long (54)], vm := .none },
  { cls := 8, slots := #[.long (55)], vm := .none },
  { cls := 8, slots := #[.long (56)], vm := .none },
  { cls := 8, slots := #[.long (57)], vm := .none },
  { cls := 8, slots := #[.long (58)], vm := .none },
  { cls := 8, slots := #[.long (59)], vm := .none },
  { cls := 8, slots := #[.long (60)], vm := .none },
  { cls := 8, slots := #[.long (61)], vm := .none },
  { cls := 8, slots := #[.long (62)], vm := .none },
  { cls := 8, slots := #[.long (63)], vm := .none },
  { cls := 8, slots := #[.long (64)], vm := .none },
  { cls := 8, slots := #[.long (65)], vm := .none },
  { cls := 8, slots := #[.long (66)], vm := .none },
  { cls := 8, slots := #[.long (67)], vm := .none },
  { cls := 8, slots := #[.long (68)], vm := .none },
  { cls := 8, slots := #[.long (69)], vm := .none },
  { cls := 8, slots := #[.long (70)], vm := .none },
  { cls := 8, slots := #[.long (71)], vm := .none },
  { cls := 8, slots := #[.long (72)], vm := .none },
  { cls := 8, slots := #[.long (73)], vm := .none },
  { cls := 8, slots := #[.long (74)], vm := .none },
  { cls := 8, slots := #[.long (75)], vm := .none },
  { cls := 8, slots := #[.long (76)], vm := .none },
  { cls := 8, slots := #[.long (77)], vm := .none },
  { cls := 8, slots := #[.long (78)], vm := .none },
  { cls := 8, slots := #[.long (79)], vm := .none },
  { cls := 8, slots := #[.long (80)], vm := .none },
  { cls := 8, slots := #[.long (81)], vm := .none },
  { cls := 8, slots := #[.long (82)], vm := .none },
  { cls := 8, slots := #[.long (83)], vm := .none },
  { cls := 8, slots := #[.long (84)], vm := .none },
  { cls := 8, slots := #[.long (85)], vm := .none },
  { cls := 8, slots := #[.long (86)], vm := .none },
  { cls := 8, slots := #[.long (87)], vm := .none },
  { cls := 8, slots := #[.long (88)], vm := .none },
  { cls := 8, slots := #[.long (89)], vm := .none },
  { cls := 8, slots := #[.long (90)], vm := .none },
  { cls := 8, slots := #[.long (91)], vm := .none },
  { cls := 8, slots := #[.long (92)], vm := .none },
  { cls := 8, slots := #[.long (93)], vm := .none },
  { cls := 8, slots := #[.long (94)], vm := .none },
  { cls := 8, slots := #[.long (95)], vm := .none },
  { cls := 8, slots := #[.long (96)], vm := .none },
  { cls := 8, slots := #[.long (97)], vm := .none },
  { cls := 8, slots := #[.long (98)], vm := .none },
  { cls := 8, slots := #[.long (99)], vm := .none },
  { cls := 8, slots := #[.long (100)], vm := .none },
  { cls := 8, slots := #[.long (101)], vm := .none },
  { cls := 8, slots := #[.long (102)], vm := .none },
  { cls := 8, slots := #[.long (103)], vm := .none },
  { cls := 8, slots := #[.long (104)], vm := .none },
  { cls := 8, slots := #[.long (105)], vm := .none },
  { cls := 8, slots := #[.long (106)], vm := .none },
  { cls := 8, slots := #[.long (107)], vm := .none },
  { cls := 8, slots := #[.long (108)], vm := .none },
  { cls := 8, slots := #[.long (109)], vm := .none },
  { cls := 8, slots := #[.long (110)], vm := .none },
  { cls := 8, slots := #[.long (111)], vm := .none },
  { cls := 8, slots := #[.long (112)], vm := .none },
  { cls := 8, slots := #[.long (113)], vm := .none },
  { cls := 8, slots := #[.long (114)], vm := .none },
  { cls := 8, slots := #[.long (115)], vm := .none },
  { cls := 8, slots := #[.long (116)], vm := .none },
  { cls := 8, slots := #[.long (117)], vm := .none },
  { cls := 8, slots := #[.long (118)], vm := .none },
  { cls := 8, slots := #[.long (119)], vm := .none },
  { cls := 8, slots := #[.long (120)], vm := .none },
  { cls := 8, slots := #[.long (121)], vm := .none },
  { cls := 8, slots := #[.long (122)], vm := .none },
  { cls := 8, slots := #[.long (123)], vm := .none },
  { cls := 8, slots := #[.long (124)], vm := .none },
  { cls := 8, slots := #[.long (125)], vm := .none },
  { cls := 8, slots := #[.long (126)], vm := .none },
  { cls := 8, slots := #[.long (127)], vm := .none }]
def classes : Array Class := #[k0, k1, k2, k3, k4, k5, k6, k7, k8, k9, k10, k11, k12, k13, k14, k15]
def interned : List (Array UInt16 × Addr) := []
def slotsUsed : Nat := 515
def theMethod : MethodId := ⟨1, 1⟩
def args0 : Array Value := #[.long 5, .long 5, .long 5, .long 5, .int 5]
def aboutOver (below : List Frame) : State where
  vm := { classes := classes, interned := interned.toArray }
  heap := heap
  slotsUsed := slotsUsed
  threads := #[{ frames := .invoking theMethod args0 :: below }]
def below0 : List Frame := [.native { method := ⟨0, 0⟩, args := #[] }]
def about1 : State := aboutOver below0
def p0 : Program := .bare "" "" ""
def e0 : Env := launch0.env 0 0 0
theorem w_frames : about1.frames = Frame.invoking theMethod args0 :: below0 := rfl
set_option maxRecDepth 65536 in
theorem w_args : argsFit about1.vm theMethod args0 = true := by decide +kernel
set_option maxRecDepth 65536 in
theorem w_heap : heapFits about1 = true := by decide +kernel
set_option maxRecDepth 65536 in
theorem w_runnable : about1.curStatus? = some .runnable := by decide +kernel
set_option maxRecDepth 65536 in
theorem w_alone : about1.alone = true := by decide +kernel
set_option maxRecDepth 65536 in
theorem w_named : about1.methodNamed? x = some theMethod := by decide +kernel
set_option maxRecDepth 65536 in
theorem w_hears : about1.hears theMethod below0 = true := by decide +kernel
set_option maxRecDepth 65536 in
theorem w_ripe : about1.ripe theMethod args0 below0 = true := by decide +kernel
theorem w_running : about1.status = .running := rfl
set_option maxRecDepth 65536 in
theorem w_room : about1.hasRoom e0.platform room_1 = true :=
  launch0.hasRoom_least _ room_1 (by decide +kernel) (by decide +kernel) (by decide +kernel) (by decide +kernel) (by decide +kernel) (by decide +kernel)
theorem allAtoms_all (ts : List Jvm.Cond) (a : Array Jvm.Value) (st : Jvm.State) : (allAtoms ts).before a st = ts.all (fun c => c.before a st) := by
  induction ts with
  | nil => rfl
  | cons c t ih =>
    show (Jvm.Cond.and c (allAtoms t)).before a st = _
    rw [Jvm.Cond.before_and, ih, List.all_cons]
def words1 : List Jvm.Cond := Jvm.Cond.code x code maxLocals ret :: tables_1
/-- a 'code' word, met by the world's own term for the bytes: nothing is compared byte by byte -/
theorem code_word {y : MethodName} {bytes : ByteArray} {mx : Nat} {rt : Option FieldType} {a : Array Value} {s : State} {m : MethodId} {meth : Method} {c : Code} (h1 : s.methodNamed? y = some m) (h2 : s.vm.method? m = some meth) (h3 : meth.code = some c) (h4 : c.code = bytes)
    (h5 : (c.maxLocals == mx && c.exceptionTable.isEmpty && decide (c.maxStack ≤ mostOperands) && decide (meth.sig.returnType = rt) && !meth.locks && decide (parseMethodDescriptor y.desc = some meth.sig)) = true) : (Jvm.Cond.code y bytes mx rt).before a s = true := by
  simp only [Bool.and_eq_true, beq_iff_eq, Bool.not_eq_true', decide_eq_true_eq] at h5
  obtain ⟨⟨⟨⟨⟨g1, g2⟩, g3⟩, g4⟩, g5⟩, g6⟩ := h5
  simp [Cond.before, Cond.holds, Cond.value, h1, h2, h3, h4, g1, g2, g3, g4, g5, g6]
def isCode : Jvm.Cond → Bool
  | .code _ _ _ _ => true
  | _ => false
theorem all_split {L : List Jvm.Cond} {P : Jvm.Cond → Bool} (h1 : L.all (fun c => isCode c || P c) = true) (h2 : ∀ c ∈ L.filter isCode, P c = true) : L.all P = true := by
  refine List.all_eq_true.mpr fun c hc => ?_
  have h := List.all_eq_true.mp h1 c hc
  rcases Bool.eq_false_or_eq_true (isCode c) with hi | hi
  · exact h2 c (List.mem_filter.mpr ⟨hc, hi⟩)
  · simpa [hi] using h
set_option maxRecDepth 65536 in
theorem w_c0 : (Jvm.Cond.code x code maxLocals ret).before args0 about1 = true := code_word (m := ⟨1, 1⟩) (meth := k1m1) (c := k1c1) (by decide +kernel) rfl rfl rfl (by decide +kernel)
set_option maxRecDepth 65536 in
theorem w_c1 : (Jvm.Cond.code ({ cls := "com/example/sablegrid/sablegrid/model/WriteId", name := "<init>", desc := "(JJ)V" } : Jvm.MethodName) prog_21_method_1_code (5 : Nat) (Option.none : Option Jvm.ClassFile.FieldType)).before args0 about1 = true := code_word (m := ⟨2, 0⟩) (meth := k2m0) (c := k2c0) (by decide +kernel) rfl rfl rfl (by decide +kernel)
set_option maxRecDepth 65536 in
theorem w_c2 : (Jvm.Cond.code ({ cls := "java/lang/Object", name := "<init>", desc := "()V" } : Jvm.MethodName) object_method_1_code (1 : Nat) (Option.none : Option Jvm.ClassFile.FieldType)).before args0 about1 = true := code_word (m := ⟨0, 0⟩) (meth := k0m0) (c := k0c0) (by decide +kernel) rfl rfl rfl (by decide +kernel)
set_option maxRecDepth 65536 in
theorem w_c3 : (Jvm.Cond.code ({ cls := "com/example/sablegrid/sablegrid/model/WriteId", name := "equals", desc := "(Ljava/lang/Object;)Z" } : Jvm.MethodName) prog_21_method_4_code (2 : Nat) (Option.some Jvm.ClassFile.FieldType.boolean)).before args0 about1 = true := code_word (m := ⟨2, 1⟩) (meth := k2m1) (c := k2c1) (by decide +kernel) rfl rfl rfl (by decide +kernel)
set_option maxRecDepth 65536 in
theorem w_c4 : (Jvm.Cond.code ({ cls := "java/lang/Long", name := "valueOf", desc := "(J)Ljava/lang/Long;" } : Jvm.MethodName) jdk_35_method_24_code (3 : Nat) (Option.some (Jvm.ClassFile.FieldType.object "java/lang/Long"))).before args0 about1 = true := code_word (m := ⟨8, 0⟩) (meth := k8m0) (c := k8c0) (by decide +kernel) rfl rfl rfl (by decide +kernel)
set_option maxRecDepth 65536 in
theorem w_c5 : (Jvm.Cond.code ({ cls := "java/lang/Long", name := "<init>", desc := "(J)V" } : Jvm.MethodName) jdk_35_method_26_code (3 : Nat) (Option.none : Option Jvm.ClassFile.FieldType)).before args0 about1 = true := code_word (m := ⟨8, 1⟩) (meth := k8m1) (c := k8c1) (by decide +kernel) rfl rfl rfl (by decide +kernel)
set_option maxRecDepth 65536 in
theorem w_c6 : (Jvm.Cond.code ({ cls := "java/lang/Number", name := "<init>", desc := "()V" } : Jvm.MethodName) jdk_18_method_1_code (1 : Nat) (Option.none : Option Jvm.ClassFile.FieldType)).before args0 about1 = true := code_word (m := ⟨4, 0⟩) (meth := k4m0) (c := k4c0) (by decide +kernel) rfl rfl rfl (by decide +kernel)
def codes1 : List Jvm.Cond := [Jvm.Cond.code x code maxLocals ret, Jvm.Cond.code ({ cls := "com/example/sablegrid/sablegrid/model/WriteId", name := "<init>", desc := "(JJ)V" } : Jvm.MethodName) prog_21_method_1_code (5 : Nat) (Option.none : Option Jvm.ClassFile.FieldType), Jvm.Cond.code ({ cls := "java/lang/Object", name := "<init>", desc := "()V" } : Jvm.MethodName) object_method_1_code (1 : Nat) (Option.none : Option Jvm.ClassFile.FieldType), Jvm.Cond.code ({ cls := "com/example/sablegrid/sablegrid/model/WriteId", name := "equals", desc := "(Ljava/lang/Object;)Z" } : Jvm.MethodName) prog_21_method_4_code (2 : Nat) (Option.some Jvm.ClassFile.FieldType.boolean), Jvm.Cond.code ({ cls := "java/lang/Long", name := "valueOf", desc := "(J)Ljava/lang/Long;" } : Jvm.MethodName) jdk_35_method_24_code (3 : Nat) (Option.some (Jvm.ClassFile.FieldType.object "java/lang/Long")), Jvm.Cond.code ({ cls := "java/lang/Long", name := "<init>", desc := "(J)V" } : Jvm.MethodName) jdk_35_method_26_code (3 : Nat) (Option.none : Option Jvm.ClassFile.FieldType), Jvm.Cond.code ({ cls := "java/lang/Number", name := "<init>", desc := "()V" } : Jvm.MethodName) jdk_18_method_1_code (1 : Nat) (Option.none : Option Jvm.ClassFile.FieldType)]
set_option maxRecDepth 65536 in
theorem codes_eq : words1.filter isCode = codes1 := rfl
theorem w_codes : ∀ c ∈ words1.filter isCode, c.before args0 about1 = true := by
  rw [codes_eq]
  intro c hc
  simp only [codes1, List.mem_cons, List.not_mem_nil, or_false] at hc
  rcases hc with rfl | rfl | rfl | rfl | rfl | rfl | rfl
  · exact w_c0
  · exact w_c1
  · exact w_c2
  · exact w_c3
  · exact w_c4
  · exact w_c5
  · exact w_c6
set_option maxRecDepth 65536 in
theorem w_t1 : (words1.take 24).all (fun c => isCode c || c.before args0 about1) = true := by decide +kernel
set_option maxRecDepth 65536 in
theorem w_t2 : (words1.drop 24).all (fun c => isCode c || c.before args0 about1) = true := by decide +kernel
theorem w_tables : (allAtoms (Jvm.Cond.code x code maxLocals ret :: tables_1)).before args0 about1 = true := by
  rw [allAtoms_all]
  show words1.all (fun c => c.before args0 about1) = true
  refine all_split ?_ w_codes
  rw [← List.take_append_drop 24 words1, List.all_append, w_t1, w_t2]
  rfl
set_option maxRecDepth 65536 in
theorem w_rest : rest_1_c.before args0 about1 = true := by decide +kernel
set_option maxRecDepth 65536 in
theorem w_case : (Jvm.Cond.and given_1 narrow_1).before args0 about1 = true := by decide +kernel
theorem w_applies : (headSpec (Jvm.Cond.code x code maxLocals ret :: tables_1) room_1).applies x e0.platform about1 = true :=
  (Spec.applies_iff w_frames).mpr ⟨w_running, w_runnable, w_alone, w_named, w_hears, w_ripe, w_room, w_tables⟩
theorem atStart : AtStart classFile x code maxLocals ret World_1 tables_1 room_1 Calls_1 rest_1 Pre_1 launch0 p0 e0 about1 theMethod args0 below0 :=
  ⟨lists_1, trivial, launch0.admits_env _ _ _, launch0.least_env, fairChoices_fair.cas, fairChoices_fair.clock, w_frames, w_args, w_heap, w_applies, trivial, w_rest, w_case⟩
end start1
theorem witness_1 : WitnessClaimed_1 := ⟨start1.p0, start1.e0, start1.about1, start1.theMethod, start1.args0, start1.below0, start1.atStart⟩
end Jvm.Pilot.@@N@@
