import JvmDerived
import JvmDerived.Pilot.@@N@@Statement
import JvmDerived.Pilot.@@N@@Code
set_option linter.unusedVariables false
set_option linter.unusedSimpArgs false
namespace Jvm.RoadKit
open Sem ClassFile Op Lib Jvm.Stand Jvm.Free Jvm.LawKit
section New
variable {p : Program} {l : Launch} {e : Env} {R : Room} {s : State} {m : MethodId} {args : Array Value} {below : List Frame} {meth : Method} {c : Code} {T : State} {locs : List Loc} {cells slots : Nat}
theorem retI (X : Stand p l e R s m args below meth c T locs cells slots) (hx : p.tables.exec = Jvm.exec) {pc : Nat} {Ls : Array Slot} {z : Int32} {rest : List Value} (hret : meth.sig.returnType = some .int) (hd : decode c.code pc = .ok (.ireturn, 1)) {fs : List Frame}
    (hl : ∀ (f : JFrame) (acts : List Action), f.method = m → f.locked = none → f.entered = [] → (doReturn e (T.setTop f) acts (some (.int z))).1 = T.setFrames fs) : Steps p.tables e below (T.setTop (mkF m pc Ls (.int z :: rest))) (T.setFrames fs) := by
  have hm' : T.vm.method? m = some meth := X.method'
  have hn : narrow .int (.int z) = .int z := rfl
  show Steps p.tables e below (T.setTop { method := m, pc := pc, locals := Ls, stack := _ :: rest, locked := none }) _
  jvm_step X.here [X.here.top, hx, hd, hm', hret, hn]
  first | (intro acts; rw [hl _ acts rfl rfl rfl]) | rw [hl _ _ rfl rfl rfl]
  exact Steps.refl _
end New
end Jvm.RoadKit
namespace Jvm.Pilot.@@N@@
open Jvm Jvm.ClassFile Sem Op Lib Jvm.Free Jvm.Stand Jvm.LawKit Jvm.RoadKit Bundle Jvm.Pilot.@@N@@.Jvm.D
theorem own_oz {Z : State} {n0 : Nat} {h : Heap} (O : Old Z n0 h) : n0 ≤ h.size := by
  rw [← O.1]; exact O.2.1
theorem own_lsw {tb : Tables} [Ours tb] {e : Env} {below : List Frame} {T target : State} {m : MethodId} {c : Code} {g : JFrame} (h : At T m c below) (hx : tb.exec = Jvm.exec) (hg : g.method = m) {dflt : Int} {prs : Array (Int × Int)} {len : Nat} {o : Int} {pc0 pc' : Nat} (hpc : g.pc = pc0) (hd : decode c.code g.pc = .ok (.lookupswitch dflt prs, len)) {i : Int32} {rest : List Value} (hs : g.stack = .int i :: rest)
    (hsort : (prs.toList.zip (prs.toList.drop 1)).all (fun (a, next) => a.1 < next.1) = true) (hoff : lookupswitch.offset prs.toList dflt i.toInt = o) (ho : 0 ≤ (pc0 : Int) + o) (hp : ((pc0 : Int) + o).toNat = pc')
    (hr : Steps tb e below (T.setTop { g with pc := pc', stack := rest }) target) : Steps tb e below (T.setTop g) target := by
  subst hg hpc hp
  jvm_step h [h.top, hx, hd, hs, hoff, ho, lookupswitch.wp_chain]
  exact ⟨by simpa using hsort, hr⟩
section Nums
variable {x k : Int32} {n : Int}
theorem own_lt1 (hk : k.toInt = n) (h : x < k) : x.toInt < n := by rw [← hk]; exact Int32.lt_iff_toInt_lt.mp h
theorem own_lt2 (hk : k.toInt = n) (h : k < x) : n < x.toInt := by rw [← hk]; exact Int32.lt_iff_toInt_lt.mp h
theorem own_nlt1 (hk : k.toInt = n) (h : ¬ x < k) : n ≤ x.toInt := by rw [Int32.lt_iff_toInt_lt, hk] at h; omega
theorem own_nlt2 (hk : k.toInt = n) (h : ¬ k < x) : x.toInt ≤ n := by rw [Int32.lt_iff_toInt_lt, hk] at h; omega
theorem own_eq (hk : k.toInt = n) (h : x = k) : x.toInt = n := by rw [← hk, h]
theorem own_neq (hk : k.toInt = n) (h : ¬ x = k) : x.toInt ≠ n := fun q => h (Int32.toInt_inj.mp (by rw [hk, q]))
theorem own_glt1 (hk : k.toInt = n) (h : x.toInt < n) : x < k := Int32.lt_iff_toInt_lt.mpr (by rw [hk]; exact h)
theorem own_glt2 (hk : k.toInt = n) (h : n < x.toInt) : k < x := Int32.lt_iff_toInt_lt.mpr (by rw [hk]; exact h)
theorem own_gnlt1 (hk : k.toInt = n) (h : n ≤ x.toInt) : ¬ x < k := fun q => by have := own_lt1 hk q; omega
theorem own_gnlt2 (hk : k.toInt = n) (h : x.toInt ≤ n) : ¬ k < x := fun q => by have := own_lt2 hk q; omega
theorem own_geq (hk : k.toInt = n) (h : x.toInt = n) : x = k := Int32.toInt_inj.mp (by rw [hk, h])
theorem own_gneq (hk : k.toInt = n) (h : x.toInt ≠ n) : ¬ x = k := fun q => h (own_eq hk q)
theorem own_and (hk : k.toInt = n) (h0 : 0 ≤ n) : 0 ≤ (x &&& k).toInt ∧ (x &&& k).toInt ≤ n := by have := c_and x k (by rw [hk]; exact h0); rw [hk] at this; exact this
theorem own_and2 (hk : k.toInt = n) (h0 : 0 ≤ n) : 0 ≤ (k &&& x).toInt ∧ (k &&& x).toInt ≤ n := by have := c_and' k x (by rw [hk]; exact h0); rw [hk] at this; exact this
theorem own_rem (hk : k.toInt = n) (h0 : 0 < n) (hx : 0 ≤ x.toInt) : 0 ≤ (x % k).toInt ∧ (x % k).toInt < n ∧ (x % k).toInt ≤ x.toInt := by
  have := (c_iremV x k).1 hx (by rw [hk]; exact h0); rw [hk] at this; exact ⟨this.1, this.2.1, this.2.2.1⟩
theorem own_add {lo hi : Int} (hk : k.toInt = n) (hx : lo ≤ x.toInt ∧ x.toInt ≤ hi) (h1 : -2147483648 ≤ lo + n) (h2 : hi + n < 2147483648) : lo + n ≤ (x + k).toInt ∧ (x + k).toInt ≤ hi + n := by
  have := c_iadd x k; have := rng32 (x + k); rw [hk] at *; omega
theorem own_add2 {lo hi : Int} (hk : k.toInt = n) (hx : lo ≤ x.toInt ∧ x.toInt ≤ hi) (h1 : -2147483648 ≤ lo + n) (h2 : hi + n < 2147483648) : lo + n ≤ (k + x).toInt ∧ (k + x).toInt ≤ hi + n := by
  have := c_iadd k x; have := rng32 (k + x); rw [hk] at *; omega
end Nums
theorem own_len {Z : State} {args : Array Value} {t : Term} {a : Addr} {c : Cell} {ty : FieldType} {n : Int32} (A : Arr Z Z.heap a c ty) (ev : t.eval args Z none [] Z = some (.ref a)) (h : (Term.length t).eval args Z none [] Z = some (.int n)) : c.slots.size < 2 ^ 31 ∧ c.slots.size.toInt32 = n := by
  have q := A.fin (Vm.Alike.refl _)
  by_cases z : c.slots.size < 2 ^ 31
  · rw [len_f ev q z] at h; exact ⟨z, Value.int.inj (Option.some.inj h)⟩
  · simp [Term.eval, ev, q, z] at h
theorem own_selp {s : State} {args : Array Value} {y z : MethodName} {C : String} (w : (Cond.selects C z z).before args s = true) (hc : z.cls = y.cls) (hp : s.PrivateAt y) (hi : (Cond.instanceMethod y).before args s = true) (hy : y.cls ≠ "java/lang/invoke/MethodHandle" ∧ y.cls ≠ "java/lang/invoke/VarHandle") : (Cond.selects y.cls y y).before args s = true := by
  obtain ⟨c2, r2, m2, -, -, q3, -, kP, hkP, hkPi⟩ := Cond.selects_spec w
  exact selects_self_of_private (by rw [← hc]; exact findClass_of_methodNamed q3) hkP hkPi hp hi hy
theorem own_max64 (x : Int64) : ¬ (9223372036854775807 : Int64) < x := fun h => by have := rng64 x; rw [Int64.lt_iff_toInt_lt, show (9223372036854775807 : Int64).toInt = 9223372036854775807 by decide] at h; omega
theorem own_min64 (x : Int64) : ¬ x < (-9223372036854775808 : Int64) := fun h => by have := rng64 x; rw [Int64.lt_iff_toInt_lt, show (-9223372036854775808 : Int64).toInt = -9223372036854775808 by decide] at h; omega
theorem own_root {Z : State} {a0 : Array Value} {O K : String} {n : Nat} (w : (Cond.noSuperclass O).before a0 Z = true) (wk : (Cond.instantiable K n).before a0 Z = true) (hn : O ≠ K) : NS Z O K := by
  obtain ⟨c, k, h1, h2, h3, -, -⟩ := Cond.noSuperclass_spec w
  obtain ⟨t, kt, g1, -⟩ := Cond.instantiable_spec wk
  have ne := ids_ne h1 g1 hn
  refine ⟨c, t, h1, g1, fun fuel => ?_⟩
  cases fuel with
  | zero => rfl
  | succ f => simp [Vm.isSubclassAux, ne, h2, h3]
theorem own_no {Z : State} {a0 : Array Value} {C S K : String} {n : Nat} (w : (Cond.superclass C S).before a0 Z = true) (wk : (Cond.instantiable K n).before a0 Z = true) (q : NS Z C K) (hn : C ≠ K) : ∃ c t, Z.vm.findClass C = some c ∧ Z.vm.findClass K = some t ∧ Z.vm.assignable c t = false := by
  obtain ⟨c, t, h0, g0, n3⟩ := q
  obtain ⟨p, k, kp, h1, h2, h3, h4, h5, -, h7⟩ := Cond.superclass_spec h0 w
  obtain ⟨t', k', g1, g2, g3, g4, -⟩ := Cond.instantiable_spec wk
  cases g0.symm.trans g1
  have ne := ids_ne h0 g0 hn
  have g5 : k'.isInterface = false := by simp only [Bool.or_eq_false_iff] at g4; exact g4.1
  refine ⟨c, t, h0, g0, ?_⟩
  show Z.vm.assignableAux (255 + 1) c t = false
  simp [Vm.assignableAux, ne, h2, g2, h5, g3, g5, Vm.isSubclass, n3]
theorem own_eqR {Z : State} {args : Array Value} {a b : Term} {idx : List Nat} {w : Addr} (hb : b.eval args Z none idx Z = some (.ref w)) (h : (Cond.eq a b).value args Z none Z idx = some true) : a.eval args Z none idx Z = some (.ref w) := by
  simp only [Cond.value, hb] at h
  cases ht : a.eval args Z none idx Z with
  | none => simp [ht] at h
  | some x => cases x <;> simp [ht] at h ⊢; exact h
def GW (Z : State) (w1 : Addr) (w2 : Addr) (w3 : Addr) : Prop :=
  (Sta Z Z.heap "com/example/swallow/swallow/engine/invoice/InvoiceStatus" "DRAFT" "Lcom/example/swallow/swallow/engine/invoice/InvoiceStatus;" (.ref w1))
  ∧ (Exa Z Z.heap w1 "com/example/swallow/swallow/engine/invoice/InvoiceStatus")
  ∧ (Sta Z Z.heap "com/example/swallow/swallow/engine/invoice/InvoiceStatus" "ISSUED" "Lcom/example/swallow/swallow/engine/invoice/InvoiceStatus;" (.ref w2))
  ∧ (Exa Z Z.heap w2 "com/example/swallow/swallow/engine/invoice/InvoiceStatus")
  ∧ (Sta Z Z.heap "com/example/swallow/swallow/engine/invoice/InvoiceStatus" "CANCELLED" "Lcom/example/swallow/swallow/engine/invoice/InvoiceStatus;" (.ref w3))
  ∧ (Exa Z Z.heap w3 "com/example/swallow/swallow/engine/invoice/InvoiceStatus")
  ∧ (Fld Z Z.heap w1 "java/lang/Enum" "ordinal" "I" (.int (0 : Int32)))
  ∧ (Fld Z Z.heap w2 "java/lang/Enum" "ordinal" "I" (.int (1 : Int32)))
  ∧ (Fld Z Z.heap w3 "java/lang/Enum" "ordinal" "I" (.int (2 : Int32)))
def Q0 (n0 : Nat) (v : Option Value) (h : Heap) (L : List Loc) : Prop := v = some (.int (1 : Int32)) ∧ Fr n0 L
theorem d0_0 : decode method_2_code 0 = .ok (.iload_n 0, 1) := by decide +kernel
theorem d0_1 : decode method_2_code 1 = .ok (.ifCond .ne 7, 3) := by decide +kernel
theorem d0_4 : decode method_2_code 4 = .ok (.getstatic 7, 3) := by decide +kernel
theorem d0_7 : decode method_2_code 7 = .ok (.areturn, 1) := by decide +kernel
theorem d0_8 : decode method_2_code 8 = .ok (.iload_n 0, 1) := by decide +kernel
theorem d0_9 : decode method_2_code 9 = .ok (.iconst 1, 1) := by decide +kernel
theorem d0_10 : decode method_2_code 10 = .ok (.if_icmp .ne 7, 3) := by decide +kernel
theorem d0_13 : decode method_2_code 13 = .ok (.getstatic 13, 3) := by decide +kernel
theorem d0_16 : decode method_2_code 16 = .ok (.areturn, 1) := by decide +kernel
theorem d0_17 : decode method_2_code 17 = .ok (.getstatic 16, 3) := by decide +kernel
theorem d0_20 : decode method_2_code 20 = .ok (.areturn, 1) := by decide +kernel
theorem pn0 : plainName "com/example/swallow/swallow/engine/invoice/InvoiceStatusCanBecomePinLaw" = true := by first | (simp [plainName, overriddenIn]; done) | decide +kernel
theorem ef1 (m : MethodId) (x0 : Int32) : entryFrame m #[(.int x0)] 1 = mkF m 0 #[.val (.int x0)] [] := by first | (simp [entryFrame, mkF, argsToLocals, Value.category]; done) | rfl
def Q1 (Z : State) (w1 : Addr) (w2 : Addr) (w3 : Addr) (p1 : Int32) (h0 : Heap) (n0 : Nat) (v : Option Value) (h : Heap) (L : List Loc) : Prop :=
  ((p1 = (0 : Int32)) ∧ v = some (.ref w1) ∧ Fr n0 L ∧ h = h0)
  ∨ ((¬ (p1 = (0 : Int32))) ∧ (p1 = (1 : Int32)) ∧ v = some (.ref w2) ∧ Fr n0 L ∧ h = h0)
  ∨ ((¬ (p1 = (0 : Int32))) ∧ (¬ (p1 = (1 : Int32))) ∧ v = some (.ref w3) ∧ Fr n0 L ∧ h = h0)
set_option maxRecDepth 65536 in
set_option maxHeartbeats 40000000 in
theorem rm1 (l : Launch) (Z : State) (a0 : Array Value) (hw : ∀ d ∈ tables_1, d.before a0 Z = true) (w1 : Addr) (w2 : Addr) (w3 : Addr) (G : GW Z w1 w2 w3) (ws : List Jvm.Cond) (p1 : Int32) (h0 : Heap) (n0 : Nat) (O0 : Old Z n0 h0) :
    MetFree l (⟨"com/example/swallow/swallow/engine/invoice/InvoiceStatusCanBecomePinLaw", "pick", "(I)Lcom/example/swallow/swallow/engine/invoice/InvoiceStatus;"⟩ : MethodName) (head1 (Jvm.Cond.code (⟨"com/example/swallow/swallow/engine/invoice/InvoiceStatusCanBecomePinLaw", "pick", "(I)Lcom/example/swallow/swallow/engine/invoice/InvoiceStatus;"⟩ : MethodName) method_2_code 1 (some (.object "com/example/swallow/swallow/engine/invoice/InvoiceStatus")) :: ws) ({ frames := 0, cells := 0, slots := 0, locals := 0 } : Room)) (fun a U => a = #[(.int p1)] ∧ Z.Warmed39 U.vm ∧ U.heap = h0) (fun _ _ _ _ _ => True) (fun _ U o U' => ∃ v L, o = .returned v ∧ Q1 Z w1 w2 w3 p1 h0 n0 v U'.heap L ∧ FrameEnd U o U' L ({ frames := 0, cells := 0, slots := 0, locals := 0 } : Room).cells ({ frames := 0, cells := 0, slots := 0, locals := 0 } : Room).slots) := by
  obtain ⟨S_w1, E_w1, S_w2, E_w2, S_w3, E_w3, F_w1_ordinal, F_w2_ordinal, F_w3_ordinal⟩ := id G
  refine MetFree.of_bodySF (plainFor_of_name pn0) hisR ?_
  intro p e s m args below meth c s₁ Bd hml0 hP hK
  obtain ⟨rfl, hZ, hh⟩ := hP
  have hx := Bd.exec
  have hby := Bd.bytes
  have hml : c.maxLocals = 1 := hml0
  have hown : s.vm.findClass "com/example/swallow/swallow/engine/invoice/InvoiceStatusCanBecomePinLaw" = some m.cls := findClass_of_methodNamed Bd.named
  have hnm := (name_of_methodNamed Bd.named Bd.method).1
  have hret := Bd.returns
  have hlk : meth.locks = false := BodyLoose.notSynchronized Bd
  have X0 : Stand p l e ({ frames := 0, cells := 0, slots := 0, locals := 0 } : Room) s m #[(.int p1)] below meth c s₁ [] 0 0 := Stand.of_body Bd
  have e0 : s₁.heap = h0 := by rw [← hh, Bd.state]; rfl
  have N0 := Fr.nil n0
  have pre0 : ∀ t, Steps p.tables e below (s₁.setTop (mkF m 0 #[.val (.int p1)] [])) t → Steps p.tables e below (s₁.setTop (entryFrame m #[(.int p1)] 1)) t := fun t k => castTop (ef1 m p1) k
  have pre1 : ∀ t, Steps p.tables e below (s₁.setTop (mkF m 1 #[.val (.int p1)] [(.int p1)])) t → Steps p.tables e below (s₁.setTop (entryFrame m #[(.int p1)] 1)) t := fun t k => by
    refine pre0 _ ?_
    show Steps p.tables e below (s₁.setTop (mkF m 0 #[.val (.int p1)] [])) _
    refine XS.iloadN X0.here hx rfl (hb hby d0_0) rfl ?_
    exact k
  by_cases hc2 : p1 = (0 : Int32)
  ·
    have pre3 : ∀ t, Steps p.tables e below (s₁.setTop (mkF m 1 #[.val (.int (0 : Int32))] [(.int (0 : Int32))])) t → Steps p.tables e below (s₁.setTop (entryFrame m #[(.int p1)] 1)) t := fun t k => pre1 t (by rw [hc2]; exact k)
    obtain ⟨T4, X4, e4, st4⟩ := getS2 X0 hx hZ hown (host := "") (Or.inl (hw _ (List.mem_of_getElem? (i := 5) rfl))) Via.refl e0 (S_w1.ext O0.2) (g := (mkF m 4 #[.val (.int (0 : Int32))] [])) rfl (hb hby d0_4)
    obtain ⟨fs, hr, hrun, hended, hW, hsame⟩ := X4.leave (v := some (.ref w1)) (fun h => by rw [hret] at h; cases h)
    refine ⟨_, _, pre3 _ ?_, hrun, hended, _, _, rfl, ?_, ⟨_, rfl⟩, hW, hsame.mono (by decide) (by decide)⟩
    ·
      show Steps p.tables e below (s₁.setTop (mkF m 1 #[.val (.int (0 : Int32))] [(.int (0 : Int32))])) _
      refine XS.ifNo X0.here hx rfl (hb hby d0_1) rfl ((if0 _ _).trans (teq (by decide : (0 : Int32) = (0 : Int32))).2) ?_
      show Steps p.tables e below (s₁.setTop (mkF m 4 #[.val (.int (0 : Int32))] [])) _
      refine st4 _ ?_
      show Steps p.tables e below (T4.setTop (mkF m 7 #[.val (.int (0 : Int32))] [(.ref w1)])) _
      exact retOut X4 hx hret rfl (Or.inr (Or.inr (Or.inr (Or.inr ⟨rfl, rfl, rfl⟩)))) (hb hby d0_7) hr
    ·
      show Q1 Z w1 w2 w3 p1 h0 n0 _ T4.heap _
      rw [e4]
      exact (Or.inl ⟨hc2, rfl, N0, rfl⟩)
  ·
    have pre5 : ∀ t, Steps p.tables e below (s₁.setTop (mkF m 10 #[.val (.int p1)] [(.int (1 : Int32)), (.int p1)])) t → Steps p.tables e below (s₁.setTop (entryFrame m #[(.int p1)] 1)) t := fun t k => by
      refine pre1 _ ?_
      show Steps p.tables e below (s₁.setTop (mkF m 1 #[.val (.int p1)] [(.int p1)])) _
      refine XS.ifYes X0.here hx rfl (pc0 := 1) (pc' := 8) rfl (hb hby d0_1) rfl ((if0 _ _).trans (feq hc2).2) (by decide) (by decide) ?_
      show Steps p.tables e below (s₁.setTop (mkF m 8 #[.val (.int p1)] [])) _
      refine XS.iloadN X0.here hx rfl (hb hby d0_8) rfl ?_
      show Steps p.tables e below (s₁.setTop (mkF m 9 #[.val (.int p1)] [(.int p1)])) _
      refine XS.iconst X0.here hx rfl (hb hby d0_9) ?_
      exact k
    by_cases hc6 : p1 = (1 : Int32)
    ·
      have pre7 : ∀ t, Steps p.tables e below (s₁.setTop (mkF m 10 #[.val (.int (1 : Int32))] [(.int (1 : Int32)), (.int (1 : Int32))])) t → Steps p.tables e below (s₁.setTop (entryFrame m #[(.int p1)] 1)) t := fun t k => pre5 t (by rw [hc6]; exact k)
      obtain ⟨T8, X8, e8, st8⟩ := getS2 X0 hx hZ hown (host := "") (Or.inl (hw _ (List.mem_of_getElem? (i := 30) rfl))) Via.refl e0 (S_w2.ext O0.2) (g := (mkF m 13 #[.val (.int (1 : Int32))] [])) rfl (hb hby d0_13)
      obtain ⟨fs, hr, hrun, hended, hW, hsame⟩ := X8.leave (v := some (.ref w2)) (fun h => by rw [hret] at h; cases h)
      refine ⟨_, _, pre7 _ ?_, hrun, hended, _, _, rfl, ?_, ⟨_, rfl⟩, hW, hsame.mono (by decide) (by decide)⟩
      ·
        show Steps p.tables e below (s₁.setTop (mkF m 10 #[.val (.int (1 : Int32))] [(.int (1 : Int32)), (.int (1 : Int32))])) _
        refine XS.icmpNo X0.here hx rfl (hb hby d0_10) rfl (teq (by decide : (1 : Int32) = (1 : Int32))).2 ?_
        show Steps p.tables e below (s₁.setTop (mkF m 13 #[.val (.int (1 : Int32))] [])) _
        refine st8 _ ?_
        show Steps p.tables e below (T8.setTop (mkF m 16 #[.val (.int (1 : Int32))] [(.ref w2)])) _
        exact retOut X8 hx hret rfl (Or.inr (Or.inr (Or.inr (Or.inr ⟨rfl, rfl, rfl⟩)))) (hb hby d0_16) hr
      ·
        show Q1 Z w1 w2 w3 p1 h0 n0 _ T8.heap _
        rw [e8]
        exact (Or.inr (Or.inl ⟨hc2, hc6, rfl, N0, rfl⟩))
    ·
      obtain ⟨T9, X9, e9, st9⟩ := getS2 X0 hx hZ hown (host := "") (Or.inl (hw _ (List.mem_of_getElem? (i := 29) rfl))) Via.refl e0 (S_w3.ext O0.2) (g := (mkF m 17 #[.val (.int p1)] [])) rfl (hb hby d0_17)
      obtain ⟨fs, hr, hrun, hended, hW, hsame⟩ := X9.leave (v := some (.ref w3)) (fun h => by rw [hret] at h; cases h)
      refine ⟨_, _, pre5 _ ?_, hrun, hended, _, _, rfl, ?_, ⟨_, rfl⟩, hW, hsame.mono (by decide) (by decide)⟩
      ·
        show Steps p.tables e below (s₁.setTop (mkF m 10 #[.val (.int p1)] [(.int (1 : Int32)), (.int p1)])) _
        refine XS.icmpYes X0.here hx rfl (pc0 := 10) (pc' := 17) rfl (hb hby d0_10) rfl (feq hc6).2 (by decide) (by decide) ?_
        show Steps p.tables e below (s₁.setTop (mkF m 17 #[.val (.int p1)] [])) _
        refine st9 _ ?_
        show Steps p.tables e below (T9.setTop (mkF m 20 #[.val (.int p1)] [(.ref w3)])) _
        exact retOut X9 hx hret rfl (Or.inr (Or.inr (Or.inr (Or.inr ⟨rfl, rfl, rfl⟩)))) (hb hby d0_20) hr
      ·
        show Q1 Z w1 w2 w3 p1 h0 n0 _ T9.heap _
        rw [e9]
        exact (Or.inr (Or.inr ⟨hc2, hc6, rfl, N0, rfl⟩))
theorem pd0 : parseMethodDescriptor "(I)Lcom/example/swallow/swallow/engine/invoice/InvoiceStatus;" = some ⟨[.int], some (.object "com/example/swallow/swallow/engine/invoice/InvoiceStatus")⟩ := by decide +kernel
theorem d1_0 : decode method_3_code 0 = .ok (.aload_n 0, 1) := by decide +kernel
theorem d1_1 : decode method_3_code 1 = .ok (.getstatic 7, 3) := by decide +kernel
theorem d1_4 : decode method_3_code 4 = .ok (.if_acmp .ne 5, 3) := by decide +kernel
theorem d1_7 : decode method_3_code 7 = .ok (.iconst 0, 1) := by decide +kernel
theorem d1_8 : decode method_3_code 8 = .ok (.ireturn, 1) := by decide +kernel
theorem ef2 (m : MethodId) (x0 : Addr) : entryFrame m #[(.ref x0)] 1 = mkF m 0 #[.val (.ref x0)] [] := by first | (simp [entryFrame, mkF, argsToLocals, Value.category]; done) | rfl
def Q2 (Z : State) (w1 : Addr) (w2 : Addr) (w3 : Addr) (h0 : Heap) (n0 : Nat) (v : Option Value) (h : Heap) (L : List Loc) : Prop :=
  (v = some (.int (0 : Int32)) ∧ Fr n0 L ∧ h = h0)
set_option maxRecDepth 65536 in
set_option maxHeartbeats 40000000 in
theorem rm2 (l : Launch) (Z : State) (a0 : Array Value) (hw : ∀ d ∈ tables_1, d.before a0 Z = true) (w1 : Addr) (w2 : Addr) (w3 : Addr) (G : GW Z w1 w2 w3) (ws : List Jvm.Cond) (h0 : Heap) (n0 : Nat) (O0 : Old Z n0 h0) :
    MetFree l (⟨"com/example/swallow/swallow/engine/invoice/InvoiceStatusCanBecomePinLaw", "rank", "(Lcom/example/swallow/swallow/engine/invoice/InvoiceStatus;)I"⟩ : MethodName) (head1 (Jvm.Cond.code (⟨"com/example/swallow/swallow/engine/invoice/InvoiceStatusCanBecomePinLaw", "rank", "(Lcom/example/swallow/swallow/engine/invoice/InvoiceStatus;)I"⟩ : MethodName) method_3_code 1 (some .int) :: ws) ({ frames := 0, cells := 0, slots := 0, locals := 0 } : Room)) (fun a U => a = #[(.ref w1)] ∧ Z.Warmed39 U.vm ∧ U.heap = h0) (fun _ _ _ _ _ => True) (fun _ U o U' => ∃ v L, o = .returned v ∧ Q2 Z w1 w2 w3 h0 n0 v U'.heap L ∧ FrameEnd U o U' L ({ frames := 0, cells := 0, slots := 0, locals := 0 } : Room).cells ({ frames := 0, cells := 0, slots := 0, locals := 0 } : Room).slots) := by
  obtain ⟨S_w1, E_w1, S_w2, E_w2, S_w3, E_w3, F_w1_ordinal, F_w2_ordinal, F_w3_ordinal⟩ := id G
  refine MetFree.of_bodySF (plainFor_of_name pn0) hisR ?_
  intro p e s m args below meth c s₁ Bd hml0 hP hK
  obtain ⟨rfl, hZ, hh⟩ := hP
  have hx := Bd.exec
  have hby := Bd.bytes
  have hml : c.maxLocals = 1 := hml0
  have hown : s.vm.findClass "com/example/swallow/swallow/engine/invoice/InvoiceStatusCanBecomePinLaw" = some m.cls := findClass_of_methodNamed Bd.named
  have hnm := (name_of_methodNamed Bd.named Bd.method).1
  have hret := Bd.returns
  have hlk : meth.locks = false := BodyLoose.notSynchronized Bd
  have X0 : Stand p l e ({ frames := 0, cells := 0, slots := 0, locals := 0 } : Room) s m #[(.ref w1)] below meth c s₁ [] 0 0 := Stand.of_body Bd
  have e0 : s₁.heap = h0 := by rw [← hh, Bd.state]; rfl
  have N0 := Fr.nil n0
  have pre0 : ∀ t, Steps p.tables e below (s₁.setTop (mkF m 0 #[.val (.ref w1)] [])) t → Steps p.tables e below (s₁.setTop (entryFrame m #[(.ref w1)] 1)) t := fun t k => castTop (ef2 m w1) k
  obtain ⟨T1, X1, e1, st1⟩ := getS2 X0 hx hZ hown (host := "") (Or.inl (hw _ (List.mem_of_getElem? (i := 5) rfl))) Via.refl e0 (S_w1.ext O0.2) (g := (mkF m 1 #[.val (.ref w1)] [(.ref w1)])) rfl (hb hby d1_1)
  obtain ⟨fs, hr, hrun, hended, hW, hsame⟩ := X1.leave (v := some (.int (0 : Int32))) (fun h => by rw [hret] at h; cases h)
  refine ⟨_, _, pre0 _ ?_, hrun, hended, _, _, rfl, ?_, ⟨_, rfl⟩, hW, hsame.mono (by decide) (by decide)⟩
  ·
    show Steps p.tables e below (s₁.setTop (mkF m 0 #[.val (.ref w1)] [])) _
    refine XS.aloadN X0.here hx rfl (hb hby d1_0) rfl rfl ?_
    show Steps p.tables e below (s₁.setTop (mkF m 1 #[.val (.ref w1)] [(.ref w1)])) _
    refine st1 _ ?_
    show Steps p.tables e below (T1.setTop (mkF m 4 #[.val (.ref w1)] [(.ref w1), (.ref w1)])) _
    refine Jvm.RoadKit.acmp (g := (mkF m 4 #[.val (.ref w1)] [(.ref w1), (.ref w1)])) X1 hx rfl rfl rfl (pc0 := 4) (pc' := 7) (same := true) rfl (hb hby d1_4) rfl (decide_eq_true rfl) (by decide) (by decide) ?_
    show Steps p.tables e below (T1.setTop (mkF m 7 #[.val (.ref w1)] [])) _
    refine XS.iconst X1.here hx rfl (hb hby d1_7) ?_
    show Steps p.tables e below (T1.setTop (mkF m 8 #[.val (.ref w1)] [(.int (0 : Int32))])) _
    exact retI X1 hx hret (hb hby d1_8) hr
  ·
    show Q2 Z w1 w2 w3 h0 n0 _ T1.heap _
    rw [e1]
    exact ⟨rfl, N0, rfl⟩
theorem pd1 : parseMethodDescriptor "(Lcom/example/swallow/swallow/engine/invoice/InvoiceStatus;)I" = some ⟨[(.object "com/example/swallow/swallow/engine/invoice/InvoiceStatus")], some .int⟩ := by decide +kernel
theorem d2_0 : decode prog_13_method_4_code 0 = .ok (.aload_n 0, 1) := by decide +kernel
theorem d2_1 : decode prog_13_method_4_code 1 = .ok (.invokevirtual 32, 3) := by decide +kernel
theorem d3_0 : decode jdk_37_method_2_code 0 = .ok (.aload_n 0, 1) := by decide +kernel
theorem d3_1 : decode jdk_37_method_2_code 1 = .ok (.getfield 7, 3) := by decide +kernel
theorem d3_4 : decode jdk_37_method_2_code 4 = .ok (.ireturn, 1) := by decide +kernel
theorem pn1 : plainName "java/lang/Enum" = true := by first | (simp [plainName, overriddenIn]; done) | decide +kernel
theorem ef3 (m : MethodId) (x0 : Addr) : entryFrame m #[(.ref x0)] 1 = mkF m 0 #[.val (.ref x0)] [] := by first | (simp [entryFrame, mkF, argsToLocals, Value.category]; done) | rfl
def Q3 (Z : State) (w1 : Addr) (w2 : Addr) (w3 : Addr) (h0 : Heap) (n0 : Nat) (v : Option Value) (h : Heap) (L : List Loc) : Prop :=
  (v = some (.int (0 : Int32)) ∧ Fr n0 L ∧ h = h0)
set_option maxRecDepth 65536 in
set_option maxHeartbeats 40000000 in
theorem rm3 (l : Launch) (Z : State) (a0 : Array Value) (hw : ∀ d ∈ tables_1, d.before a0 Z = true) (w1 : Addr) (w2 : Addr) (w3 : Addr) (G : GW Z w1 w2 w3) (ws : List Jvm.Cond) (h0 : Heap) (n0 : Nat) (O0 : Old Z n0 h0) :
    MetFree l (⟨"java/lang/Enum", "ordinal", "()I"⟩ : MethodName) (head1 (Jvm.Cond.code (⟨"java/lang/Enum", "ordinal", "()I"⟩ : MethodName) jdk_37_method_2_code 1 (some .int) :: ws) ({ frames := 0, cells := 0, slots := 0, locals := 0 } : Room)) (fun a U => a = #[(.ref w1)] ∧ Z.Warmed39 U.vm ∧ U.heap = h0) (fun _ _ _ _ _ => True) (fun _ U o U' => ∃ v L, o = .returned v ∧ Q3 Z w1 w2 w3 h0 n0 v U'.heap L ∧ FrameEnd U o U' L ({ frames := 0, cells := 0, slots := 0, locals := 0 } : Room).cells ({ frames := 0, cells := 0, slots := 0, locals := 0 } : Room).slots) := by
  obtain ⟨S_w1, E_w1, S_w2, E_w2, S_w3, E_w3, F_w1_ordinal, F_w2_ordinal, F_w3_ordinal⟩ := id G
  refine MetFree.of_bodySF (plainFor_of_name pn1) hisR ?_
  intro p e s m args below meth c s₁ Bd hml0 hP hK
  obtain ⟨rfl, hZ, hh⟩ := hP
  have hx := Bd.exec
  have hby := Bd.bytes
  have hml : c.maxLocals = 1 := hml0
  have hown : s.vm.findClass "java/lang/Enum" = some m.cls := findClass_of_methodNamed Bd.named
  have hnm := (name_of_methodNamed Bd.named Bd.method).1
  have hret := Bd.returns
  have hlk : meth.locks = false := BodyLoose.notSynchronized Bd
  have X0 : Stand p l e ({ frames := 0, cells := 0, slots := 0, locals := 0 } : Room) s m #[(.ref w1)] below meth c s₁ [] 0 0 := Stand.of_body Bd
  have e0 : s₁.heap = h0 := by rw [← hh, Bd.state]; rfl
  have N0 := Fr.nil n0
  have pre0 : ∀ t, Steps p.tables e below (s₁.setTop (mkF m 0 #[.val (.ref w1)] [])) t → Steps p.tables e below (s₁.setTop (entryFrame m #[(.ref w1)] 1)) t := fun t k => castTop (ef3 m w1) k
  obtain ⟨T1, X1, e1, st1⟩ := getF X0 hx hZ hown (host := "") (Or.inl (hw _ (List.mem_of_getElem? (i := 23) rfl))) Via.refl e0 (F_w1_ordinal.ext O0.2) (g := (mkF m 1 #[.val (.ref w1)] [(.ref w1)])) rfl rfl (hb hby d3_1)
  obtain ⟨fs, hr, hrun, hended, hW, hsame⟩ := X1.leave (v := some (.int (0 : Int32))) (fun h => by rw [hret] at h; cases h)
  refine ⟨_, _, pre0 _ ?_, hrun, hended, _, _, rfl, ?_, ⟨_, rfl⟩, hW, hsame.mono (by decide) (by decide)⟩
  ·
    show Steps p.tables e below (s₁.setTop (mkF m 0 #[.val (.ref w1)] [])) _
    refine XS.aloadN X0.here hx rfl (hb hby d3_0) rfl rfl ?_
    show Steps p.tables e below (s₁.setTop (mkF m 1 #[.val (.ref w1)] [(.ref w1)])) _
    refine st1 _ ?_
    show Steps p.tables e below (T1.setTop (mkF m 4 #[.val (.ref w1)] [(.int (0 : Int32))])) _
    exact retI X1 hx hret (hb hby d3_4) hr
  ·
    show Q3 Z w1 w2 w3 h0 n0 _ T1.heap _
    rw [e1]
    exact ⟨rfl, N0, rfl⟩
theorem pd2 : parseMethodDescriptor "()I" = some ⟨[], some .int⟩ := by decide +kernel
theorem d2_4 : decode prog_13_method_4_code 4 = .ok (.lookupswitch 61 #[(0, 28), (1, 48)], 28) := by decide +kernel
theorem d2_32 : decode prog_13_method_4_code 32 = .ok (.aload_n 1, 1) := by decide +kernel
theorem d2_33 : decode prog_13_method_4_code 33 = .ok (.getstatic 7, 3) := by decide +kernel
theorem d2_36 : decode prog_13_method_4_code 36 = .ok (.if_acmp .eq 10, 3) := by decide +kernel
theorem d2_39 : decode prog_13_method_4_code 39 = .ok (.aload_n 1, 1) := by decide +kernel
theorem d2_40 : decode prog_13_method_4_code 40 = .ok (.getstatic 10, 3) := by decide +kernel
theorem d2_43 : decode prog_13_method_4_code 43 = .ok (.if_acmp .ne 7, 3) := by decide +kernel
theorem d2_50 : decode prog_13_method_4_code 50 = .ok (.iconst 0, 1) := by decide +kernel
theorem d2_51 : decode prog_13_method_4_code 51 = .ok (.ireturn, 1) := by decide +kernel
theorem pn2 : plainName "com/example/swallow/swallow/engine/invoice/InvoiceStatus" = true := by first | (simp [plainName, overriddenIn]; done) | decide +kernel
theorem ef4 (m : MethodId) (x0 : Addr) (x1 : Addr) : entryFrame m #[(.ref x0), (.ref x1)] 2 = mkF m 0 #[.val (.ref x0), .val (.ref x1)] [] := by first | (simp [entryFrame, mkF, argsToLocals, Value.category]; done) | rfl
def Q4 (Z : State) (w1 : Addr) (w2 : Addr) (w3 : Addr) (h0 : Heap) (n0 : Nat) (v : Option Value) (h : Heap) (L : List Loc) : Prop :=
  (v = some (.int (0 : Int32)) ∧ Fr n0 L ∧ h = h0)
set_option maxRecDepth 65536 in
set_option maxHeartbeats 40000000 in
theorem rm4 (l : Launch) (Z : State) (a0 : Array Value) (hw : ∀ d ∈ tables_1, d.before a0 Z = true) (w1 : Addr) (w2 : Addr) (w3 : Addr) (G : GW Z w1 w2 w3) (ws : List Jvm.Cond) (h0 : Heap) (n0 : Nat) (O0 : Old Z n0 h0) :
    MetFree l (⟨"com/example/swallow/swallow/engine/invoice/InvoiceStatus", "canBecome", "(Lcom/example/swallow/swallow/engine/invoice/InvoiceStatus;)Z"⟩ : MethodName) (head1 (Jvm.Cond.code (⟨"com/example/swallow/swallow/engine/invoice/InvoiceStatus", "canBecome", "(Lcom/example/swallow/swallow/engine/invoice/InvoiceStatus;)Z"⟩ : MethodName) prog_13_method_4_code 2 (some .boolean) :: ws) ({ frames := 1, cells := 0, slots := 0, locals := 12 } : Room)) (fun a U => a = #[(.ref w1), (.ref w1)] ∧ Z.Warmed39 U.vm ∧ U.heap = h0) (fun _ _ _ _ _ => True) (fun _ U o U' => ∃ v L, o = .returned v ∧ Q4 Z w1 w2 w3 h0 n0 v U'.heap L ∧ FrameEnd U o U' L ({ frames := 1, cells := 0, slots := 0, locals := 12 } : Room).cells ({ frames := 1, cells := 0, slots := 0, locals := 12 } : Room).slots) := by
  obtain ⟨S_w1, E_w1, S_w2, E_w2, S_w3, E_w3, F_w1_ordinal, F_w2_ordinal, F_w3_ordinal⟩ := id G
  refine MetFree.of_bodySF (plainFor_of_name pn2) hisR ?_
  intro p e s m args below meth c s₁ Bd hml0 hP hK
  obtain ⟨rfl, hZ, hh⟩ := hP
  have hx := Bd.exec
  have hby := Bd.bytes
  have hml : c.maxLocals = 2 := hml0
  have hown : s.vm.findClass "com/example/swallow/swallow/engine/invoice/InvoiceStatus" = some m.cls := findClass_of_methodNamed Bd.named
  have hnm := (name_of_methodNamed Bd.named Bd.method).1
  have hret := Bd.returns
  have hlk : meth.locks = false := BodyLoose.notSynchronized Bd
  have X0 : Stand p l e ({ frames := 1, cells := 0, slots := 0, locals := 12 } : Room) s m #[(.ref w1), (.ref w1)] below meth c s₁ [] 0 0 := Stand.of_body Bd
  have e0 : s₁.heap = h0 := by rw [← hh, Bd.state]; rfl
  have N0 := Fr.nil n0
  have pre0 : ∀ t, Steps p.tables e below (s₁.setTop (mkF m 0 #[.val (.ref w1), .val (.ref w1)] [])) t → Steps p.tables e below (s₁.setTop (entryFrame m #[(.ref w1), (.ref w1)] 2)) t := fun t k => castTop (ef4 m w1 w1) k
  obtain ⟨cq1, kq1, q1a, q1b, q1c⟩ := isOf hZ e0 (E_w1.ext O0.2)
  obtain ⟨_, _, ⟨T2, L2, c2, n2⟩, -, X2, ⟨Lc2, hQ2, l2, y2, z2⟩, st2⟩ := X0.virtualBackUp hx (x := (⟨"com/example/swallow/swallow/engine/invoice/InvoiceStatus", "ordinal", "()I"⟩ : MethodName)) (y := (⟨"java/lang/Enum", "ordinal", "()I"⟩ : MethodName)) (owner := "java/lang/Enum") hown (mvT hZ (hw _ (List.mem_of_getElem? (i := 16) rfl))) (mvT hZ (hw _ (List.mem_of_getElem? (i := 17) rfl))) (mvT hZ (hw _ (List.mem_of_getElem? (i := 18) rfl))) (by decide) (mvT hZ (hw _ (List.mem_of_getElem? (i := 20) rfl))) (mvT hZ (hw _ (List.mem_of_getElem? (i := 19) rfl))) (backOf (W := 0) (rm3 l Z a0 hw w1 w2 w3 G []  h0 n0 O0 ) hZ (hw _ (List.mem_of_getElem? (i := 22) rfl)) (hw _ (List.mem_of_getElem? (i := 21) rfl)) (by decide) (by decide)) q1a q1c (g := (mkF m 1 #[.val (.ref w1), .val (.ref w1)] [(.ref w1)])) rfl (by rw [hml]; rfl) (Steps.refl _) (argsL := []) (rest := []) (lenOf pd2 rfl) rfl (by show 2 * 0 + _ ≤ _; exact Nat.le_of_eq rfl) (hb hby d2_1) (fun _ _ => ⟨rfl, e0, (by decide : 0 + 0 ≤ _), (by decide : 0 + 0 ≤ _)⟩)
  dsimp only [Pt.U, Pt.locs, Pt.cells, Pt.slots] at X2 l2 y2 z2 st2 hQ2
  subst l2 y2 z2
  have X2 : Stand p l e ({ frames := 1, cells := 0, slots := 0, locals := 12 } : Room) s m #[(.ref w1), (.ref w1)] below meth c T2 _ 0 0 := X2
  obtain ⟨rfl, Nq3, e4⟩ := hQ2
  have N2 := Fr.app N0 Nq3
  obtain ⟨T5, X5, e5, st5⟩ := getS2 X2 hx hZ hown (host := "") (Or.inl (hw _ (List.mem_of_getElem? (i := 25) rfl))) Via.refl e4 (S_w2.ext O0.2) (g := (mkF m 33 #[.val (.ref w1), .val (.ref w1)] [(.ref w1)])) rfl (hb hby d2_33)
  obtain ⟨T6, X6, e6, st6⟩ := getS2 X5 hx hZ hown (host := "") (Or.inl (hw _ (List.mem_of_getElem? (i := 27) rfl))) Via.refl e5 (S_w3.ext O0.2) (g := (mkF m 40 #[.val (.ref w1), .val (.ref w1)] [(.ref w1)])) rfl (hb hby d2_40)
  obtain ⟨fs, hr, hrun, hended, hW, hsame⟩ := X6.leave (v := some (.int (0 : Int32))) (fun h => by rw [hret] at h; cases h)
  refine ⟨_, _, pre0 _ ?_, hrun, hended, _, _, rfl, ?_, ⟨_, rfl⟩, hW, hsame.mono (by decide) (by decide)⟩
  ·
    show Steps p.tables e below (s₁.setTop (mkF m 0 #[.val (.ref w1), .val (.ref w1)] [])) _
    refine XS.aloadN X0.here hx rfl (hb hby d2_0) rfl rfl ?_
    show Steps p.tables e below (s₁.setTop (mkF m 1 #[.val (.ref w1), .val (.ref w1)] [(.ref w1)])) _
    refine st2.trans ?_
    show Steps p.tables e below (T2.setTop (mkF m 4 #[.val (.ref w1), .val (.ref w1)] [(.int (0 : Int32))])) _
    refine own_lsw X2.here hx rfl (pc0 := 4) (pc' := 32) (o := 28) rfl (hb hby d2_4) rfl (by decide) (by decide) (by decide) (by decide) ?_
    show Steps p.tables e below (T2.setTop (mkF m 32 #[.val (.ref w1), .val (.ref w1)] [])) _
    refine XS.aloadN X2.here hx rfl (hb hby d2_32) rfl rfl ?_
    show Steps p.tables e below (T2.setTop (mkF m 33 #[.val (.ref w1), .val (.ref w1)] [(.ref w1)])) _
    refine st5 _ ?_
    show Steps p.tables e below (T5.setTop (mkF m 36 #[.val (.ref w1), .val (.ref w1)] [(.ref w2), (.ref w1)])) _
    refine Jvm.RoadKit.acmp (g := (mkF m 36 #[.val (.ref w1), .val (.ref w1)] [(.ref w2), (.ref w1)])) X5 hx rfl rfl rfl (pc0 := 36) (pc' := 39) (same := false) rfl (hb hby d2_36) rfl (decide_eq_false fun q => (Fld.ne F_w1_ordinal F_w2_ordinal (by decide)) (Value.ref.inj q)) (by decide) (by decide) ?_
    show Steps p.tables e below (T5.setTop (mkF m 39 #[.val (.ref w1), .val (.ref w1)] [])) _
    refine XS.aloadN X5.here hx rfl (hb hby d2_39) rfl rfl ?_
    show Steps p.tables e below (T5.setTop (mkF m 40 #[.val (.ref w1), .val (.ref w1)] [(.ref w1)])) _
    refine st6 _ ?_
    show Steps p.tables e below (T6.setTop (mkF m 43 #[.val (.ref w1), .val (.ref w1)] [(.ref w3), (.ref w1)])) _
    refine Jvm.RoadKit.acmp (g := (mkF m 43 #[.val (.ref w1), .val (.ref w1)] [(.ref w3), (.ref w1)])) X6 hx rfl rfl rfl (pc0 := 43) (pc' := 50) (same := false) rfl (hb hby d2_43) rfl (decide_eq_false fun q => (Fld.ne F_w1_ordinal F_w3_ordinal (by decide)) (Value.ref.inj q)) (by decide) (by decide) ?_
    show Steps p.tables e below (T6.setTop (mkF m 50 #[.val (.ref w1), .val (.ref w1)] [])) _
    refine XS.iconst X6.here hx rfl (hb hby d2_50) ?_
    show Steps p.tables e below (T6.setTop (mkF m 51 #[.val (.ref w1), .val (.ref w1)] [(.int (0 : Int32))])) _
    exact retN X6 hx (t := .boolean) hret (by simp) (hb hby d2_51) hr
  ·
    show Q4 Z w1 w2 w3 h0 n0 _ T6.heap _
    rw [e6]
    exact ⟨rfl, N2, rfl⟩
theorem pd3 : parseMethodDescriptor "(Lcom/example/swallow/swallow/engine/invoice/InvoiceStatus;)Z" = some ⟨[(.object "com/example/swallow/swallow/engine/invoice/InvoiceStatus")], some .boolean⟩ := by decide +kernel
theorem d1_9 : decode method_3_code 9 = .ok (.aload_n 0, 1) := by decide +kernel
theorem d1_10 : decode method_3_code 10 = .ok (.getstatic 13, 3) := by decide +kernel
theorem d1_13 : decode method_3_code 13 = .ok (.if_acmp .ne 5, 3) := by decide +kernel
theorem d1_16 : decode method_3_code 16 = .ok (.iconst 1, 1) := by decide +kernel
theorem d1_17 : decode method_3_code 17 = .ok (.ireturn, 1) := by decide +kernel
theorem ef5 (m : MethodId) (x0 : Addr) : entryFrame m #[(.ref x0)] 1 = mkF m 0 #[.val (.ref x0)] [] := by first | (simp [entryFrame, mkF, argsToLocals, Value.category]; done) | rfl
def Q5 (Z : State) (w1 : Addr) (w2 : Addr) (w3 : Addr) (h0 : Heap) (n0 : Nat) (v : Option Value) (h : Heap) (L : List Loc) : Prop :=
  (v = some (.int (1 : Int32)) ∧ Fr n0 L ∧ h = h0)
set_option maxRecDepth 65536 in
set_option maxHeartbeats 40000000 in
theorem rm5 (l : Launch) (Z : State) (a0 : Array Value) (hw : ∀ d ∈ tables_1, d.before a0 Z = true) (w1 : Addr) (w2 : Addr) (w3 : Addr) (G : GW Z w1 w2 w3) (ws : List Jvm.Cond) (h0 : Heap) (n0 : Nat) (O0 : Old Z n0 h0) :
    MetFree l (⟨"com/example/swallow/swallow/engine/invoice/InvoiceStatusCanBecomePinLaw", "rank", "(Lcom/example/swallow/swallow/engine/invoice/InvoiceStatus;)I"⟩ : MethodName) (head1 (Jvm.Cond.code (⟨"com/example/swallow/swallow/engine/invoice/InvoiceStatusCanBecomePinLaw", "rank", "(Lcom/example/swallow/swallow/engine/invoice/InvoiceStatus;)I"⟩ : MethodName) method_3_code 1 (some .int) :: ws) ({ frames := 0, cells := 0, slots := 0, locals := 0 } : Room)) (fun a U => a = #[(.ref w2)] ∧ Z.Warmed39 U.vm ∧ U.heap = h0) (fun _ _ _ _ _ => True) (fun _ U o U' => ∃ v L, o = .returned v ∧ Q5 Z w1 w2 w3 h0 n0 v U'.heap L ∧ FrameEnd U o U' L ({ frames := 0, cells := 0, slots := 0, locals := 0 } : Room).cells ({ frames := 0, cells := 0, slots := 0, locals := 0 } : Room).slots) := by
  obtain ⟨S_w1, E_w1, S_w2, E_w2, S_w3, E_w3, F_w1_ordinal, F_w2_ordinal, F_w3_ordinal⟩ := id G
  refine MetFree.of_bodySF (plainFor_of_name pn0) hisR ?_
  intro p e s m args below meth c s₁ Bd hml0 hP hK
  obtain ⟨rfl, hZ, hh⟩ := hP
  have hx := Bd.exec
  have hby := Bd.bytes
  have hml : c.maxLocals = 1 := hml0
  have hown : s.vm.findClass "com/example/swallow/swallow/engine/invoice/InvoiceStatusCanBecomePinLaw" = some m.cls := findClass_of_methodNamed Bd.named
  have hnm := (name_of_methodNamed Bd.named Bd.method).1
  have hret := Bd.returns
  have hlk : meth.locks = false := BodyLoose.notSynchronized Bd
  have X0 : Stand p l e ({ frames := 0, cells := 0, slots := 0, locals := 0 } : Room) s m #[(.ref w2)] below meth c s₁ [] 0 0 := Stand.of_body Bd
  have e0 : s₁.heap = h0 := by rw [← hh, Bd.state]; rfl
  have N0 := Fr.nil n0
  have pre0 : ∀ t, Steps p.tables e below (s₁.setTop (mkF m 0 #[.val (.ref w2)] [])) t → Steps p.tables e below (s₁.setTop (entryFrame m #[(.ref w2)] 1)) t := fun t k => castTop (ef5 m w2) k
  obtain ⟨T1, X1, e1, st1⟩ := getS2 X0 hx hZ hown (host := "") (Or.inl (hw _ (List.mem_of_getElem? (i := 5) rfl))) Via.refl e0 (S_w1.ext O0.2) (g := (mkF m 1 #[.val (.ref w2)] [(.ref w2)])) rfl (hb hby d1_1)
  obtain ⟨T2, X2, e2, st2⟩ := getS2 X1 hx hZ hown (host := "") (Or.inl (hw _ (List.mem_of_getElem? (i := 30) rfl))) Via.refl e1 (S_w2.ext O0.2) (g := (mkF m 10 #[.val (.ref w2)] [(.ref w2)])) rfl (hb hby d1_10)
  obtain ⟨fs, hr, hrun, hended, hW, hsame⟩ := X2.leave (v := some (.int (1 : Int32))) (fun h => by rw [hret] at h; cases h)
  refine ⟨_, _, pre0 _ ?_, hrun, hended, _, _, rfl, ?_, ⟨_, rfl⟩, hW, hsame.mono (by decide) (by decide)⟩
  ·
    show Steps p.tables e below (s₁.setTop (mkF m 0 #[.val (.ref w2)] [])) _
    refine XS.aloadN X0.here hx rfl (hb hby d1_0) rfl rfl ?_
    show Steps p.tables e below (s₁.setTop (mkF m 1 #[.val (.ref w2)] [(.ref w2)])) _
    refine st1 _ ?_
    show Steps p.tables e below (T1.setTop (mkF m 4 #[.val (.ref w2)] [(.ref w1), (.ref w2)])) _
    refine Jvm.RoadKit.acmp (g := (mkF m 4 #[.val (.ref w2)] [(.ref w1), (.ref w2)])) X1 hx rfl rfl rfl (pc0 := 4) (pc' := 9) (same := false) rfl (hb hby d1_4) rfl (decide_eq_false fun q => (Fld.ne F_w2_ordinal F_w1_ordinal (by decide)) (Value.ref.inj q)) (by decide) (by decide) ?_
    show Steps p.tables e below (T1.setTop (mkF m 9 #[.val (.ref w2)] [])) _
    refine XS.aloadN X1.here hx rfl (hb hby d1_9) rfl rfl ?_
    show Steps p.tables e below (T1.setTop (mkF m 10 #[.val (.ref w2)] [(.ref w2)])) _
    refine st2 _ ?_
    show Steps p.tables e below (T2.setTop (mkF m 13 #[.val (.ref w2)] [(.ref w2), (.ref w2)])) _
    refine Jvm.RoadKit.acmp (g := (mkF m 13 #[.val (.ref w2)] [(.ref w2), (.ref w2)])) X2 hx rfl rfl rfl (pc0 := 13) (pc' := 16) (same := true) rfl (hb hby d1_13) rfl (decide_eq_true rfl) (by decide) (by decide) ?_
    show Steps p.tables e below (T2.setTop (mkF m 16 #[.val (.ref w2)] [])) _
    refine XS.iconst X2.here hx rfl (hb hby d1_16) ?_
    show Steps p.tables e below (T2.setTop (mkF m 17 #[.val (.ref w2)] [(.int (1 : Int32))])) _
    exact retI X2 hx hret (hb hby d1_17) hr
  ·
    show Q5 Z w1 w2 w3 h0 n0 _ T2.heap _
    rw [e2]
    exact ⟨rfl, N0, rfl⟩
theorem d2_46 : decode prog_13_method_4_code 46 = .ok (.iconst 1, 1) := by decide +kernel
theorem d2_47 : decode prog_13_method_4_code 47 = .ok (.goto 4, 3) := by decide +kernel
theorem ef6 (m : MethodId) (x0 : Addr) (x1 : Addr) : entryFrame m #[(.ref x0), (.ref x1)] 2 = mkF m 0 #[.val (.ref x0), .val (.ref x1)] [] := by first | (simp [entryFrame, mkF, argsToLocals, Value.category]; done) | rfl
def Q6 (Z : State) (w1 : Addr) (w2 : Addr) (w3 : Addr) (h0 : Heap) (n0 : Nat) (v : Option Value) (h : Heap) (L : List Loc) : Prop :=
  (v = some (.int (1 : Int32)) ∧ Fr n0 L ∧ h = h0)
set_option maxRecDepth 65536 in
set_option maxHeartbeats 40000000 in
theorem rm6 (l : Launch) (Z : State) (a0 : Array Value) (hw : ∀ d ∈ tables_1, d.before a0 Z = true) (w1 : Addr) (w2 : Addr) (w3 : Addr) (G : GW Z w1 w2 w3) (ws : List Jvm.Cond) (h0 : Heap) (n0 : Nat) (O0 : Old Z n0 h0) :
    MetFree l (⟨"com/example/swallow/swallow/engine/invoice/InvoiceStatus", "canBecome", "(Lcom/example/swallow/swallow/engine/invoice/InvoiceStatus;)Z"⟩ : MethodName) (head1 (Jvm.Cond.code (⟨"com/example/swallow/swallow/engine/invoice/InvoiceStatus", "canBecome", "(Lcom/example/swallow/swallow/engine/invoice/InvoiceStatus;)Z"⟩ : MethodName) prog_13_method_4_code 2 (some .boolean) :: ws) ({ frames := 1, cells := 0, slots := 0, locals := 12 } : Room)) (fun a U => a = #[(.ref w1), (.ref w2)] ∧ Z.Warmed39 U.vm ∧ U.heap = h0) (fun _ _ _ _ _ => True) (fun _ U o U' => ∃ v L, o = .returned v ∧ Q6 Z w1 w2 w3 h0 n0 v U'.heap L ∧ FrameEnd U o U' L ({ frames := 1, cells := 0, slots := 0, locals := 12 } : Room).cells ({ frames := 1, cells := 0, slots := 0, locals := 12 } : Room).slots) := by
  obtain ⟨S_w1, E_w1, S_w2, E_w2, S_w3, E_w3, F_w1_ordinal, F_w2_ordinal, F_w3_ordinal⟩ := id G
  refine MetFree.of_bodySF (plainFor_of_name pn2) hisR ?_
  intro p e s m args below meth c s₁ Bd hml0 hP hK
  obtain ⟨rfl, hZ, hh⟩ := hP
  have hx := Bd.exec
  have hby := Bd.bytes
  have hml : c.maxLocals = 2 := hml0
  have hown : s.vm.findClass "com/example/swallow/swallow/engine/invoice/InvoiceStatus" = some m.cls := findClass_of_methodNamed Bd.named
  have hnm := (name_of_methodNamed Bd.named Bd.method).1
  have hret := Bd.returns
  have hlk : meth.locks = false := BodyLoose.notSynchronized Bd
  have X0 : Stand p l e ({ frames := 1, cells := 0, slots := 0, locals := 12 } : Room) s m #[(.ref w1), (.ref w2)] below meth c s₁ [] 0 0 := Stand.of_body Bd
  have e0 : s₁.heap = h0 := by rw [← hh, Bd.state]; rfl
  have N0 := Fr.nil n0
  have pre0 : ∀ t, Steps p.tables e below (s₁.setTop (mkF m 0 #[.val (.ref w1), .val (.ref w2)] [])) t → Steps p.tables e below (s₁.setTop (entryFrame m #[(.ref w1), (.ref w2)] 2)) t := fun t k => castTop (ef6 m w1 w2) k
  obtain ⟨cq1, kq1, q1a, q1b, q1c⟩ := isOf hZ e0 (E_w1.ext O0.2)
  obtain ⟨_, _, ⟨T2, L2, c2, n2⟩, -, X2, ⟨Lc2, hQ2, l2, y2, z2⟩, st2⟩ := X0.virtualBackUp hx (x := (⟨"com/example/swallow/swallow/engine/invoice/InvoiceStatus", "ordinal", "()I"⟩ : MethodName)) (y := (⟨"java/lang/Enum", "ordinal", "()I"⟩ : MethodName)) (owner := "java/lang/Enum") hown (mvT hZ (hw _ (List.mem_of_getElem? (i := 16) rfl))) (mvT hZ (hw _ (List.mem_of_getElem? (i := 17) rfl))) (mvT hZ (hw _ (List.mem_of_getElem? (i := 18) rfl))) (by decide) (mvT hZ (hw _ (List.mem_of_getElem? (i := 20) rfl))) (mvT hZ (hw _ (List.mem_of_getElem? (i := 19) rfl))) (backOf (W := 0) (rm3 l Z a0 hw w1 w2 w3 G []  h0 n0 O0 ) hZ (hw _ (List.mem_of_getElem? (i := 22) rfl)) (hw _ (List.mem_of_getElem? (i := 21) rfl)) (by decide) (by decide)) q1a q1c (g := (mkF m 1 #[.val (.ref w1), .val (.ref w2)] [(.ref w1)])) rfl (by rw [hml]; rfl) (Steps.refl _) (argsL := []) (rest := []) (lenOf pd2 rfl) rfl (by show 2 * 0 + _ ≤ _; exact Nat.le_of_eq rfl) (hb hby d2_1) (fun _ _ => ⟨rfl, e0, (by decide : 0 + 0 ≤ _), (by decide : 0 + 0 ≤ _)⟩)
  dsimp only [Pt.U, Pt.locs, Pt.cells, Pt.slots] at X2 l2 y2 z2 st2 hQ2
  subst l2 y2 z2
  have X2 : Stand p l e ({ frames := 1, cells := 0, slots := 0, locals := 12 } : Room) s m #[(.ref w1), (.ref w2)] below meth c T2 _ 0 0 := X2
  obtain ⟨rfl, Nq3, e4⟩ := hQ2
  have N2 := Fr.app N0 Nq3
  obtain ⟨T5, X5, e5, st5⟩ := getS2 X2 hx hZ hown (host := "") (Or.inl (hw _ (List.mem_of_getElem? (i := 25) rfl))) Via.refl e4 (S_w2.ext O0.2) (g := (mkF m 33 #[.val (.ref w1), .val (.ref w2)] [(.ref w2)])) rfl (hb hby d2_33)
  obtain ⟨fs, hr, hrun, hended, hW, hsame⟩ := X5.leave (v := some (.int (1 : Int32))) (fun h => by rw [hret] at h; cases h)
  refine ⟨_, _, pre0 _ ?_, hrun, hended, _, _, rfl, ?_, ⟨_, rfl⟩, hW, hsame.mono (by decide) (by decide)⟩
  ·
    show Steps p.tables e below (s₁.setTop (mkF m 0 #[.val (.ref w1), .val (.ref w2)] [])) _
    refine XS.aloadN X0.here hx rfl (hb hby d2_0) rfl rfl ?_
    show Steps p.tables e below (s₁.setTop (mkF m 1 #[.val (.ref w1), .val (.ref w2)] [(.ref w1)])) _
    refine st2.trans ?_
    show Steps p.tables e below (T2.setTop (mkF m 4 #[.val (.ref w1), .val (.ref w2)] [(.int (0 : Int32))])) _
    refine own_lsw X2.here hx rfl (pc0 := 4) (pc' := 32) (o := 28) rfl (hb hby d2_4) rfl (by decide) (by decide) (by decide) (by decide) ?_
    show Steps p.tables e below (T2.setTop (mkF m 32 #[.val (.ref w1), .val (.ref w2)] [])) _
    refine XS.aloadN X2.here hx rfl (hb hby d2_32) rfl rfl ?_
    show Steps p.tables e below (T2.setTop (mkF m 33 #[.val (.ref w1), .val (.ref w2)] [(.ref w2)])) _
    refine st5 _ ?_
    show Steps p.tables e below (T5.setTop (mkF m 36 #[.val (.ref w1), .val (.ref w2)] [(.ref w2), (.ref w2)])) _
    refine Jvm.RoadKit.acmp (g := (mkF m 36 #[.val (.ref w1), .val (.ref w2)] [(.ref w2), (.ref w2)])) X5 hx rfl rfl rfl (pc0 := 36) (pc' := 46) (same := true) rfl (hb hby d2_36) rfl (decide_eq_true rfl) (by decide) (by decide) ?_
    show Steps p.tables e below (T5.setTop (mkF m 46 #[.val (.ref w1), .val (.ref w2)] [])) _
    refine XS.iconst X5.here hx rfl (hb hby d2_46) ?_
    show Steps p.tables e below (T5.setTop (mkF m 47 #[.val (.ref w1), .val (.ref w2)] [(.int (1 : Int32))])) _
    refine XS.goto X5.here hx rfl (pc0 := 47) (pc' := 51) rfl (hb hby d2_47) (by decide) (by decide) ?_
    show Steps p.tables e below (T5.setTop (mkF m 51 #[.val (.ref w1), .val (.ref w2)] [(.int (1 : Int32))])) _
    exact retN X5 hx (t := .boolean) hret (by simp) (hb hby d2_51) hr
  ·
    show Q6 Z w1 w2 w3 h0 n0 _ T5.heap _
    rw [e5]
    exact ⟨rfl, N2, rfl⟩
theorem d1_18 : decode method_3_code 18 = .ok (.iconst 2, 1) := by decide +kernel
theorem d1_19 : decode method_3_code 19 = .ok (.ireturn, 1) := by decide +kernel
theorem ef7 (m : MethodId) (x0 : Addr) : entryFrame m #[(.ref x0)] 1 = mkF m 0 #[.val (.ref x0)] [] := by first | (simp [entryFrame, mkF, argsToLocals, Value.category]; done) | rfl
def Q7 (Z : State) (w1 : Addr) (w2 : Addr) (w3 : Addr) (h0 : Heap) (n0 : Nat) (v : Option Value) (h : Heap) (L : List Loc) : Prop :=
  (v = some (.int (2 : Int32)) ∧ Fr n0 L ∧ h = h0)
set_option maxRecDepth 65536 in
set_option maxHeartbeats 40000000 in
theorem rm7 (l : Launch) (Z : State) (a0 : Array Value) (hw : ∀ d ∈ tables_1, d.before a0 Z = true) (w1 : Addr) (w2 : Addr) (w3 : Addr) (G : GW Z w1 w2 w3) (ws : List Jvm.Cond) (h0 : Heap) (n0 : Nat) (O0 : Old Z n0 h0) :
    MetFree l (⟨"com/example/swallow/swallow/engine/invoice/InvoiceStatusCanBecomePinLaw", "rank", "(Lcom/example/swallow/swallow/engine/invoice/InvoiceStatus;)I"⟩ : MethodName) (head1 (Jvm.Cond.code (⟨"com/example/swallow/swallow/engine/invoice/InvoiceStatusCanBecomePinLaw", "rank", "(Lcom/example/swallow/swallow/engine/invoice/InvoiceStatus;)I"⟩ : MethodName) method_3_code 1 (some .int) :: ws) ({ frames := 0, cells := 0, slots := 0, locals := 0 } : Room)) (fun a U => a = #[(.ref w3)] ∧ Z.Warmed39 U.vm ∧ U.heap = h0) (fun _ _ _ _ _ => True) (fun _ U o U' => ∃ v L, o = .returned v ∧ Q7 Z w1 w2 w3 h0 n0 v U'.heap L ∧ FrameEnd U o U' L ({ frames := 0, cells := 0, slots := 0, locals := 0 } : Room).cells ({ frames := 0, cells := 0, slots := 0, locals := 0 } : Room).slots) := by
  obtain ⟨S_w1, E_w1, S_w2, E_w2, S_w3, E_w3, F_w1_ordinal, F_w2_ordinal, F_w3_ordinal⟩ := id G
  refine MetFree.of_bodySF (plainFor_of_name pn0) hisR ?_
  intro p e s m args below meth c s₁ Bd hml0 hP hK
  obtain ⟨rfl, hZ, hh⟩ := hP
  have hx := Bd.exec
  have hby := Bd.bytes
  have hml : c.maxLocals = 1 := hml0
  have hown : s.vm.findClass "com/example/swallow/swallow/engine/invoice/InvoiceStatusCanBecomePinLaw" = some m.cls := findClass_of_methodNamed Bd.named
  have hnm := (name_of_methodNamed Bd.named Bd.method).1
  have hret := Bd.returns
  have hlk : meth.locks = false := BodyLoose.notSynchronized Bd
  have X0 : Stand p l e ({ frames := 0, cells := 0, slots := 0, locals := 0 } : Room) s m #[(.ref w3)] below meth c s₁ [] 0 0 := Stand.of_body Bd
  have e0 : s₁.heap = h0 := by rw [← hh, Bd.state]; rfl
  have N0 := Fr.nil n0
  have pre0 : ∀ t, Steps p.tables e below (s₁.setTop (mkF m 0 #[.val (.ref w3)] [])) t → Steps p.tables e below (s₁.setTop (entryFrame m #[(.ref w3)] 1)) t := fun t k => castTop (ef7 m w3) k
  obtain ⟨T1, X1, e1, st1⟩ := getS2 X0 hx hZ hown (host := "") (Or.inl (hw _ (List.mem_of_getElem? (i := 5) rfl))) Via.refl e0 (S_w1.ext O0.2) (g := (mkF m 1 #[.val (.ref w3)] [(.ref w3)])) rfl (hb hby d1_1)
  obtain ⟨T2, X2, e2, st2⟩ := getS2 X1 hx hZ hown (host := "") (Or.inl (hw _ (List.mem_of_getElem? (i := 30) rfl))) Via.refl e1 (S_w2.ext O0.2) (g := (mkF m 10 #[.val (.ref w3)] [(.ref w3)])) rfl (hb hby d1_10)
  obtain ⟨fs, hr, hrun, hended, hW, hsame⟩ := X2.leave (v := some (.int (2 : Int32))) (fun h => by rw [hret] at h; cases h)
  refine ⟨_, _, pre0 _ ?_, hrun, hended, _, _, rfl, ?_, ⟨_, rfl⟩, hW, hsame.mono (by decide) (by decide)⟩
  ·
    show Steps p.tables e below (s₁.setTop (mkF m 0 #[.val (.ref w3)] [])) _
    refine XS.aloadN X0.here hx rfl (hb hby d1_0) rfl rfl ?_
    show Steps p.tables e below (s₁.setTop (mkF m 1 #[.val (.ref w3)] [(.ref w3)])) _
    refine st1 _ ?_
    show Steps p.tables e below (T1.setTop (mkF m 4 #[.val (.ref w3)] [(.ref w1), (.ref w3)])) _
    refine Jvm.RoadKit.acmp (g := (mkF m 4 #[.val (.ref w3)] [(.ref w1), (.ref w3)])) X1 hx rfl rfl rfl (pc0 := 4) (pc' := 9) (same := false) rfl (hb hby d1_4) rfl (decide_eq_false fun q => (Fld.ne F_w3_ordinal F_w1_ordinal (by decide)) (Value.ref.inj q)) (by decide) (by decide) ?_
    show Steps p.tables e below (T1.setTop (mkF m 9 #[.val (.ref w3)] [])) _
    refine XS.aloadN X1.here hx rfl (hb hby d1_9) rfl rfl ?_
    show Steps p.tables e below (T1.setTop (mkF m 10 #[.val (.ref w3)] [(.ref w3)])) _
    refine st2 _ ?_
    show Steps p.tables e below (T2.setTop (mkF m 13 #[.val (.ref w3)] [(.ref w2), (.ref w3)])) _
    refine Jvm.RoadKit.acmp (g := (mkF m 13 #[.val (.ref w3)] [(.ref w2), (.ref w3)])) X2 hx rfl rfl rfl (pc0 := 13) (pc' := 18) (same := false) rfl (hb hby d1_13) rfl (decide_eq_false fun q => (Fld.ne F_w3_ordinal F_w2_ordinal (by decide)) (Value.ref.inj q)) (by decide) (by decide) ?_
    show Steps p.tables e below (T2.setTop (mkF m 18 #[.val (.ref w3)] [])) _
    refine XS.iconst X2.here hx rfl (hb hby d1_18) ?_
    show Steps p.tables e below (T2.setTop (mkF m 19 #[.val (.ref w3)] [(.int (2 : Int32))])) _
    exact retI X2 hx hret (hb hby d1_19) hr
  ·
    show Q7 Z w1 w2 w3 h0 n0 _ T2.heap _
    rw [e2]
    exact ⟨rfl, N0, rfl⟩
theorem ef8 (m : MethodId) (x0 : Addr) (x1 : Addr) : entryFrame m #[(.ref x0), (.ref x1)] 2 = mkF m 0 #[.val (.ref x0), .val (.ref x1)] [] := by first | (simp [entryFrame, mkF, argsToLocals, Value.category]; done) | rfl
def Q8 (Z : State) (w1 : Addr) (w2 : Addr) (w3 : Addr) (h0 : Heap) (n0 : Nat) (v : Option Value) (h : Heap) (L : List Loc) : Prop :=
  (v = some (.int (1 : Int32)) ∧ Fr n0 L ∧ h = h0)
set_option maxRecDepth 65536 in
set_option maxHeartbeats 40000000 in
theorem rm8 (l : Launch) (Z : State) (a0 : Array Value) (hw : ∀ d ∈ tables_1, d.before a0 Z = true) (w1 : Addr) (w2 : Addr) (w3 : Addr) (G : GW Z w1 w2 w3) (ws : List Jvm.Cond) (h0 : Heap) (n0 : Nat) (O0 : Old Z n0 h0) :
    MetFree l (⟨"com/example/swallow/swallow/engine/invoice/InvoiceStatus", "canBecome", "(Lcom/example/swallow/swallow/engine/invoice/InvoiceStatus;)Z"⟩ : MethodName) (head1 (Jvm.Cond.code (⟨"com/example/swallow/swallow/engine/invoice/InvoiceStatus", "canBecome", "(Lcom/example/swallow/swallow/engine/invoice/InvoiceStatus;)Z"⟩ : MethodName) prog_13_method_4_code 2 (some .boolean) :: ws) ({ frames := 1, cells := 0, slots := 0, locals := 12 } : Room)) (fun a U => a = #[(.ref w1), (.ref w3)] ∧ Z.Warmed39 U.vm ∧ U.heap = h0) (fun _ _ _ _ _ => True) (fun _ U o U' => ∃ v L, o = .returned v ∧ Q8 Z w1 w2 w3 h0 n0 v U'.heap L ∧ FrameEnd U o U' L ({ frames := 1, cells := 0, slots := 0, locals := 12 } : Room).cells ({ frames := 1, cells := 0, slots := 0, locals := 12 } : Room).slots) := by
  obtain ⟨S_w1, E_w1, S_w2, E_w2, S_w3, E_w3, F_w1_ordinal, F_w2_ordinal, F_w3_ordinal⟩ := id G
  refine MetFree.of_bodySF (plainFor_of_name pn2) hisR ?_
  intro p e s m args below meth c s₁ Bd hml0 hP hK
  obtain ⟨rfl, hZ, hh⟩ := hP
  have hx := Bd.exec
  have hby := Bd.bytes
  have hml : c.maxLocals = 2 := hml0
  have hown : s.vm.findClass "com/example/swallow/swallow/engine/invoice/InvoiceStatus" = some m.cls := findClass_of_methodNamed Bd.named
  have hnm := (name_of_methodNamed Bd.named Bd.method).1
  have hret := Bd.returns
  have hlk : meth.locks = false := BodyLoose.notSynchronized Bd
  have X0 : Stand p l e ({ frames := 1, cells := 0, slots := 0, locals := 12 } : Room) s m #[(.ref w1), (.ref w3)] below meth c s₁ [] 0 0 := Stand.of_body Bd
  have e0 : s₁.heap = h0 := by rw [← hh, Bd.state]; rfl
  have N0 := Fr.nil n0
  have pre0 : ∀ t, Steps p.tables e below (s₁.setTop (mkF m 0 #[.val (.ref w1), .val (.ref w3)] [])) t → Steps p.tables e below (s₁.setTop (entryFrame m #[(.ref w1), (.ref w3)] 2)) t := fun t k => castTop (ef8 m w1 w3) k
  obtain ⟨cq1, kq1, q1a, q1b, q1c⟩ := isOf hZ e0 (E_w1.ext O0.2)
  obtain ⟨_, _, ⟨T2, L2, c2, n2⟩, -, X2, ⟨Lc2, hQ2, l2, y2, z2⟩, st2⟩ := X0.virtualBackUp hx (x := (⟨"com/example/swallow/swallow/engine/invoice/InvoiceStatus", "ordinal", "()I"⟩ : MethodName)) (y := (⟨"java/lang/Enum", "ordinal", "()I"⟩ : MethodName)) (owner := "java/lang/Enum") hown (mvT hZ (hw _ (List.mem_of_getElem? (i := 16) rfl))) (mvT hZ (hw _ (List.mem_of_getElem? (i := 17) rfl))) (mvT hZ (hw _ (List.mem_of_getElem? (i := 18) rfl))) (by decide) (mvT hZ (hw _ (List.mem_of_getElem? (i := 20) rfl))) (mvT hZ (hw _ (List.mem_of_getElem? (i := 19) rfl))) (backOf (W := 0) (rm3 l Z a0 hw w1 w2 w3 G []  h0 n0 O0 ) hZ (hw _ (List.mem_of_getElem? (i := 22) rfl)) (hw _ (List.mem_of_getElem? (i := 21) rfl)) (by decide) (by decide)) q1a q1c (g := (mkF m 1 #[.val (.ref w1), .val (.ref w3)] [(.ref w1)])) rfl (by rw [hml]; rfl) (Steps.refl _) (argsL := []) (rest := []) (lenOf pd2 rfl) rfl (by show 2 * 0 + _ ≤ _; exact Nat.le_of_eq rfl) (hb hby d2_1) (fun _ _ => ⟨rfl, e0, (by decide : 0 + 0 ≤ _), (by decide : 0 + 0 ≤ _)⟩)
  dsimp only [Pt.U, Pt.locs, Pt.cells, Pt.slots] at X2 l2 y2 z2 st2 hQ2
  subst l2 y2 z2
  have X2 : Stand p l e ({ frames := 1, cells := 0, slots := 0, locals := 12 } : Room) s m #[(.ref w1), (.ref w3)] below meth c T2 _ 0 0 := X2
  obtain ⟨rfl, Nq3, e4⟩ := hQ2
  have N2 := Fr.app N0 Nq3
  obtain ⟨T5, X5, e5, st5⟩ := getS2 X2 hx hZ hown (host := "") (Or.inl (hw _ (List.mem_of_getElem? (i := 25) rfl))) Via.refl e4 (S_w2.ext O0.2) (g := (mkF m 33 #[.val (.ref w1), .val (.ref w3)] [(.ref w3)])) rfl (hb hby d2_33)
  obtain ⟨T6, X6, e6, st6⟩ := getS2 X5 hx hZ hown (host := "") (Or.inl (hw _ (List.mem_of_getElem? (i := 27) rfl))) Via.refl e5 (S_w3.ext O0.2) (g := (mkF m 40 #[.val (.ref w1), .val (.ref w3)] [(.ref w3)])) rfl (hb hby d2_40)
  obtain ⟨fs, hr, hrun, hended, hW, hsame⟩ := X6.leave (v := some (.int (1 : Int32))) (fun h => by rw [hret] at h; cases h)
  refine ⟨_, _, pre0 _ ?_, hrun, hended, _, _, rfl, ?_, ⟨_, rfl⟩, hW, hsame.mono (by decide) (by decide)⟩
  ·
    show Steps p.tables e below (s₁.setTop (mkF m 0 #[.val (.ref w1), .val (.ref w3)] [])) _
    refine XS.aloadN X0.here hx rfl (hb hby d2_0) rfl rfl ?_
    show Steps p.tables e below (s₁.setTop (mkF m 1 #[.val (.ref w1), .val (.ref w3)] [(.ref w1)])) _
    refine st2.trans ?_
    show Steps p.tables e below (T2.setTop (mkF m 4 #[.val (.ref w1), .val (.ref w3)] [(.int (0 : Int32))])) _
    refine own_lsw X2.here hx rfl (pc0 := 4) (pc' := 32) (o := 28) rfl (hb hby d2_4) rfl (by decide) (by decide) (by decide) (by decide) ?_
    show Steps p.tables e below (T2.setTop (mkF m 32 #[.val (.ref w1), .val (.ref w3)] [])) _
    refine XS.aloadN X2.here hx rfl (hb hby d2_32) rfl rfl ?_
    show Steps p.tables e below (T2.setTop (mkF m 33 #[.val (.ref w1), .val (.ref w3)] [(.ref w3)])) _
    refine st5 _ ?_
    show Steps p.tables e below (T5.setTop (mkF m 36 #[.val (.ref w1), .val (.ref w3)] [(.ref w2), (.ref w3)])) _
    refine Jvm.RoadKit.acmp (g := (mkF m 36 #[.val (.ref w1), .val (.ref w3)] [(.ref w2), (.ref w3)])) X5 hx rfl rfl rfl (pc0 := 36) (pc' := 39) (same := false) rfl (hb hby d2_36) rfl (decide_eq_false fun q => (Fld.ne F_w3_ordinal F_w2_ordinal (by decide)) (Value.ref.inj q)) (by decide) (by decide) ?_
    show Steps p.tables e below (T5.setTop (mkF m 39 #[.val (.ref w1), .val (.ref w3)] [])) _
    refine XS.aloadN X5.here hx rfl (hb hby d2_39) rfl rfl ?_
    show Steps p.tables e below (T5.setTop (mkF m 40 #[.val (.ref w1), .val (.ref w3)] [(.ref w3)])) _
    refine st6 _ ?_
    show Steps p.tables e below (T6.setTop (mkF m 43 #[.val (.ref w1), .val (.ref w3)] [(.ref w3), (.ref w3)])) _
    refine Jvm.RoadKit.acmp (g := (mkF m 43 #[.val (.ref w1), .val (.ref w3)] [(.ref w3), (.ref w3)])) X6 hx rfl rfl rfl (pc0 := 43) (pc' := 46) (same := true) rfl (hb hby d2_43) rfl (decide_eq_true rfl) (by decide) (by decide) ?_
    show Steps p.tables e below (T6.setTop (mkF m 46 #[.val (.ref w1), .val (.ref w3)] [])) _
    refine XS.iconst X6.here hx rfl (hb hby d2_46) ?_
    show Steps p.tables e below (T6.setTop (mkF m 47 #[.val (.ref w1), .val (.ref w3)] [(.int (1 : Int32))])) _
    refine XS.goto X6.here hx rfl (pc0 := 47) (pc' := 51) rfl (hb hby d2_47) (by decide) (by decide) ?_
    show Steps p.tables e below (T6.setTop (mkF m 51 #[.val (.ref w1), .val (.ref w3)] [(.int (1 : Int32))])) _
    exact retN X6 hx (t := .boolean) hret (by simp) (hb hby d2_51) hr
  ·
    show Q8 Z w1 w2 w3 h0 n0 _ T6.heap _
    rw [e6]
    exact ⟨rfl, N2, rfl⟩
theorem ef9 (m : MethodId) (x0 : Addr) : entryFrame m #[(.ref x0)] 1 = mkF m 0 #[.val (.ref x0)] [] := by first | (simp [entryFrame, mkF, argsToLocals, Value.category]; done) | rfl
def Q9 (Z : State) (w1 : Addr) (w2 : Addr) (w3 : Addr) (h0 : Heap) (n0 : Nat) (v : Option Value) (h : Heap) (L : List Loc) : Prop :=
  (v = some (.int (1 : Int32)) ∧ Fr n0 L ∧ h = h0)
set_option maxRecDepth 65536 in
set_option maxHeartbeats 40000000 in
theorem rm9 (l : Launch) (Z : State) (a0 : Array Value) (hw : ∀ d ∈ tables_1, d.before a0 Z = true) (w1 : Addr) (w2 : Addr) (w3 : Addr) (G : GW Z w1 w2 w3) (ws : List Jvm.Cond) (h0 : Heap) (n0 : Nat) (O0 : Old Z n0 h0) :
    MetFree l (⟨"java/lang/Enum", "ordinal", "()I"⟩ : MethodName) (head1 (Jvm.Cond.code (⟨"java/lang/Enum", "ordinal", "()I"⟩ : MethodName) jdk_37_method_2_code 1 (some .int) :: ws) ({ frames := 0, cells := 0, slots := 0, locals := 0 } : Room)) (fun a U => a = #[(.ref w2)] ∧ Z.Warmed39 U.vm ∧ U.heap = h0) (fun _ _ _ _ _ => True) (fun _ U o U' => ∃ v L, o = .returned v ∧ Q9 Z w1 w2 w3 h0 n0 v U'.heap L ∧ FrameEnd U o U' L ({ frames := 0, cells := 0, slots := 0, locals := 0 } : Room).cells ({ frames := 0, cells := 0, slots := 0, locals := 0 } : Room).slots) := by
  obtain ⟨S_w1, E_w1, S_w2, E_w2, S_w3, E_w3, F_w1_ordinal, F_w2_ordinal, F_w3_ordinal⟩ := id G
  refine MetFree.of_bodySF (plainFor_of_name pn1) hisR ?_
  intro p e s m args below meth c s₁ Bd hml0 hP hK
  obtain ⟨rfl, hZ, hh⟩ := hP
  have hx := Bd.exec
  have hby := Bd.bytes
  have hml : c.maxLocals = 1 := hml0
  have hown : s.vm.findClass "java/lang/Enum" = some m.cls := findClass_of_methodNamed Bd.named
  have hnm := (name_of_methodNamed Bd.named Bd.method).1
  have hret := Bd.returns
  have hlk : meth.locks = false := BodyLoose.notSynchronized Bd
  have X0 : Stand p l e ({ frames := 0, cells := 0, slots := 0, locals := 0 } : Room) s m #[(.ref w2)] below meth c s₁ [] 0 0 := Stand.of_body Bd
  have e0 : s₁.heap = h0 := by rw [← hh, Bd.state]; rfl
  have N0 := Fr.nil n0
  have pre0 : ∀ t, Steps p.tables e below (s₁.setTop (mkF m 0 #[.val (.ref w2)] [])) t → Steps p.tables e below (s₁.setTop (entryFrame m #[(.ref w2)] 1)) t := fun t k => castTop (ef9 m w2) k
  obtain ⟨T1, X1, e1, st1⟩ := getF X0 hx hZ hown (host := "") (Or.inl (hw _ (List.mem_of_getElem? (i := 23) rfl))) Via.refl e0 (F_w2_ordinal.ext O0.2) (g := (mkF m 1 #[.val (.ref w2)] [(.ref w2)])) rfl rfl (hb hby d3_1)
  obtain ⟨fs, hr, hrun, hended, hW, hsame⟩ := X1.leave (v := some (.int (1 : Int32))) (fun h => by rw [hret] at h; cases h)
  refine ⟨_, _, pre0 _ ?_, hrun, hended, _, _, rfl, ?_, ⟨_, rfl⟩, hW, hsame.mono (by decide) (by decide)⟩
  ·
    show Steps p.tables e below (s₁.setTop (mkF m 0 #[.val (.ref w2)] [])) _
    refine XS.aloadN X0.here hx rfl (hb hby d3_0) rfl rfl ?_
    show Steps p.tables e below (s₁.setTop (mkF m 1 #[.val (.ref w2)] [(.ref w2)])) _
    refine st1 _ ?_
    show Steps p.tables e below (T1.setTop (mkF m 4 #[.val (.ref w2)] [(.int (1 : Int32))])) _
    exact retI X1 hx hret (hb hby d3_4) hr
  ·
    show Q9 Z w1 w2 w3 h0 n0 _ T1.heap _
    rw [e1]
    exact ⟨rfl, N0, rfl⟩
theorem d2_52 : decode prog_13_method_4_code 52 = .ok (.aload_n 1, 1) := by decide +kernel
theorem d2_53 : decode prog_13_method_4_code 53 = .ok (.getstatic 10, 3) := by decide +kernel
theorem d2_56 : decode prog_13_method_4_code 56 = .ok (.if_acmp .ne 7, 3) := by decide +kernel
theorem d2_63 : decode prog_13_method_4_code 63 = .ok (.iconst 0, 1) := by decide +kernel
theorem d2_64 : decode prog_13_method_4_code 64 = .ok (.ireturn, 1) := by decide +kernel
theorem ef10 (m : MethodId) (x0 : Addr) (x1 : Addr) : entryFrame m #[(.ref x0), (.ref x1)] 2 = mkF m 0 #[.val (.ref x0), .val (.ref x1)] [] := by first | (simp [entryFrame, mkF, argsToLocals, Value.category]; done) | rfl
def Q10 (Z : State) (w1 : Addr) (w2 : Addr) (w3 : Addr) (h0 : Heap) (n0 : Nat) (v : Option Value) (h : Heap) (L : List Loc) : Prop :=
  (v = some (.int (0 : Int32)) ∧ Fr n0 L ∧ h = h0)
set_option maxRecDepth 65536 in
set_option maxHeartbeats 40000000 in
theorem rm10 (l : Launch) (Z : State) (a0 : Array Value) (hw : ∀ d ∈ tables_1, d.before a0 Z = true) (w1 : Addr) (w2 : Addr) (w3 : Addr) (G : GW Z w1 w2 w3) (ws : List Jvm.Cond) (h0 : Heap) (n0 : Nat) (O0 : Old Z n0 h0) :
    MetFree l (⟨"com/example/swallow/swallow/engine/invoice/InvoiceStatus", "canBecome", "(Lcom/example/swallow/swallow/engine/invoice/InvoiceStatus;)Z"⟩ : MethodName) (head1 (Jvm.Cond.code (⟨"com/example/swallow/swallow/engine/invoice/InvoiceStatus", "canBecome", "(Lcom/example/swallow/swallow/engine/invoice/InvoiceStatus;)Z"⟩ : MethodName) prog_13_method_4_code 2 (some .boolean) :: ws) ({ frames := 1, cells := 0, slots := 0, locals := 12 } : Room)) (fun a U => a = #[(.ref w2), (.ref w1)] ∧ Z.Warmed39 U.vm ∧ U.heap = h0) (fun _ _ _ _ _ => True) (fun _ U o U' => ∃ v L, o = .returned v ∧ Q10 Z w1 w2 w3 h0 n0 v U'.heap L ∧ FrameEnd U o U' L ({ frames := 1, cells := 0, slots := 0, locals := 12 } : Room).cells ({ frames := 1, cells := 0, slots := 0, locals := 12 } : Room).slots) := by
  obtain ⟨S_w1, E_w1, S_w2, E_w2, S_w3, E_w3, F_w1_ordinal, F_w2_ordinal, F_w3_ordinal⟩ := id G
  refine MetFree.of_bodySF (plainFor_of_name pn2) hisR ?_
  intro p e s m args below meth c s₁ Bd hml0 hP hK
  obtain ⟨rfl, hZ, hh⟩ := hP
  have hx := Bd.exec
  have hby := Bd.bytes
  have hml : c.maxLocals = 2 := hml0
  have hown : s.vm.findClass "com/example/swallow/swallow/engine/invoice/InvoiceStatus" = some m.cls := findClass_of_methodNamed Bd.named
  have hnm := (name_of_methodNamed Bd.named Bd.method).1
  have hret := Bd.returns
  have hlk : meth.locks = false := BodyLoose.notSynchronized Bd
  have X0 : Stand p l e ({ frames := 1, cells := 0, slots := 0, locals := 12 } : Room) s m #[(.ref w2), (.ref w1)] below meth c s₁ [] 0 0 := Stand.of_body Bd
  have e0 : s₁.heap = h0 := by rw [← hh, Bd.state]; rfl
  have N0 := Fr.nil n0
  have pre0 : ∀ t, Steps p.tables e below (s₁.setTop (mkF m 0 #[.val (.ref w2), .val (.ref w1)] [])) t → Steps p.tables e below (s₁.setTop (entryFrame m #[(.ref w2), (.ref w1)] 2)) t := fun t k => castTop (ef10 m w2 w1) k
  obtain ⟨cq1, kq1, q1a, q1b, q1c⟩ := isOf hZ e0 (E_w2.ext O0.2)
  obtain ⟨_, _, ⟨T2, L2, c2, n2⟩, -, X2, ⟨Lc2, hQ2, l2, y2, z2⟩, st2⟩ := X0.virtualBackUp hx (x := (⟨"com/example/swallow/swallow/engine/invoice/InvoiceStatus", "ordinal", "()I"⟩ : MethodName)) (y := (⟨"java/lang/Enum", "ordinal", "()I"⟩ : MethodName)) (owner := "java/lang/Enum") hown (mvT hZ (hw _ (List.mem_of_getElem? (i := 16) rfl))) (mvT hZ (hw _ (List.mem_of_getElem? (i := 17) rfl))) (mvT hZ (hw _ (List.mem_of_getElem? (i := 18) rfl))) (by decide) (mvT hZ (hw _ (List.mem_of_getElem? (i := 20) rfl))) (mvT hZ (hw _ (List.mem_of_getElem? (i := 19) rfl))) (backOf (W := 0) (rm9 l Z a0 hw w1 w2 w3 G []  h0 n0 O0 ) hZ (hw _ (List.mem_of_getElem? (i := 22) rfl)) (hw _ (List.mem_of_getElem? (i := 21) rfl)) (by decide) (by decide)) q1a q1c (g := (mkF m 1 #[.val (.ref w2), .val (.ref w1)] [(.ref w2)])) rfl (by rw [hml]; rfl) (Steps.refl _) (argsL := []) (rest := []) (lenOf pd2 rfl) rfl (by show 2 * 0 + _ ≤ _; exact Nat.le_of_eq rfl) (hb hby d2_1) (fun _ _ => ⟨rfl, e0, (by decide : 0 + 0 ≤ _), (by decide : 0 + 0 ≤ _)⟩)
  dsimp only [Pt.U, Pt.locs, Pt.cells, Pt.slots] at X2 l2 y2 z2 st2 hQ2
  subst l2 y2 z2
  have X2 : Stand p l e ({ frames := 1, cells := 0, slots := 0, locals := 12 } : Room) s m #[(.ref w2), (.ref w1)] below meth c T2 _ 0 0 := X2
  obtain ⟨rfl, Nq3, e4⟩ := hQ2
  have N2 := Fr.app N0 Nq3
  obtain ⟨T5, X5, e5, st5⟩ := getS2 X2 hx hZ hown (host := "") (Or.inl (hw _ (List.mem_of_getElem? (i := 27) rfl))) Via.refl e4 (S_w3.ext O0.2) (g := (mkF m 53 #[.val (.ref w2), .val (.ref w1)] [(.ref w1)])) rfl (hb hby d2_53)
  obtain ⟨fs, hr, hrun, hended, hW, hsame⟩ := X5.leave (v := some (.int (0 : Int32))) (fun h => by rw [hret] at h; cases h)
  refine ⟨_, _, pre0 _ ?_, hrun, hended, _, _, rfl, ?_, ⟨_, rfl⟩, hW, hsame.mono (by decide) (by decide)⟩
  ·
    show Steps p.tables e below (s₁.setTop (mkF m 0 #[.val (.ref w2), .val (.ref w1)] [])) _
    refine XS.aloadN X0.here hx rfl (hb hby d2_0) rfl rfl ?_
    show Steps p.tables e below (s₁.setTop (mkF m 1 #[.val (.ref w2), .val (.ref w1)] [(.ref w2)])) _
    refine st2.trans ?_
    show Steps p.tables e below (T2.setTop (mkF m 4 #[.val (.ref w2), .val (.ref w1)] [(.int (1 : Int32))])) _
    refine own_lsw X2.here hx rfl (pc0 := 4) (pc' := 52) (o := 48) rfl (hb hby d2_4) rfl (by decide) (by decide) (by decide) (by decide) ?_
    show Steps p.tables e below (T2.setTop (mkF m 52 #[.val (.ref w2), .val (.ref w1)] [])) _
    refine XS.aloadN X2.here hx rfl (hb hby d2_52) rfl rfl ?_
    show Steps p.tables e below (T2.setTop (mkF m 53 #[.val (.ref w2), .val (.ref w1)] [(.ref w1)])) _
    refine st5 _ ?_
    show Steps p.tables e below (T5.setTop (mkF m 56 #[.val (.ref w2), .val (.ref w1)] [(.ref w3), (.ref w1)])) _
    refine Jvm.RoadKit.acmp (g := (mkF m 56 #[.val (.ref w2), .val (.ref w1)] [(.ref w3), (.ref w1)])) X5 hx rfl rfl rfl (pc0 := 56) (pc' := 63) (same := false) rfl (hb hby d2_56) rfl (decide_eq_false fun q => (Fld.ne F_w1_ordinal F_w3_ordinal (by decide)) (Value.ref.inj q)) (by decide) (by decide) ?_
    show Steps p.tables e below (T5.setTop (mkF m 63 #[.val (.ref w2), .val (.ref w1)] [])) _
    refine XS.iconst X5.here hx rfl (hb hby d2_63) ?_
    show Steps p.tables e below (T5.setTop (mkF m 64 #[.val (.ref w2), .val (.ref w1)] [(.int (0 : Int32))])) _
    exact retN X5 hx (t := .boolean) hret (by simp) (hb hby d2_64) hr
  ·
    show Q10 Z w1 w2 w3 h0 n0 _ T5.heap _
    rw [e5]
    exact ⟨rfl, N2, rfl⟩
theorem ef11 (m : MethodId) (x0 : Addr) (x1 : Addr) : entryFrame m #[(.ref x0), (.ref x1)] 2 = mkF m 0 #[.val (.ref x0), .val (.ref x1)] [] := by first | (simp [entryFrame, mkF, argsToLocals, Value.category]; done) | rfl
def Q11 (Z : State) (w1 : Addr) (w2 : Addr) (w3 : Addr) (h0 : Heap) (n0 : Nat) (v : Option Value) (h : Heap) (L : List Loc) : Prop :=
  (v = some (.int (0 : Int32)) ∧ Fr n0 L ∧ h = h0)
set_option maxRecDepth 65536 in
set_option maxHeartbeats 40000000 in
theorem rm11 (l : Launch) (Z : State) (a0 : Array Value) (hw : ∀ d ∈ tables_1, d.before a0 Z = true) (w1 : Addr) (w2 : Addr) (w3 : Addr) (G : GW Z w1 w2 w3) (ws : List Jvm.Cond) (h0 : Heap) (n0 : Nat) (O0 : Old Z n0 h0) :
    MetFree l (⟨"com/example/swallow/swallow/engine/invoice/InvoiceStatus", "canBecome", "(Lcom/example/swallow/swallow/engine/invoice/InvoiceStatus;)Z"⟩ : MethodName) (head1 (Jvm.Cond.code (⟨"com/example/swallow/swallow/engine/invoice/InvoiceStatus", "canBecome", "(Lcom/example/swallow/swallow/engine/invoice/InvoiceStatus;)Z"⟩ : MethodName) prog_13_method_4_code 2 (some .boolean) :: ws) ({ frames := 1, cells := 0, slots := 0, locals := 12 } : Room)) (fun a U => a = #[(.ref w2), (.ref w2)] ∧ Z.Warmed39 U.vm ∧ U.heap = h0) (fun _ _ _ _ _ => True) (fun _ U o U' => ∃ v L, o = .returned v ∧ Q11 Z w1 w2 w3 h0 n0 v U'.heap L ∧ FrameEnd U o U' L ({ frames := 1, cells := 0, slots := 0, locals := 12 } : Room).cells ({ frames := 1, cells := 0, slots := 0, locals := 12 } : Room).slots) := by
  obtain ⟨S_w1, E_w1, S_w2, E_w2, S_w3, E_w3, F_w1_ordinal, F_w2_ordinal, F_w3_ordinal⟩ := id G
  refine MetFree.of_bodySF (plainFor_of_name pn2) hisR ?_
  intro p e s m args below meth c s₁ Bd hml0 hP hK
  obtain ⟨rfl, hZ, hh⟩ := hP
  have hx := Bd.exec
  have hby := Bd.bytes
  have hml : c.maxLocals = 2 := hml0
  have hown : s.vm.findClass "com/example/swallow/swallow/engine/invoice/InvoiceStatus" = some m.cls := findClass_of_methodNamed Bd.named
  have hnm := (name_of_methodNamed Bd.named Bd.method).1
  have hret := Bd.returns
  have hlk : meth.locks = false := BodyLoose.notSynchronized Bd
  have X0 : Stand p l e ({ frames := 1, cells := 0, slots := 0, locals := 12 } : Room) s m #[(.ref w2), (.ref w2)] below meth c s₁ [] 0 0 := Stand.of_body Bd
  have e0 : s₁.heap = h0 := by rw [← hh, Bd.state]; rfl
  have N0 := Fr.nil n0
  have pre0 : ∀ t, Steps p.tables e below (s₁.setTop (mkF m 0 #[.val (.ref w2), .val (.ref w2)] [])) t → Steps p.tables e below (s₁.setTop (entryFrame m #[(.ref w2), (.ref w2)] 2)) t := fun t k => castTop (ef11 m w2 w2) k
  obtain ⟨cq1, kq1, q1a, q1b, q1c⟩ := isOf hZ e0 (E_w2.ext O0.2)
  obtain ⟨_, _, ⟨T2, L2, c2, n2⟩, -, X2, ⟨Lc2, hQ2, l2, y2, z2⟩, st2⟩ := X0.virtualBackUp hx (x := (⟨"com/example/swallow/swallow/engine/invoice/InvoiceStatus", "ordinal", "()I"⟩ : MethodName)) (y := (⟨"java/lang/Enum", "ordinal", "()I"⟩ : MethodName)) (owner := "java/lang/Enum") hown (mvT hZ (hw _ (List.mem_of_getElem? (i := 16) rfl))) (mvT hZ (hw _ (List.mem_of_getElem? (i := 17) rfl))) (mvT hZ (hw _ (List.mem_of_getElem? (i := 18) rfl))) (by decide) (mvT hZ (hw _ (List.mem_of_getElem? (i := 20) rfl))) (mvT hZ (hw _ (List.mem_of_getElem? (i := 19) rfl))) (backOf (W := 0) (rm9 l Z a0 hw w1 w2 w3 G []  h0 n0 O0 ) hZ (hw _ (List.mem_of_getElem? (i := 22) rfl)) (hw _ (List.mem_of_getElem? (i := 21) rfl)) (by decide) (by decide)) q1a q1c (g := (mkF m 1 #[.val (.ref w2), .val (.ref w2)] [(.ref w2)])) rfl (by rw [hml]; rfl) (Steps.refl _) (argsL := []) (rest := []) (lenOf pd2 rfl) rfl (by show 2 * 0 + _ ≤ _; exact Nat.le_of_eq rfl) (hb hby d2_1) (fun _ _ => ⟨rfl, e0, (by decide : 0 + 0 ≤ _), (by decide : 0 + 0 ≤ _)⟩)
  dsimp only [Pt.U, Pt.locs, Pt.cells, Pt.slots] at X2 l2 y2 z2 st2 hQ2
  subst l2 y2 z2
  have X2 : Stand p l e ({ frames := 1, cells := 0, slots := 0, locals := 12 } : Room) s m #[(.ref w2), (.ref w2)] below meth c T2 _ 0 0 := X2
  obtain ⟨rfl, Nq3, e4⟩ := hQ2
  have N2 := Fr.app N0 Nq3
  obtain ⟨T5, X5, e5, st5⟩ := getS2 X2 hx hZ hown (host := "") (Or.inl (hw _ (List.mem_of_getElem? (i := 27) rfl))) Via.refl e4 (S_w3.ext O0.2) (g := (mkF m 53 #[.val (.ref w2), .val (.ref w2)] [(.ref w2)])) rfl (hb hby d2_53)
  obtain ⟨fs, hr, hrun, hended, hW, hsame⟩ := X5.leave (v := some (.int (0 : Int32))) (fun h => by rw [hret] at h; cases h)
  refine ⟨_, _, pre0 _ ?_, hrun, hended, _, _, rfl, ?_, ⟨_, rfl⟩, hW, hsame.mono (by decide) (by decide)⟩
  ·
    show Steps p.tables e below (s₁.setTop (mkF m 0 #[.val (.ref w2), .val (.ref w2)] [])) _
    refine XS.aloadN X0.here hx rfl (hb hby d2_0) rfl rfl ?_
    show Steps p.tables e below (s₁.setTop (mkF m 1 #[.val (.ref w2), .val (.ref w2)] [(.ref w2)])) _
    refine st2.trans ?_
    show Steps p.tables e below (T2.setTop (mkF m 4 #[.val (.ref w2), .val (.ref w2)] [(.int (1 : Int32))])) _
    refine own_lsw X2.here hx rfl (pc0 := 4) (pc' := 52) (o := 48) rfl (hb hby d2_4) rfl (by decide) (by decide) (by decide) (by decide) ?_
    show Steps p.tables e below (T2.setTop (mkF m 52 #[.val (.ref w2), .val (.ref w2)] [])) _
    refine XS.aloadN X2.here hx rfl (hb hby d2_52) rfl rfl ?_
    show Steps p.tables e below (T2.setTop (mkF m 53 #[.val (.ref w2), .val (.ref w2)] [(.ref w2)])) _
    refine st5 _ ?_
    show Steps p.tables e below (T5.setTop (mkF m 56 #[.val (.ref w2), .val (.ref w2)] [(.ref w3), (.ref w2)])) _
    refine Jvm.RoadKit.acmp (g := (mkF m 56 #[.val (.ref w2), .val (.ref w2)] [(.ref w3), (.ref w2)])) X5 hx rfl rfl rfl (pc0 := 56) (pc' := 63) (same := false) rfl (hb hby d2_56) rfl (decide_eq_false fun q => (Fld.ne F_w2_ordinal F_w3_ordinal (by decide)) (Value.ref.inj q)) (by decide) (by decide) ?_
    show Steps p.tables e below (T5.setTop (mkF m 63 #[.val (.ref w2), .val (.ref w2)] [])) _
    refine XS.iconst X5.here hx rfl (hb hby d2_63) ?_
    show Steps p.tables e below (T5.setTop (mkF m 64 #[.val (.ref w2), .val (.ref w2)] [(.int (0 : Int32))])) _
    exact retN X5 hx (t := .boolean) hret (by simp) (hb hby d2_64) hr
  ·
    show Q11 Z w1 w2 w3 h0 n0 _ T5.heap _
    rw [e5]
    exact ⟨rfl, N2, rfl⟩
theorem d2_59 : decode prog_13_method_4_code 59 = .ok (.iconst 1, 1) := by decide +kernel
theorem d2_60 : decode prog_13_method_4_code 60 = .ok (.goto 4, 3) := by decide +kernel
theorem ef12 (m : MethodId) (x0 : Addr) (x1 : Addr) : entryFrame m #[(.ref x0), (.ref x1)] 2 = mkF m 0 #[.val (.ref x0), .val (.ref x1)] [] := by first | (simp [entryFrame, mkF, argsToLocals, Value.category]; done) | rfl
def Q12 (Z : State) (w1 : Addr) (w2 : Addr) (w3 : Addr) (h0 : Heap) (n0 : Nat) (v : Option Value) (h : Heap) (L : List Loc) : Prop :=
  (v = some (.int (1 : Int32)) ∧ Fr n0 L ∧ h = h0)
set_option maxRecDepth 65536 in
set_option maxHeartbeats 40000000 in
theorem rm12 (l : Launch) (Z : State) (a0 : Array Value) (hw : ∀ d ∈ tables_1, d.before a0 Z = true) (w1 : Addr) (w2 : Addr) (w3 : Addr) (G : GW Z w1 w2 w3) (ws : List Jvm.Cond) (h0 : Heap) (n0 : Nat) (O0 : Old Z n0 h0) :
    MetFree l (⟨"com/example/swallow/swallow/engine/invoice/InvoiceStatus", "canBecome", "(Lcom/example/swallow/swallow/engine/invoice/InvoiceStatus;)Z"⟩ : MethodName) (head1 (Jvm.Cond.code (⟨"com/example/swallow/swallow/engine/invoice/InvoiceStatus", "canBecome", "(Lcom/example/swallow/swallow/engine/invoice/InvoiceStatus;)Z"⟩ : MethodName) prog_13_method_4_code 2 (some .boolean) :: ws) ({ frames := 1, cells := 0, slots := 0, locals := 12 } : Room)) (fun a U => a = #[(.ref w2), (.ref w3)] ∧ Z.Warmed39 U.vm ∧ U.heap = h0) (fun _ _ _ _ _ => True) (fun _ U o U' => ∃ v L, o = .returned v ∧ Q12 Z w1 w2 w3 h0 n0 v U'.heap L ∧ FrameEnd U o U' L ({ frames := 1, cells := 0, slots := 0, locals := 12 } : Room).cells ({ frames := 1, cells := 0, slots := 0, locals := 12 } : Room).slots) := by
  obtain ⟨S_w1, E_w1, S_w2, E_w2, S_w3, E_w3, F_w1_ordinal, F_w2_ordinal, F_w3_ordinal⟩ := id G
  refine MetFree.of_bodySF (plainFor_of_name pn2) hisR ?_
  intro p e s m args below meth c s₁ Bd hml0 hP hK
  obtain ⟨rfl, hZ, hh⟩ := hP
  have hx := Bd.exec
  have hby := Bd.bytes
  have hml : c.maxLocals = 2 := hml0
  have hown : s.vm.findClass "com/example/swallow/swallow/engine/invoice/InvoiceStatus" = some m.cls := findClass_of_methodNamed Bd.named
  have hnm := (name_of_methodNamed Bd.named Bd.method).1
  have hret := Bd.returns
  have hlk : meth.locks = false := BodyLoose.notSynchronized Bd
  have X0 : Stand p l e ({ frames := 1, cells := 0, slots := 0, locals := 12 } : Room) s m #[(.ref w2), (.ref w3)] below meth c s₁ [] 0 0 := Stand.of_body Bd
  have e0 : s₁.heap = h0 := by rw [← hh, Bd.state]; rfl
  have N0 := Fr.nil n0
  have pre0 : ∀ t, Steps p.tables e below (s₁.setTop (mkF m 0 #[.val (.ref w2), .val (.ref w3)] [])) t → Steps p.tables e below (s₁.setTop (entryFrame m #[(.ref w2), (.ref w3)] 2)) t := fun t k => castTop (ef12 m w2 w3) k
  obtain ⟨cq1, kq1, q1a, q1b, q1c⟩ := isOf hZ e0 (E_w2.ext O0.2)
  obtain ⟨_, _, ⟨T2, L2, c2, n2⟩, -, X2, ⟨Lc2, hQ2, l2, y2, z2⟩, st2⟩ := X0.virtualBackUp hx (x := (⟨"com/example/swallow/swallow/engine/invoice/InvoiceStatus", "ordinal", "()I"⟩ : MethodName)) (y := (⟨"java/lang/Enum", "ordinal", "()I"⟩ : MethodName)) (owner := "java/lang/Enum") hown (mvT hZ (hw _ (List.mem_of_getElem? (i := 16) rfl))) (mvT hZ (hw _ (List.mem_of_getElem? (i := 17) rfl))) (mvT hZ (hw _ (List.mem_of_getElem? (i := 18) rfl))) (by decide) (mvT hZ (hw _ (List.mem_of_getElem? (i := 20) rfl))) (mvT hZ (hw _ (List.mem_of_getElem? (i := 19) rfl))) (backOf (W := 0) (rm9 l Z a0 hw w1 w2 w3 G []  h0 n0 O0 ) hZ (hw _ (List.mem_of_getElem? (i := 22) rfl)) (hw _ (List.mem_of_getElem? (i := 21) rfl)) (by decide) (by decide)) q1a q1c (g := (mkF m 1 #[.val (.ref w2), .val (.ref w3)] [(.ref w2)])) rfl (by rw [hml]; rfl) (Steps.refl _) (argsL := []) (rest := []) (lenOf pd2 rfl) rfl (by show 2 * 0 + _ ≤ _; exact Nat.le_of_eq rfl) (hb hby d2_1) (fun _ _ => ⟨rfl, e0, (by decide : 0 + 0 ≤ _), (by decide : 0 + 0 ≤ _)⟩)
  dsimp only [Pt.U, Pt.locs, Pt.cells, Pt.slots] at X2 l2 y2 z2 st2 hQ2
  subst l2 y2 z2
  have X2 : Stand p l e ({ frames := 1, cells := 0, slots := 0, locals := 12 } : Room) s m #[(.ref w2), (.ref w3)] below meth c T2 _ 0 0 := X2
  obtain ⟨rfl, Nq3, e4⟩ := hQ2
  have N2 := Fr.app N0 Nq3
  obtain ⟨T5, X5, e5, st5⟩ := getS2 X2 hx hZ hown (host := "") (Or.inl (hw _ (List.mem_of_getElem? (i := 27) rfl))) Via.refl e4 (S_w3.ext O0.2) (g := (mkF m 53 #[.val (.ref w2), .val (.ref w3)] [(.ref w3)])) rfl (hb hby d2_53)
  obtain ⟨fs, hr, hrun, hended, hW, hsame⟩ := X5.leave (v := some (.int (1 : Int32))) (fun h => by rw [hret] at h; cases h)
  refine ⟨_, _, pre0 _ ?_, hrun, hended, _, _, rfl, ?_, ⟨_, rfl⟩, hW, hsame.mono (by decide) (by decide)⟩
  ·
    show Steps p.tables e below (s₁.setTop (mkF m 0 #[.val (.ref w2), .val (.ref w3)] [])) _
    refine XS.aloadN X0.here hx rfl (hb hby d2_0) rfl rfl ?_
    show Steps p.tables e below (s₁.setTop (mkF m 1 #[.val (.ref w2), .val (.ref w3)] [(.ref w2)])) _
    refine st2.trans ?_
    show Steps p.tables e below (T2.setTop (mkF m 4 #[.val (.ref w2), .val (.ref w3)] [(.int (1 : Int32))])) _
    refine own_lsw X2.here hx rfl (pc0 := 4) (pc' := 52) (o := 48) rfl (hb hby d2_4) rfl (by decide) (by decide) (by decide) (by decide) ?_
    show Steps p.tables e below (T2.setTop (mkF m 52 #[.val (.ref w2), .val (.ref w3)] [])) _
    refine XS.aloadN X2.here hx rfl (hb hby d2_52) rfl rfl ?_
    show Steps p.tables e below (T2.setTop (mkF m 53 #[.val (.ref w2), .val (.ref w3)] [(.ref w3)])) _
    refine st5 _ ?_
    show Steps p.tables e below (T5.setTop (mkF m 56 #[.val (.ref w2), .val (.ref w3)] [(.ref w3), (.ref w3)])) _
    refine Jvm.RoadKit.acmp (g := (mkF m 56 #[.val (.ref w2), .val (.ref w3)] [(.ref w3), (.ref w3)])) X5 hx rfl rfl rfl (pc0 := 56) (pc' := 59) (same := true) rfl (hb hby d2_56) rfl (decide_eq_true rfl) (by decide) (by decide) ?_
    show Steps p.tables e below (T5.setTop (mkF m 59 #[.val (.ref w2), .val (.ref w3)] [])) _
    refine XS.iconst X5.here hx rfl (hb hby d2_59) ?_
    show Steps p.tables e below (T5.setTop (mkF m 60 #[.val (.ref w2), .val (.ref w3)] [(.int (1 : Int32))])) _
    refine XS.goto X5.here hx rfl (pc0 := 60) (pc' := 64) rfl (hb hby d2_60) (by decide) (by decide) ?_
    show Steps p.tables e below (T5.setTop (mkF m 64 #[.val (.ref w2), .val (.ref w3)] [(.int (1 : Int32))])) _
    exact retN X5 hx (t := .boolean) hret (by simp) (hb hby d2_64) hr
  ·
    show Q12 Z w1 w2 w3 h0 n0 _ T5.heap _
    rw [e5]
    exact ⟨rfl, N2, rfl⟩
theorem ef13 (m : MethodId) (x0 : Addr) : entryFrame m #[(.ref x0)] 1 = mkF m 0 #[.val (.ref x0)] [] := by first | (simp [entryFrame, mkF, argsToLocals, Value.category]; done) | rfl
def Q13 (Z : State) (w1 : Addr) (w2 : Addr) (w3 : Addr) (h0 : Heap) (n0 : Nat) (v : Option Value) (h : Heap) (L : List Loc) : Prop :=
  (v = some (.int (2 : Int32)) ∧ Fr n0 L ∧ h = h0)
set_option maxRecDepth 65536 in
set_option maxHeartbeats 40000000 in
theorem rm13 (l : Launch) (Z : State) (a0 : Array Value) (hw : ∀ d ∈ tables_1, d.before a0 Z = true) (w1 : Addr) (w2 : Addr) (w3 : Addr) (G : GW Z w1 w2 w3) (ws : List Jvm.Cond) (h0 : Heap) (n0 : Nat) (O0 : Old Z n0 h0) :
    MetFree l (⟨"java/lang/Enum", "ordinal", "()I"⟩ : MethodName) (head1 (Jvm.Cond.code (⟨"java/lang/Enum", "ordinal", "()I"⟩ : MethodName) jdk_37_method_2_code 1 (some .int) :: ws) ({ frames := 0, cells := 0, slots := 0, locals := 0 } : Room)) (fun a U => a = #[(.ref w3)] ∧ Z.Warmed39 U.vm ∧ U.heap = h0) (fun _ _ _ _ _ => True) (fun _ U o U' => ∃ v L, o = .returned v ∧ Q13 Z w1 w2 w3 h0 n0 v U'.heap L ∧ FrameEnd U o U' L ({ frames := 0, cells := 0, slots := 0, locals := 0 } : Room).cells ({ frames := 0, cells := 0, slots := 0, locals := 0 } : Room).slots) := by
  obtain ⟨S_w1, E_w1, S_w2, E_w2, S_w3, E_w3, F_w1_ordinal, F_w2_ordinal, F_w3_ordinal⟩ := id G
  refine MetFree.of_bodySF (plainFor_of_name pn1) hisR ?_
  intro p e s m args below meth c s₁ Bd hml0 hP hK
  obtain ⟨rfl, hZ, hh⟩ := hP
  have hx := Bd.exec
  have hby := Bd.bytes
  have hml : c.maxLocals = 1 := hml0
  have hown : s.vm.findClass "java/lang/Enum" = some m.cls := findClass_of_methodNamed Bd.named
  have hnm := (name_of_methodNamed Bd.named Bd.method).1
  have hret := Bd.returns
  have hlk : meth.locks = false := BodyLoose.notSynchronized Bd
  have X0 : Stand p l e ({ frames := 0, cells := 0, slots := 0, locals := 0 } : Room) s m #[(.ref w3)] below meth c s₁ [] 0 0 := Stand.of_body Bd
  have e0 : s₁.heap = h0 := by rw [← hh, Bd.state]; rfl
  have N0 := Fr.nil n0
  have pre0 : ∀ t, Steps p.tables e below (s₁.setTop (mkF m 0 #[.val (.ref w3)] [])) t → Steps p.tables e below (s₁.setTop (entryFrame m #[(.ref w3)] 1)) t := fun t k => castTop (ef13 m w3) k
  obtain ⟨T1, X1, e1, st1⟩ := getF X0 hx hZ hown (host := "") (Or.inl (hw _ (List.mem_of_getElem? (i := 23) rfl))) Via.refl e0 (F_w3_ordinal.ext O0.2) (g := (mkF m 1 #[.val (.ref w3)] [(.ref w3)])) rfl rfl (hb hby d3_1)
  obtain ⟨fs, hr, hrun, hended, hW, hsame⟩ := X1.leave (v := some (.int (2 : Int32))) (fun h => by rw [hret] at h; cases h)
  refine ⟨_, _, pre0 _ ?_, hrun, hended, _, _, rfl, ?_, ⟨_, rfl⟩, hW, hsame.mono (by decide) (by decide)⟩
  ·
    show Steps p.tables e below (s₁.setTop (mkF m 0 #[.val (.ref w3)] [])) _
    refine XS.aloadN X0.here hx rfl (hb hby d3_0) rfl rfl ?_
    show Steps p.tables e below (s₁.setTop (mkF m 1 #[.val (.ref w3)] [(.ref w3)])) _
    refine st1 _ ?_
    show Steps p.tables e below (T1.setTop (mkF m 4 #[.val (.ref w3)] [(.int (2 : Int32))])) _
    exact retI X1 hx hret (hb hby d3_4) hr
  ·
    show Q13 Z w1 w2 w3 h0 n0 _ T1.heap _
    rw [e1]
    exact ⟨rfl, N0, rfl⟩
theorem d2_65 : decode prog_13_method_4_code 65 = .ok (.iconst 0, 1) := by decide +kernel
theorem d2_66 : decode prog_13_method_4_code 66 = .ok (.ireturn, 1) := by decide +kernel
theorem ef14 (m : MethodId) (x0 : Addr) (x1 : Addr) : entryFrame m #[(.ref x0), (.ref x1)] 2 = mkF m 0 #[.val (.ref x0), .val (.ref x1)] [] := by first | (simp [entryFrame, mkF, argsToLocals, Value.category]; done) | rfl
def Q14 (Z : State) (w1 : Addr) (w2 : Addr) (w3 : Addr) (h0 : Heap) (n0 : Nat) (v : Option Value) (h : Heap) (L : List Loc) : Prop :=
  (v = some (.int (0 : Int32)) ∧ Fr n0 L ∧ h = h0)
set_option maxRecDepth 65536 in
set_option maxHeartbeats 40000000 in
theorem rm14 (l : Launch) (Z : State) (a0 : Array Value) (hw : ∀ d ∈ tables_1, d.before a0 Z = true) (w1 : Addr) (w2 : Addr) (w3 : Addr) (G : GW Z w1 w2 w3) (ws : List Jvm.Cond) (h0 : Heap) (n0 : Nat) (O0 : Old Z n0 h0) :
    MetFree l (⟨"com/example/swallow/swallow/engine/invoice/InvoiceStatus", "canBecome", "(Lcom/example/swallow/swallow/engine/invoice/InvoiceStatus;)Z"⟩ : MethodName) (head1 (Jvm.Cond.code (⟨"com/example/swallow/swallow/engine/invoice/InvoiceStatus", "canBecome", "(Lcom/example/swallow/swallow/engine/invoice/InvoiceStatus;)Z"⟩ : MethodName) prog_13_method_4_code 2 (some .boolean) :: ws) ({ frames := 1, cells := 0, slots := 0, locals := 12 } : Room)) (fun a U => a = #[(.ref w3), (.ref w1)] ∧ Z.Warmed39 U.vm ∧ U.heap = h0) (fun _ _ _ _ _ => True) (fun _ U o U' => ∃ v L, o = .returned v ∧ Q14 Z w1 w2 w3 h0 n0 v U'.heap L ∧ FrameEnd U o U' L ({ frames := 1, cells := 0, slots := 0, locals := 12 } : Room).cells ({ frames := 1, cells := 0, slots := 0, locals := 12 } : Room).slots) := by
  obtain ⟨S_w1, E_w1, S_w2, E_w2, S_w3, E_w3, F_w1_ordinal, F_w2_ordinal, F_w3_ordinal⟩ := id G
  refine MetFree.of_bodySF (plainFor_of_name pn2) hisR ?_
  intro p e s m args below meth c s₁ Bd hml0 hP hK
  obtain ⟨rfl, hZ, hh⟩ := hP
  have hx := Bd.exec
  have hby := Bd.bytes
  have hml : c.maxLocals = 2 := hml0
  have hown : s.vm.findClass "com/example/swallow/swallow/engine/invoice/InvoiceStatus" = some m.cls := findClass_of_methodNamed Bd.named
  have hnm := (name_of_methodNamed Bd.named Bd.method).1
  have hret := Bd.returns
  have hlk : meth.locks = false := BodyLoose.notSynchronized Bd
  have X0 : Stand p l e ({ frames := 1, cells := 0, slots := 0, locals := 12 } : Room) s m #[(.ref w3), (.ref w1)] below meth c s₁ [] 0 0 := Stand.of_body Bd
  have e0 : s₁.heap = h0 := by rw [← hh, Bd.state]; rfl
  have N0 := Fr.nil n0
  have pre0 : ∀ t, Steps p.tables e below (s₁.setTop (mkF m 0 #[.val (.ref w3), .val (.ref w1)] [])) t → Steps p.tables e below (s₁.setTop (entryFrame m #[(.ref w3), (.ref w1)] 2)) t := fun t k => castTop (ef14 m w3 w1) k
  obtain ⟨cq1, kq1, q1a, q1b, q1c⟩ := isOf hZ e0 (E_w3.ext O0.2)
  obtain ⟨_, _, ⟨T2, L2, c2, n2⟩, -, X2, ⟨Lc2, hQ2, l2, y2, z2⟩, st2⟩ := X0.virtualBackUp hx (x := (⟨"com/example/swallow/swallow/engine/invoice/InvoiceStatus", "ordinal", "()I"⟩ : MethodName)) (y := (⟨"java/lang/Enum", "ordinal", "()I"⟩ : MethodName)) (owner := "java/lang/Enum") hown (mvT hZ (hw _ (List.mem_of_getElem? (i := 16) rfl))) (mvT hZ (hw _ (List.mem_of_getElem? (i := 17) rfl))) (mvT hZ (hw _ (List.mem_of_getElem? (i := 18) rfl))) (by decide) (mvT hZ (hw _ (List.mem_of_getElem? (i := 20) rfl))) (mvT hZ (hw _ (List.mem_of_getElem? (i := 19) rfl))) (backOf (W := 0) (rm13 l Z a0 hw w1 w2 w3 G []  h0 n0 O0 ) hZ (hw _ (List.mem_of_getElem? (i := 22) rfl)) (hw _ (List.mem_of_getElem? (i := 21) rfl)) (by decide) (by decide)) q1a q1c (g := (mkF m 1 #[.val (.ref w3), .val (.ref w1)] [(.ref w3)])) rfl (by rw [hml]; rfl) (Steps.refl _) (argsL := []) (rest := []) (lenOf pd2 rfl) rfl (by show 2 * 0 + _ ≤ _; exact Nat.le_of_eq rfl) (hb hby d2_1) (fun _ _ => ⟨rfl, e0, (by decide : 0 + 0 ≤ _), (by decide : 0 + 0 ≤ _)⟩)
  dsimp only [Pt.U, Pt.locs, Pt.cells, Pt.slots] at X2 l2 y2 z2 st2 hQ2
  subst l2 y2 z2
  have X2 : Stand p l e ({ frames := 1, cells := 0, slots := 0, locals := 12 } : Room) s m #[(.ref w3), (.ref w1)] below meth c T2 _ 0 0 := X2
  obtain ⟨rfl, Nq3, e4⟩ := hQ2
  have N2 := Fr.app N0 Nq3
  obtain ⟨fs, hr, hrun, hended, hW, hsame⟩ := X2.leave (v := some (.int (0 : Int32))) (fun h => by rw [hret] at h; cases h)
  refine ⟨_, _, pre0 _ ?_, hrun, hended, _, _, rfl, ?_, ⟨_, rfl⟩, hW, hsame.mono (by decide) (by decide)⟩
  ·
    show Steps p.tables e below (s₁.setTop (mkF m 0 #[.val (.ref w3), .val (.ref w1)] [])) _
    refine XS.aloadN X0.here hx rfl (hb hby d2_0) rfl rfl ?_
    show Steps p.tables e below (s₁.setTop (mkF m 1 #[.val (.ref w3), .val (.ref w1)] [(.ref w3)])) _
    refine st2.trans ?_
    show Steps p.tables e below (T2.setTop (mkF m 4 #[.val (.ref w3), .val (.ref w1)] [(.int (2 : Int32))])) _
    refine own_lsw X2.here hx rfl (pc0 := 4) (pc' := 65) (o := 61) rfl (hb hby d2_4) rfl (by decide) (by decide) (by decide) (by decide) ?_
    show Steps p.tables e below (T2.setTop (mkF m 65 #[.val (.ref w3), .val (.ref w1)] [])) _
    refine XS.iconst X2.here hx rfl (hb hby d2_65) ?_
    show Steps p.tables e below (T2.setTop (mkF m 66 #[.val (.ref w3), .val (.ref w1)] [(.int (0 : Int32))])) _
    exact retN X2 hx (t := .boolean) hret (by simp) (hb hby d2_66) hr
  ·
    show Q14 Z w1 w2 w3 h0 n0 _ T2.heap _
    rw [e4]
    exact ⟨rfl, N2, rfl⟩
theorem ef15 (m : MethodId) (x0 : Addr) (x1 : Addr) : entryFrame m #[(.ref x0), (.ref x1)] 2 = mkF m 0 #[.val (.ref x0), .val (.ref x1)] [] := by first | (simp [entryFrame, mkF, argsToLocals, Value.category]; done) | rfl
def Q15 (Z : State) (w1 : Addr) (w2 : Addr) (w3 : Addr) (h0 : Heap) (n0 : Nat) (v : Option Value) (h : Heap) (L : List Loc) : Prop :=
  (v = some (.int (0 : Int32)) ∧ Fr n0 L ∧ h = h0)
set_option maxRecDepth 65536 in
set_option maxHeartbeats 40000000 in
theorem rm15 (l : Launch) (Z : State) (a0 : Array Value) (hw : ∀ d ∈ tables_1, d.before a0 Z = true) (w1 : Addr) (w2 : Addr) (w3 : Addr) (G : GW Z w1 w2 w3) (ws : List Jvm.Cond) (h0 : Heap) (n0 : Nat) (O0 : Old Z n0 h0) :
    MetFree l (⟨"com/example/swallow/swallow/engine/invoice/InvoiceStatus", "canBecome", "(Lcom/example/swallow/swallow/engine/invoice/InvoiceStatus;)Z"⟩ : MethodName) (head1 (Jvm.Cond.code (⟨"com/example/swallow/swallow/engine/invoice/InvoiceStatus", "canBecome", "(Lcom/example/swallow/swallow/engine/invoice/InvoiceStatus;)Z"⟩ : MethodName) prog_13_method_4_code 2 (some .boolean) :: ws) ({ frames := 1, cells := 0, slots := 0, locals := 12 } : Room)) (fun a U => a = #[(.ref w3), (.ref w2)] ∧ Z.Warmed39 U.vm ∧ U.heap = h0) (fun _ _ _ _ _ => True) (fun _ U o U' => ∃ v L, o = .returned v ∧ Q15 Z w1 w2 w3 h0 n0 v U'.heap L ∧ FrameEnd U o U' L ({ frames := 1, cells := 0, slots := 0, locals := 12 } : Room).cells ({ frames := 1, cells := 0, slots := 0, locals := 12 } : Room).slots) := by
  obtain ⟨S_w1, E_w1, S_w2, E_w2, S_w3, E_w3, F_w1_ordinal, F_w2_ordinal, F_w3_ordinal⟩ := id G
  refine MetFree.of_bodySF (plainFor_of_name pn2) hisR ?_
  intro p e s m args below meth c s₁ Bd hml0 hP hK
  obtain ⟨rfl, hZ, hh⟩ := hP
  have hx := Bd.exec
  have hby := Bd.bytes
  have hml : c.maxLocals = 2 := hml0
  have hown : s.vm.findClass "com/example/swallow/swallow/engine/invoice/InvoiceStatus" = some m.cls := findClass_of_methodNamed Bd.named
  have hnm := (name_of_methodNamed Bd.named Bd.method).1
  have hret := Bd.returns
  have hlk : meth.locks = false := BodyLoose.notSynchronized Bd
  have X0 : Stand p l e ({ frames := 1, cells := 0, slots := 0, locals := 12 } : Room) s m #[(.ref w3), (.ref w2)] below meth c s₁ [] 0 0 := Stand.of_body Bd
  have e0 : s₁.heap = h0 := by rw [← hh, Bd.state]; rfl
  have N0 := Fr.nil n0
  have pre0 : ∀ t, Steps p.tables e below (s₁.setTop (mkF m 0 #[.val (.ref w3), .val (.ref w2)] [])) t → Steps p.tables e below (s₁.setTop (entryFrame m #[(.ref w3), (.ref w2)] 2)) t := fun t k => castTop (ef15 m w3 w2) k
  obtain ⟨cq1, kq1, q1a, q1b, q1c⟩ := isOf hZ e0 (E_w3.ext O0.2)
  obtain ⟨_, _, ⟨T2, L2, c2, n2⟩, -, X2, ⟨Lc2, hQ2, l2, y2, z2⟩, st2⟩ := X0.virtualBackUp hx (x := (⟨"com/example/swallow/swallow/engine/invoice/InvoiceStatus", "ordinal", "()I"⟩ : MethodName)) (y := (⟨"java/lang/Enum", "ordinal", "()I"⟩ : MethodName)) (owner := "java/lang/Enum") hown (mvT hZ (hw _ (List.mem_of_getElem? (i := 16) rfl))) (mvT hZ (hw _ (List.mem_of_getElem? (i := 17) rfl))) (mvT hZ (hw _ (List.mem_of_getElem? (i := 18) rfl))) (by decide) (mvT hZ (hw _ (List.mem_of_getElem? (i := 20) rfl))) (mvT hZ (hw _ (List.mem_of_getElem? (i := 19) rfl))) (backOf (W := 0) (rm13 l Z a0 hw w1 w2 w3 G []  h0 n0 O0 ) hZ (hw _ (List.mem_of_getElem? (i := 22) rfl)) (hw _ (List.mem_of_getElem? (i := 21) rfl)) (by decide) (by decide)) q1a q1c (g := (mkF m 1 #[.val (.ref w3), .val (.ref w2)] [(.ref w3)])) rfl (by rw [hml]; rfl) (Steps.refl _) (argsL := []) (rest := []) (lenOf pd2 rfl) rfl (by show 2 * 0 + _ ≤ _; exact Nat.le_of_eq rfl) (hb hby d2_1) (fun _ _ => ⟨rfl, e0, (by decide : 0 + 0 ≤ _), (by decide : 0 + 0 ≤ _)⟩)
  dsimp only [Pt.U, Pt.locs, Pt.cells, Pt.slots] at X2 l2 y2 z2 st2 hQ2
  subst l2 y2 z2
  have X2 : Stand p l e ({ frames := 1, cells := 0, slots := 0, locals := 12 } : Room) s m #[(.ref w3), (.ref w2)] below meth c T2 _ 0 0 := X2
  obtain ⟨rfl, Nq3, e4⟩ := hQ2
  have N2 := Fr.app N0 Nq3
  obtain ⟨fs, hr, hrun, hended, hW, hsame⟩ := X2.leave (v := some (.int (0 : Int32))) (fun h => by rw [hret] at h; cases h)
  refine ⟨_, _, pre0 _ ?_, hrun, hended, _, _, rfl, ?_, ⟨_, rfl⟩, hW, hsame.mono (by decide) (by decide)⟩
  ·
    show Steps p.tables e below (s₁.setTop (mkF m 0 #[.val (.ref w3), .val (.ref w2)] [])) _
    refine XS.aloadN X0.here hx rfl (hb hby d2_0) rfl rfl ?_
    show Steps p.tables e below (s₁.setTop (mkF m 1 #[.val (.ref w3), .val (.ref w2)] [(.ref w3)])) _
    refine st2.trans ?_
    show Steps p.tables e below (T2.setTop (mkF m 4 #[.val (.ref w3), .val (.ref w2)] [(.int (2 : Int32))])) _
    refine own_lsw X2.here hx rfl (pc0 := 4) (pc' := 65) (o := 61) rfl (hb hby d2_4) rfl (by decide) (by decide) (by decide) (by decide) ?_
    show Steps p.tables e below (T2.setTop (mkF m 65 #[.val (.ref w3), .val (.ref w2)] [])) _
    refine XS.iconst X2.here hx rfl (hb hby d2_65) ?_
    show Steps p.tables e below (T2.setTop (mkF m 66 #[.val (.ref w3), .val (.ref w2)] [(.int (0 : Int32))])) _
    exact retN X2 hx (t := .boolean) hret (by simp) (hb hby d2_66) hr
  ·
    show Q15 Z w1 w2 w3 h0 n0 _ T2.heap _
    rw [e4]
    exact ⟨rfl, N2, rfl⟩
theorem ef16 (m : MethodId) (x0 : Addr) (x1 : Addr) : entryFrame m #[(.ref x0), (.ref x1)] 2 = mkF m 0 #[.val (.ref x0), .val (.ref x1)] [] := by first | (simp [entryFrame, mkF, argsToLocals, Value.category]; done) | rfl
def Q16 (Z : State) (w1 : Addr) (w2 : Addr) (w3 : Addr) (h0 : Heap) (n0 : Nat) (v : Option Value) (h : Heap) (L : List Loc) : Prop :=
  (v = some (.int (0 : Int32)) ∧ Fr n0 L ∧ h = h0)
set_option maxRecDepth 65536 in
set_option maxHeartbeats 40000000 in
theorem rm16 (l : Launch) (Z : State) (a0 : Array Value) (hw : ∀ d ∈ tables_1, d.before a0 Z = true) (w1 : Addr) (w2 : Addr) (w3 : Addr) (G : GW Z w1 w2 w3) (ws : List Jvm.Cond) (h0 : Heap) (n0 : Nat) (O0 : Old Z n0 h0) :
    MetFree l (⟨"com/example/swallow/swallow/engine/invoice/InvoiceStatus", "canBecome", "(Lcom/example/swallow/swallow/engine/invoice/InvoiceStatus;)Z"⟩ : MethodName) (head1 (Jvm.Cond.code (⟨"com/example/swallow/swallow/engine/invoice/InvoiceStatus", "canBecome", "(Lcom/example/swallow/swallow/engine/invoice/InvoiceStatus;)Z"⟩ : MethodName) prog_13_method_4_code 2 (some .boolean) :: ws) ({ frames := 1, cells := 0, slots := 0, locals := 12 } : Room)) (fun a U => a = #[(.ref w3), (.ref w3)] ∧ Z.Warmed39 U.vm ∧ U.heap = h0) (fun _ _ _ _ _ => True) (fun _ U o U' => ∃ v L, o = .returned v ∧ Q16 Z w1 w2 w3 h0 n0 v U'.heap L ∧ FrameEnd U o U' L ({ frames := 1, cells := 0, slots := 0, locals := 12 } : Room).cells ({ frames := 1, cells := 0, slots := 0, locals := 12 } : Room).slots) := by
  obtain ⟨S_w1, E_w1, S_w2, E_w2, S_w3, E_w3, F_w1_ordinal, F_w2_ordinal, F_w3_ordinal⟩ := id G
  refine MetFree.of_bodySF (plainFor_of_name pn2) hisR ?_
  intro p e s m args below meth c s₁ Bd hml0 hP hK
  obtain ⟨rfl, hZ, hh⟩ := hP
  have hx := Bd.exec
  have hby := Bd.bytes
  have hml : c.maxLocals = 2 := hml0
  have hown : s.vm.findClass "com/example/swallow/swallow/engine/invoice/InvoiceStatus" = some m.cls := findClass_of_methodNamed Bd.named
  have hnm := (name_of_methodNamed Bd.named Bd.method).1
  have hret := Bd.returns
  have hlk : meth.locks = false := BodyLoose.notSynchronized Bd
  have X0 : Stand p l e ({ frames := 1, cells := 0, slots := 0, locals := 12 } : Room) s m #[(.ref w3), (.ref w3)] below meth c s₁ [] 0 0 := Stand.of_body Bd
  have e0 : s₁.heap = h0 := by rw [← hh, Bd.state]; rfl
  have N0 := Fr.nil n0
  have pre0 : ∀ t, Steps p.tables e below (s₁.setTop (mkF m 0 #[.val (.ref w3), .val (.ref w3)] [])) t → Steps p.tables e below (s₁.setTop (entryFrame m #[(.ref w3), (.ref w3)] 2)) t := fun t k => castTop (ef16 m w3 w3) k
  obtain ⟨cq1, kq1, q1a, q1b, q1c⟩ := isOf hZ e0 (E_w3.ext O0.2)
  obtain ⟨_, _, ⟨T2, L2, c2, n2⟩, -, X2, ⟨Lc2, hQ2, l2, y2, z2⟩, st2⟩ := X0.virtualBackUp hx (x := (⟨"com/example/swallow/swallow/engine/invoice/InvoiceStatus", "ordinal", "()I"⟩ : MethodName)) (y := (⟨"java/lang/Enum", "ordinal", "()I"⟩ : MethodName)) (owner := "java/lang/Enum") hown (mvT hZ (hw _ (List.mem_of_getElem? (i := 16) rfl))) (mvT hZ (hw _ (List.mem_of_getElem? (i := 17) rfl))) (mvT hZ (hw _ (List.mem_of_getElem? (i := 18) rfl))) (by decide) (mvT hZ (hw _ (List.mem_of_getElem? (i := 20) rfl))) (mvT hZ (hw _ (List.mem_of_getElem? (i := 19) rfl))) (backOf (W := 0) (rm13 l Z a0 hw w1 w2 w3 G []  h0 n0 O0 ) hZ (hw _ (List.mem_of_getElem? (i := 22) rfl)) (hw _ (List.mem_of_getElem? (i := 21) rfl)) (by decide) (by decide)) q1a q1c (g := (mkF m 1 #[.val (.ref w3), .val (.ref w3)] [(.ref w3)])) rfl (by rw [hml]; rfl) (Steps.refl _) (argsL := []) (rest := []) (lenOf pd2 rfl) rfl (by show 2 * 0 + _ ≤ _; exact Nat.le_of_eq rfl) (hb hby d2_1) (fun _ _ => ⟨rfl, e0, (by decide : 0 + 0 ≤ _), (by decide : 0 + 0 ≤ _)⟩)
  dsimp only [Pt.U, Pt.locs, Pt.cells, Pt.slots] at X2 l2 y2 z2 st2 hQ2
  subst l2 y2 z2
  have X2 : Stand p l e ({ frames := 1, cells := 0, slots := 0, locals := 12 } : Room) s m #[(.ref w3), (.ref w3)] below meth c T2 _ 0 0 := X2
  obtain ⟨rfl, Nq3, e4⟩ := hQ2
  have N2 := Fr.app N0 Nq3
  obtain ⟨fs, hr, hrun, hended, hW, hsame⟩ := X2.leave (v := some (.int (0 : Int32))) (fun h => by rw [hret] at h; cases h)
  refine ⟨_, _, pre0 _ ?_, hrun, hended, _, _, rfl, ?_, ⟨_, rfl⟩, hW, hsame.mono (by decide) (by decide)⟩
  ·
    show Steps p.tables e below (s₁.setTop (mkF m 0 #[.val (.ref w3), .val (.ref w3)] [])) _
    refine XS.aloadN X0.here hx rfl (hb hby d2_0) rfl rfl ?_
    show Steps p.tables e below (s₁.setTop (mkF m 1 #[.val (.ref w3), .val (.ref w3)] [(.ref w3)])) _
    refine st2.trans ?_
    show Steps p.tables e below (T2.setTop (mkF m 4 #[.val (.ref w3), .val (.ref w3)] [(.int (2 : Int32))])) _
    refine own_lsw X2.here hx rfl (pc0 := 4) (pc' := 65) (o := 61) rfl (hb hby d2_4) rfl (by decide) (by decide) (by decide) (by decide) ?_
    show Steps p.tables e below (T2.setTop (mkF m 65 #[.val (.ref w3), .val (.ref w3)] [])) _
    refine XS.iconst X2.here hx rfl (hb hby d2_65) ?_
    show Steps p.tables e below (T2.setTop (mkF m 66 #[.val (.ref w3), .val (.ref w3)] [(.int (0 : Int32))])) _
    exact retN X2 hx (t := .boolean) hret (by simp) (hb hby d2_66) hr
  ·
    show Q16 Z w1 w2 w3 h0 n0 _ T2.heap _
    rw [e4]
    exact ⟨rfl, N2, rfl⟩
theorem ef0 (m : MethodId) (x0 : Int32) (x1 : Int32) : entryFrame m #[(.int x0), (.int x1)] maxLocals = mkF m 0 #[.val (.int x0), .val (.int x1), .unset, .unset, .unset] [] := by first | (simp [entryFrame, mkF, argsToLocals, Value.category, maxLocals]; done) | rfl
set_option maxRecDepth 65536 in
set_option maxHeartbeats 40000000 in
theorem rm0 (l : Launch) (Z : State) (a0 : Array Value) (hw : ∀ d ∈ tables_1, d.before a0 Z = true) (w1 : Addr) (w2 : Addr) (w3 : Addr) (G : GW Z w1 w2 w3) (ws : List Jvm.Cond) (p1 : Int32) (p2 : Int32) (h0 : Heap) (n0 : Nat) (O0 : Old Z n0 h0) :
    MetFree l x (head1 (Jvm.Cond.code x code maxLocals ret :: ws) room_1) (fun a U => a = #[(.int p1), (.int p2)] ∧ Z.Warmed39 U.vm ∧ U.heap = h0) (fun _ _ _ _ _ => True) (fun _ U o U' => ∃ v L, o = .returned v ∧ Q0 n0 v U'.heap L ∧ FrameEnd U o U' L 0 0) := by
  obtain ⟨S_w1, E_w1, S_w2, E_w2, S_w3, E_w3, F_w1_ordinal, F_w2_ordinal, F_w3_ordinal⟩ := id G
  refine MetFree.of_bodySF (plainFor_of_name pn0) hisR ?_
  intro p e s m args below meth c s₁ Bd hml0 hP hK
  obtain ⟨rfl, hZ, hh⟩ := hP
  have hx := Bd.exec
  have hby := Bd.bytes
  have hml : c.maxLocals = 5 := hml0
  have hown : s.vm.findClass "com/example/swallow/swallow/engine/invoice/InvoiceStatusCanBecomePinLaw" = some m.cls := findClass_of_methodNamed Bd.named
  have hnm := (name_of_methodNamed Bd.named Bd.method).1
  have hret := Bd.returns
  have hlk : meth.locks = false := BodyLoose.notSynchronized Bd
  have X0 : Stand p l e room_1 s m #[(.int p1), (.int p2)] below meth c s₁ [] 0 0 := Stand.of_body Bd
  have e0 : s₁.heap = h0 := by rw [← hh, Bd.state]; rfl
  have N0 := Fr.nil n0
  have pre0 : ∀ t, Steps p.tables e below (s₁.setTop (mkF m 0 #[.val (.int p1), .val (.int p2), .unset, .unset, .unset] [])) t → Steps p.tables e below (s₁.setTop (entryFrame m #[(.int p1), (.int p2)] maxLocals)) t := fun t k => castTop (ef0 m p1 p2) k
  obtain ⟨_, _, ⟨T1, L1, c1, n1⟩, -, X1, ⟨Lc1, hQ1, l1, y1, z1⟩, st1⟩ := Jvm.LawKit.callS X0 hx (y := (⟨"com/example/swallow/swallow/engine/invoice/InvoiceStatusCanBecomePinLaw", "pick", "(I)Lcom/example/swallow/swallow/engine/invoice/InvoiceStatus;"⟩ : MethodName)) hown (mvT hZ (hw _ (List.mem_of_getElem? (i := 1) rfl))) (mvT hZ (hw _ (List.mem_of_getElem? (i := 2) rfl))) (mvT hZ (hw _ (List.mem_of_getElem? (i := 3) rfl))) (mvT hZ (hw _ (List.mem_of_getElem? (i := 4) rfl))) (by decide) (backOf (W := 0) (rm1 l Z a0 hw w1 w2 w3 G [] (((p1 &&& (2147483647 : Int32)) % (3 : Int32))) h0 n0 O0 ) hZ (hw _ (List.mem_of_getElem? (i := 4) rfl)) (hw _ (List.mem_of_getElem? (i := 3) rfl)) (by decide) (by decide)) (g := (mkF m 6 #[.val (.int p1), .val (.int p2), .unset, .unset, .unset] [(.int ((p1 &&& (2147483647 : Int32)) % (3 : Int32)))])) rfl (by rw [hml]; rfl) (argsL := [(.int ((p1 &&& (2147483647 : Int32)) % (3 : Int32)))]) (rest := []) (lenOf pd0 rfl) rfl (by show 2 * 0 + _ ≤ _; exact Nat.le_of_eq rfl) (hb hby at_6) (fun _ _ => ⟨rfl, e0, (by decide : 0 + 0 ≤ _), (by decide : 0 + 0 ≤ _)⟩)
  dsimp only [Pt.U, Pt.locs, Pt.cells, Pt.slots] at X1 l1 y1 z1 st1 hQ1
  subst l1 y1 z1
  have pre2 : ∀ t, Steps p.tables e below (s₁.setTop (mkF m 6 #[.val (.int p1), .val (.int p2), .unset, .unset, .unset] [(.int ((p1 &&& (2147483647 : Int32)) % (3 : Int32)))])) t → Steps p.tables e below (s₁.setTop (entryFrame m #[(.int p1), (.int p2)] maxLocals)) t := fun t k => by
    refine pre0 _ ?_
    show Steps p.tables e below (s₁.setTop (mkF m 0 #[.val (.int p1), .val (.int p2), .unset, .unset, .unset] [])) _
    refine XS.iloadN X0.here hx rfl (hb hby at_0) rfl ?_
    show Steps p.tables e below (s₁.setTop (mkF m 1 #[.val (.int p1), .val (.int p2), .unset, .unset, .unset] [(.int p1)])) _
    refine X0.ldcInt hx hown (mvT hZ (hw _ (List.mem_of_getElem? (i := 0) rfl))) (g := (mkF m 1 #[.val (.int p1), .val (.int p2), .unset, .unset, .unset] [(.int p1)])) rfl (hb hby at_1) _ ?_
    show Steps p.tables e below (s₁.setTop (mkF m 3 #[.val (.int p1), .val (.int p2), .unset, .unset, .unset] [(.int (2147483647 : Int32)), (.int p1)])) _
    refine XS.iand X0.here hx rfl (hb hby at_3) rfl ?_
    show Steps p.tables e below (s₁.setTop (mkF m 4 #[.val (.int p1), .val (.int p2), .unset, .unset, .unset] [(.int (p1 &&& (2147483647 : Int32)))])) _
    refine XS.iconst X0.here hx rfl (hb hby at_4) ?_
    show Steps p.tables e below (s₁.setTop (mkF m 5 #[.val (.int p1), .val (.int p2), .unset, .unset, .unset] [(.int (3 : Int32)), (.int (p1 &&& (2147483647 : Int32)))])) _
    refine iremM X0 hx rfl (hb hby at_5) rfl (by decide : ¬ ((3 : Int32) = (0 : Int32))) ?_
    exact k
  have X1 : Stand p l e room_1 s m #[(.int p1), (.int p2)] below meth c T1 _ 0 0 := X1
  rcases hQ1 with ⟨hc3, rfl, Nq4, e5⟩ | ⟨hc6, hc7, rfl, Nq8, e9⟩ | ⟨hc10, hc11, rfl, Nq12, e13⟩
  ·
    have N1 := Fr.app N0 Nq4
    obtain ⟨_, _, ⟨T14, L14, c14, n14⟩, -, X14, ⟨Lc14, hQ14, l14, y14, z14⟩, st14⟩ := Jvm.LawKit.callS X1 hx (y := (⟨"com/example/swallow/swallow/engine/invoice/InvoiceStatusCanBecomePinLaw", "pick", "(I)Lcom/example/swallow/swallow/engine/invoice/InvoiceStatus;"⟩ : MethodName)) hown (mvT hZ (hw _ (List.mem_of_getElem? (i := 1) rfl))) (mvT hZ (hw _ (List.mem_of_getElem? (i := 2) rfl))) (mvT hZ (hw _ (List.mem_of_getElem? (i := 3) rfl))) (mvT hZ (hw _ (List.mem_of_getElem? (i := 4) rfl))) (by decide) (backOf (W := 0) (rm1 l Z a0 hw w1 w2 w3 G [] (((p2 &&& (2147483647 : Int32)) % (3 : Int32))) h0 n0 O0 ) hZ (hw _ (List.mem_of_getElem? (i := 4) rfl)) (hw _ (List.mem_of_getElem? (i := 3) rfl)) (by decide) (by decide)) (g := (mkF m 16 #[.val (.int p1), .val (.int p2), .val (.ref w1), .unset, .unset] [(.int ((p2 &&& (2147483647 : Int32)) % (3 : Int32)))])) rfl (by rw [hml]; rfl) (argsL := [(.int ((p2 &&& (2147483647 : Int32)) % (3 : Int32)))]) (rest := []) (lenOf pd0 rfl) rfl (by show 2 * 0 + _ ≤ _; exact Nat.le_of_eq rfl) (hb hby at_16) (fun _ _ => ⟨rfl, e5, (by decide : 0 + 0 ≤ _), (by decide : 0 + 0 ≤ _)⟩)
    dsimp only [Pt.U, Pt.locs, Pt.cells, Pt.slots] at X14 l14 y14 z14 st14 hQ14
    subst l14 y14 z14
    have pre15 : ∀ t, Steps p.tables e below (T1.setTop (mkF m 16 #[.val (.int p1), .val (.int p2), .val (.ref w1), .unset, .unset] [(.int ((p2 &&& (2147483647 : Int32)) % (3 : Int32)))])) t → Steps p.tables e below (s₁.setTop (entryFrame m #[(.int p1), (.int p2)] maxLocals)) t := fun t k => by
      refine pre2 _ ?_
      show Steps p.tables e below (s₁.setTop (mkF m 6 #[.val (.int p1), .val (.int p2), .unset, .unset, .unset] [(.int ((p1 &&& (2147483647 : Int32)) % (3 : Int32)))])) _
      refine st1 _ ?_
      show Steps p.tables e below (T1.setTop (mkF m 9 #[.val (.int p1), .val (.int p2), .unset, .unset, .unset] [(.ref w1)])) _
      refine XS.astoreN X1.here hx rfl (hb hby at_9) rfl rfl (l' := #[.val (.int p1), .val (.int p2), .val (.ref w1), .unset, .unset]) rfl ?_
      show Steps p.tables e below (T1.setTop (mkF m 10 #[.val (.int p1), .val (.int p2), .val (.ref w1), .unset, .unset] [])) _
      refine XS.iloadN X1.here hx rfl (hb hby at_10) rfl ?_
      show Steps p.tables e below (T1.setTop (mkF m 11 #[.val (.int p1), .val (.int p2), .val (.ref w1), .unset, .unset] [(.int p2)])) _
      refine X1.ldcInt hx hown (mvT hZ (hw _ (List.mem_of_getElem? (i := 0) rfl))) (g := (mkF m 11 #[.val (.int p1), .val (.int p2), .val (.ref w1), .unset, .unset] [(.int p2)])) rfl (hb hby at_11) _ ?_
      show Steps p.tables e below (T1.setTop (mkF m 13 #[.val (.int p1), .val (.int p2), .val (.ref w1), .unset, .unset] [(.int (2147483647 : Int32)), (.int p2)])) _
      refine XS.iand X1.here hx rfl (hb hby at_13) rfl ?_
      show Steps p.tables e below (T1.setTop (mkF m 14 #[.val (.int p1), .val (.int p2), .val (.ref w1), .unset, .unset] [(.int (p2 &&& (2147483647 : Int32)))])) _
      refine XS.iconst X1.here hx rfl (hb hby at_14) ?_
      show Steps p.tables e below (T1.setTop (mkF m 15 #[.val (.int p1), .val (.int p2), .val (.ref w1), .unset, .unset] [(.int (3 : Int32)), (.int (p2 &&& (2147483647 : Int32)))])) _
      refine iremM X1 hx rfl (hb hby at_15) rfl (by decide : ¬ ((3 : Int32) = (0 : Int32))) ?_
      exact k
    have X14 : Stand p l e room_1 s m #[(.int p1), (.int p2)] below meth c T14 _ 0 0 := X14
    rcases hQ14 with ⟨hc16, rfl, Nq17, e18⟩ | ⟨hc19, hc20, rfl, Nq21, e22⟩ | ⟨hc23, hc24, rfl, Nq25, e26⟩
    ·
      have N14 := Fr.app N1 Nq17
      obtain ⟨_, _, ⟨T27, L27, c27, n27⟩, -, X27, ⟨Lc27, hQ27, l27, y27, z27⟩, st27⟩ := Jvm.LawKit.callS X14 hx (y := (⟨"com/example/swallow/swallow/engine/invoice/InvoiceStatusCanBecomePinLaw", "rank", "(Lcom/example/swallow/swallow/engine/invoice/InvoiceStatus;)I"⟩ : MethodName)) hown (mvT hZ (hw _ (List.mem_of_getElem? (i := 8) rfl))) (mvT hZ (hw _ (List.mem_of_getElem? (i := 9) rfl))) (mvT hZ (hw _ (List.mem_of_getElem? (i := 3) rfl))) (mvT hZ (hw _ (List.mem_of_getElem? (i := 10) rfl))) (by decide) (backOf (W := 0) (rm2 l Z a0 hw w1 w2 w3 G []  h0 n0 O0 ) hZ (hw _ (List.mem_of_getElem? (i := 10) rfl)) (hw _ (List.mem_of_getElem? (i := 3) rfl)) (by decide) (by decide)) (g := (mkF m 21 #[.val (.int p1), .val (.int p2), .val (.ref w1), .val (.ref w1), .unset] [(.ref w1)])) rfl (by rw [hml]; rfl) (argsL := [(.ref w1)]) (rest := []) (lenOf pd1 rfl) rfl (by show 2 * 0 + _ ≤ _; exact Nat.le_of_eq rfl) (hb hby at_21) (fun _ _ => ⟨rfl, e18, (by decide : 0 + 0 ≤ _), (by decide : 0 + 0 ≤ _)⟩)
      dsimp only [Pt.U, Pt.locs, Pt.cells, Pt.slots] at X27 l27 y27 z27 st27 hQ27
      subst l27 y27 z27
      have X27 : Stand p l e room_1 s m #[(.int p1), (.int p2)] below meth c T27 _ 0 0 := X27
      obtain ⟨rfl, Nq28, e29⟩ := hQ27
      have N27 := Fr.app N14 Nq28
      obtain ⟨_, _, ⟨T30, L30, c30, n30⟩, -, X30, ⟨Lc30, hQ30, l30, y30, z30⟩, st30⟩ := Jvm.LawKit.callS X27 hx (y := (⟨"com/example/swallow/swallow/engine/invoice/InvoiceStatusCanBecomePinLaw", "rank", "(Lcom/example/swallow/swallow/engine/invoice/InvoiceStatus;)I"⟩ : MethodName)) hown (mvT hZ (hw _ (List.mem_of_getElem? (i := 8) rfl))) (mvT hZ (hw _ (List.mem_of_getElem? (i := 9) rfl))) (mvT hZ (hw _ (List.mem_of_getElem? (i := 3) rfl))) (mvT hZ (hw _ (List.mem_of_getElem? (i := 10) rfl))) (by decide) (backOf (W := 1) (rm2 l Z a0 hw w1 w2 w3 G []  h0 n0 O0 ) hZ (hw _ (List.mem_of_getElem? (i := 10) rfl)) (hw _ (List.mem_of_getElem? (i := 3) rfl)) (by decide) (by decide)) (g := (mkF m 25 #[.val (.int p1), .val (.int p2), .val (.ref w1), .val (.ref w1), .unset] [(.ref w1), (.int (0 : Int32))])) rfl (by rw [hml]; rfl) (argsL := [(.ref w1)]) (rest := [(.int (0 : Int32))]) (lenOf pd1 rfl) rfl (by show 2 * 0 + _ ≤ _; exact Nat.le_of_eq rfl) (hb hby at_25) (fun _ _ => ⟨rfl, e29, (by decide : 0 + 0 ≤ _), (by decide : 0 + 0 ≤ _)⟩)
      dsimp only [Pt.U, Pt.locs, Pt.cells, Pt.slots] at X30 l30 y30 z30 st30 hQ30
      subst l30 y30 z30
      have X30 : Stand p l e room_1 s m #[(.int p1), (.int p2)] below meth c T30 _ 0 0 := X30
      obtain ⟨rfl, Nq31, e32⟩ := hQ30
      have N30 := Fr.app N27 Nq31
      obtain ⟨cq33, kq33, q33a, q33b, q33c⟩ := isOf hZ e32 (E_w1.ext O0.2)
      obtain ⟨_, _, ⟨T34, L34, c34, n34⟩, -, X34, ⟨Lc34, hQ34, l34, y34, z34⟩, st34⟩ := X30.virtualBack hx (y := (⟨"com/example/swallow/swallow/engine/invoice/InvoiceStatus", "canBecome", "(Lcom/example/swallow/swallow/engine/invoice/InvoiceStatus;)Z"⟩ : MethodName)) (z := (⟨"com/example/swallow/swallow/engine/invoice/InvoiceStatus", "canBecome", "(Lcom/example/swallow/swallow/engine/invoice/InvoiceStatus;)Z"⟩ : MethodName)) hown (mvT hZ (hw _ (List.mem_of_getElem? (i := 11) rfl))) (mvT hZ (hw _ (List.mem_of_getElem? (i := 12) rfl))) (notFace_of_selects (args := #[]) (mvT hZ (hw _ (List.mem_of_getElem? (i := 14) rfl)))) (mvT hZ (hw _ (List.mem_of_getElem? (i := 14) rfl))) (mvT hZ (hw _ (List.mem_of_getElem? (i := 13) rfl))) (by decide) (backOf (W := 0) (rm4 l Z a0 hw w1 w2 w3 G []  h0 n0 O0 ) hZ (hw _ (List.mem_of_getElem? (i := 15) rfl)) (hw _ (List.mem_of_getElem? (i := 6) rfl)) (by decide) (by decide)) q33a q33c (g := (mkF m 40 #[.val (.int p1), .val (.int p2), .val (.ref w1), .val (.ref w1), .val (.int (0 : Int32))] [(.ref w1), (.ref w1)])) rfl (by rw [hml]; rfl) (Steps.refl _) (argsL := [(.ref w1)]) (rest := []) (lenOf pd3 rfl) rfl (by show 2 * 0 + _ ≤ _; exact Nat.le_of_eq rfl) (hb hby at_40) (fun _ _ => ⟨rfl, e32, (by decide : 0 + 0 ≤ _), (by decide : 0 + 0 ≤ _)⟩)
      dsimp only [Pt.U, Pt.locs, Pt.cells, Pt.slots] at X34 l34 y34 z34 st34 hQ34
      subst l34 y34 z34
      have X34 : Stand p l e room_1 s m #[(.int p1), (.int p2)] below meth c T34 _ 0 0 := X34
      obtain ⟨rfl, Nq35, e36⟩ := hQ34
      have N34 := Fr.app N30 Nq35
      obtain ⟨fs, hr, hrun, hended, hW, hsame⟩ := X34.leave (v := some (.int (1 : Int32))) (fun h => by rw [hret] at h; cases h)
      refine ⟨_, _, pre15 _ ?_, hrun, hended, _, _, rfl, ?_, ⟨_, rfl⟩, hW, hsame.mono (by decide) (by decide)⟩
      ·
        show Steps p.tables e below (T1.setTop (mkF m 16 #[.val (.int p1), .val (.int p2), .val (.ref w1), .unset, .unset] [(.int ((p2 &&& (2147483647 : Int32)) % (3 : Int32)))])) _
        refine st14 _ ?_
        show Steps p.tables e below (T14.setTop (mkF m 19 #[.val (.int p1), .val (.int p2), .val (.ref w1), .unset, .unset] [(.ref w1)])) _
        refine XS.astoreN X14.here hx rfl (hb hby at_19) rfl rfl (l' := #[.val (.int p1), .val (.int p2), .val (.ref w1), .val (.ref w1), .unset]) rfl ?_
        show Steps p.tables e below (T14.setTop (mkF m 20 #[.val (.int p1), .val (.int p2), .val (.ref w1), .val (.ref w1), .unset] [])) _
        refine XS.aloadN X14.here hx rfl (hb hby at_20) rfl rfl ?_
        show Steps p.tables e below (T14.setTop (mkF m 21 #[.val (.int p1), .val (.int p2), .val (.ref w1), .val (.ref w1), .unset] [(.ref w1)])) _
        refine st27 _ ?_
        show Steps p.tables e below (T27.setTop (mkF m 24 #[.val (.int p1), .val (.int p2), .val (.ref w1), .val (.ref w1), .unset] [(.int (0 : Int32))])) _
        refine XS.aloadN X27.here hx rfl (hb hby at_24) rfl rfl ?_
        show Steps p.tables e below (T27.setTop (mkF m 25 #[.val (.int p1), .val (.int p2), .val (.ref w1), .val (.ref w1), .unset] [(.ref w1), (.int (0 : Int32))])) _
        refine st30 _ ?_
        show Steps p.tables e below (T30.setTop (mkF m 28 #[.val (.int p1), .val (.int p2), .val (.ref w1), .val (.ref w1), .unset] [(.int (0 : Int32)), (.int (0 : Int32))])) _
        refine XS.icmpYes X30.here hx rfl (pc0 := 28) (pc' := 35) rfl (hb hby at_28) rfl (flt (by decide : ¬ ((0 : Int32) < (0 : Int32)))).2.1 (by decide) (by decide) ?_
        show Steps p.tables e below (T30.setTop (mkF m 35 #[.val (.int p1), .val (.int p2), .val (.ref w1), .val (.ref w1), .unset] [])) _
        refine XS.iconst X30.here hx rfl (hb hby at_35) ?_
        show Steps p.tables e below (T30.setTop (mkF m 36 #[.val (.int p1), .val (.int p2), .val (.ref w1), .val (.ref w1), .unset] [(.int (0 : Int32))])) _
        refine XS.istore X30.here hx rfl (hb hby at_36) rfl (l' := #[.val (.int p1), .val (.int p2), .val (.ref w1), .val (.ref w1), .val (.int (0 : Int32))]) rfl ?_
        show Steps p.tables e below (T30.setTop (mkF m 38 #[.val (.int p1), .val (.int p2), .val (.ref w1), .val (.ref w1), .val (.int (0 : Int32))] [])) _
        refine XS.aloadN X30.here hx rfl (hb hby at_38) rfl rfl ?_
        show Steps p.tables e below (T30.setTop (mkF m 39 #[.val (.int p1), .val (.int p2), .val (.ref w1), .val (.ref w1), .val (.int (0 : Int32))] [(.ref w1)])) _
        refine XS.aloadN X30.here hx rfl (hb hby at_39) rfl rfl ?_
        show Steps p.tables e below (T30.setTop (mkF m 40 #[.val (.int p1), .val (.int p2), .val (.ref w1), .val (.ref w1), .val (.int (0 : Int32))] [(.ref w1), (.ref w1)])) _
        refine st34.trans ?_
        show Steps p.tables e below (T34.setTop (mkF m 43 #[.val (.int p1), .val (.int p2), .val (.ref w1), .val (.ref w1), .val (.int (0 : Int32))] [(.int (0 : Int32))])) _
        refine XS.iload X34.here hx rfl (hb hby at_43) rfl ?_
        show Steps p.tables e below (T34.setTop (mkF m 45 #[.val (.int p1), .val (.int p2), .val (.ref w1), .val (.ref w1), .val (.int (0 : Int32))] [(.int (0 : Int32)), (.int (0 : Int32))])) _
        refine XS.icmpNo X34.here hx rfl (hb hby at_45) rfl (teq (by decide : (0 : Int32) = (0 : Int32))).2 ?_
        show Steps p.tables e below (T34.setTop (mkF m 48 #[.val (.int p1), .val (.int p2), .val (.ref w1), .val (.ref w1), .val (.int (0 : Int32))] [])) _
        refine XS.iconst X34.here hx rfl (hb hby at_48) ?_
        show Steps p.tables e below (T34.setTop (mkF m 49 #[.val (.int p1), .val (.int p2), .val (.ref w1), .val (.ref w1), .val (.int (0 : Int32))] [(.int (1 : Int32))])) _
        refine XS.goto X34.here hx rfl (pc0 := 49) (pc' := 53) rfl (hb hby at_49) (by decide) (by decide) ?_
        show Steps p.tables e below (T34.setTop (mkF m 53 #[.val (.int p1), .val (.int p2), .val (.ref w1), .val (.ref w1), .val (.int (0 : Int32))] [(.int (1 : Int32))])) _
        exact retN X34 hx (t := .boolean) hret (by simp) (hb hby at_53) hr
      ·
        show Q0 n0 _ T34.heap _
        rw [e36]
        exact ⟨rfl, N34⟩
    ·
      have N14 := Fr.app N1 Nq21
      obtain ⟨_, _, ⟨T37, L37, c37, n37⟩, -, X37, ⟨Lc37, hQ37, l37, y37, z37⟩, st37⟩ := Jvm.LawKit.callS X14 hx (y := (⟨"com/example/swallow/swallow/engine/invoice/InvoiceStatusCanBecomePinLaw", "rank", "(Lcom/example/swallow/swallow/engine/invoice/InvoiceStatus;)I"⟩ : MethodName)) hown (mvT hZ (hw _ (List.mem_of_getElem? (i := 8) rfl))) (mvT hZ (hw _ (List.mem_of_getElem? (i := 9) rfl))) (mvT hZ (hw _ (List.mem_of_getElem? (i := 3) rfl))) (mvT hZ (hw _ (List.mem_of_getElem? (i := 10) rfl))) (by decide) (backOf (W := 0) (rm2 l Z a0 hw w1 w2 w3 G []  h0 n0 O0 ) hZ (hw _ (List.mem_of_getElem? (i := 10) rfl)) (hw _ (List.mem_of_getElem? (i := 3) rfl)) (by decide) (by decide)) (g := (mkF m 21 #[.val (.int p1), .val (.int p2), .val (.ref w1), .val (.ref w2), .unset] [(.ref w1)])) rfl (by rw [hml]; rfl) (argsL := [(.ref w1)]) (rest := []) (lenOf pd1 rfl) rfl (by show 2 * 0 + _ ≤ _; exact Nat.le_of_eq rfl) (hb hby at_21) (fun _ _ => ⟨rfl, e22, (by decide : 0 + 0 ≤ _), (by decide : 0 + 0 ≤ _)⟩)
      dsimp only [Pt.U, Pt.locs, Pt.cells, Pt.slots] at X37 l37 y37 z37 st37 hQ37
      subst l37 y37 z37
      have X37 : Stand p l e room_1 s m #[(.int p1), (.int p2)] below meth c T37 _ 0 0 := X37
      obtain ⟨rfl, Nq38, e39⟩ := hQ37
      have N37 := Fr.app N14 Nq38
      obtain ⟨_, _, ⟨T40, L40, c40, n40⟩, -, X40, ⟨Lc40, hQ40, l40, y40, z40⟩, st40⟩ := Jvm.LawKit.callS X37 hx (y := (⟨"com/example/swallow/swallow/engine/invoice/InvoiceStatusCanBecomePinLaw", "rank", "(Lcom/example/swallow/swallow/engine/invoice/InvoiceStatus;)I"⟩ : MethodName)) hown (mvT hZ (hw _ (List.mem_of_getElem? (i := 8) rfl))) (mvT hZ (hw _ (List.mem_of_getElem? (i := 9) rfl))) (mvT hZ (hw _ (List.mem_of_getElem? (i := 3) rfl))) (mvT hZ (hw _ (List.mem_of_getElem? (i := 10) rfl))) (by decide) (backOf (W := 1) (rm5 l Z a0 hw w1 w2 w3 G []  h0 n0 O0 ) hZ (hw _ (List.mem_of_getElem? (i := 10) rfl)) (hw _ (List.mem_of_getElem? (i := 3) rfl)) (by decide) (by decide)) (g := (mkF m 25 #[.val (.int p1), .val (.int p2), .val (.ref w1), .val (.ref w2), .unset] [(.ref w2), (.int (0 : Int32))])) rfl (by rw [hml]; rfl) (argsL := [(.ref w2)]) (rest := [(.int (0 : Int32))]) (lenOf pd1 rfl) rfl (by show 2 * 0 + _ ≤ _; exact Nat.le_of_eq rfl) (hb hby at_25) (fun _ _ => ⟨rfl, e39, (by decide : 0 + 0 ≤ _), (by decide : 0 + 0 ≤ _)⟩)
      dsimp only [Pt.U, Pt.locs, Pt.cells, Pt.slots] at X40 l40 y40 z40 st40 hQ40
      subst l40 y40 z40
      have X40 : Stand p l e room_1 s m #[(.int p1), (.int p2)] below meth c T40 _ 0 0 := X40
      obtain ⟨rfl, Nq41, e42⟩ := hQ40
      have N40 := Fr.app N37 Nq41
      obtain ⟨cq43, kq43, q43a, q43b, q43c⟩ := isOf hZ e42 (E_w1.ext O0.2)
      obtain ⟨_, _, ⟨T44, L44, c44, n44⟩, -, X44, ⟨Lc44, hQ44, l44, y44, z44⟩, st44⟩ := X40.virtualBack hx (y := (⟨"com/example/swallow/swallow/engine/invoice/InvoiceStatus", "canBecome", "(Lcom/example/swallow/swallow/engine/invoice/InvoiceStatus;)Z"⟩ : MethodName)) (z := (⟨"com/example/swallow/swallow/engine/invoice/InvoiceStatus", "canBecome", "(Lcom/example/swallow/swallow/engine/invoice/InvoiceStatus;)Z"⟩ : MethodName)) hown (mvT hZ (hw _ (List.mem_of_getElem? (i := 11) rfl))) (mvT hZ (hw _ (List.mem_of_getElem? (i := 12) rfl))) (notFace_of_selects (args := #[]) (mvT hZ (hw _ (List.mem_of_getElem? (i := 14) rfl)))) (mvT hZ (hw _ (List.mem_of_getElem? (i := 14) rfl))) (mvT hZ (hw _ (List.mem_of_getElem? (i := 13) rfl))) (by decide) (backOf (W := 0) (rm6 l Z a0 hw w1 w2 w3 G []  h0 n0 O0 ) hZ (hw _ (List.mem_of_getElem? (i := 15) rfl)) (hw _ (List.mem_of_getElem? (i := 6) rfl)) (by decide) (by decide)) q43a q43c (g := (mkF m 40 #[.val (.int p1), .val (.int p2), .val (.ref w1), .val (.ref w2), .val (.int (1 : Int32))] [(.ref w2), (.ref w1)])) rfl (by rw [hml]; rfl) (Steps.refl _) (argsL := [(.ref w2)]) (rest := []) (lenOf pd3 rfl) rfl (by show 2 * 0 + _ ≤ _; exact Nat.le_of_eq rfl) (hb hby at_40) (fun _ _ => ⟨rfl, e42, (by decide : 0 + 0 ≤ _), (by decide : 0 + 0 ≤ _)⟩)
      dsimp only [Pt.U, Pt.locs, Pt.cells, Pt.slots] at X44 l44 y44 z44 st44 hQ44
      subst l44 y44 z44
      have X44 : Stand p l e room_1 s m #[(.int p1), (.int p2)] below meth c T44 _ 0 0 := X44
      obtain ⟨rfl, Nq45, e46⟩ := hQ44
      have N44 := Fr.app N40 Nq45
      obtain ⟨fs, hr, hrun, hended, hW, hsame⟩ := X44.leave (v := some (.int (1 : Int32))) (fun h => by rw [hret] at h; cases h)
      refine ⟨_, _, pre15 _ ?_, hrun, hended, _, _, rfl, ?_, ⟨_, rfl⟩, hW, hsame.mono (by decide) (by decide)⟩
      ·
        show Steps p.tables e below (T1.setTop (mkF m 16 #[.val (.int p1), .val (.int p2), .val (.ref w1), .unset, .unset] [(.int ((p2 &&& (2147483647 : Int32)) % (3 : Int32)))])) _
        refine st14 _ ?_
        show Steps p.tables e below (T14.setTop (mkF m 19 #[.val (.int p1), .val (.int p2), .val (.ref w1), .unset, .unset] [(.ref w2)])) _
        refine XS.astoreN X14.here hx rfl (hb hby at_19) rfl rfl (l' := #[.val (.int p1), .val (.int p2), .val (.ref w1), .val (.ref w2), .unset]) rfl ?_
        show Steps p.tables e below (T14.setTop (mkF m 20 #[.val (.int p1), .val (.int p2), .val (.ref w1), .val (.ref w2), .unset] [])) _
        refine XS.aloadN X14.here hx rfl (hb hby at_20) rfl rfl ?_
        show Steps p.tables e below (T14.setTop (mkF m 21 #[.val (.int p1), .val (.int p2), .val (.ref w1), .val (.ref w2), .unset] [(.ref w1)])) _
        refine st37 _ ?_
        show Steps p.tables e below (T37.setTop (mkF m 24 #[.val (.int p1), .val (.int p2), .val (.ref w1), .val (.ref w2), .unset] [(.int (0 : Int32))])) _
        refine XS.aloadN X37.here hx rfl (hb hby at_24) rfl rfl ?_
        show Steps p.tables e below (T37.setTop (mkF m 25 #[.val (.int p1), .val (.int p2), .val (.ref w1), .val (.ref w2), .unset] [(.ref w2), (.int (0 : Int32))])) _
        refine st40 _ ?_
        show Steps p.tables e below (T40.setTop (mkF m 28 #[.val (.int p1), .val (.int p2), .val (.ref w1), .val (.ref w2), .unset] [(.int (1 : Int32)), (.int (0 : Int32))])) _
        refine XS.icmpNo X40.here hx rfl (hb hby at_28) rfl (tlt (by decide : (0 : Int32) < (1 : Int32))).2.1 ?_
        show Steps p.tables e below (T40.setTop (mkF m 31 #[.val (.int p1), .val (.int p2), .val (.ref w1), .val (.ref w2), .unset] [])) _
        refine XS.iconst X40.here hx rfl (hb hby at_31) ?_
        show Steps p.tables e below (T40.setTop (mkF m 32 #[.val (.int p1), .val (.int p2), .val (.ref w1), .val (.ref w2), .unset] [(.int (1 : Int32))])) _
        refine XS.goto X40.here hx rfl (pc0 := 32) (pc' := 36) rfl (hb hby at_32) (by decide) (by decide) ?_
        show Steps p.tables e below (T40.setTop (mkF m 36 #[.val (.int p1), .val (.int p2), .val (.ref w1), .val (.ref w2), .unset] [(.int (1 : Int32))])) _
        refine XS.istore X40.here hx rfl (hb hby at_36) rfl (l' := #[.val (.int p1), .val (.int p2), .val (.ref w1), .val (.ref w2), .val (.int (1 : Int32))]) rfl ?_
        show Steps p.tables e below (T40.setTop (mkF m 38 #[.val (.int p1), .val (.int p2), .val (.ref w1), .val (.ref w2), .val (.int (1 : Int32))] [])) _
        refine XS.aloadN X40.here hx rfl (hb hby at_38) rfl rfl ?_
        show Steps p.tables e below (T40.setTop (mkF m 39 #[.val (.int p1), .val (.int p2), .val (.ref w1), .val (.ref w2), .val (.int (1 : Int32))] [(.ref w1)])) _
        refine XS.aloadN X40.here hx rfl (hb hby at_39) rfl rfl ?_
        show Steps p.tables e below (T40.setTop (mkF m 40 #[.val (.int p1), .val (.int p2), .val (.ref w1), .val (.ref w2), .val (.int (1 : Int32))] [(.ref w2), (.ref w1)])) _
        refine st44.trans ?_
        show Steps p.tables e below (T44.setTop (mkF m 43 #[.val (.int p1), .val (.int p2), .val (.ref w1), .val (.ref w2), .val (.int (1 : Int32))] [(.int (1 : Int32))])) _
        refine XS.iload X44.here hx rfl (hb hby at_43) rfl ?_
        show Steps p.tables e below (T44.setTop (mkF m 45 #[.val (.int p1), .val (.int p2), .val (.ref w1), .val (.ref w2), .val (.int (1 : Int32))] [(.int (1 : Int32)), (.int (1 : Int32))])) _
        refine XS.icmpNo X44.here hx rfl (hb hby at_45) rfl (teq (by decide : (1 : Int32) = (1 : Int32))).2 ?_
        show Steps p.tables e below (T44.setTop (mkF m 48 #[.val (.int p1), .val (.int p2), .val (.ref w1), .val (.ref w2), .val (.int (1 : Int32))] [])) _
        refine XS.iconst X44.here hx rfl (hb hby at_48) ?_
        show Steps p.tables e below (T44.setTop (mkF m 49 #[.val (.int p1), .val (.int p2), .val (.ref w1), .val (.ref w2), .val (.int (1 : Int32))] [(.int (1 : Int32))])) _
        refine XS.goto X44.here hx rfl (pc0 := 49) (pc' := 53) rfl (hb hby at_49) (by decide) (by decide) ?_
        show Steps p.tables e below (T44.setTop (mkF m 53 #[.val (.int p1), .val (.int p2), .val (.ref w1), .val (.ref w2), .val (.int (1 : Int32))] [(.int (1 : Int32))])) _
        exact retN X44 hx (t := .boolean) hret (by simp) (hb hby at_53) hr
      ·
        show Q0 n0 _ T44.heap _
        rw [e46]
        exact ⟨rfl, N44⟩
    ·
      have N14 := Fr.app N1 Nq25
      obtain ⟨_, _, ⟨T47, L47, c47, n47⟩, -, X47, ⟨Lc47, hQ47, l47, y47, z47⟩, st47⟩ := Jvm.LawKit.callS X14 hx (y := (⟨"com/example/swallow/swallow/engine/invoice/InvoiceStatusCanBecomePinLaw", "rank", "(Lcom/example/swallow/swallow/engine/invoice/InvoiceStatus;)I"⟩ : MethodName)) hown (mvT hZ (hw _ (List.mem_of_getElem? (i := 8) rfl))) (mvT hZ (hw _ (List.mem_of_getElem? (i := 9) rfl))) (mvT hZ (hw _ (List.mem_of_getElem? (i := 3) rfl))) (mvT hZ (hw _ (List.mem_of_getElem? (i := 10) rfl))) (by decide) (backOf (W := 0) (rm2 l Z a0 hw w1 w2 w3 G []  h0 n0 O0 ) hZ (hw _ (List.mem_of_getElem? (i := 10) rfl)) (hw _ (List.mem_of_getElem? (i := 3) rfl)) (by decide) (by decide)) (g := (mkF m 21 #[.val (.int p1), .val (.int p2), .val (.ref w1), .val (.ref w3), .unset] [(.ref w1)])) rfl (by rw [hml]; rfl) (argsL := [(.ref w1)]) (rest := []) (lenOf pd1 rfl) rfl (by show 2 * 0 + _ ≤ _; exact Nat.le_of_eq rfl) (hb hby at_21) (fun _ _ => ⟨rfl, e26, (by decide : 0 + 0 ≤ _), (by decide : 0 + 0 ≤ _)⟩)
      dsimp only [Pt.U, Pt.locs, Pt.cells, Pt.slots] at X47 l47 y47 z47 st47 hQ47
      subst l47 y47 z47
      have X47 : Stand p l e room_1 s m #[(.int p1), (.int p2)] below meth c T47 _ 0 0 := X47
      obtain ⟨rfl, Nq48, e49⟩ := hQ47
      have N47 := Fr.app N14 Nq48
      obtain ⟨_, _, ⟨T50, L50, c50, n50⟩, -, X50, ⟨Lc50, hQ50, l50, y50, z50⟩, st50⟩ := Jvm.LawKit.callS X47 hx (y := (⟨"com/example/swallow/swallow/engine/invoice/InvoiceStatusCanBecomePinLaw", "rank", "(Lcom/example/swallow/swallow/engine/invoice/InvoiceStatus;)I"⟩ : MethodName)) hown (mvT hZ (hw _ (List.mem_of_getElem? (i := 8) rfl))) (mvT hZ (hw _ (List.mem_of_getElem? (i := 9) rfl))) (mvT hZ (hw _ (List.mem_of_getElem? (i := 3) rfl))) (mvT hZ (hw _ (List.mem_of_getElem? (i := 10) rfl))) (by decide) (backOf (W := 1) (rm7 l Z a0 hw w1 w2 w3 G []  h0 n0 O0 ) hZ (hw _ (List.mem_of_getElem? (i := 10) rfl)) (hw _ (List.mem_of_getElem? (i := 3) rfl)) (by decide) (by decide)) (g := (mkF m 25 #[.val (.int p1), .val (.int p2), .val (.ref w1), .val (.ref w3), .unset] [(.ref w3), (.int (0 : Int32))])) rfl (by rw [hml]; rfl) (argsL := [(.ref w3)]) (rest := [(.int (0 : Int32))]) (lenOf pd1 rfl) rfl (by show 2 * 0 + _ ≤ _; exact Nat.le_of_eq rfl) (hb hby at_25) (fun _ _ => ⟨rfl, e49, (by decide : 0 + 0 ≤ _), (by decide : 0 + 0 ≤ _)⟩)
      dsimp only [Pt.U, Pt.locs, Pt.cells, Pt.slots] at X50 l50 y50 z50 st50 hQ50
      subst l50 y50 z50
      have X50 : Stand p l e room_1 s m #[(.int p1), (.int p2)] below meth c T50 _ 0 0 := X50
      obtain ⟨rfl, Nq51, e52⟩ := hQ50
      have N50 := Fr.app N47 Nq51
      obtain ⟨cq53, kq53, q53a, q53b, q53c⟩ := isOf hZ e52 (E_w1.ext O0.2)
      obtain ⟨_, _, ⟨T54, L54, c54, n54⟩, -, X54, ⟨Lc54, hQ54, l54, y54, z54⟩, st54⟩ := X50.virtualBack hx (y := (⟨"com/example/swallow/swallow/engine/invoice/InvoiceStatus", "canBecome", "(Lcom/example/swallow/swallow/engine/invoice/InvoiceStatus;)Z"⟩ : MethodName)) (z := (⟨"com/example/swallow/swallow/engine/invoice/InvoiceStatus", "canBecome", "(Lcom/example/swallow/swallow/engine/invoice/InvoiceStatus;)Z"⟩ : MethodName)) hown (mvT hZ (hw _ (List.mem_of_getElem? (i := 11) rfl))) (mvT hZ (hw _ (List.mem_of_getElem? (i := 12) rfl))) (notFace_of_selects (args := #[]) (mvT hZ (hw _ (List.mem_of_getElem? (i := 14) rfl)))) (mvT hZ (hw _ (List.mem_of_getElem? (i := 14) rfl))) (mvT hZ (hw _ (List.mem_of_getElem? (i := 13) rfl))) (by decide) (backOf (W := 0) (rm8 l Z a0 hw w1 w2 w3 G []  h0 n0 O0 ) hZ (hw _ (List.mem_of_getElem? (i := 15) rfl)) (hw _ (List.mem_of_getElem? (i := 6) rfl)) (by decide) (by decide)) q53a q53c (g := (mkF m 40 #[.val (.int p1), .val (.int p2), .val (.ref w1), .val (.ref w3), .val (.int (1 : Int32))] [(.ref w3), (.ref w1)])) rfl (by rw [hml]; rfl) (Steps.refl _) (argsL := [(.ref w3)]) (rest := []) (lenOf pd3 rfl) rfl (by show 2 * 0 + _ ≤ _; exact Nat.le_of_eq rfl) (hb hby at_40) (fun _ _ => ⟨rfl, e52, (by decide : 0 + 0 ≤ _), (by decide : 0 + 0 ≤ _)⟩)
      dsimp only [Pt.U, Pt.locs, Pt.cells, Pt.slots] at X54 l54 y54 z54 st54 hQ54
      subst l54 y54 z54
      have X54 : Stand p l e room_1 s m #[(.int p1), (.int p2)] below meth c T54 _ 0 0 := X54
      obtain ⟨rfl, Nq55, e56⟩ := hQ54
      have N54 := Fr.app N50 Nq55
      obtain ⟨fs, hr, hrun, hended, hW, hsame⟩ := X54.leave (v := some (.int (1 : Int32))) (fun h => by rw [hret] at h; cases h)
      refine ⟨_, _, pre15 _ ?_, hrun, hended, _, _, rfl, ?_, ⟨_, rfl⟩, hW, hsame.mono (by decide) (by decide)⟩
      ·
        show Steps p.tables e below (T1.setTop (mkF m 16 #[.val (.int p1), .val (.int p2), .val (.ref w1), .unset, .unset] [(.int ((p2 &&& (2147483647 : Int32)) % (3 : Int32)))])) _
        refine st14 _ ?_
        show Steps p.tables e below (T14.setTop (mkF m 19 #[.val (.int p1), .val (.int p2), .val (.ref w1), .unset, .unset] [(.ref w3)])) _
        refine XS.astoreN X14.here hx rfl (hb hby at_19) rfl rfl (l' := #[.val (.int p1), .val (.int p2), .val (.ref w1), .val (.ref w3), .unset]) rfl ?_
        show Steps p.tables e below (T14.setTop (mkF m 20 #[.val (.int p1), .val (.int p2), .val (.ref w1), .val (.ref w3), .unset] [])) _
        refine XS.aloadN X14.here hx rfl (hb hby at_20) rfl rfl ?_
        show Steps p.tables e below (T14.setTop (mkF m 21 #[.val (.int p1), .val (.int p2), .val (.ref w1), .val (.ref w3), .unset] [(.ref w1)])) _
        refine st47 _ ?_
        show Steps p.tables e below (T47.setTop (mkF m 24 #[.val (.int p1), .val (.int p2), .val (.ref w1), .val (.ref w3), .unset] [(.int (0 : Int32))])) _
        refine XS.aloadN X47.here hx rfl (hb hby at_24) rfl rfl ?_
        show Steps p.tables e below (T47.setTop (mkF m 25 #[.val (.int p1), .val (.int p2), .val (.ref w1), .val (.ref w3), .unset] [(.ref w3), (.int (0 : Int32))])) _
        refine st50 _ ?_
        show Steps p.tables e below (T50.setTop (mkF m 28 #[.val (.int p1), .val (.int p2), .val (.ref w1), .val (.ref w3), .unset] [(.int (2 : Int32)), (.int (0 : Int32))])) _
        refine XS.icmpNo X50.here hx rfl (hb hby at_28) rfl (tlt (by decide : (0 : Int32) < (2 : Int32))).2.1 ?_
        show Steps p.tables e below (T50.setTop (mkF m 31 #[.val (.int p1), .val (.int p2), .val (.ref w1), .val (.ref w3), .unset] [])) _
        refine XS.iconst X50.here hx rfl (hb hby at_31) ?_
        show Steps p.tables e below (T50.setTop (mkF m 32 #[.val (.int p1), .val (.int p2), .val (.ref w1), .val (.ref w3), .unset] [(.int (1 : Int32))])) _
        refine XS.goto X50.here hx rfl (pc0 := 32) (pc' := 36) rfl (hb hby at_32) (by decide) (by decide) ?_
        show Steps p.tables e below (T50.setTop (mkF m 36 #[.val (.int p1), .val (.int p2), .val (.ref w1), .val (.ref w3), .unset] [(.int (1 : Int32))])) _
        refine XS.istore X50.here hx rfl (hb hby at_36) rfl (l' := #[.val (.int p1), .val (.int p2), .val (.ref w1), .val (.ref w3), .val (.int (1 : Int32))]) rfl ?_
        show Steps p.tables e below (T50.setTop (mkF m 38 #[.val (.int p1), .val (.int p2), .val (.ref w1), .val (.ref w3), .val (.int (1 : Int32))] [])) _
        refine XS.aloadN X50.here hx rfl (hb hby at_38) rfl rfl ?_
        show Steps p.tables e below (T50.setTop (mkF m 39 #[.val (.int p1), .val (.int p2), .val (.ref w1), .val (.ref w3), .val (.int (1 : Int32))] [(.ref w1)])) _
        refine XS.aloadN X50.here hx rfl (hb hby at_39) rfl rfl ?_
        show Steps p.tables e below (T50.setTop (mkF m 40 #[.val (.int p1), .val (.int p2), .val (.ref w1), .val (.ref w3), .val (.int (1 : Int32))] [(.ref w3), (.ref w1)])) _
        refine st54.trans ?_
        show Steps p.tables e below (T54.setTop (mkF m 43 #[.val (.int p1), .val (.int p2), .val (.ref w1), .val (.ref w3), .val (.int (1 : Int32))] [(.int (1 : Int32))])) _
        refine XS.iload X54.here hx rfl (hb hby at_43) rfl ?_
        show Steps p.tables e below (T54.setTop (mkF m 45 #[.val (.int p1), .val (.int p2), .val (.ref w1), .val (.ref w3), .val (.int (1 : Int32))] [(.int (1 : Int32)), (.int (1 : Int32))])) _
        refine XS.icmpNo X54.here hx rfl (hb hby at_45) rfl (teq (by decide : (1 : Int32) = (1 : Int32))).2 ?_
        show Steps p.tables e below (T54.setTop (mkF m 48 #[.val (.int p1), .val (.int p2), .val (.ref w1), .val (.ref w3), .val (.int (1 : Int32))] [])) _
        refine XS.iconst X54.here hx rfl (hb hby at_48) ?_
        show Steps p.tables e below (T54.setTop (mkF m 49 #[.val (.int p1), .val (.int p2), .val (.ref w1), .val (.ref w3), .val (.int (1 : Int32))] [(.int (1 : Int32))])) _
        refine XS.goto X54.here hx rfl (pc0 := 49) (pc' := 53) rfl (hb hby at_49) (by decide) (by decide) ?_
        show Steps p.tables e below (T54.setTop (mkF m 53 #[.val (.int p1), .val (.int p2), .val (.ref w1), .val (.ref w3), .val (.int (1 : Int32))] [(.int (1 : Int32))])) _
        exact retN X54 hx (t := .boolean) hret (by simp) (hb hby at_53) hr
      ·
        show Q0 n0 _ T54.heap _
        rw [e56]
        exact ⟨rfl, N54⟩
  ·
    have N1 := Fr.app N0 Nq8
    obtain ⟨_, _, ⟨T57, L57, c57, n57⟩, -, X57, ⟨Lc57, hQ57, l57, y57, z57⟩, st57⟩ := Jvm.LawKit.callS X1 hx (y := (⟨"com/example/swallow/swallow/engine/invoice/InvoiceStatusCanBecomePinLaw", "pick", "(I)Lcom/example/swallow/swallow/engine/invoice/InvoiceStatus;"⟩ : MethodName)) hown (mvT hZ (hw _ (List.mem_of_getElem? (i := 1) rfl))) (mvT hZ (hw _ (List.mem_of_getElem? (i := 2) rfl))) (mvT hZ (hw _ (List.mem_of_getElem? (i := 3) rfl))) (mvT hZ (hw _ (List.mem_of_getElem? (i := 4) rfl))) (by decide) (backOf (W := 0) (rm1 l Z a0 hw w1 w2 w3 G [] (((p2 &&& (2147483647 : Int32)) % (3 : Int32))) h0 n0 O0 ) hZ (hw _ (List.mem_of_getElem? (i := 4) rfl)) (hw _ (List.mem_of_getElem? (i := 3) rfl)) (by decide) (by decide)) (g := (mkF m 16 #[.val (.int p1), .val (.int p2), .val (.ref w2), .unset, .unset] [(.int ((p2 &&& (2147483647 : Int32)) % (3 : Int32)))])) rfl (by rw [hml]; rfl) (argsL := [(.int ((p2 &&& (2147483647 : Int32)) % (3 : Int32)))]) (rest := []) (lenOf pd0 rfl) rfl (by show 2 * 0 + _ ≤ _; exact Nat.le_of_eq rfl) (hb hby at_16) (fun _ _ => ⟨rfl, e9, (by decide : 0 + 0 ≤ _), (by decide : 0 + 0 ≤ _)⟩)
    dsimp only [Pt.U, Pt.locs, Pt.cells, Pt.slots] at X57 l57 y57 z57 st57 hQ57
    subst l57 y57 z57
    have pre58 : ∀ t, Steps p.tables e below (T1.setTop (mkF m 16 #[.val (.int p1), .val (.int p2), .val (.ref w2), .unset, .unset] [(.int ((p2 &&& (2147483647 : Int32)) % (3 : Int32)))])) t → Steps p.tables e below (s₁.setTop (entryFrame m #[(.int p1), (.int p2)] maxLocals)) t := fun t k => by
      refine pre2 _ ?_
      show Steps p.tables e below (s₁.setTop (mkF m 6 #[.val (.int p1), .val (.int p2), .unset, .unset, .unset] [(.int ((p1 &&& (2147483647 : Int32)) % (3 : Int32)))])) _
      refine st1 _ ?_
      show Steps p.tables e below (T1.setTop (mkF m 9 #[.val (.int p1), .val (.int p2), .unset, .unset, .unset] [(.ref w2)])) _
      refine XS.astoreN X1.here hx rfl (hb hby at_9) rfl rfl (l' := #[.val (.int p1), .val (.int p2), .val (.ref w2), .unset, .unset]) rfl ?_
      show Steps p.tables e below (T1.setTop (mkF m 10 #[.val (.int p1), .val (.int p2), .val (.ref w2), .unset, .unset] [])) _
      refine XS.iloadN X1.here hx rfl (hb hby at_10) rfl ?_
      show Steps p.tables e below (T1.setTop (mkF m 11 #[.val (.int p1), .val (.int p2), .val (.ref w2), .unset, .unset] [(.int p2)])) _
      refine X1.ldcInt hx hown (mvT hZ (hw _ (List.mem_of_getElem? (i := 0) rfl))) (g := (mkF m 11 #[.val (.int p1), .val (.int p2), .val (.ref w2), .unset, .unset] [(.int p2)])) rfl (hb hby at_11) _ ?_
      show Steps p.tables e below (T1.setTop (mkF m 13 #[.val (.int p1), .val (.int p2), .val (.ref w2), .unset, .unset] [(.int (2147483647 : Int32)), (.int p2)])) _
      refine XS.iand X1.here hx rfl (hb hby at_13) rfl ?_
      show Steps p.tables e below (T1.setTop (mkF m 14 #[.val (.int p1), .val (.int p2), .val (.ref w2), .unset, .unset] [(.int (p2 &&& (2147483647 : Int32)))])) _
      refine XS.iconst X1.here hx rfl (hb hby at_14) ?_
      show Steps p.tables e below (T1.setTop (mkF m 15 #[.val (.int p1), .val (.int p2), .val (.ref w2), .unset, .unset] [(.int (3 : Int32)), (.int (p2 &&& (2147483647 : Int32)))])) _
      refine iremM X1 hx rfl (hb hby at_15) rfl (by decide : ¬ ((3 : Int32) = (0 : Int32))) ?_
      exact k
    have X57 : Stand p l e room_1 s m #[(.int p1), (.int p2)] below meth c T57 _ 0 0 := X57
    rcases hQ57 with ⟨hc59, rfl, Nq60, e61⟩ | ⟨hc62, hc63, rfl, Nq64, e65⟩ | ⟨hc66, hc67, rfl, Nq68, e69⟩
    ·
      have N57 := Fr.app N1 Nq60
      obtain ⟨_, _, ⟨T70, L70, c70, n70⟩, -, X70, ⟨Lc70, hQ70, l70, y70, z70⟩, st70⟩ := Jvm.LawKit.callS X57 hx (y := (⟨"com/example/swallow/swallow/engine/invoice/InvoiceStatusCanBecomePinLaw", "rank", "(Lcom/example/swallow/swallow/engine/invoice/InvoiceStatus;)I"⟩ : MethodName)) hown (mvT hZ (hw _ (List.mem_of_getElem? (i := 8) rfl))) (mvT hZ (hw _ (List.mem_of_getElem? (i := 9) rfl))) (mvT hZ (hw _ (List.mem_of_getElem? (i := 3) rfl))) (mvT hZ (hw _ (List.mem_of_getElem? (i := 10) rfl))) (by decide) (backOf (W := 0) (rm5 l Z a0 hw w1 w2 w3 G []  h0 n0 O0 ) hZ (hw _ (List.mem_of_getElem? (i := 10) rfl)) (hw _ (List.mem_of_getElem? (i := 3) rfl)) (by decide) (by decide)) (g := (mkF m 21 #[.val (.int p1), .val (.int p2), .val (.ref w2), .val (.ref w1), .unset] [(.ref w2)])) rfl (by rw [hml]; rfl) (argsL := [(.ref w2)]) (rest := []) (lenOf pd1 rfl) rfl (by show 2 * 0 + _ ≤ _; exact Nat.le_of_eq rfl) (hb hby at_21) (fun _ _ => ⟨rfl, e61, (by decide : 0 + 0 ≤ _), (by decide : 0 + 0 ≤ _)⟩)
      dsimp only [Pt.U, Pt.locs, Pt.cells, Pt.slots] at X70 l70 y70 z70 st70 hQ70
      subst l70 y70 z70
      have X70 : Stand p l e room_1 s m #[(.int p1), (.int p2)] below meth c T70 _ 0 0 := X70
      obtain ⟨rfl, Nq71, e72⟩ := hQ70
      have N70 := Fr.app N57 Nq71
      obtain ⟨_, _, ⟨T73, L73, c73, n73⟩, -, X73, ⟨Lc73, hQ73, l73, y73, z73⟩, st73⟩ := Jvm.LawKit.callS X70 hx (y := (⟨"com/example/swallow/swallow/engine/invoice/InvoiceStatusCanBecomePinLaw", "rank", "(Lcom/example/swallow/swallow/engine/invoice/InvoiceStatus;)I"⟩ : MethodName)) hown (mvT hZ (hw _ (List.mem_of_getElem? (i := 8) rfl))) (mvT hZ (hw _ (List.mem_of_getElem? (i := 9) rfl))) (mvT hZ (hw _ (List.mem_of_getElem? (i := 3) rfl))) (mvT hZ (hw _ (List.mem_of_getElem? (i := 10) rfl))) (by decide) (backOf (W := 1) (rm2 l Z a0 hw w1 w2 w3 G []  h0 n0 O0 ) hZ (hw _ (List.mem_of_getElem? (i := 10) rfl)) (hw _ (List.mem_of_getElem? (i := 3) rfl)) (by decide) (by decide)) (g := (mkF m 25 #[.val (.int p1), .val (.int p2), .val (.ref w2), .val (.ref w1), .unset] [(.ref w1), (.int (1 : Int32))])) rfl (by rw [hml]; rfl) (argsL := [(.ref w1)]) (rest := [(.int (1 : Int32))]) (lenOf pd1 rfl) rfl (by show 2 * 0 + _ ≤ _; exact Nat.le_of_eq rfl) (hb hby at_25) (fun _ _ => ⟨rfl, e72, (by decide : 0 + 0 ≤ _), (by decide : 0 + 0 ≤ _)⟩)
      dsimp only [Pt.U, Pt.locs, Pt.cells, Pt.slots] at X73 l73 y73 z73 st73 hQ73
      subst l73 y73 z73
      have X73 : Stand p l e room_1 s m #[(.int p1), (.int p2)] below meth c T73 _ 0 0 := X73
      obtain ⟨rfl, Nq74, e75⟩ := hQ73
      have N73 := Fr.app N70 Nq74
      obtain ⟨cq76, kq76, q76a, q76b, q76c⟩ := isOf hZ e75 (E_w2.ext O0.2)
      obtain ⟨_, _, ⟨T77, L77, c77, n77⟩, -, X77, ⟨Lc77, hQ77, l77, y77, z77⟩, st77⟩ := X73.virtualBack hx (y := (⟨"com/example/swallow/swallow/engine/invoice/InvoiceStatus", "canBecome", "(Lcom/example/swallow/swallow/engine/invoice/InvoiceStatus;)Z"⟩ : MethodName)) (z := (⟨"com/example/swallow/swallow/engine/invoice/InvoiceStatus", "canBecome", "(Lcom/example/swallow/swallow/engine/invoice/InvoiceStatus;)Z"⟩ : MethodName)) hown (mvT hZ (hw _ (List.mem_of_getElem? (i := 11) rfl))) (mvT hZ (hw _ (List.mem_of_getElem? (i := 12) rfl))) (notFace_of_selects (args := #[]) (mvT hZ (hw _ (List.mem_of_getElem? (i := 14) rfl)))) (mvT hZ (hw _ (List.mem_of_getElem? (i := 14) rfl))) (mvT hZ (hw _ (List.mem_of_getElem? (i := 13) rfl))) (by decide) (backOf (W := 0) (rm10 l Z a0 hw w1 w2 w3 G []  h0 n0 O0 ) hZ (hw _ (List.mem_of_getElem? (i := 15) rfl)) (hw _ (List.mem_of_getElem? (i := 6) rfl)) (by decide) (by decide)) q76a q76c (g := (mkF m 40 #[.val (.int p1), .val (.int p2), .val (.ref w2), .val (.ref w1), .val (.int (0 : Int32))] [(.ref w1), (.ref w2)])) rfl (by rw [hml]; rfl) (Steps.refl _) (argsL := [(.ref w1)]) (rest := []) (lenOf pd3 rfl) rfl (by show 2 * 0 + _ ≤ _; exact Nat.le_of_eq rfl) (hb hby at_40) (fun _ _ => ⟨rfl, e75, (by decide : 0 + 0 ≤ _), (by decide : 0 + 0 ≤ _)⟩)
      dsimp only [Pt.U, Pt.locs, Pt.cells, Pt.slots] at X77 l77 y77 z77 st77 hQ77
      subst l77 y77 z77
      have X77 : Stand p l e room_1 s m #[(.int p1), (.int p2)] below meth c T77 _ 0 0 := X77
      obtain ⟨rfl, Nq78, e79⟩ := hQ77
      have N77 := Fr.app N73 Nq78
      obtain ⟨fs, hr, hrun, hended, hW, hsame⟩ := X77.leave (v := some (.int (1 : Int32))) (fun h => by rw [hret] at h; cases h)
      refine ⟨_, _, pre58 _ ?_, hrun, hended, _, _, rfl, ?_, ⟨_, rfl⟩, hW, hsame.mono (by decide) (by decide)⟩
      ·
        show Steps p.tables e below (T1.setTop (mkF m 16 #[.val (.int p1), .val (.int p2), .val (.ref w2), .unset, .unset] [(.int ((p2 &&& (2147483647 : Int32)) % (3 : Int32)))])) _
        refine st57 _ ?_
        show Steps p.tables e below (T57.setTop (mkF m 19 #[.val (.int p1), .val (.int p2), .val (.ref w2), .unset, .unset] [(.ref w1)])) _
        refine XS.astoreN X57.here hx rfl (hb hby at_19) rfl rfl (l' := #[.val (.int p1), .val (.int p2), .val (.ref w2), .val (.ref w1), .unset]) rfl ?_
        show Steps p.tables e below (T57.setTop (mkF m 20 #[.val (.int p1), .val (.int p2), .val (.ref w2), .val (.ref w1), .unset] [])) _
        refine XS.aloadN X57.here hx rfl (hb hby at_20) rfl rfl ?_
        show Steps p.tables e below (T57.setTop (mkF m 21 #[.val (.int p1), .val (.int p2), .val (.ref w2), .val (.ref w1), .unset] [(.ref w2)])) _
        refine st70 _ ?_
        show Steps p.tables e below (T70.setTop (mkF m 24 #[.val (.int p1), .val (.int p2), .val (.ref w2), .val (.ref w1), .unset] [(.int (1 : Int32))])) _
        refine XS.aloadN X70.here hx rfl (hb hby at_24) rfl rfl ?_
        show Steps p.tables e below (T70.setTop (mkF m 25 #[.val (.int p1), .val (.int p2), .val (.ref w2), .val (.ref w1), .unset] [(.ref w1), (.int (1 : Int32))])) _
        refine st73 _ ?_
        show Steps p.tables e below (T73.setTop (mkF m 28 #[.val (.int p1), .val (.int p2), .val (.ref w2), .val (.ref w1), .unset] [(.int (0 : Int32)), (.int (1 : Int32))])) _
        refine XS.icmpYes X73.here hx rfl (pc0 := 28) (pc' := 35) rfl (hb hby at_28) rfl (flt (by decide : ¬ ((1 : Int32) < (0 : Int32)))).2.1 (by decide) (by decide) ?_
        show Steps p.tables e below (T73.setTop (mkF m 35 #[.val (.int p1), .val (.int p2), .val (.ref w2), .val (.ref w1), .unset] [])) _
        refine XS.iconst X73.here hx rfl (hb hby at_35) ?_
        show Steps p.tables e below (T73.setTop (mkF m 36 #[.val (.int p1), .val (.int p2), .val (.ref w2), .val (.ref w1), .unset] [(.int (0 : Int32))])) _
        refine XS.istore X73.here hx rfl (hb hby at_36) rfl (l' := #[.val (.int p1), .val (.int p2), .val (.ref w2), .val (.ref w1), .val (.int (0 : Int32))]) rfl ?_
        show Steps p.tables e below (T73.setTop (mkF m 38 #[.val (.int p1), .val (.int p2), .val (.ref w2), .val (.ref w1), .val (.int (0 : Int32))] [])) _
        refine XS.aloadN X73.here hx rfl (hb hby at_38) rfl rfl ?_
        show Steps p.tables e below (T73.setTop (mkF m 39 #[.val (.int p1), .val (.int p2), .val (.ref w2), .val (.ref w1), .val (.int (0 : Int32))] [(.ref w2)])) _
        refine XS.aloadN X73.here hx rfl (hb hby at_39) rfl rfl ?_
        show Steps p.tables e below (T73.setTop (mkF m 40 #[.val (.int p1), .val (.int p2), .val (.ref w2), .val (.ref w1), .val (.int (0 : Int32))] [(.ref w1), (.ref w2)])) _
        refine st77.trans ?_
        show Steps p.tables e below (T77.setTop (mkF m 43 #[.val (.int p1), .val (.int p2), .val (.ref w2), .val (.ref w1), .val (.int (0 : Int32))] [(.int (0 : Int32))])) _
        refine XS.iload X77.here hx rfl (hb hby at_43) rfl ?_
        show Steps p.tables e below (T77.setTop (mkF m 45 #[.val (.int p1), .val (.int p2), .val (.ref w2), .val (.ref w1), .val (.int (0 : Int32))] [(.int (0 : Int32)), (.int (0 : Int32))])) _
        refine XS.icmpNo X77.here hx rfl (hb hby at_45) rfl (teq (by decide : (0 : Int32) = (0 : Int32))).2 ?_
        show Steps p.tables e below (T77.setTop (mkF m 48 #[.val (.int p1), .val (.int p2), .val (.ref w2), .val (.ref w1), .val (.int (0 : Int32))] [])) _
        refine XS.iconst X77.here hx rfl (hb hby at_48) ?_
        show Steps p.tables e below (T77.setTop (mkF m 49 #[.val (.int p1), .val (.int p2), .val (.ref w2), .val (.ref w1), .val (.int (0 : Int32))] [(.int (1 : Int32))])) _
        refine XS.goto X77.here hx rfl (pc0 := 49) (pc' := 53) rfl (hb hby at_49) (by decide) (by decide) ?_
        show Steps p.tables e below (T77.setTop (mkF m 53 #[.val (.int p1), .val (.int p2), .val (.ref w2), .val (.ref w1), .val (.int (0 : Int32))] [(.int (1 : Int32))])) _
        exact retN X77 hx (t := .boolean) hret (by simp) (hb hby at_53) hr
      ·
        show Q0 n0 _ T77.heap _
        rw [e79]
        exact ⟨rfl, N77⟩
    ·
      have N57 := Fr.app N1 Nq64
      obtain ⟨_, _, ⟨T80, L80, c80, n80⟩, -, X80, ⟨Lc80, hQ80, l80, y80, z80⟩, st80⟩ := Jvm.LawKit.callS X57 hx (y := (⟨"com/example/swallow/swallow/engine/invoice/InvoiceStatusCanBecomePinLaw", "rank", "(Lcom/example/swallow/swallow/engine/invoice/InvoiceStatus;)I"⟩ : MethodName)) hown (mvT hZ (hw _ (List.mem_of_getElem? (i := 8) rfl))) (mvT hZ (hw _ (List.mem_of_getElem? (i := 9) rfl))) (mvT hZ (hw _ (List.mem_of_getElem? (i := 3) rfl))) (mvT hZ (hw _ (List.mem_of_getElem? (i := 10) rfl))) (by decide) (backOf (W := 0) (rm5 l Z a0 hw w1 w2 w3 G []  h0 n0 O0 ) hZ (hw _ (List.mem_of_getElem? (i := 10) rfl)) (hw _ (List.mem_of_getElem? (i := 3) rfl)) (by decide) (by decide)) (g := (mkF m 21 #[.val (.int p1), .val (.int p2), .val (.ref w2), .val (.ref w2), .unset] [(.ref w2)])) rfl (by rw [hml]; rfl) (argsL := [(.ref w2)]) (rest := []) (lenOf pd1 rfl) rfl (by show 2 * 0 + _ ≤ _; exact Nat.le_of_eq rfl) (hb hby at_21) (fun _ _ => ⟨rfl, e65, (by decide : 0 + 0 ≤ _), (by decide : 0 + 0 ≤ _)⟩)
      dsimp only [Pt.U, Pt.locs, Pt.cells, Pt.slots] at X80 l80 y80 z80 st80 hQ80
      subst l80 y80 z80
      have X80 : Stand p l e room_1 s m #[(.int p1), (.int p2)] below meth c T80 _ 0 0 := X80
      obtain ⟨rfl, Nq81, e82⟩ := hQ80
      have N80 := Fr.app N57 Nq81
      obtain ⟨_, _, ⟨T83, L83, c83, n83⟩, -, X83, ⟨Lc83, hQ83, l83, y83, z83⟩, st83⟩ := Jvm.LawKit.callS X80 hx (y := (⟨"com/example/swallow/swallow/engine/invoice/InvoiceStatusCanBecomePinLaw", "rank", "(Lcom/example/swallow/swallow/engine/invoice/InvoiceStatus;)I"⟩ : MethodName)) hown (mvT hZ (hw _ (List.mem_of_getElem? (i := 8) rfl))) (mvT hZ (hw _ (List.mem_of_getElem? (i := 9) rfl))) (mvT hZ (hw _ (List.mem_of_getElem? (i := 3) rfl))) (mvT hZ (hw _ (List.mem_of_getElem? (i := 10) rfl))) (by decide) (backOf (W := 1) (rm5 l Z a0 hw w1 w2 w3 G []  h0 n0 O0 ) hZ (hw _ (List.mem_of_getElem? (i := 10) rfl)) (hw _ (List.mem_of_getElem? (i := 3) rfl)) (by decide) (by decide)) (g := (mkF m 25 #[.val (.int p1), .val (.int p2), .val (.ref w2), .val (.ref w2), .unset] [(.ref w2), (.int (1 : Int32))])) rfl (by rw [hml]; rfl) (argsL := [(.ref w2)]) (rest := [(.int (1 : Int32))]) (lenOf pd1 rfl) rfl (by show 2 * 0 + _ ≤ _; exact Nat.le_of_eq rfl) (hb hby at_25) (fun _ _ => ⟨rfl, e82, (by decide : 0 + 0 ≤ _), (by decide : 0 + 0 ≤ _)⟩)
      dsimp only [Pt.U, Pt.locs, Pt.cells, Pt.slots] at X83 l83 y83 z83 st83 hQ83
      subst l83 y83 z83
      have X83 : Stand p l e room_1 s m #[(.int p1), (.int p2)] below meth c T83 _ 0 0 := X83
      obtain ⟨rfl, Nq84, e85⟩ := hQ83
      have N83 := Fr.app N80 Nq84
      obtain ⟨cq86, kq86, q86a, q86b, q86c⟩ := isOf hZ e85 (E_w2.ext O0.2)
      obtain ⟨_, _, ⟨T87, L87, c87, n87⟩, -, X87, ⟨Lc87, hQ87, l87, y87, z87⟩, st87⟩ := X83.virtualBack hx (y := (⟨"com/example/swallow/swallow/engine/invoice/InvoiceStatus", "canBecome", "(Lcom/example/swallow/swallow/engine/invoice/InvoiceStatus;)Z"⟩ : MethodName)) (z := (⟨"com/example/swallow/swallow/engine/invoice/InvoiceStatus", "canBecome", "(Lcom/example/swallow/swallow/engine/invoice/InvoiceStatus;)Z"⟩ : MethodName)) hown (mvT hZ (hw _ (List.mem_of_getElem? (i := 11) rfl))) (mvT hZ (hw _ (List.mem_of_getElem? (i := 12) rfl))) (notFace_of_selects (args := #[]) (mvT hZ (hw _ (List.mem_of_getElem? (i := 14) rfl)))) (mvT hZ (hw _ (List.mem_of_getElem? (i := 14) rfl))) (mvT hZ (hw _ (List.mem_of_getElem? (i := 13) rfl))) (by decide) (backOf (W := 0) (rm11 l Z a0 hw w1 w2 w3 G []  h0 n0 O0 ) hZ (hw _ (List.mem_of_getElem? (i := 15) rfl)) (hw _ (List.mem_of_getElem? (i := 6) rfl)) (by decide) (by decide)) q86a q86c (g := (mkF m 40 #[.val (.int p1), .val (.int p2), .val (.ref w2), .val (.ref w2), .val (.int (0 : Int32))] [(.ref w2), (.ref w2)])) rfl (by rw [hml]; rfl) (Steps.refl _) (argsL := [(.ref w2)]) (rest := []) (lenOf pd3 rfl) rfl (by show 2 * 0 + _ ≤ _; exact Nat.le_of_eq rfl) (hb hby at_40) (fun _ _ => ⟨rfl, e85, (by decide : 0 + 0 ≤ _), (by decide : 0 + 0 ≤ _)⟩)
      dsimp only [Pt.U, Pt.locs, Pt.cells, Pt.slots] at X87 l87 y87 z87 st87 hQ87
      subst l87 y87 z87
      have X87 : Stand p l e room_1 s m #[(.int p1), (.int p2)] below meth c T87 _ 0 0 := X87
      obtain ⟨rfl, Nq88, e89⟩ := hQ87
      have N87 := Fr.app N83 Nq88
      obtain ⟨fs, hr, hrun, hended, hW, hsame⟩ := X87.leave (v := some (.int (1 : Int32))) (fun h => by rw [hret] at h; cases h)
      refine ⟨_, _, pre58 _ ?_, hrun, hended, _, _, rfl, ?_, ⟨_, rfl⟩, hW, hsame.mono (by decide) (by decide)⟩
      ·
        show Steps p.tables e below (T1.setTop (mkF m 16 #[.val (.int p1), .val (.int p2), .val (.ref w2), .unset, .unset] [(.int ((p2 &&& (2147483647 : Int32)) % (3 : Int32)))])) _
        refine st57 _ ?_
        show Steps p.tables e below (T57.setTop (mkF m 19 #[.val (.int p1), .val (.int p2), .val (.ref w2), .unset, .unset] [(.ref w2)])) _
        refine XS.astoreN X57.here hx rfl (hb hby at_19) rfl rfl (l' := #[.val (.int p1), .val (.int p2), .val (.ref w2), .val (.ref w2), .unset]) rfl ?_
        show Steps p.tables e below (T57.setTop (mkF m 20 #[.val (.int p1), .val (.int p2), .val (.ref w2), .val (.ref w2), .unset] [])) _
        refine XS.aloadN X57.here hx rfl (hb hby at_20) rfl rfl ?_
        show Steps p.tables e below (T57.setTop (mkF m 21 #[.val (.int p1), .val (.int p2), .val (.ref w2), .val (.ref w2), .unset] [(.ref w2)])) _
        refine st80 _ ?_
        show Steps p.tables e below (T80.setTop (mkF m 24 #[.val (.int p1), .val (.int p2), .val (.ref w2), .val (.ref w2), .unset] [(.int (1 : Int32))])) _
        refine XS.aloadN X80.here hx rfl (hb hby at_24) rfl rfl ?_
        show Steps p.tables e below (T80.setTop (mkF m 25 #[.val (.int p1), .val (.int p2), .val (.ref w2), .val (.ref w2), .unset] [(.ref w2), (.int (1 : Int32))])) _
        refine st83 _ ?_
        show Steps p.tables e below (T83.setTop (mkF m 28 #[.val (.int p1), .val (.int p2), .val (.ref w2), .val (.ref w2), .unset] [(.int (1 : Int32)), (.int (1 : Int32))])) _
        refine XS.icmpYes X83.here hx rfl (pc0 := 28) (pc' := 35) rfl (hb hby at_28) rfl (flt (by decide : ¬ ((1 : Int32) < (1 : Int32)))).2.1 (by decide) (by decide) ?_
        show Steps p.tables e below (T83.setTop (mkF m 35 #[.val (.int p1), .val (.int p2), .val (.ref w2), .val (.ref w2), .unset] [])) _
        refine XS.iconst X83.here hx rfl (hb hby at_35) ?_
        show Steps p.tables e below (T83.setTop (mkF m 36 #[.val (.int p1), .val (.int p2), .val (.ref w2), .val (.ref w2), .unset] [(.int (0 : Int32))])) _
        refine XS.istore X83.here hx rfl (hb hby at_36) rfl (l' := #[.val (.int p1), .val (.int p2), .val (.ref w2), .val (.ref w2), .val (.int (0 : Int32))]) rfl ?_
        show Steps p.tables e below (T83.setTop (mkF m 38 #[.val (.int p1), .val (.int p2), .val (.ref w2), .val (.ref w2), .val (.int (0 : Int32))] [])) _
        refine XS.aloadN X83.here hx rfl (hb hby at_38) rfl rfl ?_
        show Steps p.tables e below (T83.setTop (mkF m 39 #[.val (.int p1), .val (.int p2), .val (.ref w2), .val (.ref w2), .val (.int (0 : Int32))] [(.ref w2)])) _
        refine XS.aloadN X83.here hx rfl (hb hby at_39) rfl rfl ?_
        show Steps p.tables e below (T83.setTop (mkF m 40 #[.val (.int p1), .val (.int p2), .val (.ref w2), .val (.ref w2), .val (.int (0 : Int32))] [(.ref w2), (.ref w2)])) _
        refine st87.trans ?_
        show Steps p.tables e below (T87.setTop (mkF m 43 #[.val (.int p1), .val (.int p2), .val (.ref w2), .val (.ref w2), .val (.int (0 : Int32))] [(.int (0 : Int32))])) _
        refine XS.iload X87.here hx rfl (hb hby at_43) rfl ?_
        show Steps p.tables e below (T87.setTop (mkF m 45 #[.val (.int p1), .val (.int p2), .val (.ref w2), .val (.ref w2), .val (.int (0 : Int32))] [(.int (0 : Int32)), (.int (0 : Int32))])) _
        refine XS.icmpNo X87.here hx rfl (hb hby at_45) rfl (teq (by decide : (0 : Int32) = (0 : Int32))).2 ?_
        show Steps p.tables e below (T87.setTop (mkF m 48 #[.val (.int p1), .val (.int p2), .val (.ref w2), .val (.ref w2), .val (.int (0 : Int32))] [])) _
        refine XS.iconst X87.here hx rfl (hb hby at_48) ?_
        show Steps p.tables e below (T87.setTop (mkF m 49 #[.val (.int p1), .val (.int p2), .val (.ref w2), .val (.ref w2), .val (.int (0 : Int32))] [(.int (1 : Int32))])) _
        refine XS.goto X87.here hx rfl (pc0 := 49) (pc' := 53) rfl (hb hby at_49) (by decide) (by decide) ?_
        show Steps p.tables e below (T87.setTop (mkF m 53 #[.val (.int p1), .val (.int p2), .val (.ref w2), .val (.ref w2), .val (.int (0 : Int32))] [(.int (1 : Int32))])) _
        exact retN X87 hx (t := .boolean) hret (by simp) (hb hby at_53) hr
      ·
        show Q0 n0 _ T87.heap _
        rw [e89]
        exact ⟨rfl, N87⟩
    ·
      have N57 := Fr.app N1 Nq68
      obtain ⟨_, _, ⟨T90, L90, c90, n90⟩, -, X90, ⟨Lc90, hQ90, l90, y90, z90⟩, st90⟩ := Jvm.LawKit.callS X57 hx (y := (⟨"com/example/swallow/swallow/engine/invoice/InvoiceStatusCanBecomePinLaw", "rank", "(Lcom/example/swallow/swallow/engine/invoice/InvoiceStatus;)I"⟩ : MethodName)) hown (mvT hZ (hw _ (List.mem_of_getElem? (i := 8) rfl))) (mvT hZ (hw _ (List.mem_of_getElem? (i := 9) rfl))) (mvT hZ (hw _ (List.mem_of_getElem? (i := 3) rfl))) (mvT hZ (hw _ (List.mem_of_getElem? (i := 10) rfl))) (by decide) (backOf (W := 0) (rm5 l Z a0 hw w1 w2 w3 G []  h0 n0 O0 ) hZ (hw _ (List.mem_of_getElem? (i := 10) rfl)) (hw _ (List.mem_of_getElem? (i := 3) rfl)) (by decide) (by decide)) (g := (mkF m 21 #[.val (.int p1), .val (.int p2), .val (.ref w2), .val (.ref w3), .unset] [(.ref w2)])) rfl (by rw [hml]; rfl) (argsL := [(.ref w2)]) (rest := []) (lenOf pd1 rfl) rfl (by show 2 * 0 + _ ≤ _; exact Nat.le_of_eq rfl) (hb hby at_21) (fun _ _ => ⟨rfl, e69, (by decide : 0 + 0 ≤ _), (by decide : 0 + 0 ≤ _)⟩)
      dsimp only [Pt.U, Pt.locs, Pt.cells, Pt.slots] at X90 l90 y90 z90 st90 hQ90
      subst l90 y90 z90
      have X90 : Stand p l e room_1 s m #[(.int p1), (.int p2)] below meth c T90 _ 0 0 := X90
      obtain ⟨rfl, Nq91, e92⟩ := hQ90
      have N90 := Fr.app N57 Nq91
      obtain ⟨_, _, ⟨T93, L93, c93, n93⟩, -, X93, ⟨Lc93, hQ93, l93, y93, z93⟩, st93⟩ := Jvm.LawKit.callS X90 hx (y := (⟨"com/example/swallow/swallow/engine/invoice/InvoiceStatusCanBecomePinLaw", "rank", "(Lcom/example/swallow/swallow/engine/invoice/InvoiceStatus;)I"⟩ : MethodName)) hown (mvT hZ (hw _ (List.mem_of_getElem? (i := 8) rfl))) (mvT hZ (hw _ (List.mem_of_getElem? (i := 9) rfl))) (mvT hZ (hw _ (List.mem_of_getElem? (i := 3) rfl))) (mvT hZ (hw _ (List.mem_of_getElem? (i := 10) rfl))) (by decide) (backOf (W := 1) (rm7 l Z a0 hw w1 w2 w3 G []  h0 n0 O0 ) hZ (hw _ (List.mem_of_getElem? (i := 10) rfl)) (hw _ (List.mem_of_getElem? (i := 3) rfl)) (by decide) (by decide)) (g := (mkF m 25 #[.val (.int p1), .val (.int p2), .val (.ref w2), .val (.ref w3), .unset] [(.ref w3), (.int (1 : Int32))])) rfl (by rw [hml]; rfl) (argsL := [(.ref w3)]) (rest := [(.int (1 : Int32))]) (lenOf pd1 rfl) rfl (by show 2 * 0 + _ ≤ _; exact Nat.le_of_eq rfl) (hb hby at_25) (fun _ _ => ⟨rfl, e92, (by decide : 0 + 0 ≤ _), (by decide : 0 + 0 ≤ _)⟩)
      dsimp only [Pt.U, Pt.locs, Pt.cells, Pt.slots] at X93 l93 y93 z93 st93 hQ93
      subst l93 y93 z93
      have X93 : Stand p l e room_1 s m #[(.int p1), (.int p2)] below meth c T93 _ 0 0 := X93
      obtain ⟨rfl, Nq94, e95⟩ := hQ93
      have N93 := Fr.app N90 Nq94
      obtain ⟨cq96, kq96, q96a, q96b, q96c⟩ := isOf hZ e95 (E_w2.ext O0.2)
      obtain ⟨_, _, ⟨T97, L97, c97, n97⟩, -, X97, ⟨Lc97, hQ97, l97, y97, z97⟩, st97⟩ := X93.virtualBack hx (y := (⟨"com/example/swallow/swallow/engine/invoice/InvoiceStatus", "canBecome", "(Lcom/example/swallow/swallow/engine/invoice/InvoiceStatus;)Z"⟩ : MethodName)) (z := (⟨"com/example/swallow/swallow/engine/invoice/InvoiceStatus", "canBecome", "(Lcom/example/swallow/swallow/engine/invoice/InvoiceStatus;)Z"⟩ : MethodName)) hown (mvT hZ (hw _ (List.mem_of_getElem? (i := 11) rfl))) (mvT hZ (hw _ (List.mem_of_getElem? (i := 12) rfl))) (notFace_of_selects (args := #[]) (mvT hZ (hw _ (List.mem_of_getElem? (i := 14) rfl)))) (mvT hZ (hw _ (List.mem_of_getElem? (i := 14) rfl))) (mvT hZ (hw _ (List.mem_of_getElem? (i := 13) rfl))) (by decide) (backOf (W := 0) (rm12 l Z a0 hw w1 w2 w3 G []  h0 n0 O0 ) hZ (hw _ (List.mem_of_getElem? (i := 15) rfl)) (hw _ (List.mem_of_getElem? (i := 6) rfl)) (by decide) (by decide)) q96a q96c (g := (mkF m 40 #[.val (.int p1), .val (.int p2), .val (.ref w2), .val (.ref w3), .val (.int (1 : Int32))] [(.ref w3), (.ref w2)])) rfl (by rw [hml]; rfl) (Steps.refl _) (argsL := [(.ref w3)]) (rest := []) (lenOf pd3 rfl) rfl (by show 2 * 0 + _ ≤ _; exact Nat.le_of_eq rfl) (hb hby at_40) (fun _ _ => ⟨rfl, e95, (by decide : 0 + 0 ≤ _), (by decide : 0 + 0 ≤ _)⟩)
      dsimp only [Pt.U, Pt.locs, Pt.cells, Pt.slots] at X97 l97 y97 z97 st97 hQ97
      subst l97 y97 z97
      have X97 : Stand p l e room_1 s m #[(.int p1), (.int p2)] below meth c T97 _ 0 0 := X97
      obtain ⟨rfl, Nq98, e99⟩ := hQ97
      have N97 := Fr.app N93 Nq98
      obtain ⟨fs, hr, hrun, hended, hW, hsame⟩ := X97.leave (v := some (.int (1 : Int32))) (fun h => by rw [hret] at h; cases h)
      refine ⟨_, _, pre58 _ ?_, hrun, hended, _, _, rfl, ?_, ⟨_, rfl⟩, hW, hsame.mono (by decide) (by decide)⟩
      ·
        show Steps p.tables e below (T1.setTop (mkF m 16 #[.val (.int p1), .val (.int p2), .val (.ref w2), .unset, .unset] [(.int ((p2 &&& (2147483647 : Int32)) % (3 : Int32)))])) _
        refine st57 _ ?_
        show Steps p.tables e below (T57.setTop (mkF m 19 #[.val (.int p1), .val (.int p2), .val (.ref w2), .unset, .unset] [(.ref w3)])) _
        refine XS.astoreN X57.here hx rfl (hb hby at_19) rfl rfl (l' := #[.val (.int p1), .val (.int p2), .val (.ref w2), .val (.ref w3), .unset]) rfl ?_
        show Steps p.tables e below (T57.setTop (mkF m 20 #[.val (.int p1), .val (.int p2), .val (.ref w2), .val (.ref w3), .unset] [])) _
        refine XS.aloadN X57.here hx rfl (hb hby at_20) rfl rfl ?_
        show Steps p.tables e below (T57.setTop (mkF m 21 #[.val (.int p1), .val (.int p2), .val (.ref w2), .val (.ref w3), .unset] [(.ref w2)])) _
        refine st90 _ ?_
        show Steps p.tables e below (T90.setTop (mkF m 24 #[.val (.int p1), .val (.int p2), .val (.ref w2), .val (.ref w3), .unset] [(.int (1 : Int32))])) _
        refine XS.aloadN X90.here hx rfl (hb hby at_24) rfl rfl ?_
        show Steps p.tables e below (T90.setTop (mkF m 25 #[.val (.int p1), .val (.int p2), .val (.ref w2), .val (.ref w3), .unset] [(.ref w3), (.int (1 : Int32))])) _
        refine st93 _ ?_
        show Steps p.tables e below (T93.setTop (mkF m 28 #[.val (.int p1), .val (.int p2), .val (.ref w2), .val (.ref w3), .unset] [(.int (2 : Int32)), (.int (1 : Int32))])) _
        refine XS.icmpNo X93.here hx rfl (hb hby at_28) rfl (tlt (by decide : (1 : Int32) < (2 : Int32))).2.1 ?_
        show Steps p.tables e below (T93.setTop (mkF m 31 #[.val (.int p1), .val (.int p2), .val (.ref w2), .val (.ref w3), .unset] [])) _
        refine XS.iconst X93.here hx rfl (hb hby at_31) ?_
        show Steps p.tables e below (T93.setTop (mkF m 32 #[.val (.int p1), .val (.int p2), .val (.ref w2), .val (.ref w3), .unset] [(.int (1 : Int32))])) _
        refine XS.goto X93.here hx rfl (pc0 := 32) (pc' := 36) rfl (hb hby at_32) (by decide) (by decide) ?_
        show Steps p.tables e below (T93.setTop (mkF m 36 #[.val (.int p1), .val (.int p2), .val (.ref w2), .val (.ref w3), .unset] [(.int (1 : Int32))])) _
        refine XS.istore X93.here hx rfl (hb hby at_36) rfl (l' := #[.val (.int p1), .val (.int p2), .val (.ref w2), .val (.ref w3), .val (.int (1 : Int32))]) rfl ?_
        show Steps p.tables e below (T93.setTop (mkF m 38 #[.val (.int p1), .val (.int p2), .val (.ref w2), .val (.ref w3), .val (.int (1 : Int32))] [])) _
        refine XS.aloadN X93.here hx rfl (hb hby at_38) rfl rfl ?_
        show Steps p.tables e below (T93.setTop (mkF m 39 #[.val (.int p1), .val (.int p2), .val (.ref w2), .val (.ref w3), .val (.int (1 : Int32))] [(.ref w2)])) _
        refine XS.aloadN X93.here hx rfl (hb hby at_39) rfl rfl ?_
        show Steps p.tables e below (T93.setTop (mkF m 40 #[.val (.int p1), .val (.int p2), .val (.ref w2), .val (.ref w3), .val (.int (1 : Int32))] [(.ref w3), (.ref w2)])) _
        refine st97.trans ?_
        show Steps p.tables e below (T97.setTop (mkF m 43 #[.val (.int p1), .val (.int p2), .val (.ref w2), .val (.ref w3), .val (.int (1 : Int32))] [(.int (1 : Int32))])) _
        refine XS.iload X97.here hx rfl (hb hby at_43) rfl ?_
        show Steps p.tables e below (T97.setTop (mkF m 45 #[.val (.int p1), .val (.int p2), .val (.ref w2), .val (.ref w3), .val (.int (1 : Int32))] [(.int (1 : Int32)), (.int (1 : Int32))])) _
        refine XS.icmpNo X97.here hx rfl (hb hby at_45) rfl (teq (by decide : (1 : Int32) = (1 : Int32))).2 ?_
        show Steps p.tables e below (T97.setTop (mkF m 48 #[.val (.int p1), .val (.int p2), .val (.ref w2), .val (.ref w3), .val (.int (1 : Int32))] [])) _
        refine XS.iconst X97.here hx rfl (hb hby at_48) ?_
        show Steps p.tables e below (T97.setTop (mkF m 49 #[.val (.int p1), .val (.int p2), .val (.ref w2), .val (.ref w3), .val (.int (1 : Int32))] [(.int (1 : Int32))])) _
        refine XS.goto X97.here hx rfl (pc0 := 49) (pc' := 53) rfl (hb hby at_49) (by decide) (by decide) ?_
        show Steps p.tables e below (T97.setTop (mkF m 53 #[.val (.int p1), .val (.int p2), .val (.ref w2), .val (.ref w3), .val (.int (1 : Int32))] [(.int (1 : Int32))])) _
        exact retN X97 hx (t := .boolean) hret (by simp) (hb hby at_53) hr
      ·
        show Q0 n0 _ T97.heap _
        rw [e99]
        exact ⟨rfl, N97⟩
  ·
    have N1 := Fr.app N0 Nq12
    obtain ⟨_, _, ⟨T100, L100, c100, n100⟩, -, X100, ⟨Lc100, hQ100, l100, y100, z100⟩, st100⟩ := Jvm.LawKit.callS X1 hx (y := (⟨"com/example/swallow/swallow/engine/invoice/InvoiceStatusCanBecomePinLaw", "pick", "(I)Lcom/example/swallow/swallow/engine/invoice/InvoiceStatus;"⟩ : MethodName)) hown (mvT hZ (hw _ (List.mem_of_getElem? (i := 1) rfl))) (mvT hZ (hw _ (List.mem_of_getElem? (i := 2) rfl))) (mvT hZ (hw _ (List.mem_of_getElem? (i := 3) rfl))) (mvT hZ (hw _ (List.mem_of_getElem? (i := 4) rfl))) (by decide) (backOf (W := 0) (rm1 l Z a0 hw w1 w2 w3 G [] (((p2 &&& (2147483647 : Int32)) % (3 : Int32))) h0 n0 O0 ) hZ (hw _ (List.mem_of_getElem? (i := 4) rfl)) (hw _ (List.mem_of_getElem? (i := 3) rfl)) (by decide) (by decide)) (g := (mkF m 16 #[.val (.int p1), .val (.int p2), .val (.ref w3), .unset, .unset] [(.int ((p2 &&& (2147483647 : Int32)) % (3 : Int32)))])) rfl (by rw [hml]; rfl) (argsL := [(.int ((p2 &&& (2147483647 : Int32)) % (3 : Int32)))]) (rest := []) (lenOf pd0 rfl) rfl (by show 2 * 0 + _ ≤ _; exact Nat.le_of_eq rfl) (hb hby at_16) (fun _ _ => ⟨rfl, e13, (by decide : 0 + 0 ≤ _), (by decide : 0 + 0 ≤ _)⟩)
    dsimp only [Pt.U, Pt.locs, Pt.cells, Pt.slots] at X100 l100 y100 z100 st100 hQ100
    subst l100 y100 z100
    have pre101 : ∀ t, Steps p.tables e below (T1.setTop (mkF m 16 #[.val (.int p1), .val (.int p2), .val (.ref w3), .unset, .unset] [(.int ((p2 &&& (2147483647 : Int32)) % (3 : Int32)))])) t → Steps p.tables e below (s₁.setTop (entryFrame m #[(.int p1), (.int p2)] maxLocals)) t := fun t k => by
      refine pre2 _ ?_
      show Steps p.tables e below (s₁.setTop (mkF m 6 #[.val (.int p1), .val (.int p2), .unset, .unset, .unset] [(.int ((p1 &&& (2147483647 : Int32)) % (3 : Int32)))])) _
      refine st1 _ ?_
      show Steps p.tables e below (T1.setTop (mkF m 9 #[.val (.int p1), .val (.int p2), .unset, .unset, .unset] [(.ref w3)])) _
      refine XS.astoreN X1.here hx rfl (hb hby at_9) rfl rfl (l' := #[.val (.int p1), .val (.int p2), .val (.ref w3), .unset, .unset]) rfl ?_
      show Steps p.tables e below (T1.setTop (mkF m 10 #[.val (.int p1), .val (.int p2), .val (.ref w3), .unset, .unset] [])) _
      refine XS.iloadN X1.here hx rfl (hb hby at_10) rfl ?_
      show Steps p.tables e below (T1.setTop (mkF m 11 #[.val (.int p1), .val (.int p2), .val (.ref w3), .unset, .unset] [(.int p2)])) _
      refine X1.ldcInt hx hown (mvT hZ (hw _ (List.mem_of_getElem? (i := 0) rfl))) (g := (mkF m 11 #[.val (.int p1), .val (.int p2), .val (.ref w3), .unset, .unset] [(.int p2)])) rfl (hb hby at_11) _ ?_
      show Steps p.tables e below (T1.setTop (mkF m 13 #[.val (.int p1), .val (.int p2), .val (.ref w3), .unset, .unset] [(.int (2147483647 : Int32)), (.int p2)])) _
      refine XS.iand X1.here hx rfl (hb hby at_13) rfl ?_
      show Steps p.tables e below (T1.setTop (mkF m 14 #[.val (.int p1), .val (.int p2), .val (.ref w3), .unset, .unset] [(.int (p2 &&& (2147483647 : Int32)))])) _
      refine XS.iconst X1.here hx rfl (hb hby at_14) ?_
      show Steps p.tables e below (T1.setTop (mkF m 15 #[.val (.int p1), .val (.int p2), .val (.ref w3), .unset, .unset] [(.int (3 : Int32)), (.int (p2 &&& (2147483647 : Int32)))])) _
      refine iremM X1 hx rfl (hb hby at_15) rfl (by decide : ¬ ((3 : Int32) = (0 : Int32))) ?_
      exact k
    have X100 : Stand p l e room_1 s m #[(.int p1), (.int p2)] below meth c T100 _ 0 0 := X100
    rcases hQ100 with ⟨hc102, rfl, Nq103, e104⟩ | ⟨hc105, hc106, rfl, Nq107, e108⟩ | ⟨hc109, hc110, rfl, Nq111, e112⟩
    ·
      have N100 := Fr.app N1 Nq103
      obtain ⟨_, _, ⟨T113, L113, c113, n113⟩, -, X113, ⟨Lc113, hQ113, l113, y113, z113⟩, st113⟩ := Jvm.LawKit.callS X100 hx (y := (⟨"com/example/swallow/swallow/engine/invoice/InvoiceStatusCanBecomePinLaw", "rank", "(Lcom/example/swallow/swallow/engine/invoice/InvoiceStatus;)I"⟩ : MethodName)) hown (mvT hZ (hw _ (List.mem_of_getElem? (i := 8) rfl))) (mvT hZ (hw _ (List.mem_of_getElem? (i := 9) rfl))) (mvT hZ (hw _ (List.mem_of_getElem? (i := 3) rfl))) (mvT hZ (hw _ (List.mem_of_getElem? (i := 10) rfl))) (by decide) (backOf (W := 0) (rm7 l Z a0 hw w1 w2 w3 G []  h0 n0 O0 ) hZ (hw _ (List.mem_of_getElem? (i := 10) rfl)) (hw _ (List.mem_of_getElem? (i := 3) rfl)) (by decide) (by decide)) (g := (mkF m 21 #[.val (.int p1), .val (.int p2), .val (.ref w3), .val (.ref w1), .unset] [(.ref w3)])) rfl (by rw [hml]; rfl) (argsL := [(.ref w3)]) (rest := []) (lenOf pd1 rfl) rfl (by show 2 * 0 + _ ≤ _; exact Nat.le_of_eq rfl) (hb hby at_21) (fun _ _ => ⟨rfl, e104, (by decide : 0 + 0 ≤ _), (by decide : 0 + 0 ≤ _)⟩)
      dsimp only [Pt.U, Pt.locs, Pt.cells, Pt.slots] at X113 l113 y113 z113 st113 hQ113
      subst l113 y113 z113
      have X113 : Stand p l e room_1 s m #[(.int p1), (.int p2)] below meth c T113 _ 0 0 := X113
      obtain ⟨rfl, Nq114, e115⟩ := hQ113
      have N113 := Fr.app N100 Nq114
      obtain ⟨_, _, ⟨T116, L116, c116, n116⟩, -, X116, ⟨Lc116, hQ116, l116, y116, z116⟩, st116⟩ := Jvm.LawKit.callS X113 hx (y := (⟨"com/example/swallow/swallow/engine/invoice/InvoiceStatusCanBecomePinLaw", "rank", "(Lcom/example/swallow/swallow/engine/invoice/InvoiceStatus;)I"⟩ : MethodName)) hown (mvT hZ (hw _ (List.mem_of_getElem? (i := 8) rfl))) (mvT hZ (hw _ (List.mem_of_getElem? (i := 9) rfl))) (mvT hZ (hw _ (List.mem_of_getElem? (i := 3) rfl))) (mvT hZ (hw _ (List.mem_of_getElem? (i := 10) rfl))) (by decide) (backOf (W := 1) (rm2 l Z a0 hw w1 w2 w3 G []  h0 n0 O0 ) hZ (hw _ (List.mem_of_getElem? (i := 10) rfl)) (hw _ (List.mem_of_getElem? (i := 3) rfl)) (by decide) (by decide)) (g := (mkF m 25 #[.val (.int p1), .val (.int p2), .val (.ref w3), .val (.ref w1), .unset] [(.ref w1), (.int (2 : Int32))])) rfl (by rw [hml]; rfl) (argsL := [(.ref w1)]) (rest := [(.int (2 : Int32))]) (lenOf pd1 rfl) rfl (by show 2 * 0 + _ ≤ _; exact Nat.le_of_eq rfl) (hb hby at_25) (fun _ _ => ⟨rfl, e115, (by decide : 0 + 0 ≤ _), (by decide : 0 + 0 ≤ _)⟩)
      dsimp only [Pt.U, Pt.locs, Pt.cells, Pt.slots] at X116 l116 y116 z116 st116 hQ116
      subst l116 y116 z116
      have X116 : Stand p l e room_1 s m #[(.int p1), (.int p2)] below meth c T116 _ 0 0 := X116
      obtain ⟨rfl, Nq117, e118⟩ := hQ116
      have N116 := Fr.app N113 Nq117
      obtain ⟨cq119, kq119, q119a, q119b, q119c⟩ := isOf hZ e118 (E_w3.ext O0.2)
      obtain ⟨_, _, ⟨T120, L120, c120, n120⟩, -, X120, ⟨Lc120, hQ120, l120, y120, z120⟩, st120⟩ := X116.virtualBack hx (y := (⟨"com/example/swallow/swallow/engine/invoice/InvoiceStatus", "canBecome", "(Lcom/example/swallow/swallow/engine/invoice/InvoiceStatus;)Z"⟩ : MethodName)) (z := (⟨"com/example/swallow/swallow/engine/invoice/InvoiceStatus", "canBecome", "(Lcom/example/swallow/swallow/engine/invoice/InvoiceStatus;)Z"⟩ : MethodName)) hown (mvT hZ (hw _ (List.mem_of_getElem? (i := 11) rfl))) (mvT hZ (hw _ (List.mem_of_getElem? (i := 12) rfl))) (notFace_of_selects (args := #[]) (mvT hZ (hw _ (List.mem_of_getElem? (i := 14) rfl)))) (mvT hZ (hw _ (List.mem_of_getElem? (i := 14) rfl))) (mvT hZ (hw _ (List.mem_of_getElem? (i := 13) rfl))) (by decide) (backOf (W := 0) (rm14 l Z a0 hw w1 w2 w3 G []  h0 n0 O0 ) hZ (hw _ (List.mem_of_getElem? (i := 15) rfl)) (hw _ (List.mem_of_getElem? (i := 6) rfl)) (by decide) (by decide)) q119a q119c (g := (mkF m 40 #[.val (.int p1), .val (.int p2), .val (.ref w3), .val (.ref w1), .val (.int (0 : Int32))] [(.ref w1), (.ref w3)])) rfl (by rw [hml]; rfl) (Steps.refl _) (argsL := [(.ref w1)]) (rest := []) (lenOf pd3 rfl) rfl (by show 2 * 0 + _ ≤ _; exact Nat.le_of_eq rfl) (hb hby at_40) (fun _ _ => ⟨rfl, e118, (by decide : 0 + 0 ≤ _), (by decide : 0 + 0 ≤ _)⟩)
      dsimp only [Pt.U, Pt.locs, Pt.cells, Pt.slots] at X120 l120 y120 z120 st120 hQ120
      subst l120 y120 z120
      have X120 : Stand p l e room_1 s m #[(.int p1), (.int p2)] below meth c T120 _ 0 0 := X120
      obtain ⟨rfl, Nq121, e122⟩ := hQ120
      have N120 := Fr.app N116 Nq121
      obtain ⟨fs, hr, hrun, hended, hW, hsame⟩ := X120.leave (v := some (.int (1 : Int32))) (fun h => by rw [hret] at h; cases h)
      refine ⟨_, _, pre101 _ ?_, hrun, hended, _, _, rfl, ?_, ⟨_, rfl⟩, hW, hsame.mono (by decide) (by decide)⟩
      ·
        show Steps p.tables e below (T1.setTop (mkF m 16 #[.val (.int p1), .val (.int p2), .val (.ref w3), .unset, .unset] [(.int ((p2 &&& (2147483647 : Int32)) % (3 : Int32)))])) _
        refine st100 _ ?_
        show Steps p.tables e below (T100.setTop (mkF m 19 #[.val (.int p1), .val (.int p2), .val (.ref w3), .unset, .unset] [(.ref w1)])) _
        refine XS.astoreN X100.here hx rfl (hb hby at_19) rfl rfl (l' := #[.val (.int p1), .val (.int p2), .val (.ref w3), .val (.ref w1), .unset]) rfl ?_
        show Steps p.tables e below (T100.setTop (mkF m 20 #[.val (.int p1), .val (.int p2), .val (.ref w3), .val (.ref w1), .unset] [])) _
        refine XS.aloadN X100.here hx rfl (hb hby at_20) rfl rfl ?_
        show Steps p.tables e below (T100.setTop (mkF m 21 #[.val (.int p1), .val (.int p2), .val (.ref w3), .val (.ref w1), .unset] [(.ref w3)])) _
        refine st113 _ ?_
        show Steps p.tables e below (T113.setTop (mkF m 24 #[.val (.int p1), .val (.int p2), .val (.ref w3), .val (.ref w1), .unset] [(.int (2 : Int32))])) _
        refine XS.aloadN X113.here hx rfl (hb hby at_24) rfl rfl ?_
        show Steps p.tables e below (T113.setTop (mkF m 25 #[.val (.int p1), .val (.int p2), .val (.ref w3), .val (.ref w1), .unset] [(.ref w1), (.int (2 : Int32))])) _
        refine st116 _ ?_
        show Steps p.tables e below (T116.setTop (mkF m 28 #[.val (.int p1), .val (.int p2), .val (.ref w3), .val (.ref w1), .unset] [(.int (0 : Int32)), (.int (2 : Int32))])) _
        refine XS.icmpYes X116.here hx rfl (pc0 := 28) (pc' := 35) rfl (hb hby at_28) rfl (flt (by decide : ¬ ((2 : Int32) < (0 : Int32)))).2.1 (by decide) (by decide) ?_
        show Steps p.tables e below (T116.setTop (mkF m 35 #[.val (.int p1), .val (.int p2), .val (.ref w3), .val (.ref w1), .unset] [])) _
        refine XS.iconst X116.here hx rfl (hb hby at_35) ?_
        show Steps p.tables e below (T116.setTop (mkF m 36 #[.val (.int p1), .val (.int p2), .val (.ref w3), .val (.ref w1), .unset] [(.int (0 : Int32))])) _
        refine XS.istore X116.here hx rfl (hb hby at_36) rfl (l' := #[.val (.int p1), .val (.int p2), .val (.ref w3), .val (.ref w1), .val (.int (0 : Int32))]) rfl ?_
        show Steps p.tables e below (T116.setTop (mkF m 38 #[.val (.int p1), .val (.int p2), .val (.ref w3), .val (.ref w1), .val (.int (0 : Int32))] [])) _
        refine XS.aloadN X116.here hx rfl (hb hby at_38) rfl rfl ?_
        show Steps p.tables e below (T116.setTop (mkF m 39 #[.val (.int p1), .val (.int p2), .val (.ref w3), .val (.ref w1), .val (.int (0 : Int32))] [(.ref w3)])) _
        refine XS.aloadN X116.here hx rfl (hb hby at_39) rfl rfl ?_
        show Steps p.tables e below (T116.setTop (mkF m 40 #[.val (.int p1), .val (.int p2), .val (.ref w3), .val (.ref w1), .val (.int (0 : Int32))] [(.ref w1), (.ref w3)])) _
        refine st120.trans ?_
        show Steps p.tables e below (T120.setTop (mkF m 43 #[.val (.int p1), .val (.int p2), .val (.ref w3), .val (.ref w1), .val (.int (0 : Int32))] [(.int (0 : Int32))])) _
        refine XS.iload X120.here hx rfl (hb hby at_43) rfl ?_
        show Steps p.tables e below (T120.setTop (mkF m 45 #[.val (.int p1), .val (.int p2), .val (.ref w3), .val (.ref w1), .val (.int (0 : Int32))] [(.int (0 : Int32)), (.int (0 : Int32))])) _
        refine XS.icmpNo X120.here hx rfl (hb hby at_45) rfl (teq (by decide : (0 : Int32) = (0 : Int32))).2 ?_
        show Steps p.tables e below (T120.setTop (mkF m 48 #[.val (.int p1), .val (.int p2), .val (.ref w3), .val (.ref w1), .val (.int (0 : Int32))] [])) _
        refine XS.iconst X120.here hx rfl (hb hby at_48) ?_
        show Steps p.tables e below (T120.setTop (mkF m 49 #[.val (.int p1), .val (.int p2), .val (.ref w3), .val (.ref w1), .val (.int (0 : Int32))] [(.int (1 : Int32))])) _
        refine XS.goto X120.here hx rfl (pc0 := 49) (pc' := 53) rfl (hb hby at_49) (by decide) (by decide) ?_
        show Steps p.tables e below (T120.setTop (mkF m 53 #[.val (.int p1), .val (.int p2), .val (.ref w3), .val (.ref w1), .val (.int (0 : Int32))] [(.int (1 : Int32))])) _
        exact retN X120 hx (t := .boolean) hret (by simp) (hb hby at_53) hr
      ·
        show Q0 n0 _ T120.heap _
        rw [e122]
        exact ⟨rfl, N120⟩
    ·
      have N100 := Fr.app N1 Nq107
      obtain ⟨_, _, ⟨T123, L123, c123, n123⟩, -, X123, ⟨Lc123, hQ123, l123, y123, z123⟩, st123⟩ := Jvm.LawKit.callS X100 hx (y := (⟨"com/example/swallow/swallow/engine/invoice/InvoiceStatusCanBecomePinLaw", "rank", "(Lcom/example/swallow/swallow/engine/invoice/InvoiceStatus;)I"⟩ : MethodName)) hown (mvT hZ (hw _ (List.mem_of_getElem? (i := 8) rfl))) (mvT hZ (hw _ (List.mem_of_getElem? (i := 9) rfl))) (mvT hZ (hw _ (List.mem_of_getElem? (i := 3) rfl))) (mvT hZ (hw _ (List.mem_of_getElem? (i := 10) rfl))) (by decide) (backOf (W := 0) (rm7 l Z a0 hw w1 w2 w3 G []  h0 n0 O0 ) hZ (hw _ (List.mem_of_getElem? (i := 10) rfl)) (hw _ (List.mem_of_getElem? (i := 3) rfl)) (by decide) (by decide)) (g := (mkF m 21 #[.val (.int p1), .val (.int p2), .val (.ref w3), .val (.ref w2), .unset] [(.ref w3)])) rfl (by rw [hml]; rfl) (argsL := [(.ref w3)]) (rest := []) (lenOf pd1 rfl) rfl (by show 2 * 0 + _ ≤ _; exact Nat.le_of_eq rfl) (hb hby at_21) (fun _ _ => ⟨rfl, e108, (by decide : 0 + 0 ≤ _), (by decide : 0 + 0 ≤ _)⟩)
      dsimp only [Pt.U, Pt.locs, Pt.cells, Pt.slots] at X123 l123 y123 z123 st123 hQ123
      subst l123 y123 z123
      have X123 : Stand p l e room_1 s m #[(.int p1), (.int p2)] below meth c T123 _ 0 0 := X123
      obtain ⟨rfl, Nq124, e125⟩ := hQ123
      have N123 := Fr.app N100 Nq124
      obtain ⟨_, _, ⟨T126, L126, c126, n126⟩, -, X126, ⟨Lc126, hQ126, l126, y126, z126⟩, st126⟩ := Jvm.LawKit.callS X123 hx (y := (⟨"com/example/swallow/swallow/engine/invoice/InvoiceStatusCanBecomePinLaw", "rank", "(Lcom/example/swallow/swallow/engine/invoice/InvoiceStatus;)I"⟩ : MethodName)) hown (mvT hZ (hw _ (List.mem_of_getElem? (i := 8) rfl))) (mvT hZ (hw _ (List.mem_of_getElem? (i := 9) rfl))) (mvT hZ (hw _ (List.mem_of_getElem? (i := 3) rfl))) (mvT hZ (hw _ (List.mem_of_getElem? (i := 10) rfl))) (by decide) (backOf (W := 1) (rm5 l Z a0 hw w1 w2 w3 G []  h0 n0 O0 ) hZ (hw _ (List.mem_of_getElem? (i := 10) rfl)) (hw _ (List.mem_of_getElem? (i := 3) rfl)) (by decide) (by decide)) (g := (mkF m 25 #[.val (.int p1), .val (.int p2), .val (.ref w3), .val (.ref w2), .unset] [(.ref w2), (.int (2 : Int32))])) rfl (by rw [hml]; rfl) (argsL := [(.ref w2)]) (rest := [(.int (2 : Int32))]) (lenOf pd1 rfl) rfl (by show 2 * 0 + _ ≤ _; exact Nat.le_of_eq rfl) (hb hby at_25) (fun _ _ => ⟨rfl, e125, (by decide : 0 + 0 ≤ _), (by decide : 0 + 0 ≤ _)⟩)
      dsimp only [Pt.U, Pt.locs, Pt.cells, Pt.slots] at X126 l126 y126 z126 st126 hQ126
      subst l126 y126 z126
      have X126 : Stand p l e room_1 s m #[(.int p1), (.int p2)] below meth c T126 _ 0 0 := X126
      obtain ⟨rfl, Nq127, e128⟩ := hQ126
      have N126 := Fr.app N123 Nq127
      obtain ⟨cq129, kq129, q129a, q129b, q129c⟩ := isOf hZ e128 (E_w3.ext O0.2)
      obtain ⟨_, _, ⟨T130, L130, c130, n130⟩, -, X130, ⟨Lc130, hQ130, l130, y130, z130⟩, st130⟩ := X126.virtualBack hx (y := (⟨"com/example/swallow/swallow/engine/invoice/InvoiceStatus", "canBecome", "(Lcom/example/swallow/swallow/engine/invoice/InvoiceStatus;)Z"⟩ : MethodName)) (z := (⟨"com/example/swallow/swallow/engine/invoice/InvoiceStatus", "canBecome", "(Lcom/example/swallow/swallow/engine/invoice/InvoiceStatus;)Z"⟩ : MethodName)) hown (mvT hZ (hw _ (List.mem_of_getElem? (i := 11) rfl))) (mvT hZ (hw _ (List.mem_of_getElem? (i := 12) rfl))) (notFace_of_selects (args := #[]) (mvT hZ (hw _ (List.mem_of_getElem? (i := 14) rfl)))) (mvT hZ (hw _ (List.mem_of_getElem? (i := 14) rfl))) (mvT hZ (hw _ (List.mem_of_getElem? (i := 13) rfl))) (by decide) (backOf (W := 0) (rm15 l Z a0 hw w1 w2 w3 G []  h0 n0 O0 ) hZ (hw _ (List.mem_of_getElem? (i := 15) rfl)) (hw _ (List.mem_of_getElem? (i := 6) rfl)) (by decide) (by decide)) q129a q129c (g := (mkF m 40 #[.val (.int p1), .val (.int p2), .val (.ref w3), .val (.ref w2), .val (.int (0 : Int32))] [(.ref w2), (.ref w3)])) rfl (by rw [hml]; rfl) (Steps.refl _) (argsL := [(.ref w2)]) (rest := []) (lenOf pd3 rfl) rfl (by show 2 * 0 + _ ≤ _; exact Nat.le_of_eq rfl) (hb hby at_40) (fun _ _ => ⟨rfl, e128, (by decide : 0 + 0 ≤ _), (by decide : 0 + 0 ≤ _)⟩)
      dsimp only [Pt.U, Pt.locs, Pt.cells, Pt.slots] at X130 l130 y130 z130 st130 hQ130
      subst l130 y130 z130
      have X130 : Stand p l e room_1 s m #[(.int p1), (.int p2)] below meth c T130 _ 0 0 := X130
      obtain ⟨rfl, Nq131, e132⟩ := hQ130
      have N130 := Fr.app N126 Nq131
      obtain ⟨fs, hr, hrun, hended, hW, hsame⟩ := X130.leave (v := some (.int (1 : Int32))) (fun h => by rw [hret] at h; cases h)
      refine ⟨_, _, pre101 _ ?_, hrun, hended, _, _, rfl, ?_, ⟨_, rfl⟩, hW, hsame.mono (by decide) (by decide)⟩
      ·
        show Steps p.tables e below (T1.setTop (mkF m 16 #[.val (.int p1), .val (.int p2), .val (.ref w3), .unset, .unset] [(.int ((p2 &&& (2147483647 : Int32)) % (3 : Int32)))])) _
        refine st100 _ ?_
        show Steps p.tables e below (T100.setTop (mkF m 19 #[.val (.int p1), .val (.int p2), .val (.ref w3), .unset, .unset] [(.ref w2)])) _
        refine XS.astoreN X100.here hx rfl (hb hby at_19) rfl rfl (l' := #[.val (.int p1), .val (.int p2), .val (.ref w3), .val (.ref w2), .unset]) rfl ?_
        show Steps p.tables e below (T100.setTop (mkF m 20 #[.val (.int p1), .val (.int p2), .val (.ref w3), .val (.ref w2), .unset] [])) _
        refine XS.aloadN X100.here hx rfl (hb hby at_20) rfl rfl ?_
        show Steps p.tables e below (T100.setTop (mkF m 21 #[.val (.int p1), .val (.int p2), .val (.ref w3), .val (.ref w2), .unset] [(.ref w3)])) _
        refine st123 _ ?_
        show Steps p.tables e below (T123.setTop (mkF m 24 #[.val (.int p1), .val (.int p2), .val (.ref w3), .val (.ref w2), .unset] [(.int (2 : Int32))])) _
        refine XS.aloadN X123.here hx rfl (hb hby at_24) rfl rfl ?_
        show Steps p.tables e below (T123.setTop (mkF m 25 #[.val (.int p1), .val (.int p2), .val (.ref w3), .val (.ref w2), .unset] [(.ref w2), (.int (2 : Int32))])) _
        refine st126 _ ?_
        show Steps p.tables e below (T126.setTop (mkF m 28 #[.val (.int p1), .val (.int p2), .val (.ref w3), .val (.ref w2), .unset] [(.int (1 : Int32)), (.int (2 : Int32))])) _
        refine XS.icmpYes X126.here hx rfl (pc0 := 28) (pc' := 35) rfl (hb hby at_28) rfl (flt (by decide : ¬ ((2 : Int32) < (1 : Int32)))).2.1 (by decide) (by decide) ?_
        show Steps p.tables e below (T126.setTop (mkF m 35 #[.val (.int p1), .val (.int p2), .val (.ref w3), .val (.ref w2), .unset] [])) _
        refine XS.iconst X126.here hx rfl (hb hby at_35) ?_
        show Steps p.tables e below (T126.setTop (mkF m 36 #[.val (.int p1), .val (.int p2), .val (.ref w3), .val (.ref w2), .unset] [(.int (0 : Int32))])) _
        refine XS.istore X126.here hx rfl (hb hby at_36) rfl (l' := #[.val (.int p1), .val (.int p2), .val (.ref w3), .val (.ref w2), .val (.int (0 : Int32))]) rfl ?_
        show Steps p.tables e below (T126.setTop (mkF m 38 #[.val (.int p1), .val (.int p2), .val (.ref w3), .val (.ref w2), .val (.int (0 : Int32))] [])) _
        refine XS.aloadN X126.here hx rfl (hb hby at_38) rfl rfl ?_
        show Steps p.tables e below (T126.setTop (mkF m 39 #[.val (.int p1), .val (.int p2), .val (.ref w3), .val (.ref w2), .val (.int (0 : Int32))] [(.ref w3)])) _
        refine XS.aloadN X126.here hx rfl (hb hby at_39) rfl rfl ?_
        show Steps p.tables e below (T126.setTop (mkF m 40 #[.val (.int p1), .val (.int p2), .val (.ref w3), .val (.ref w2), .val (.int (0 : Int32))] [(.ref w2), (.ref w3)])) _
        refine st130.trans ?_
        show Steps p.tables e below (T130.setTop (mkF m 43 #[.val (.int p1), .val (.int p2), .val (.ref w3), .val (.ref w2), .val (.int (0 : Int32))] [(.int (0 : Int32))])) _
        refine XS.iload X130.here hx rfl (hb hby at_43) rfl ?_
        show Steps p.tables e below (T130.setTop (mkF m 45 #[.val (.int p1), .val (.int p2), .val (.ref w3), .val (.ref w2), .val (.int (0 : Int32))] [(.int (0 : Int32)), (.int (0 : Int32))])) _
        refine XS.icmpNo X130.here hx rfl (hb hby at_45) rfl (teq (by decide : (0 : Int32) = (0 : Int32))).2 ?_
        show Steps p.tables e below (T130.setTop (mkF m 48 #[.val (.int p1), .val (.int p2), .val (.ref w3), .val (.ref w2), .val (.int (0 : Int32))] [])) _
        refine XS.iconst X130.here hx rfl (hb hby at_48) ?_
        show Steps p.tables e below (T130.setTop (mkF m 49 #[.val (.int p1), .val (.int p2), .val (.ref w3), .val (.ref w2), .val (.int (0 : Int32))] [(.int (1 : Int32))])) _
        refine XS.goto X130.here hx rfl (pc0 := 49) (pc' := 53) rfl (hb hby at_49) (by decide) (by decide) ?_
        show Steps p.tables e below (T130.setTop (mkF m 53 #[.val (.int p1), .val (.int p2), .val (.ref w3), .val (.ref w2), .val (.int (0 : Int32))] [(.int (1 : Int32))])) _
        exact retN X130 hx (t := .boolean) hret (by simp) (hb hby at_53) hr
      ·
        show Q0 n0 _ T130.heap _
        rw [e132]
        exact ⟨rfl, N130⟩
    ·
      have N100 := Fr.app N1 Nq111
      obtain ⟨_, _, ⟨T133, L133, c133, n133⟩, -, X133, ⟨Lc133, hQ133, l133, y133, z133⟩, st133⟩ := Jvm.LawKit.callS X100 hx (y := (⟨"com/example/swallow/swallow/engine/invoice/InvoiceStatusCanBecomePinLaw", "rank", "(Lcom/example/swallow/swallow/engine/invoice/InvoiceStatus;)I"⟩ : MethodName)) hown (mvT hZ (hw _ (List.mem_of_getElem? (i := 8) rfl))) (mvT hZ (hw _ (List.mem_of_getElem? (i := 9) rfl))) (mvT hZ (hw _ (List.mem_of_getElem? (i := 3) rfl))) (mvT hZ (hw _ (List.mem_of_getElem? (i := 10) rfl))) (by decide) (backOf (W := 0) (rm7 l Z a0 hw w1 w2 w3 G []  h0 n0 O0 ) hZ (hw _ (List.mem_of_getElem? (i := 10) rfl)) (hw _ (List.mem_of_getElem? (i := 3) rfl)) (by decide) (by decide)) (g := (mkF m 21 #[.val (.int p1), .val (.int p2), .val (.ref w3), .val (.ref w3), .unset] [(.ref w3)])) rfl (by rw [hml]; rfl) (argsL := [(.ref w3)]) (rest := []) (lenOf pd1 rfl) rfl (by show 2 * 0 + _ ≤ _; exact Nat.le_of_eq rfl) (hb hby at_21) (fun _ _ => ⟨rfl, e112, (by decide : 0 + 0 ≤ _), (by decide : 0 + 0 ≤ _)⟩)
      dsimp only [Pt.U, Pt.locs, Pt.cells, Pt.slots] at X133 l133 y133 z133 st133 hQ133
      subst l133 y133 z133
      have X133 : Stand p l e room_1 s m #[(.int p1), (.int p2)] below meth c T133 _ 0 0 := X133
      obtain ⟨rfl, Nq134, e135⟩ := hQ133
      have N133 := Fr.app N100 Nq134
      obtain ⟨_, _, ⟨T136, L136, c136, n136⟩, -, X136, ⟨Lc136, hQ136, l136, y136, z136⟩, st136⟩ := Jvm.LawKit.callS X133 hx (y := (⟨"com/example/swallow/swallow/engine/invoice/InvoiceStatusCanBecomePinLaw", "rank", "(Lcom/example/swallow/swallow/engine/invoice/InvoiceStatus;)I"⟩ : MethodName)) hown (mvT hZ (hw _ (List.mem_of_getElem? (i := 8) rfl))) (mvT hZ (hw _ (List.mem_of_getElem? (i := 9) rfl))) (mvT hZ (hw _ (List.mem_of_getElem? (i := 3) rfl))) (mvT hZ (hw _ (List.mem_of_getElem? (i := 10) rfl))) (by decide) (backOf (W := 1) (rm7 l Z a0 hw w1 w2 w3 G []  h0 n0 O0 ) hZ (hw _ (List.mem_of_getElem? (i := 10) rfl)) (hw _ (List.mem_of_getElem? (i := 3) rfl)) (by decide) (by decide)) (g := (mkF m 25 #[.val (.int p1), .val (.int p2), .val (.ref w3), .val (.ref w3), .unset] [(.ref w3), (.int (2 : Int32))])) rfl (by rw [hml]; rfl) (argsL := [(.ref w3)]) (rest := [(.int (2 : Int32))]) (lenOf pd1 rfl) rfl (by show 2 * 0 + _ ≤ _; exact Nat.le_of_eq rfl) (hb hby at_25) (fun _ _ => ⟨rfl, e135, (by decide : 0 + 0 ≤ _), (by decide : 0 + 0 ≤ _)⟩)
      dsimp only [Pt.U, Pt.locs, Pt.cells, Pt.slots] at X136 l136 y136 z136 st136 hQ136
      subst l136 y136 z136
      have X136 : Stand p l e room_1 s m #[(.int p1), (.int p2)] below meth c T136 _ 0 0 := X136
      obtain ⟨rfl, Nq137, e138⟩ := hQ136
      have N136 := Fr.app N133 Nq137
      obtain ⟨cq139, kq139, q139a, q139b, q139c⟩ := isOf hZ e138 (E_w3.ext O0.2)
      obtain ⟨_, _, ⟨T140, L140, c140, n140⟩, -, X140, ⟨Lc140, hQ140, l140, y140, z140⟩, st140⟩ := X136.virtualBack hx (y := (⟨"com/example/swallow/swallow/engine/invoice/InvoiceStatus", "canBecome", "(Lcom/example/swallow/swallow/engine/invoice/InvoiceStatus;)Z"⟩ : MethodName)) (z := (⟨"com/example/swallow/swallow/engine/invoice/InvoiceStatus", "canBecome", "(Lcom/example/swallow/swallow/engine/invoice/InvoiceStatus;)Z"⟩ : MethodName)) hown (mvT hZ (hw _ (List.mem_of_getElem? (i := 11) rfl))) (mvT hZ (hw _ (List.mem_of_getElem? (i := 12) rfl))) (notFace_of_selects (args := #[]) (mvT hZ (hw _ (List.mem_of_getElem? (i := 14) rfl)))) (mvT hZ (hw _ (List.mem_of_getElem? (i := 14) rfl))) (mvT hZ (hw _ (List.mem_of_getElem? (i := 13) rfl))) (by decide) (backOf (W := 0) (rm16 l Z a0 hw w1 w2 w3 G []  h0 n0 O0 ) hZ (hw _ (List.mem_of_getElem? (i := 15) rfl)) (hw _ (List.mem_of_getElem? (i := 6) rfl)) (by decide) (by decide)) q139a q139c (g := (mkF m 40 #[.val (.int p1), .val (.int p2), .val (.ref w3), .val (.ref w3), .val (.int (0 : Int32))] [(.ref w3), (.ref w3)])) rfl (by rw [hml]; rfl) (Steps.refl _) (argsL := [(.ref w3)]) (rest := []) (lenOf pd3 rfl) rfl (by show 2 * 0 + _ ≤ _; exact Nat.le_of_eq rfl) (hb hby at_40) (fun _ _ => ⟨rfl, e138, (by decide : 0 + 0 ≤ _), (by decide : 0 + 0 ≤ _)⟩)
      dsimp only [Pt.U, Pt.locs, Pt.cells, Pt.slots] at X140 l140 y140 z140 st140 hQ140
      subst l140 y140 z140
      have X140 : Stand p l e room_1 s m #[(.int p1), (.int p2)] below meth c T140 _ 0 0 := X140
      obtain ⟨rfl, Nq141, e142⟩ := hQ140
      have N140 := Fr.app N136 Nq141
      obtain ⟨fs, hr, hrun, hended, hW, hsame⟩ := X140.leave (v := some (.int (1 : Int32))) (fun h => by rw [hret] at h; cases h)
      refine ⟨_, _, pre101 _ ?_, hrun, hended, _, _, rfl, ?_, ⟨_, rfl⟩, hW, hsame.mono (by decide) (by decide)⟩
      ·
        show Steps p.tables e below (T1.setTop (mkF m 16 #[.val (.int p1), .val (.int p2), .val (.ref w3), .unset, .unset] [(.int ((p2 &&& (2147483647 : Int32)) % (3 : Int32)))])) _
        refine st100 _ ?_
        show Steps p.tables e below (T100.setTop (mkF m 19 #[.val (.int p1), .val (.int p2), .val (.ref w3), .unset, .unset] [(.ref w3)])) _
        refine XS.astoreN X100.here hx rfl (hb hby at_19) rfl rfl (l' := #[.val (.int p1), .val (.int p2), .val (.ref w3), .val (.ref w3), .unset]) rfl ?_
        show Steps p.tables e below (T100.setTop (mkF m 20 #[.val (.int p1), .val (.int p2), .val (.ref w3), .val (.ref w3), .unset] [])) _
        refine XS.aloadN X100.here hx rfl (hb hby at_20) rfl rfl ?_
        show Steps p.tables e below (T100.setTop (mkF m 21 #[.val (.int p1), .val (.int p2), .val (.ref w3), .val (.ref w3), .unset] [(.ref w3)])) _
        refine st133 _ ?_
        show Steps p.tables e below (T133.setTop (mkF m 24 #[.val (.int p1), .val (.int p2), .val (.ref w3), .val (.ref w3), .unset] [(.int (2 : Int32))])) _
        refine XS.aloadN X133.here hx rfl (hb hby at_24) rfl rfl ?_
        show Steps p.tables e below (T133.setTop (mkF m 25 #[.val (.int p1), .val (.int p2), .val (.ref w3), .val (.ref w3), .unset] [(.ref w3), (.int (2 : Int32))])) _
        refine st136 _ ?_
        show Steps p.tables e below (T136.setTop (mkF m 28 #[.val (.int p1), .val (.int p2), .val (.ref w3), .val (.ref w3), .unset] [(.int (2 : Int32)), (.int (2 : Int32))])) _
        refine XS.icmpYes X136.here hx rfl (pc0 := 28) (pc' := 35) rfl (hb hby at_28) rfl (flt (by decide : ¬ ((2 : Int32) < (2 : Int32)))).2.1 (by decide) (by decide) ?_
        show Steps p.tables e below (T136.setTop (mkF m 35 #[.val (.int p1), .val (.int p2), .val (.ref w3), .val (.ref w3), .unset] [])) _
        refine XS.iconst X136.here hx rfl (hb hby at_35) ?_
        show Steps p.tables e below (T136.setTop (mkF m 36 #[.val (.int p1), .val (.int p2), .val (.ref w3), .val (.ref w3), .unset] [(.int (0 : Int32))])) _
        refine XS.istore X136.here hx rfl (hb hby at_36) rfl (l' := #[.val (.int p1), .val (.int p2), .val (.ref w3), .val (.ref w3), .val (.int (0 : Int32))]) rfl ?_
        show Steps p.tables e below (T136.setTop (mkF m 38 #[.val (.int p1), .val (.int p2), .val (.ref w3), .val (.ref w3), .val (.int (0 : Int32))] [])) _
        refine XS.aloadN X136.here hx rfl (hb hby at_38) rfl rfl ?_
        show Steps p.tables e below (T136.setTop (mkF m 39 #[.val (.int p1), .val (.int p2), .val (.ref w3), .val (.ref w3), .val (.int (0 : Int32))] [(.ref w3)])) _
        refine XS.aloadN X136.here hx rfl (hb hby at_39) rfl rfl ?_
        show Steps p.tables e below (T136.setTop (mkF m 40 #[.val (.int p1), .val (.int p2), .val (.ref w3), .val (.ref w3), .val (.int (0 : Int32))] [(.ref w3), (.ref w3)])) _
        refine st140.trans ?_
        show Steps p.tables e below (T140.setTop (mkF m 43 #[.val (.int p1), .val (.int p2), .val (.ref w3), .val (.ref w3), .val (.int (0 : Int32))] [(.int (0 : Int32))])) _
        refine XS.iload X140.here hx rfl (hb hby at_43) rfl ?_
        show Steps p.tables e below (T140.setTop (mkF m 45 #[.val (.int p1), .val (.int p2), .val (.ref w3), .val (.ref w3), .val (.int (0 : Int32))] [(.int (0 : Int32)), (.int (0 : Int32))])) _
        refine XS.icmpNo X140.here hx rfl (hb hby at_45) rfl (teq (by decide : (0 : Int32) = (0 : Int32))).2 ?_
        show Steps p.tables e below (T140.setTop (mkF m 48 #[.val (.int p1), .val (.int p2), .val (.ref w3), .val (.ref w3), .val (.int (0 : Int32))] [])) _
        refine XS.iconst X140.here hx rfl (hb hby at_48) ?_
        show Steps p.tables e below (T140.setTop (mkF m 49 #[.val (.int p1), .val (.int p2), .val (.ref w3), .val (.ref w3), .val (.int (0 : Int32))] [(.int (1 : Int32))])) _
        refine XS.goto X140.here hx rfl (pc0 := 49) (pc' := 53) rfl (hb hby at_49) (by decide) (by decide) ?_
        show Steps p.tables e below (T140.setTop (mkF m 53 #[.val (.int p1), .val (.int p2), .val (.ref w3), .val (.ref w3), .val (.int (0 : Int32))] [(.int (1 : Int32))])) _
        exact retN X140 hx (t := .boolean) hret (by simp) (hb hby at_53) hr
      ·
        show Q0 n0 _ T140.heap _
        rw [e142]
        exact ⟨rfl, N140⟩
set_option maxRecDepth 65536 in
set_option maxHeartbeats 40000000 in
theorem comes_1 {Post : Tables → Env → Array Value → State → Outcome → State → Prop} (hpost : ∀ tb e args s v u, (limb_1_1.after args s (.returned v) u = true ∧ limb_1_2.after args s (.returned v) u = true ∧ True) → FrameEnd s (.returned v) u (Jvm.fieldLocs frame_1_writes args s ++ Jvm.arrayLocs frame_1_arrays args s ++ Jvm.staticLocs frame_1_statics s) 0 0 → Post tb e args s (.returned v) u) :
    ArmFor flags0 classFile x code maxLocals ret World_1 tables_1 room_1 Calls_1 rest_1 Pre_1 Post := by
  intro l hfl _ _ p e ha hc hk s m args below hf hA hF happ hP
  obtain ⟨hcalls, hrest, hpre⟩ := hP
  obtain ⟨-, -, -, hnamed, -, -, -, hat⟩ := (Spec.applies_iff hf).mp happ
  obtain ⟨hg, hn⟩ := and_e (Cond.before_iff.mp (show (Jvm.Cond.and given_1 narrow_1).before args s = true from hpre))
  obtain ⟨hcount, hk0⟩ := and_e hg
  obtain ⟨hi0, hk1⟩ := and_e hk0
  have hi1 := hk1
  obtain ⟨w_a0, w_a1, rfl⟩ : ∃ w_a0 w_a1 : Value, args = #[w_a0, w_a1] := by
    have hs : args.size = 2 := by simpa [Cond.value, given_1] using hcount
    obtain ⟨L⟩ := args
    match L, hs with
    | [w_a0, w_a1], _ => exact ⟨w_a0, w_a1, rfl⟩
  have hw := fun d (hd : d ∈ tables_1) => atoms_spec (ws := Jvm.Cond.code x code maxLocals ret :: tables_1) hat d (List.mem_cons_of_mem _ hd)
  have hfit : Fit s := fun {y c} hc i hi => by
    obtain ⟨ha, rfl⟩ := Array.getElem?_eq_some_iff.mp hc
    have q := List.all_eq_true.mp ((Array.all_eq_true_iff_forall_mem.mp hF) _ (Array.getElem_mem ha)) i (List.mem_range.mpr hi)
    simpa [Array.getElem?_eq_getElem hi] using q
  obtain ⟨i0, ei0⟩ := is_v hi0
  obtain rfl : w_a0 = (.int i0) := Option.some.inj ei0
  obtain ⟨i1, ei1⟩ := is_v hi1
  obtain rfl : w_a1 = (.int i1) := Option.some.inj ei1
  obtain ⟨gl0, gr0⟩ := and_e hn
  obtain ⟨gl1, gr1⟩ := and_e gr0
  obtain ⟨gl2, gr2⟩ := and_e gr1
  obtain ⟨gl3, gr3⟩ := and_e gr2
  obtain ⟨gl4, gr4⟩ := and_e gr3
  obtain ⟨w1, ev_w1⟩ := exa_v gl0
  have S_w1 : Sta s s.heap "com/example/swallow/swallow/engine/invoice/InvoiceStatus" "DRAFT" "Lcom/example/swallow/swallow/engine/invoice/InvoiceStatus;" (.ref w1) := Sta.start ev_w1 (Or.inr ⟨(hw _ (List.mem_of_getElem? (i := 6) rfl)), (hw _ (List.mem_of_getElem? (i := 7) rfl))⟩)
  have E_w1 : Exa s s.heap w1 "com/example/swallow/swallow/engine/invoice/InvoiceStatus" := Exa.start ev_w1 gl0
  obtain ⟨w2, ev_w2⟩ := exa_v gl2
  have S_w2 : Sta s s.heap "com/example/swallow/swallow/engine/invoice/InvoiceStatus" "ISSUED" "Lcom/example/swallow/swallow/engine/invoice/InvoiceStatus;" (.ref w2) := Sta.start ev_w2 (Or.inr ⟨(hw _ (List.mem_of_getElem? (i := 6) rfl)), (hw _ (List.mem_of_getElem? (i := 26) rfl))⟩)
  have E_w2 : Exa s s.heap w2 "com/example/swallow/swallow/engine/invoice/InvoiceStatus" := Exa.start ev_w2 gl2
  obtain ⟨w3, ev_w3⟩ := exa_v gl4
  have S_w3 : Sta s s.heap "com/example/swallow/swallow/engine/invoice/InvoiceStatus" "CANCELLED" "Lcom/example/swallow/swallow/engine/invoice/InvoiceStatus;" (.ref w3) := Sta.start ev_w3 (Or.inr ⟨(hw _ (List.mem_of_getElem? (i := 6) rfl)), (hw _ (List.mem_of_getElem? (i := 28) rfl))⟩)
  have E_w3 : Exa s s.heap w3 "com/example/swallow/swallow/engine/invoice/InvoiceStatus" := Exa.start ev_w3 gl4
  have F_w1_ordinal : Fld s s.heap w1 "java/lang/Enum" "ordinal" "I" (.int (0 : Int32)) := Fld.start ((fld_at ev_w1).symm.trans (eqv_i rfl gl1))
  have F_w2_ordinal : Fld s s.heap w2 "java/lang/Enum" "ordinal" "I" (.int (1 : Int32)) := Fld.start ((fld_at ev_w2).symm.trans (eqv_i rfl gl3))
  have F_w3_ordinal : Fld s s.heap w3 "java/lang/Enum" "ordinal" "I" (.int (2 : Int32)) := Fld.start ((fld_at ev_w3).symm.trans (eqv_i rfl gr4))
  have G : GW s w1 w2 w3 := ⟨S_w1, E_w1, S_w2, E_w2, S_w3, E_w3, F_w1_ordinal, F_w2_ordinal, F_w3_ordinal⟩
  obtain ⟨n, o, h1, h2, h3, _, L, rfl, ⟨rfl, N⟩, hq⟩ := rm0 l s _ hw w1 w2 w3 G tables_1 i0 i1 s.heap s.heap.size (Old.start s) p e ha hc hk s m _ below hf ((Spec.applies_iff_loose hf).mp happ).1 ⟨rfl, State.Warmed39.refl s, rfl⟩ trivial
  refine ⟨n, _, h1, h2, h3, hpost _ _ _ _ _ _ ⟨Cond.after_iff.mpr rfl, Cond.after_iff.mpr (eq_i res_at (Term.int_eval (1)) rfl), trivial⟩ ⟨hq.1, hq.2.1, (hq.2.2.sift fun y hy => Or.inr (N y hy)).mono (by decide) (by decide)⟩⟩
theorem main_1_1 : Claimed_1_1 := comes_1 fun _ _ _ _ _ _ h hF => ⟨h.1, hF⟩
theorem main_1_2 : Claimed_1_2 := comes_1 fun _ _ _ _ _ _ h hF => ⟨h.2.1, hF⟩
end Jvm.Pilot.@@N@@
namespace Jvm.Pilot.@@N@@
open Jvm Jvm.ClassFile Sem Op Lib Jvm.Free Jvm.Stand Jvm.Pilot.@@N@@.Jvm.D
/-! MADE BY PROGRAM (witnessworld.py) out of the Statement's table words and the real class files: 12 classes; the members and pool entries that the words name. The judged class is class 1, her method 3. -/
namespace start1
open Jvm.ClassFile
def u (s : String) : CpInfo := .utf8 (stringToUtf16 s)
/-- a pool by its gaps: so many unusable entries, then the entry; so many at the end -/
def gap : Nat → List CpInfo → List CpInfo
  | 0, r => r
  | n + 1, r => .unusable :: gap n r
def poolList (es : List (Nat × CpInfo)) (last : Nat) : List CpInfo := es.foldr (fun e r => gap e.1 (e.2 :: r)) (gap last [])
def pool (es : List (Nat × CpInfo)) (last : Nat) : Array CpInfo := ⟨poolList es last⟩
def fileOf (pool : Array CpInfo) (this : Nat) (attrs : Array Attribute := #[]) (ms : Array MethodInfo := #[]) (fl : Nat := 33) (sup : Nat := 0) (ifs : Array Nat := #[]) (fds : Array FieldInfo := #[]) : ClassFile where
  minorVersion := 0
  majorVersion := 65
  constantPool := pool
  accessFlags := fl
  thisClass := this
  superClass := sup
  interfaces := ifs
  fields := fds
  methods := ms
  attributes := attrs
def plain (name : String) (sup : Option ClassId) : Class where
  name := name
  kind := .ordinary
  loader := none
  accessFlags := 33
  super := sup
  interfaces := #[]
  cf := none
  fields := #[]
  methods := #[]
  instanceTypes := #[]
  staticTypes := #[]
  resolved := #[]
  callSites := []
  init := .initialized
  statics := none
  mirror := none

def pool0 : Array CpInfo := pool [(5, u "<init>"), (0, u "()V"), (1, .class_ 10), (1, u "java/lang/Object")] 113

def k0m0 : Method := { name := "<init>", desc := "()V", sig := { parameters := [], returnType := none }, accessFlags := 1, code := none }
/-- java/lang/Object -/
def k0 : Class := { plain "java/lang/Object" none with
  accessFlags := 33
  interfaces := #[]
  cf := some (fileOf pool0 8 #[] #[{ accessFlags := 1, nameIndex := 5, descriptorIndex := 6, attributes := #[] }] 33 0 #[] #[])
  fields := #[]
  methods := #[k0m0]
  instanceTypes := #[]
  staticTypes := #[]
  resolved := Array.replicate 124 none
  statics := none }

def pool1 : Array CpInfo := pool [(2, .class_ 4), (1, u "java/lang/Object"), (0, u "<init>"), (0, u "()V"), (0, .fieldref 8 9), (0, .class_ 10), (0, .nameAndType 11 12), (0, u "com/example/swallow/swallow/engine/invoice/InvoiceStatus"), (0, u "DRAFT"), (0, u "Lcom/example/swallow/swallow/engine/invoice/InvoiceStatus;"), (0, .fieldref 8 14), (0, .nameAndType 15 12), (0, u "ISSUED"), (0, .fieldref 8 17), (0, .nameAndType 18 12), (0, u "CANCELLED"), (0, .integer 2147483647), (0, .methodref 21 22), (0, .class_ 23), (0, .nameAndType 24 25), (0, u "com/example/swallow/swallow/engine/invoice/InvoiceStatusCanBecomePinLaw"), (0, u "pick"), (0, u "(I)Lcom/example/swallow/swallow/engine/invoice/InvoiceStatus;"), (0, .methodref 21 27), (0, .nameAndType 28 29), (0, u "rank"), (0, u "(Lcom/example/swallow/swallow/engine/invoice/InvoiceStatus;)I"), (0, .methodref 8 31), (0, .nameAndType 32 33), (0, u "canBecome"), (0, u "(Lcom/example/swallow/swallow/engine/invoice/InvoiceStatus;)Z"), (3, u "law"), (0, u "(II)Z")] 2

def k1m0 : Method := { name := "<init>", desc := "()V", sig := { parameters := [], returnType := none }, accessFlags := 1, code := none }
def k1c1 : Code := { maxStack := 2, maxLocals := 1, code := method_2_code, exceptionTable := #[], attributes := #[] }
def k1m1 : Method := { name := "pick", desc := "(I)Lcom/example/swallow/swallow/engine/invoice/InvoiceStatus;", sig := { parameters := [.int], returnType := some (.object "com/example/swallow/swallow/engine/invoice/InvoiceStatus") }, accessFlags := 10, code := some k1c1 }
def k1c2 : Code := { maxStack := 2, maxLocals := 1, code := method_3_code, exceptionTable := #[], attributes := #[] }
def k1m2 : Method := { name := "rank", desc := "(Lcom/example/swallow/swallow/engine/invoice/InvoiceStatus;)I", sig := { parameters := [(.object "com/example/swallow/swallow/engine/invoice/InvoiceStatus")], returnType := some .int }, accessFlags := 10, code := some k1c2 }
def k1c3 : Code := { maxStack := 2, maxLocals := 5, code := code, exceptionTable := #[], attributes := #[] }
def k1m3 : Method := { name := "law", desc := "(II)Z", sig := { parameters := [.int, .int], returnType := some .boolean }, accessFlags := 9, code := some k1c3 }
/-- com/example/swallow/swallow/engine/invoice/InvoiceStatusCanBecomePinLaw -/
def k1 : Class := { plain "com/example/swallow/swallow/engine/invoice/InvoiceStatusCanBecomePinLaw" (some 0) with
  accessFlags := 49
  interfaces := #[]
  cf := some (fileOf pool1 21 #[] #[{ accessFlags := 1, nameIndex := 5, descriptorIndex := 6, attributes := #[] }, { accessFlags := 10, nameIndex := 24, descriptorIndex := 25, attributes := #[] }, { accessFlags := 10, nameIndex := 28, descriptorIndex := 29, attributes := #[] }, { accessFlags := 9, nameIndex := 37, descriptorIndex := 38, attributes := #[] }] 49 2 #[] #[])
  fields := #[]
  methods := #[k1m0, k1m1, k1m2, k1m3]
  instanceTypes := #[]
  staticTypes := #[]
  resolved := Array.replicate 41 none
  statics := none }

def pool2 : Array CpInfo := pool [(1, .class_ 2), (0, u "java/lang/constant/Constable"), (0, .class_ 4), (0, u "java/lang/Object")] 6

/-- java/lang/constant/Constable -/
def k2 : Class := { plain "java/lang/constant/Constable" (some 0) with
  accessFlags := 1537
  interfaces := #[]
  cf := some (fileOf pool2 1 #[] #[] 1537 3 #[] #[])
  fields := #[]
  methods := #[]
  instanceTypes := #[]
  staticTypes := #[]
  resolved := Array.replicate 11 none
  statics := none }

def pool3 : Array CpInfo := pool [(1, .class_ 2), (0, u "java/lang/Comparable"), (0, .class_ 4), (0, u "java/lang/Object")] 7

/-- java/lang/Comparable -/
def k3 : Class := { plain "java/lang/Comparable" (some 0) with
  accessFlags := 1537
  interfaces := #[]
  cf := some (fileOf pool3 1 #[] #[] 1537 3 #[] #[])
  fields := #[]
  methods := #[]
  instanceTypes := #[]
  staticTypes := #[]
  resolved := Array.replicate 12 none
  statics := none }

def pool4 : Array CpInfo := pool [(1, .class_ 2), (0, u "java/io/Serializable"), (0, .class_ 4), (0, u "java/lang/Object")] 2

/-- java/io/Serializable -/
def k4 : Class := { plain "java/io/Serializable" (some 0) with
  accessFlags := 1537
  interfaces := #[]
  cf := some (fileOf pool4 1 #[] #[] 1537 3 #[] #[])
  fields := #[]
  methods := #[]
  instanceTypes := #[]
  staticTypes := #[]
  resolved := Array.replicate 7 none
  statics := none }

def pool5 : Array CpInfo := pool [(2, .class_ 4), (1, u "java/lang/Enum"), (0, u "name"), (0, u "Ljava/lang/String;"), (0, .fieldref 2 8), (0, .nameAndType 9 10), (0, u "ordinal"), (0, u "I"), (1, .class_ 14), (1, u "java/lang/Object"), (4, u "hash"), (86, .class_ 108), (1, u "java/lang/Enum$EnumDesc"), (2, .class_ 112), (0, u "java/lang/constant/Constable"), (0, .class_ 114), (0, u "java/lang/Comparable"), (0, .class_ 116), (0, u "java/io/Serializable"), (9, u "()I")] 77

def k5c0 : Code := { maxStack := 1, maxLocals := 1, code := jdk_37_method_2_code, exceptionTable := #[], attributes := #[] }
def k5m0 : Method := { name := "ordinal", desc := "()I", sig := { parameters := [], returnType := some .int }, accessFlags := 17, code := some k5c0 }
/-- java/lang/Enum -/
def k5 : Class := { plain "java/lang/Enum" (some 0) with
  accessFlags := 1057
  interfaces := #[2, 3, 4]
  cf := some (fileOf pool5 2 #[.nestMembers #[106]] #[{ accessFlags := 17, nameIndex := 9, descriptorIndex := 126, attributes := #[] }] 1057 12 #[111, 113, 115] #[{ accessFlags := 18, nameIndex := 5, descriptorIndex := 6, attributes := #[] }, { accessFlags := 18, nameIndex := 9, descriptorIndex := 10, attributes := #[] }, { accessFlags := 2, nameIndex := 19, descriptorIndex := 10, attributes := #[] }])
  fields := #[{ name := "name", type := (.object "java/lang/String"), accessFlags := 18, slot := 0, constantValue := 0 }, { name := "ordinal", type := .int, accessFlags := 18, slot := 1, constantValue := 0 }, { name := "hash", type := .int, accessFlags := 2, slot := 2, constantValue := 0 }]
  methods := #[k5m0]
  instanceTypes := #[(.object "java/lang/String"), .int, .int]
  staticTypes := #[]
  resolved := Array.replicate 204 none
  statics := none }

def pool6 : Array CpInfo := pool [(1, .class_ 2), (0, u "com/example/swallow/swallow/engine/invoice/InvoiceStatus"), (2, u "DRAFT"), (0, u "Lcom/example/swallow/swallow/engine/invoice/InvoiceStatus;"), (0, .fieldref 1 8), (0, .nameAndType 9 6), (0, u "ISSUED"), (0, .fieldref 1 11), (0, .nameAndType 12 6), (0, u "CANCELLED"), (2, u "$VALUES"), (0, u "[Lcom/example/swallow/swallow/engine/invoice/InvoiceStatus;"), (6, .class_ 25), (1, u "java/lang/Enum"), (6, .methodref 1 33), (0, .nameAndType 34 35), (0, u "ordinal"), (0, u "()I"), (15, u "canBecome"), (0, u "(Lcom/example/swallow/swallow/engine/invoice/InvoiceStatus;)Z")] 7

def k6c0 : Code := { maxStack := 2, maxLocals := 2, code := prog_13_method_4_code, exceptionTable := #[], attributes := #[] }
def k6m0 : Method := { name := "canBecome", desc := "(Lcom/example/swallow/swallow/engine/invoice/InvoiceStatus;)Z", sig := { parameters := [(.object "com/example/swallow/swallow/engine/invoice/InvoiceStatus")], returnType := some .boolean }, accessFlags := 1, code := some k6c0 }
/-- com/example/swallow/swallow/engine/invoice/InvoiceStatus -/
def k6 : Class := { plain "com/example/swallow/swallow/engine/invoice/InvoiceStatus" (some 5) with
  accessFlags := 16433
  interfaces := #[]
  cf := some (fileOf pool6 1 #[] #[{ accessFlags := 1, nameIndex := 51, descriptorIndex := 52, attributes := #[] }] 16433 23 #[] #[{ accessFlags := 16409, nameIndex := 5, descriptorIndex := 6, attributes := #[] }, { accessFlags := 16409, nameIndex := 9, descriptorIndex := 6, attributes := #[] }, { accessFlags := 16409, nameIndex := 12, descriptorIndex := 6, attributes := #[] }, { accessFlags := 4122, nameIndex := 15, descriptorIndex := 16, attributes := #[] }])
  fields := #[{ name := "DRAFT", type := (.object "com/example/swallow/swallow/engine/invoice/InvoiceStatus"), accessFlags := 16409, slot := 0, constantValue := 0 }, { name := "ISSUED", type := (.object "com/example/swallow/swallow/engine/invoice/InvoiceStatus"), accessFlags := 16409, slot := 1, constantValue := 0 }, { name := "CANCELLED", type := (.object "com/example/swallow/swallow/engine/invoice/InvoiceStatus"), accessFlags := 16409, slot := 2, constantValue := 0 }, { name := "$VALUES", type := (.array (.object "com/example/swallow/swallow/engine/invoice/InvoiceStatus")), accessFlags := 4122, slot := 3, constantValue := 0 }]
  methods := #[k6m0]
  instanceTypes := #[(.object "java/lang/String"), .int, .int]
  staticTypes := #[(.object "com/example/swallow/swallow/engine/invoice/InvoiceStatus"), (.object "com/example/swallow/swallow/engine/invoice/InvoiceStatus"), (.object "com/example/swallow/swallow/engine/invoice/InvoiceStatus"), (.array (.object "com/example/swallow/swallow/engine/invoice/InvoiceStatus"))]
  resolved := Array.replicate 60 none
  statics := some 0 }

def pool7 : Array CpInfo := pool [(1, u "java/lang/Cloneable"), (0, .class_ 1), (0, u "java/lang/Object"), (0, .class_ 3)] 3

/-- java/lang/Cloneable -/
def k7 : Class := { plain "java/lang/Cloneable" (some 0) with
  accessFlags := 1537
  interfaces := #[]
  cf := some (fileOf pool7 2 #[] #[] 1537 4 #[] #[])
  fields := #[]
  methods := #[]
  instanceTypes := #[]
  staticTypes := #[]
  resolved := Array.replicate 8 none
  statics := none }

/-- the primitive byte -/
def k8 : Class := { plain "byte" none with kind := .primitive 'B', accessFlags := 0x411 }
/-- [B -/
def k9 : Class := { plain "[B" (some 0) with kind := .array 8 .byte, interfaces := #[7, 4], accessFlags := 1041 }

/-- the primitive int -/
def k10 : Class := { plain "int" none with kind := .primitive 'I', accessFlags := 0x411 }
/-- [I -/
def k11 : Class := { plain "[I" (some 0) with kind := .array 10 .int, interfaces := #[7, 4], accessFlags := 1041 }

def heap : Heap := #[{ cls := 6, slots := #[.ref 1, .ref 2, .ref 3, .null], vm := .statics 6 },
  { cls := 6, slots := #[.null, .int 0, .int 0], vm := .none },
  { cls := 6, slots := #[.null, .int 1, .int 0], vm := .none },
  { cls := 6, slots := #[.null, .int 2, .int 0], vm := .none }]
def classes : Array Class := #[k0, k1, k2, k3, k4, k5, k6, k7, k8, k9, k10, k11]
def interned : List (Array UInt16 × Addr) := []
def slotsUsed : Nat := 13
def theMethod : MethodId := ⟨1, 3⟩
def args0 : Array Value := #[.int 5, .int 5]
def aboutOver (below : List Frame) : State where
  vm := { classes := classes, interned := interned.toArray }
  heap := heap
  slotsUsed := slotsUsed
  threads := #[{ frames := .invoking theMethod args0 :: below }]
def below0 : List Frame := [.native { method := ⟨0, 0⟩, args := #[] }]
def about1 : State := aboutOver below0
def p0 : Program := .bare "" "" ""
def e0 : Env := launch0.env 0 0 0
theorem w_frames : about1.frames = Frame.invoking theMethod args0 :: below0 := rfl
set_option maxRecDepth 65536 in
theorem w_args : argsFit about1.vm theMethod args0 = true := by decide +kernel
set_option maxRecDepth 65536 in
theorem w_heap : heapFits about1 = true := by decide +kernel
set_option maxRecDepth 65536 in
theorem w_runnable : about1.curStatus? = some .runnable := by decide +kernel
set_option maxRecDepth 65536 in
theorem w_alone : about1.alone = true := by decide +kernel
set_option maxRecDepth 65536 in
theorem w_named : about1.methodNamed? x = some theMethod := by decide +kernel
set_option maxRecDepth 65536 in
theorem w_hears : about1.hears theMethod below0 = true := by decide +kernel
set_option maxRecDepth 65536 in
theorem w_ripe : about1.ripe theMethod args0 below0 = true := by decide +kernel
theorem w_running : about1.status = .running := rfl
set_option maxRecDepth 65536 in
theorem w_room : about1.hasRoom e0.platform room_1 = true :=
  launch0.hasRoom_least _ room_1 (by decide +kernel) (by decide +kernel) (by decide +kernel) (by decide +kernel) (by decide +kernel) (by decide +kernel)
theorem allAtoms_all (ts : List Jvm.Cond) (a : Array Jvm.Value) (st : Jvm.State) : (allAtoms ts).before a st = ts.all (fun c => c.before a st) := by
  induction ts with
  | nil => rfl
  | cons c t ih =>
    show (Jvm.Cond.and c (allAtoms t)).before a st = _
    rw [Jvm.Cond.before_and, ih, List.all_cons]
def words1 : List Jvm.Cond := Jvm.Cond.code x code maxLocals ret :: tables_1
/-- a 'code' word, met by the world's own term for the bytes: nothing is compared byte by byte -/
theorem code_word {y : MethodName} {bytes : ByteArray} {mx : Nat} {rt : Option FieldType} {a : Array Value} {s : State} {m : MethodId} {meth : Method} {c : Code} (h1 : s.methodNamed? y = some m) (h2 : s.vm.method? m = some meth) (h3 : meth.code = some c) (h4 : c.code = bytes)
    (h5 : (c.maxLocals == mx && c.exceptionTable.isEmpty && decide (c.maxStack ≤ mostOperands) && decide (meth.sig.returnType = rt) && !meth.locks && decide (parseMethodDescriptor y.desc = some meth.sig)) = true) : (Jvm.Cond.code y bytes mx rt).before a s = true := by
  simp only [Bool.and_eq_true, beq_iff_eq, Bool.not_eq_true', decide_eq_true_eq] at h5
  obtain ⟨⟨⟨⟨⟨g1, g2⟩, g3⟩, g4⟩, g5⟩, g6⟩ := h5
  simp [Cond.before, Cond.holds, Cond.value, h1, h2, h3, h4, g1, g2, g3, g4, g5, g6]
def isCode : Jvm.Cond → Bool
  | .code _ _ _ _ => true
  | _ => false
theorem all_split {L : List Jvm.Cond} {P : Jvm.Cond → Bool} (h1 : L.all (fun c => isCode c || P c) = true) (h2 : ∀ c ∈ L.filter isCode, P c = true) : L.all P = true := by
  refine List.all_eq_true.mpr fun c hc => ?_
  have h := List.all_eq_true.mp h1 c hc
  rcases Bool.eq_false_or_eq_true (isCode c) with hi | hi
  · exact h2 c (List.mem_filter.mpr ⟨hc, hi⟩)
  · simpa [hi] using h
set_option maxRecDepth 65536 in
theorem w_c0 : (Jvm.Cond.code x code maxLocals ret).before args0 about1 = true := code_word (m := ⟨1, 3⟩) (meth := k1m3) (c := k1c3) (by decide +kernel) rfl rfl rfl (by decide +kernel)
set_option maxRecDepth 65536 in
theorem w_c1 : (Jvm.Cond.code ({ cls := "com/example/swallow/swallow/engine/invoice/InvoiceStatusCanBecomePinLaw", name := "pick", desc := "(I)Lcom/example/swallow/swallow/engine/invoice/InvoiceStatus;" } : Jvm.MethodName) method_2_code (1 : Nat) (Option.some (Jvm.ClassFile.FieldType.object "com/example/swallow/swallow/engine/invoice/InvoiceStatus"))).before args0 about1 = true := code_word (m := ⟨1, 1⟩) (meth := k1m1) (c := k1c1) (by decide +kernel) rfl rfl rfl (by decide +kernel)
set_option maxRecDepth 65536 in
theorem w_c2 : (Jvm.Cond.code ({ cls := "com/example/swallow/swallow/engine/invoice/InvoiceStatusCanBecomePinLaw", name := "rank", desc := "(Lcom/example/swallow/swallow/engine/invoice/InvoiceStatus;)I" } : Jvm.MethodName) method_3_code (1 : Nat) (Option.some Jvm.ClassFile.FieldType.int)).before args0 about1 = true := code_word (m := ⟨1, 2⟩) (meth := k1m2) (c := k1c2) (by decide +kernel) rfl rfl rfl (by decide +kernel)
set_option maxRecDepth 65536 in
theorem w_c3 : (Jvm.Cond.code ({ cls := "com/example/swallow/swallow/engine/invoice/InvoiceStatus", name := "canBecome", desc := "(Lcom/example/swallow/swallow/engine/invoice/InvoiceStatus;)Z" } : Jvm.MethodName) prog_13_method_4_code (2 : Nat) (Option.some Jvm.ClassFile.FieldType.boolean)).before args0 about1 = true := code_word (m := ⟨6, 0⟩) (meth := k6m0) (c := k6c0) (by decide +kernel) rfl rfl rfl (by decide +kernel)
set_option maxRecDepth 65536 in
theorem w_c4 : (Jvm.Cond.code ({ cls := "java/lang/Enum", name := "ordinal", desc := "()I" } : Jvm.MethodName) jdk_37_method_2_code (1 : Nat) (Option.some Jvm.ClassFile.FieldType.int)).before args0 about1 = true := code_word (m := ⟨5, 0⟩) (meth := k5m0) (c := k5c0) (by decide +kernel) rfl rfl rfl (by decide +kernel)
def codes1 : List Jvm.Cond := [Jvm.Cond.code x code maxLocals ret, Jvm.Cond.code ({ cls := "com/example/swallow/swallow/engine/invoice/InvoiceStatusCanBecomePinLaw", name := "pick", desc := "(I)Lcom/example/swallow/swallow/engine/invoice/InvoiceStatus;" } : Jvm.MethodName) method_2_code (1 : Nat) (Option.some (Jvm.ClassFile.FieldType.object "com/example/swallow/swallow/engine/invoice/InvoiceStatus")), Jvm.Cond.code ({ cls := "com/example/swallow/swallow/engine/invoice/InvoiceStatusCanBecomePinLaw", name := "rank", desc := "(Lcom/example/swallow/swallow/engine/invoice/InvoiceStatus;)I" } : Jvm.MethodName) method_3_code (1 : Nat) (Option.some Jvm.ClassFile.FieldType.int), Jvm.Cond.code ({ cls := "com/example/swallow/swallow/engine/invoice/InvoiceStatus", name := "canBecome", desc := "(Lcom/example/swallow/swallow/engine/invoice/InvoiceStatus;)Z" } : Jvm.MethodName) prog_13_method_4_code (2 : Nat) (Option.some Jvm.ClassFile.FieldType.boolean), Jvm.Cond.code ({ cls := "java/lang/Enum", name := "ordinal", desc := "()I" } : Jvm.MethodName) jdk_37_method_2_code (1 : Nat) (Option.some Jvm.ClassFile.FieldType.int)]
set_option maxRecDepth 65536 in
theorem codes_eq : words1.filter isCode = codes1 := rfl
theorem w_codes : ∀ c ∈ words1.filter isCode, c.before args0 about1 = true := by
  rw [codes_eq]
  intro c hc
  simp only [codes1, List.mem_cons, List.not_mem_nil, or_false] at hc
  rcases hc with rfl | rfl | rfl | rfl | rfl
  · exact w_c0
  · exact w_c1
  · exact w_c2
  · exact w_c3
  · exact w_c4
set_option maxRecDepth 65536 in
theorem w_t1 : (words1.take 24).all (fun c => isCode c || c.before args0 about1) = true := by decide +kernel
set_option maxRecDepth 65536 in
theorem w_t2 : (words1.drop 24).all (fun c => isCode c || c.before args0 about1) = true := by decide +kernel
theorem w_tables : (allAtoms (Jvm.Cond.code x code maxLocals ret :: tables_1)).before args0 about1 = true := by
  rw [allAtoms_all]
  show words1.all (fun c => c.before args0 about1) = true
  refine all_split ?_ w_codes
  rw [← List.take_append_drop 24 words1, List.all_append, w_t1, w_t2]
  rfl
set_option maxRecDepth 65536 in
theorem w_case : (Jvm.Cond.and given_1 narrow_1).before args0 about1 = true := by decide +kernel
theorem w_applies : (headSpec (Jvm.Cond.code x code maxLocals ret :: tables_1) room_1).applies x e0.platform about1 = true :=
  (Spec.applies_iff w_frames).mpr ⟨w_running, w_runnable, w_alone, w_named, w_hears, w_ripe, w_room, w_tables⟩
theorem atStart : AtStart classFile x code maxLocals ret World_1 tables_1 room_1 Calls_1 rest_1 Pre_1 launch0 p0 e0 about1 theMethod args0 below0 :=
  ⟨lists_1, trivial, launch0.admits_env _ _ _, launch0.least_env, fairChoices_fair.cas, fairChoices_fair.clock, w_frames, w_args, w_heap, w_applies, trivial, trivial, w_case⟩
end start1
theorem witness_1 : WitnessClaimed_1 := ⟨start1.p0, start1.e0, start1.about1, start1.theMethod, start1.args0, start1.below0, start1.atStart⟩
end Jvm.Pilot.@@N@@
