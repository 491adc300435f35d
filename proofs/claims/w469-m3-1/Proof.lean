import JvmDerived
import JvmDerived.Pilot.@@N@@Statement
import JvmDerived.Pilot.@@N@@Code
set_option linter.unusedVariables false
set_option linter.unusedSimpArgs false
namespace Jvm.RoadKit
open Sem ClassFile Op Lib Jvm.Stand Jvm.Free Jvm.LawKit
section New
variable {p : Program} {l : Launch} {e : Env} {R : Room} {s : State} {m : MethodId} {args : Array Value} {below : List Frame} {meth : Method} {c : Code} {T : State} {locs : List Loc} {cells slots : Nat}
theorem retI (X : Stand p l e R s m args below meth c T locs cells slots) (hx : p.tables.exec = Jvm.exec) {pc : Nat} {Ls : Array Slot} {z : Int32} {rest : List Value} (hret : meth.sig.returnType = some .int) (hd : decode c.code pc = .ok (.ireturn, 1)) {fs : List Frame}
    (hl : ∀ (f : JFrame) (acts : List Action), f.method = m → f.locked = none → f.entered = [] → (doReturn e (T.setTop f) acts (some (.int z))).1 = T.setFrames fs) : Steps p.tables e below (T.setTop (mkF m pc Ls (.int z :: rest))) (T.setFrames fs) := by
  have hm' : T.vm.method? m = some meth := X.method'
  have hn : narrow .int (.int z) = .int z := rfl
  show Steps p.tables e below (T.setTop { method := m, pc := pc, locals := Ls, stack := _ :: rest, locked := none }) _
  jvm_step X.here [X.here.top, hx, hd, hm', hret, hn]
  first | (intro acts; rw [hl _ acts rfl rfl rfl]) | rw [hl _ _ rfl rfl rfl]
  exact Steps.refl _
end New
end Jvm.RoadKit
namespace Jvm.Pilot.@@N@@
open Jvm Jvm.ClassFile Sem Op Lib Jvm.Free Jvm.Stand Jvm.LawKit Jvm.RoadKit Bundle Jvm.Pilot.@@N@@.Jvm.D
theorem own_le {Z : State} {n0 : Nat} {h : Heap} (O : Old Z n0 h) : n0 ≤ h.size := O.1 ▸ O.2.1
def own_Q (r : Value) (h0 : Heap) (n0 : Nat) (v : Option Value) (h : Heap) (L : List Loc) : Prop := v = some r ∧ Fr n0 L ∧ h = h0
def own_Qn (h0 : Heap) (n0 : Nat) (v : Option Value) (h : Heap) (L : List Loc) : Prop := v = none ∧ Fr n0 L ∧ h = h0
def own_R (n0 : Nat) (v : Option Value) (h : Heap) (L : List Loc) : Prop := v = some (.int (1 : Int32)) ∧ Fr n0 L
theorem own_ne {args : Array Value} {s : State} {t u : Term} {K n d : String} {a b : Addr} {i j : Int32} (ht : t.eval args s none [] s = some (.ref a)) (hu : u.eval args s none [] s = some (.ref b))
    (h1 : (Jvm.Cond.eq (Term.field t K n d) (Term.int i)).value args s none s [] = some true) (h2 : (Jvm.Cond.eq (Term.field u K n d) (Term.int j)).value args s none s [] = some true) (hij : i ≠ j) : ¬ a = b := by
  intro e
  subst e
  obtain ⟨v, e1, e2⟩ := Cond.eq_worth h1
  obtain ⟨v', e3, e4⟩ := Cond.eq_worth h2
  rw [fld_at ht] at e1
  rw [fld_at hu] at e3
  have q1 : v = .int i := Option.some.inj (e2.symm.trans (Term.int_eval i))
  have q2 : v' = .int j := Option.some.inj (e4.symm.trans (Term.int_eval j))
  have q3 : v = v' := Option.some.inj (e1.symm.trans e3)
  rw [q1, q2] at q3
  exact hij (by injection q3)
theorem own_l2d_num (b : Int64) : FP.Core.val64 (FP.l2d b) ≠ .nan := by
  rw [show FP.l2d b = FP.Core.l2d b from rfl, FP.Core.val64_l2d]
  exact FP.Core.roundRatio_ne_nan _ _ _ _ _
/-- the product of two small whole doubles: a whole double, or one of the two zeros -/
theorem own_mul {a b : Int64} (ha : B53 a) (hb : B53 b) (h1 : -9007199254740992 < a.toInt * b.toInt) (h2 : a.toInt * b.toInt < 9007199254740992) :
    FP.dmul (FP.l2d a) (FP.l2d b) = FP.l2d (a * b) ∨ (FP.dmul (FP.l2d a) (FP.l2d b) = (9223372036854775808 : UInt64) ∧ a * b = 0) := by
  by_cases z : a = 0 ∨ b = 0
  · have e := dmul_z ha hb z
    have e0 : a * b = 0 := by rcases z with z | z <;> subst z <;> simp
    by_cases q : (decide (a.toInt < 0) != decide (b.toInt < 0)) = true
    · rw [if_pos q] at e; exact Or.inr ⟨e, e0⟩
    · rw [if_neg q] at e; rw [e0]; exact Or.inl e
  · exact Or.inl (dmul_w ha hb (fun q => z (Or.inl q)) (fun q => z (Or.inr q)) (by omega) (by omega))
theorem own_nnz : Jvm.Free.Fl.NoNaN64 (9223372036854775808 : UInt64) := by decide
theorem own_mul_nn {a b : Int64} (ha : B53 a) (hb : B53 b) (h1 : -9007199254740992 < a.toInt * b.toInt) (h2 : a.toInt * b.toInt < 9007199254740992) : Jvm.Free.Fl.NoNaN64 (FP.dmul (FP.l2d a) (FP.l2d b)) := by
  rcases own_mul ha hb h1 h2 with e | ⟨e, -⟩
  · exact nn_w e
  · rw [e]; exact own_nnz
theorem own_mulI {a b : Int64} (h1 : -9007199254740992 < a.toInt * b.toInt) (h2 : a.toInt * b.toInt < 9007199254740992) : (a * b).toInt = a.toInt * b.toInt := by
  rw [Int64.toInt_mul]; exact Int.bmod_eq_of_le (by omega) (by omega)
/-- intercept + slope * x, exactly -/
theorem own_irt {a b x : Int64} (ha : B53 a) (hb : B53 b) (hx : B53 x) (h1 : -9007199254740992 < a.toInt * x.toInt) (h2 : a.toInt * x.toInt < 9007199254740992) : FP.dadd (FP.l2d b) (FP.dmul (FP.l2d a) (FP.l2d x)) = FP.l2d (b + a * x) := by
  rcases own_mul ha hx h1 h2 with e | ⟨e, e0⟩
  · rw [e]
    exact dadd_w hb ⟨by rw [own_mulI h1 h2]; exact h1, by rw [own_mulI h1 h2]; exact h2⟩
  · rw [e, e0, Int64.add_zero]
    exact FP.Core.dadd_zeroNeg (own_l2d_num b)
theorem own_cmp {a b x : Int64} (ha : B53 a) (hb : B53 b) (h1 : -9007199254740992 < a.toInt * b.toInt) (h2 : a.toInt * b.toInt < 9007199254740992) (e : x = a * b) : cmpValue (FP.dcmp (FP.l2d x) (FP.dmul (FP.l2d a) (FP.l2d b))) .l = (0 : Int32) := by
  have hx : B53 (a * b) := ⟨by rw [own_mulI h1 h2]; exact h1, by rw [own_mulI h1 h2]; exact h2⟩
  rcases own_mul ha hb h1 h2 with e1 | ⟨e1, e0⟩
  · rw [e1, e]; exact dcmpV_self (nn_w rfl) .l
  · rw [e1, e, e0]; decide
theorem own_rem {p n : Int32} {k : Int} (hk : n.toInt = k) (h0 : 0 < k) (hs : k < 2147483648) : -k < ((p % n).toInt64).toInt ∧ ((p % n).toInt64).toInt < k := by
  rw [Int32.toInt_toInt64, Int32.toInt_mod, hk]
  have h1 := Int.tmod_lt_of_pos p.toInt h0
  have h2 := Int.lt_tmod_of_pos p.toInt h0
  exact ⟨h2, h1⟩
theorem own_bd {a c : Int} (ha : -1048576 < a ∧ a < 1048576) (hc : -2048 < c ∧ c < 2048) : -9007199254740992 < a * c ∧ a * c < 9007199254740992 := by
  have h := mc (a := a) (b := c) (l1 := -1048576) (h1 := 1048576) (l2 := -2048) (h2 := 2048) (by omega) (by omega) (by omega) (by omega)
  generalize a * c = q at h ⊢
  omega
theorem own_b20 {a : Int64} (h : -1048576 < a.toInt ∧ a.toInt < 1048576) : B53 a := ⟨by omega, by omega⟩
theorem own_b11 {a : Int64} (h : -2048 < a.toInt ∧ a.toInt < 2048) : B53 a := ⟨by omega, by omega⟩
theorem own_dadd {a b x : Int64} (ha : -1048576 < a.toInt ∧ a.toInt < 1048576) (hb : -1048576 < b.toInt ∧ b.toInt < 1048576) (hx : -2048 < x.toInt ∧ x.toInt < 2048) :
    Jvm.Free.Fl.NoNaN64 (FP.dmul (FP.l2d a) (FP.l2d x)) ∧ FP.dadd (FP.l2d b) (FP.dmul (FP.l2d a) (FP.l2d x)) = FP.l2d (b + a * x) ∧ (b + a * x).toInt = b.toInt + a.toInt * x.toInt ∧ B53 (b + a * x) := by
  have q := own_bd ha hx
  have e := own_mulI q.1 q.2
  have hm : B53 (a * x) := ⟨by rw [e]; exact q.1, by rw [e]; exact q.2⟩
  have e2 : (b + a * x).toInt = b.toInt + a.toInt * x.toInt := by rw [add64 (own_b20 hb) hm, e]
  have h := mc (a := a.toInt) (b := x.toInt) (l1 := -1048576) (h1 := 1048576) (l2 := -2048) (h2 := 2048) (by omega) (by omega) (by omega) (by omega)
  refine ⟨own_mul_nn (own_b20 ha) (own_b11 hx) q.1 q.2, own_irt (own_b20 ha) (own_b20 hb) (own_b11 hx) q.1 q.2, e2, ?_⟩
  unfold B53
  rw [e2]
  generalize a.toInt * x.toInt = w at h ⊢
  omega
theorem own_law (i0 i1 i2 i3 : Int32) {dA dB dC dE g0 g1 g2 g3 y0 y1 y2 y3 s1 s2 s3 s4 : UInt64} (hA : FP.i2d (i0 % (1048576 : Int32)) = dA) (hB : FP.i2d (i1 % (1048576 : Int32)) = dB) (hC : FP.i2d (i2 % (1024 : Int32)) = dC) (hE : FP.i2d (i3 % (1024 : Int32)) = dE)
    (v0 : FP.dmul dA (0 : UInt64) = g0) (u0 : FP.dadd dB g0 = y0) (v1 : FP.dmul dA (4607182418800017408 : UInt64) = g1) (u1 : FP.dadd dB g1 = y1) (v2 : FP.dmul dA dC = g2) (u2 : FP.dadd dB g2 = y2) (v3 : FP.dmul dA dE = g3) (u3 : FP.dadd dB g3 = y3)
    (b1 : FP.dsub y1 y0 = s1) (b2 : FP.dsub y2 y3 = s2) (b3 : FP.dsub dC dE = s3) (b4 : FP.dmul dA s3 = s4) :
    Jvm.Free.Fl.NoNaN64 (FP.dmul dA (0 : UInt64)) ∧ Jvm.Free.Fl.NoNaN64 (FP.dadd dB g0) ∧ Jvm.Free.Fl.NoNaN64 (FP.dmul dA (4607182418800017408 : UInt64)) ∧ Jvm.Free.Fl.NoNaN64 (FP.dadd dB g1) ∧ Jvm.Free.Fl.NoNaN64 (FP.dmul dA dC) ∧ Jvm.Free.Fl.NoNaN64 (FP.dadd dB g2) ∧ Jvm.Free.Fl.NoNaN64 (FP.dmul dA dE) ∧ Jvm.Free.Fl.NoNaN64 (FP.dadd dB g3) ∧
    cmpValue (FP.dcmp y0 dB) .l = (0 : Int32) ∧ Jvm.Free.Fl.NoNaN64 (FP.dsub y1 y0) ∧ cmpValue (FP.dcmp s1 dA) .l = (0 : Int32) ∧ Jvm.Free.Fl.NoNaN64 (FP.dsub y2 y3) ∧ Jvm.Free.Fl.NoNaN64 (FP.dsub dC dE) ∧ Jvm.Free.Fl.NoNaN64 (FP.dmul dA s3) ∧ cmpValue (FP.dcmp s2 s4) .l = (0 : Int32) := by
  have rA := own_rem (p := i0) (n := (1048576 : Int32)) (k := 1048576) (by decide) (by decide) (by decide)
  have rB := own_rem (p := i1) (n := (1048576 : Int32)) (k := 1048576) (by decide) (by decide) (by decide)
  have rC := own_rem (p := i2) (n := (1024 : Int32)) (k := 1024) (by decide) (by decide) (by decide)
  have rE := own_rem (p := i3) (n := (1024 : Int32)) (k := 1024) (by decide) (by decide) (by decide)
  rw [i2d_w] at hA hB hC hE
  generalize (i0 % (1048576 : Int32)).toInt64 = a at hA rA
  generalize (i1 % (1048576 : Int32)).toInt64 = b at hB rB
  generalize (i2 % (1024 : Int32)).toInt64 = c at hC rC
  generalize (i3 % (1024 : Int32)).toInt64 = d at hE rE
  have z0 : (0 : UInt64) = FP.l2d 0 := by decide
  have z1 : (4607182418800017408 : UInt64) = FP.l2d 1 := by decide
  have t0 : (0 : Int64).toInt = 0 := by decide
  have t1 : (1 : Int64).toInt = 1 := by decide
  rw [z0] at v0 ⊢
  rw [z1] at v1 ⊢
  subst hA hB hC hE v0 v1 v2 v3
  obtain ⟨n0, e0, f0, k0⟩ := own_dadd (a := a) (b := b) (x := 0) rA rB (by omega)
  obtain ⟨n1, e1, f1, k1⟩ := own_dadd (a := a) (b := b) (x := 1) rA rB (by omega)
  obtain ⟨n2, e2, f2, k2⟩ := own_dadd (a := a) (b := b) (x := c) rA rB (by omega)
  obtain ⟨n3, e3, f3, k3⟩ := own_dadd (a := a) (b := b) (x := d) rA rB (by omega)
  rw [e0] at u0
  rw [e1] at u1
  rw [e2] at u2
  rw [e3] at u3
  subst u0 u1 u2 u3
  rw [dsub_w k1 k0] at b1 ⊢
  rw [dsub_w k2 k3] at b2 ⊢
  rw [dsub_w (own_b11 ⟨by omega, by omega⟩) (own_b11 ⟨by omega, by omega⟩)] at b3 ⊢
  subst b1 b2 b3 b4
  have hcd : (c - d).toInt = c.toInt - d.toInt := sub64 (own_b11 ⟨by omega, by omega⟩) (own_b11 ⟨by omega, by omega⟩)
  have hq := own_bd (a := a.toInt) (c := (c - d).toInt) rA (by omega)
  refine ⟨n0, nn_w e0, n1, nn_w e1, n2, nn_w e2, n3, nn_w e3, ?_, nn_w rfl, ?_, nn_w rfl, nn_w rfl, own_mul_nn (own_b20 rA) (own_b11 (by omega)) hq.1 hq.2, ?_⟩
  · have : b + a * 0 = b := by simp
    rw [this]
    exact dcmpV_self (nn_w rfl) .l
  · have : (b + a * 1) - (b + a * 0) = a := by
      apply Int64.toInt_inj.mp
      rw [sub64 k1 k0, f1, f0, t0, t1]
      omega
    rw [this]
    exact dcmpV_self (nn_w rfl) .l
  · refine own_cmp (own_b20 rA) (own_b11 (by omega)) hq.1 hq.2 ?_
    apply Int64.toInt_inj.mp
    rw [sub64 k2 k3, f2, f3, own_mulI hq.1 hq.2, hcd, Int.mul_sub]
    omega
theorem d2_0 : decode jdk_30_method_1_code 0 = .ok (.aload_n 0, 1) := by decide +kernel
theorem d2_1 : decode jdk_30_method_1_code 1 = .ok (.invokespecial 1, 3) := by decide +kernel
theorem d2_4 : decode jdk_30_method_1_code 4 = .ok (.return_, 1) := by decide +kernel
theorem ef_2 (m : MethodId) (x0 : Addr) : entryFrame m #[(.ref x0)] 1 = mkF m 0 #[.val (.ref x0)] [] := by first | (simp [entryFrame, mkF, argsToLocals, Value.category]; done) | rfl
theorem pn_2 : plainName "java/lang/Record" = true := by first | (simp [plainName, overriddenIn]; done) | decide +kernel
set_option maxRecDepth 65536 in
set_option maxHeartbeats 40000000 in
theorem rmR (l : Launch) (Z : State) (a0 : Array Value) (hw : ∀ d ∈ tables_1, d.before a0 Z = true) (ws : List Jvm.Cond) (o0 : Addr) (h0 : Heap) (n0 : Nat) (O0 : Old Z n0 h0) :
    MetFree l (⟨"java/lang/Record", "<init>", "()V"⟩ : MethodName) (head1 (Jvm.Cond.code (⟨"java/lang/Record", "<init>", "()V"⟩ : MethodName) jdk_30_method_1_code 1 none :: ws) ({ frames := 1, cells := 0, slots := 0, locals := 12 } : Room)) (fun a U => a = #[(.ref o0)] ∧ Z.Warmed39 U.vm ∧ U.heap = h0) (fun _ _ _ _ _ => True) (fun _ U o U' => ∃ v L, o = .returned v ∧ own_Qn h0 n0 v U'.heap L ∧ FrameEnd U o U' L ({ frames := 1, cells := 0, slots := 0, locals := 12 } : Room).cells ({ frames := 1, cells := 0, slots := 0, locals := 12 } : Room).slots) := by
  refine MetFree.of_bodySF (plainFor_of_name pn_2) hisR ?_
  intro p e s m args below meth c s₁ Bd hml0 hP hK
  obtain ⟨rfl, hZ, hh⟩ := hP
  have hx := Bd.exec
  have hby := Bd.bytes
  have hml : c.maxLocals = 1 := hml0
  have hown : s.vm.findClass "java/lang/Record" = some m.cls := findClass_of_methodNamed Bd.named
  have hnm := (name_of_methodNamed Bd.named Bd.method).1
  have X0 : Stand p l e ({ frames := 1, cells := 0, slots := 0, locals := 12 } : Room) s m #[(.ref o0)] below meth c s₁ [] 0 0 := Stand.of_body Bd
  have e0 : s₁.heap = h0 := by rw [← hh, Bd.state]; rfl
  have N0 := Fr.nil n0
  have pre0 : ∀ t, Steps p.tables e below (s₁.setTop (mkF m 0 #[.val (.ref o0)] [])) t → Steps p.tables e below (s₁.setTop (entryFrame m #[(.ref o0)] 1)) t := fun t k => castTop (ef_2 m o0) k
  obtain ⟨T1, X1, e1, st1⟩ := initO X0 hx hZ hown (hw _ (List.mem_of_getElem? (i := 12) rfl)) (hw _ (List.mem_of_getElem? (i := 13) rfl)) (hw _ (List.mem_of_getElem? (i := 14) rfl)) e0 (g := (mkF m 1 #[.val (.ref o0)] [(.ref o0)])) rfl (by rw [hml]; rfl) rfl (hb hby d2_1) (by decide) (W := 0) (by show 2 * 0 + _ ≤ _; exact Nat.le_of_eq rfl) (by decide)
  obtain ⟨fs, hr, hrun, hended, hW, hsame⟩ := X1.leave (v := none) (fun _ => rfl)
  refine ⟨_, _, pre0 _ ?_, hrun, hended, _, _, rfl, ?_, ⟨_, rfl⟩, hW, hsame.mono (by decide) (by decide)⟩
  · show Steps p.tables e below (s₁.setTop (mkF m 0 #[.val (.ref o0)] [])) _
    refine XS.aloadN X0.here hx rfl (hb hby d2_0) rfl rfl ?_
    show Steps p.tables e below (s₁.setTop (mkF m 1 #[.val (.ref o0)] [(.ref o0)])) _
    refine st1 _ ?_
    show Steps p.tables e below (T1.setTop (mkF m 4 #[.val (.ref o0)] [])) _
    exact X1.returnOut hx Bd.returns (hb hby d2_4) hr
  · show own_Qn h0 n0 _ T1.heap _
    rw [e1]
    exact ⟨rfl, N0, rfl⟩
def own_QC (Z : State) (o : Addr) (a b : UInt64) (h0 : Heap) (n0 : Nat) (v : Option Value) (h : Heap) (L : List Loc) : Prop := v = none ∧ Fr n0 L ∧ Keep h0 h [o] ∧ Exa Z h o "com/example/ionmill/ionmill/IrtFit" ∧ Fld Z h o "com/example/ionmill/ionmill/IrtFit" "slope" "D" (.double a) ∧ Fld Z h o "com/example/ionmill/ionmill/IrtFit" "intercept" "D" (.double b)
theorem d1_0 : decode prog_25_method_1_code 0 = .ok (.aload_n 0, 1) := by decide +kernel
theorem d1_1 : decode prog_25_method_1_code 1 = .ok (.invokespecial 1, 3) := by decide +kernel
theorem pd_0 : parseMethodDescriptor "()V" = some ⟨[], none⟩ := by decide +kernel
theorem d1_4 : decode prog_25_method_1_code 4 = .ok (.aload_n 0, 1) := by decide +kernel
theorem d1_5 : decode prog_25_method_1_code 5 = .ok (.dload_n 1, 1) := by decide +kernel
theorem d1_6 : decode prog_25_method_1_code 6 = .ok (.putfield 7, 3) := by decide +kernel
theorem d1_9 : decode prog_25_method_1_code 9 = .ok (.aload_n 0, 1) := by decide +kernel
theorem d1_10 : decode prog_25_method_1_code 10 = .ok (.dload_n 3, 1) := by decide +kernel
theorem d1_11 : decode prog_25_method_1_code 11 = .ok (.putfield 13, 3) := by decide +kernel
theorem d1_14 : decode prog_25_method_1_code 14 = .ok (.aload_n 0, 1) := by decide +kernel
theorem d1_15 : decode prog_25_method_1_code 15 = .ok (.dload 5, 2) := by decide +kernel
theorem d1_17 : decode prog_25_method_1_code 17 = .ok (.putfield 16, 3) := by decide +kernel
theorem d1_20 : decode prog_25_method_1_code 20 = .ok (.return_, 1) := by decide +kernel
theorem ef_1 (m : MethodId) (x0 : Addr) (x1 : UInt64) (x2 : UInt64) (x3 : UInt64) : entryFrame m #[(.ref x0), (.double x1), (.double x2), (.double x3)] 7 = mkF m 0 #[.val (.ref x0), .val (.double x1), .second, .val (.double x2), .second, .val (.double x3), .second] [] := by first | (simp [entryFrame, mkF, argsToLocals, Value.category]; done) | rfl
theorem pn_1 : plainName "com/example/ionmill/ionmill/IrtFit" = true := by first | (simp [plainName, overriddenIn]; done) | decide +kernel
set_option maxRecDepth 65536 in
set_option maxHeartbeats 40000000 in
theorem rmC (l : Launch) (Z : State) (a0 : Array Value) (hw : ∀ d ∈ tables_1, d.before a0 Z = true) (ws : List Jvm.Cond) (o0 : Addr) (f1 : UInt64) (f2 : UInt64) (f3 : UInt64) (h0 : Heap) (n0 : Nat) (O0 : Old Z n0 h0) (E_o0 : Exa Z h0 o0 "com/example/ionmill/ionmill/IrtFit") (U_o0 : Unt h0 o0) (g_o0 : n0 ≤ o0) :
    MetFree l (⟨"com/example/ionmill/ionmill/IrtFit", "<init>", "(DDD)V"⟩ : MethodName) (head1 (Jvm.Cond.code (⟨"com/example/ionmill/ionmill/IrtFit", "<init>", "(DDD)V"⟩ : MethodName) prog_25_method_1_code 7 none :: ws) ({ frames := 2, cells := 0, slots := 0, locals := 24 } : Room)) (fun a U => a = #[(.ref o0), (.double f1), (.double f2), (.double f3)] ∧ Z.Warmed39 U.vm ∧ U.heap = h0) (fun _ _ _ _ _ => True) (fun _ U o U' => ∃ v L, o = .returned v ∧ own_QC Z o0 f1 f2 h0 n0 v U'.heap L ∧ FrameEnd U o U' L ({ frames := 2, cells := 0, slots := 0, locals := 24 } : Room).cells ({ frames := 2, cells := 0, slots := 0, locals := 24 } : Room).slots) := by
  refine MetFree.of_bodySF (plainFor_of_name pn_1) hisR ?_
  intro p e s m args below meth c s₁ Bd hml0 hP hK
  obtain ⟨rfl, hZ, hh⟩ := hP
  have hx := Bd.exec
  have hby := Bd.bytes
  have hml : c.maxLocals = 7 := hml0
  have hown : s.vm.findClass "com/example/ionmill/ionmill/IrtFit" = some m.cls := findClass_of_methodNamed Bd.named
  have hnm := (name_of_methodNamed Bd.named Bd.method).1
  have X0 : Stand p l e ({ frames := 2, cells := 0, slots := 0, locals := 24 } : Room) s m #[(.ref o0), (.double f1), (.double f2), (.double f3)] below meth c s₁ [] 0 0 := Stand.of_body Bd
  have e0 : s₁.heap = h0 := by rw [← hh, Bd.state]; rfl
  have N0 := Fr.nil n0
  have pre0 : ∀ t, Steps p.tables e below (s₁.setTop (mkF m 0 #[.val (.ref o0), .val (.double f1), .second, .val (.double f2), .second, .val (.double f3), .second] [])) t → Steps p.tables e below (s₁.setTop (entryFrame m #[(.ref o0), (.double f1), (.double f2), (.double f3)] 7)) t := fun t k => castTop (ef_1 m o0 f1 f2 f3) k
  obtain ⟨_, _, ⟨T1, L1, k1, n1⟩, -, X1, ⟨Lc1, hQ1, l1, y1, z1⟩, st1⟩ := X0.specialBack hx (y := (⟨"java/lang/Record", "<init>", "()V"⟩ : MethodName)) rfl hown (mvT hZ (hw _ (List.mem_of_getElem? (i := 7) rfl))) (mvT hZ (hw _ (List.mem_of_getElem? (i := 8) rfl))) (mvT hZ (hw _ (List.mem_of_getElem? (i := 11) rfl))) (by decide) (backOf (W := 0) (rmR l Z a0 hw [] o0  h0 n0 O0 ) hZ (hw _ (List.mem_of_getElem? (i := 11) rfl)) (hw _ (List.mem_of_getElem? (i := 10) rfl)) (by decide) (by decide)) (g := (mkF m 1 #[.val (.ref o0), .val (.double f1), .second, .val (.double f2), .second, .val (.double f3), .second] [(.ref o0)])) rfl (by rw [hml]; rfl) (Steps.refl _) (a := o0) (argsL := []) (rest := []) (lenOf pd_0 rfl) rfl (by show 2 * 0 + _ ≤ _; exact Nat.le_of_eq rfl) (hb hby d1_1) (fun _ _ => ⟨rfl, e0, (by decide : 0 + 0 ≤ _), (by decide : 0 + 0 ≤ _)⟩)
  dsimp only [Pt.U, Pt.locs, Pt.cells, Pt.slots] at X1 l1 y1 z1 st1 hQ1
  subst l1 y1 z1
  obtain ⟨rfl, N1q, e1⟩ := hQ1
  have N1 := Fr.app N0 N1q
  obtain ⟨uo2, Fo2⟩ := fld_laid E_o0 (Unt.known U_o0) (hw _ (List.mem_of_getElem? (i := 2) rfl)) (Or.inr (hw _ (List.mem_of_getElem? (i := 16) rfl)))
  obtain ⟨T2, h2, X2, e2, W2, st2⟩ := putF X1 hx hZ hown (host := "") (Or.inl (hw _ (List.mem_of_getElem? (i := 15) rfl))) Via.refl e1 Fo2 E_o0 (Or.inr ⟨(hw _ (List.mem_of_getElem? (i := 16) rfl)), rfl, hnm⟩) (hw _ (List.mem_of_getElem? (i := 2) rfl)) (ty := .double) (by decide) rfl rfl (g := (mkF m 6 #[.val (.ref o0), .val (.double f1), .second, .val (.double f2), .second, .val (.double f3), .second] [(.double f1), (.ref o0)])) rfl rfl (hb hby d1_6)
  have O2 := O0.wr W2 g_o0
  have Fw2 := Fo2.same W2
  have N2 := Fr.snoc X2 N1 g_o0
  obtain ⟨uo3, Fo3⟩ := fld_laid (E_o0.wr W2) (Unt.known (Unt.wr W2 U_o0)) (hw _ (List.mem_of_getElem? (i := 2) rfl)) (Or.inr (hw _ (List.mem_of_getElem? (i := 18) rfl)))
  obtain ⟨T3, h3, X3, e3, W3, st3⟩ := putF X2 hx hZ hown (host := "") (Or.inl (hw _ (List.mem_of_getElem? (i := 17) rfl))) Via.refl e2 Fo3 (E_o0.wr W2) (Or.inr ⟨(hw _ (List.mem_of_getElem? (i := 18) rfl)), rfl, hnm⟩) (hw _ (List.mem_of_getElem? (i := 2) rfl)) (ty := .double) (by decide) rfl rfl (g := (mkF m 11 #[.val (.ref o0), .val (.double f1), .second, .val (.double f2), .second, .val (.double f3), .second] [(.double f2), (.ref o0)])) rfl rfl (hb hby d1_11)
  have O3 := O2.wr W3 g_o0
  have Fw3 := Fo3.same W3
  have N3 := Fr.snoc X3 N2 g_o0
  obtain ⟨uo4, Fo4⟩ := fld_laid ((E_o0.wr W2).wr W3) (Unt.known (Unt.wr W3 (Unt.wr W2 U_o0))) (hw _ (List.mem_of_getElem? (i := 2) rfl)) (Or.inr (hw _ (List.mem_of_getElem? (i := 20) rfl)))
  obtain ⟨T4, h4, X4, e4, W4, st4⟩ := putF X3 hx hZ hown (host := "") (Or.inl (hw _ (List.mem_of_getElem? (i := 19) rfl))) Via.refl e3 Fo4 ((E_o0.wr W2).wr W3) (Or.inr ⟨(hw _ (List.mem_of_getElem? (i := 20) rfl)), rfl, hnm⟩) (hw _ (List.mem_of_getElem? (i := 2) rfl)) (ty := .double) (by decide) rfl rfl (g := (mkF m 17 #[.val (.ref o0), .val (.double f1), .second, .val (.double f2), .second, .val (.double f3), .second] [(.double f3), (.ref o0)])) rfl rfl (hb hby d1_17)
  have O4 := O3.wr W4 g_o0
  have Fw4 := Fo4.same W4
  have N4 := Fr.snoc X4 N3 g_o0
  have f_o0_3_slope := ((Fw2.other W3 (Or.inr (slot_ne (Or.inr (hw _ (List.mem_of_getElem? (i := 16) rfl))) (Or.inr (hw _ (List.mem_of_getElem? (i := 18) rfl))) (by decide) (t := .double) (t' := .double) (by decide) (by decide)))).other W4 (Or.inr (slot_ne (Or.inr (hw _ (List.mem_of_getElem? (i := 16) rfl))) (Or.inr (hw _ (List.mem_of_getElem? (i := 20) rfl))) (by decide) (t := .double) (t' := .double) (by decide) (by decide))))
  have f_o0_3_intercept := (Fw3.other W4 (Or.inr (slot_ne (Or.inr (hw _ (List.mem_of_getElem? (i := 18) rfl))) (Or.inr (hw _ (List.mem_of_getElem? (i := 20) rfl))) (by decide) (t := .double) (t' := .double) (by decide) (by decide))))
  obtain ⟨fs, hr, hrun, hended, hW, hsame⟩ := X4.leave (v := none) (fun _ => rfl)
  refine ⟨_, _, pre0 _ ?_, hrun, hended, _, _, rfl, ?_, ⟨_, rfl⟩, hW, hsame.mono (by decide) (by decide)⟩
  · show Steps p.tables e below (s₁.setTop (mkF m 0 #[.val (.ref o0), .val (.double f1), .second, .val (.double f2), .second, .val (.double f3), .second] [])) _
    refine XS.aloadN X0.here hx rfl (hb hby d1_0) rfl rfl ?_
    show Steps p.tables e below (s₁.setTop (mkF m 1 #[.val (.ref o0), .val (.double f1), .second, .val (.double f2), .second, .val (.double f3), .second] [(.ref o0)])) _
    refine st1.trans ?_
    show Steps p.tables e below (T1.setTop (mkF m 4 #[.val (.ref o0), .val (.double f1), .second, .val (.double f2), .second, .val (.double f3), .second] [])) _
    refine XS.aloadN X1.here hx rfl (hb hby d1_4) rfl rfl ?_
    show Steps p.tables e below (T1.setTop (mkF m 5 #[.val (.ref o0), .val (.double f1), .second, .val (.double f2), .second, .val (.double f3), .second] [(.ref o0)])) _
    refine XS.dloadN X1.here hx rfl (hb hby d1_5) rfl ?_
    show Steps p.tables e below (T1.setTop (mkF m 6 #[.val (.ref o0), .val (.double f1), .second, .val (.double f2), .second, .val (.double f3), .second] [(.double f1), (.ref o0)])) _
    refine st2 _ ?_
    show Steps p.tables e below (T2.setTop (mkF m 9 #[.val (.ref o0), .val (.double f1), .second, .val (.double f2), .second, .val (.double f3), .second] [])) _
    refine XS.aloadN X2.here hx rfl (hb hby d1_9) rfl rfl ?_
    show Steps p.tables e below (T2.setTop (mkF m 10 #[.val (.ref o0), .val (.double f1), .second, .val (.double f2), .second, .val (.double f3), .second] [(.ref o0)])) _
    refine XS.dloadN X2.here hx rfl (hb hby d1_10) rfl ?_
    show Steps p.tables e below (T2.setTop (mkF m 11 #[.val (.ref o0), .val (.double f1), .second, .val (.double f2), .second, .val (.double f3), .second] [(.double f2), (.ref o0)])) _
    refine st3 _ ?_
    show Steps p.tables e below (T3.setTop (mkF m 14 #[.val (.ref o0), .val (.double f1), .second, .val (.double f2), .second, .val (.double f3), .second] [])) _
    refine XS.aloadN X3.here hx rfl (hb hby d1_14) rfl rfl ?_
    show Steps p.tables e below (T3.setTop (mkF m 15 #[.val (.ref o0), .val (.double f1), .second, .val (.double f2), .second, .val (.double f3), .second] [(.ref o0)])) _
    refine XS.dload X3.here hx rfl (hb hby d1_15) rfl ?_
    show Steps p.tables e below (T3.setTop (mkF m 17 #[.val (.ref o0), .val (.double f1), .second, .val (.double f2), .second, .val (.double f3), .second] [(.double f3), (.ref o0)])) _
    refine st4 _ ?_
    show Steps p.tables e below (T4.setTop (mkF m 20 #[.val (.ref o0), .val (.double f1), .second, .val (.double f2), .second, .val (.double f3), .second] [])) _
    exact X4.returnOut hx Bd.returns (hb hby d1_20) hr
  · show own_QC Z o0 f1 f2 h0 n0 _ T4.heap _
    rw [e4]
    exact ⟨rfl, N4, ((((Keep.refl h0 [o0]).wr W2 (Or.inl (List.mem_of_getElem? (i := 0) rfl))).wr W3 (Or.inl (List.mem_of_getElem? (i := 0) rfl))).wr W4 (Or.inl (List.mem_of_getElem? (i := 0) rfl))), (((E_o0.wr W2).wr W3).wr W4), f_o0_3_slope, f_o0_3_intercept⟩
theorem d4_0 : decode prog_25_method_3_code 0 = .ok (.aload_n 0, 1) := by decide +kernel
theorem d4_1 : decode prog_25_method_3_code 1 = .ok (.getfield 13, 3) := by decide +kernel
theorem d4_4 : decode prog_25_method_3_code 4 = .ok (.aload_n 0, 1) := by decide +kernel
theorem d4_5 : decode prog_25_method_3_code 5 = .ok (.getfield 7, 3) := by decide +kernel
theorem d4_8 : decode prog_25_method_3_code 8 = .ok (.dload_n 1, 1) := by decide +kernel
theorem d4_9 : decode prog_25_method_3_code 9 = .ok (.dmul, 1) := by decide +kernel
theorem d4_10 : decode prog_25_method_3_code 10 = .ok (.dadd, 1) := by decide +kernel
theorem d4_11 : decode prog_25_method_3_code 11 = .ok (.dreturn, 1) := by decide +kernel
theorem ef_4 (m : MethodId) (x0 : Addr) (x1 : UInt64) : entryFrame m #[(.ref x0), (.double x1)] 3 = mkF m 0 #[.val (.ref x0), .val (.double x1), .second] [] := by first | (simp [entryFrame, mkF, argsToLocals, Value.category]; done) | rfl
theorem pn_4 : plainName "com/example/ionmill/ionmill/IrtFit" = true := by first | (simp [plainName, overriddenIn]; done) | decide +kernel
set_option maxRecDepth 65536 in
set_option maxHeartbeats 40000000 in
theorem rmY (l : Launch) (Z : State) (a0 : Array Value) (hw : ∀ d ∈ tables_1, d.before a0 Z = true) (ws : List Jvm.Cond) (o0 : Addr) (f1 : UInt64) (a b pr y : UInt64) (h0 : Heap) (n0 : Nat) (O0 : Old Z n0 h0) (F_slope_o0 : Fld Z h0 o0 "com/example/ionmill/ionmill/IrtFit" "slope" "D" (.double a)) (F_intercept_o0 : Fld Z h0 o0 "com/example/ionmill/ionmill/IrtFit" "intercept" "D" (.double b)) (n1 : Jvm.Free.Fl.NoNaN64 (FP.dmul a f1)) (v1 : FP.dmul a f1 = pr) (n2 : Jvm.Free.Fl.NoNaN64 (FP.dadd b pr)) (v2 : FP.dadd b pr = y) :
    MetFree l (⟨"com/example/ionmill/ionmill/IrtFit", "irt", "(D)D"⟩ : MethodName) (head1 (Jvm.Cond.code (⟨"com/example/ionmill/ionmill/IrtFit", "irt", "(D)D"⟩ : MethodName) prog_25_method_3_code 3 (some .double) :: ws) ({ frames := 0, cells := 0, slots := 0, locals := 0 } : Room)) (fun a U => a = #[(.ref o0), (.double f1)] ∧ Z.Warmed39 U.vm ∧ U.heap = h0) (fun _ _ _ _ _ => True) (fun _ U o U' => ∃ v L, o = .returned v ∧ own_Q (.double y) h0 n0 v U'.heap L ∧ FrameEnd U o U' L ({ frames := 0, cells := 0, slots := 0, locals := 0 } : Room).cells ({ frames := 0, cells := 0, slots := 0, locals := 0 } : Room).slots) := by
  refine MetFree.of_bodySF (plainFor_of_name pn_4) hisR ?_
  intro p e s m args below meth c s₁ Bd hml0 hP hK
  obtain ⟨rfl, hZ, hh⟩ := hP
  have hx := Bd.exec
  have hby := Bd.bytes
  have hml : c.maxLocals = 3 := hml0
  have hown : s.vm.findClass "com/example/ionmill/ionmill/IrtFit" = some m.cls := findClass_of_methodNamed Bd.named
  have hnm := (name_of_methodNamed Bd.named Bd.method).1
  have X0 : Stand p l e ({ frames := 0, cells := 0, slots := 0, locals := 0 } : Room) s m #[(.ref o0), (.double f1)] below meth c s₁ [] 0 0 := Stand.of_body Bd
  have e0 : s₁.heap = h0 := by rw [← hh, Bd.state]; rfl
  have N0 := Fr.nil n0
  have pre0 : ∀ t, Steps p.tables e below (s₁.setTop (mkF m 0 #[.val (.ref o0), .val (.double f1), .second] [])) t → Steps p.tables e below (s₁.setTop (entryFrame m #[(.ref o0), (.double f1)] 3)) t := fun t k => castTop (ef_4 m o0 f1) k
  obtain ⟨T1, X1, e1, st1⟩ := getF X0 hx hZ hown (host := "") (Or.inl (hw _ (List.mem_of_getElem? (i := 17) rfl))) Via.refl e0 F_intercept_o0 (g := (mkF m 1 #[.val (.ref o0), .val (.double f1), .second] [(.ref o0)])) rfl rfl (hb hby d4_1)
  obtain ⟨T2, X2, e2, st2⟩ := getF X1 hx hZ hown (host := "") (Or.inl (hw _ (List.mem_of_getElem? (i := 15) rfl))) Via.refl e1 F_slope_o0 (g := (mkF m 5 #[.val (.ref o0), .val (.double f1), .second] [(.ref o0), (.double b)])) rfl rfl (hb hby d4_5)
  obtain ⟨fs, hr, hrun, hended, hW, hsame⟩ := X2.leave (v := some (.double y)) (fun h => by rw [Bd.returns] at h; cases h)
  refine ⟨_, _, pre0 _ ?_, hrun, hended, _, _, rfl, ?_, ⟨_, rfl⟩, hW, hsame.mono (by decide) (by decide)⟩
  · show Steps p.tables e below (s₁.setTop (mkF m 0 #[.val (.ref o0), .val (.double f1), .second] [])) _
    refine XS.aloadN X0.here hx rfl (hb hby d4_0) rfl rfl ?_
    show Steps p.tables e below (s₁.setTop (mkF m 1 #[.val (.ref o0), .val (.double f1), .second] [(.ref o0)])) _
    refine st1 _ ?_
    show Steps p.tables e below (T1.setTop (mkF m 4 #[.val (.ref o0), .val (.double f1), .second] [(.double b)])) _
    refine XS.aloadN X1.here hx rfl (hb hby d4_4) rfl rfl ?_
    show Steps p.tables e below (T1.setTop (mkF m 5 #[.val (.ref o0), .val (.double f1), .second] [(.ref o0), (.double b)])) _
    refine st2 _ ?_
    show Steps p.tables e below (T2.setTop (mkF m 8 #[.val (.ref o0), .val (.double f1), .second] [(.double a), (.double b)])) _
    refine XS.dloadN X2.here hx rfl (hb hby d4_8) rfl ?_
    show Steps p.tables e below (T2.setTop (mkF m 9 #[.val (.ref o0), .val (.double f1), .second] [(.double f1), (.double a), (.double b)])) _
    refine XS.dmulS X2.here hx rfl (hb hby d4_9) rfl n1 v1 ?_
    show Steps p.tables e below (T2.setTop (mkF m 10 #[.val (.ref o0), .val (.double f1), .second] [(.double pr), (.double b)])) _
    refine XS.daddS X2.here hx rfl (hb hby d4_10) rfl n2 v2 ?_
    show Steps p.tables e below (T2.setTop (mkF m 11 #[.val (.ref o0), .val (.double f1), .second] [(.double y)])) _
    jvm_step X2.here [X2.here.top, hx, (hb hby d4_11), X2.method', Bd.returns, narrow]
    first | (intro acts; rw [hr _ acts rfl rfl rfl]) | rw [hr _ _ rfl rfl rfl]
    exact Steps.refl _
  · show own_Q (.double y) h0 n0 _ T2.heap _
    rw [e2]
    exact ⟨rfl, N0, rfl⟩
theorem pd_1 : parseMethodDescriptor "(DDD)V" = some ⟨[.double, .double, .double], none⟩ := by decide +kernel
theorem pd_2 : parseMethodDescriptor "(D)D" = some ⟨[.double], some .double⟩ := by decide +kernel
theorem ef_0 (m : MethodId) (x0 : Int32) (x1 : Int32) (x2 : Int32) (x3 : Int32) (x4 : Int32) : entryFrame m #[(.int x0), (.int x1), (.int x2), (.int x3), (.int x4)] maxLocals = mkF m 0 #[.val (.int x0), .val (.int x1), .val (.int x2), .val (.int x3), .val (.int x4), .unset, .unset, .unset, .unset, .unset, .unset, .unset, .unset, .unset, .unset, .unset, .unset, .unset, .unset, .unset, .unset, .unset, .unset, .unset, .unset] [] := by first | (simp [entryFrame, mkF, argsToLocals, Value.category, maxLocals]; done) | rfl
theorem pn_0 : plainName "com/example/ionmill/ionmill/IrtFitIrtPinLaw" = true := by first | (simp [plainName, overriddenIn]; done) | decide +kernel
set_option maxRecDepth 65536 in
set_option maxHeartbeats 40000000 in
theorem rm0 (l : Launch) (Z : State) (a0 : Array Value) (hw : ∀ d ∈ tables_1, d.before a0 Z = true) (ws : List Jvm.Cond) (p0 : Int32) (p1 : Int32) (p2 : Int32) (p3 : Int32) (p4 : Int32) (dA dB dC dE dR mg0 mg1 mg2 mg3 y0 y1 y2 y3 s1 s2 s3 s4 : UInt64) (h0 : Heap) (n0 : Nat) (O0 : Old Z n0 h0) (hA : FP.i2d (p0 % (1048576 : Int32)) = dA) (hB : FP.i2d (p1 % (1048576 : Int32)) = dB) (hC : FP.i2d (p2 % (1024 : Int32)) = dC) (hE : FP.i2d (p3 % (1024 : Int32)) = dE) (hR : FP.i2d (p4 % (2 : Int32)) = dR) (nx0 : Jvm.Free.Fl.NoNaN64 (FP.dmul dA (0 : UInt64))) (v0 : FP.dmul dA (0 : UInt64) = mg0) (m0 : Jvm.Free.Fl.NoNaN64 (FP.dadd dB mg0)) (u0 : FP.dadd dB mg0 = y0) (nx1 : Jvm.Free.Fl.NoNaN64 (FP.dmul dA (4607182418800017408 : UInt64))) (v1 : FP.dmul dA (4607182418800017408 : UInt64) = mg1) (m1 : Jvm.Free.Fl.NoNaN64 (FP.dadd dB mg1)) (u1 : FP.dadd dB mg1 = y1) (nx2 : Jvm.Free.Fl.NoNaN64 (FP.dmul dA dC)) (v2 : FP.dmul dA dC = mg2) (m2 : Jvm.Free.Fl.NoNaN64 (FP.dadd dB mg2)) (u2 : FP.dadd dB mg2 = y2) (nx3 : Jvm.Free.Fl.NoNaN64 (FP.dmul dA dE)) (v3 : FP.dmul dA dE = mg3) (m3 : Jvm.Free.Fl.NoNaN64 (FP.dadd dB mg3)) (u3 : FP.dadd dB mg3 = y3) (t0 : cmpValue (FP.dcmp y0 dB) .l = (0 : Int32)) (an1 : Jvm.Free.Fl.NoNaN64 (FP.dsub y1 y0)) (be1 : FP.dsub y1 y0 = s1) (t1 : cmpValue (FP.dcmp s1 dA) .l = (0 : Int32)) (an2 : Jvm.Free.Fl.NoNaN64 (FP.dsub y2 y3)) (be2 : FP.dsub y2 y3 = s2) (an3 : Jvm.Free.Fl.NoNaN64 (FP.dsub dC dE)) (be3 : FP.dsub dC dE = s3) (an4 : Jvm.Free.Fl.NoNaN64 (FP.dmul dA s3)) (be4 : FP.dmul dA s3 = s4) (t2 : cmpValue (FP.dcmp s2 s4) .l = (0 : Int32)) :
    MetFree l x (head1 (Jvm.Cond.code x code maxLocals ret :: ws) room_1) (fun a U => a = #[(.int p0), (.int p1), (.int p2), (.int p3), (.int p4)] ∧ Z.Warmed39 U.vm ∧ U.heap = h0) (fun _ _ _ _ _ => True) (fun _ U o U' => ∃ v L, o = .returned v ∧ own_R n0 v U'.heap L ∧ FrameEnd U o U' L room_1.cells room_1.slots) := by
  refine MetFree.of_bodySF (plainFor_of_name pn_0) hisR ?_
  intro p e s m args below meth c s₁ Bd hml0 hP hK
  obtain ⟨rfl, hZ, hh⟩ := hP
  have hx := Bd.exec
  have hby := Bd.bytes
  have hml : c.maxLocals = 25 := hml0
  have hown : s.vm.findClass "com/example/ionmill/ionmill/IrtFitIrtPinLaw" = some m.cls := findClass_of_methodNamed Bd.named
  have hnm := (name_of_methodNamed Bd.named Bd.method).1
  have X0 : Stand p l e room_1 s m #[(.int p0), (.int p1), (.int p2), (.int p3), (.int p4)] below meth c s₁ [] 0 0 := Stand.of_body Bd
  have e0 : s₁.heap = h0 := by rw [← hh, Bd.state]; rfl
  have N0 := Fr.nil n0
  have pre0 : ∀ t, Steps p.tables e below (s₁.setTop (mkF m 0 #[.val (.int p0), .val (.int p1), .val (.int p2), .val (.int p3), .val (.int p4), .unset, .unset, .unset, .unset, .unset, .unset, .unset, .unset, .unset, .unset, .unset, .unset, .unset, .unset, .unset, .unset, .unset, .unset, .unset, .unset] [])) t → Steps p.tables e below (s₁.setTop (entryFrame m #[(.int p0), (.int p1), (.int p2), (.int p3), (.int p4)] maxLocals)) t := fun t k => castTop (ef_0 m p0 p1 p2 p3 p4) k
  obtain ⟨T1, h1, X1, e1, E1, A1, D1, U1, st1⟩ := newO X0 hx hZ hown (hw _ (List.mem_of_getElem? (i := 1) rfl)) (hw _ (List.mem_of_getElem? (i := 2) rfl)) (hw _ (List.mem_of_getElem? (i := 3) rfl)) e0 (g := (mkF m 30 #[.val (.int p0), .val (.int p1), .val (.int p2), .val (.int p3), .val (.int p4), .val (.double dA), .second, .val (.double dB), .second, .val (.double dC), .second, .val (.double dE), .second, .unset, .unset, .unset, .unset, .unset, .unset, .unset, .unset, .unset, .unset, .unset, .unset] [])) rfl (hb hby at_30) (by decide) (by decide)
  obtain ⟨b1, g1⟩ : ∃ z, z = h0.size := ⟨_, rfl⟩
  rw [← g1] at A1 D1 U1 st1
  have Ut1 : Unt h1 b1 := U1
  have g_b1 : n0 ≤ b1 := Nat.le_trans (own_le O0) (Nat.le_of_eq g1.symm)
  have O1 := O0.ext E1
  have F_slope_b1 : Fld Z h1 b1 "com/example/ionmill/ionmill/IrtFit" "slope" "D" (.double (0 : UInt64)) := D1 (Or.inr (hw _ (List.mem_of_getElem? (i := 16) rfl))) (ty := .double) (by decide)
  have F_intercept_b1 : Fld Z h1 b1 "com/example/ionmill/ionmill/IrtFit" "intercept" "D" (.double (0 : UInt64)) := D1 (Or.inr (hw _ (List.mem_of_getElem? (i := 18) rfl))) (ty := .double) (by decide)
  have F_r2_b1 : Fld Z h1 b1 "com/example/ionmill/ionmill/IrtFit" "r2" "D" (.double (0 : UInt64)) := D1 (Or.inr (hw _ (List.mem_of_getElem? (i := 20) rfl))) (ty := .double) (by decide)
  obtain ⟨_, _, ⟨T2, L2, k2, n2⟩, -, X2, ⟨Lc2, hQ2, l2, y2, z2⟩, st2⟩ := X1.specialBack hx (y := (⟨"com/example/ionmill/ionmill/IrtFit", "<init>", "(DDD)V"⟩ : MethodName)) rfl hown (mvT hZ (hw _ (List.mem_of_getElem? (i := 4) rfl))) (mvT hZ (hw _ (List.mem_of_getElem? (i := 5) rfl))) (mvT hZ (hw _ (List.mem_of_getElem? (i := 6) rfl))) (by decide) (backOf (W := 1) (rmC l Z a0 hw [] b1 dA dB dR  h1 n0 O1 A1 Ut1 g_b1) hZ (hw _ (List.mem_of_getElem? (i := 6) rfl)) (hw _ (List.mem_of_getElem? (i := 3) rfl)) (by decide) (by decide)) (g := (mkF m 43 #[.val (.int p0), .val (.int p1), .val (.int p2), .val (.int p3), .val (.int p4), .val (.double dA), .second, .val (.double dB), .second, .val (.double dC), .second, .val (.double dE), .second, .unset, .unset, .unset, .unset, .unset, .unset, .unset, .unset, .unset, .unset, .unset, .unset] [(.double dR), (.double dB), (.double dA), (.ref b1), (.ref b1)])) rfl (by rw [hml]; rfl) (Steps.refl _) (a := b1) (argsL := [(.double dA), (.double dB), (.double dR)]) (rest := [(.ref b1)]) (lenOf pd_1 rfl) rfl (by show 2 * 0 + _ ≤ _; exact Nat.le_of_eq rfl) (hb hby at_43) (fun _ _ => ⟨rfl, e1, (by decide : 1 + 0 ≤ _), (by decide : 3 + 0 ≤ _)⟩)
  dsimp only [Pt.U, Pt.locs, Pt.cells, Pt.slots] at X2 l2 y2 z2 st2 hQ2
  subst l2 y2 z2
  obtain ⟨rfl, N2q, K2, Eb2, Fs2, Fi2⟩ := hQ2
  have N2 := Fr.app N0 N2q
  have O2 := O1.keep K2 (allS g_b1 all0)
  obtain ⟨cq3, kq3, q3a, q3b, q3c⟩ := isOf hZ rfl Eb2
  obtain ⟨_, _, ⟨T3, L3, k3, n3⟩, -, X3, ⟨Lc3, hQ3, l3, y3, z3⟩, st3⟩ := X2.virtualBack hx (y := (⟨"com/example/ionmill/ionmill/IrtFit", "irt", "(D)D"⟩ : MethodName)) (z := (⟨"com/example/ionmill/ionmill/IrtFit", "irt", "(D)D"⟩ : MethodName)) hown (mvT hZ (hw _ (List.mem_of_getElem? (i := 21) rfl))) (mvT hZ (hw _ (List.mem_of_getElem? (i := 22) rfl))) (notFace_of_selects (args := #[]) (mvT hZ (hw _ (List.mem_of_getElem? (i := 24) rfl)))) (mvT hZ (hw _ (List.mem_of_getElem? (i := 24) rfl))) (mvT hZ (hw _ (List.mem_of_getElem? (i := 23) rfl))) (by decide) (backOf (W := 0) (rmY l Z a0 hw [] b1 (0 : UInt64) dA dB mg0 y0 T2.heap n0 O2 Fs2 Fi2 nx0 v0 m0 u0) hZ (hw _ (List.mem_of_getElem? (i := 25) rfl)) (hw _ (List.mem_of_getElem? (i := 3) rfl)) (by decide) (by decide)) q3a q3c (g := (mkF m 51 #[.val (.int p0), .val (.int p1), .val (.int p2), .val (.int p3), .val (.int p4), .val (.double dA), .second, .val (.double dB), .second, .val (.double dC), .second, .val (.double dE), .second, .val (.ref b1), .unset, .unset, .unset, .unset, .unset, .unset, .unset, .unset, .unset, .unset, .unset] [(.double (0 : UInt64)), (.ref b1)])) rfl (by rw [hml]; rfl) (Steps.refl _) (argsL := [(.double (0 : UInt64))]) (rest := []) (lenOf pd_2 rfl) rfl (by show 2 * 0 + _ ≤ _; exact Nat.le_of_eq rfl) (hb hby at_51) (fun _ _ => ⟨rfl, rfl, (by decide : 1 + 0 ≤ _), (by decide : 3 + 0 ≤ _)⟩)
  dsimp only [Pt.U, Pt.locs, Pt.cells, Pt.slots] at X3 l3 y3 z3 st3 hQ3
  subst l3 y3 z3
  obtain ⟨rfl, N3q, e3⟩ := hQ3
  have N3 := Fr.app N2 N3q
  obtain ⟨cq4, kq4, q4a, q4b, q4c⟩ := isOf hZ e3 Eb2
  obtain ⟨_, _, ⟨T4, L4, k4, n4⟩, -, X4, ⟨Lc4, hQ4, l4, y4, z4⟩, st4⟩ := X3.virtualBack hx (y := (⟨"com/example/ionmill/ionmill/IrtFit", "irt", "(D)D"⟩ : MethodName)) (z := (⟨"com/example/ionmill/ionmill/IrtFit", "irt", "(D)D"⟩ : MethodName)) hown (mvT hZ (hw _ (List.mem_of_getElem? (i := 21) rfl))) (mvT hZ (hw _ (List.mem_of_getElem? (i := 22) rfl))) (notFace_of_selects (args := #[]) (mvT hZ (hw _ (List.mem_of_getElem? (i := 24) rfl)))) (mvT hZ (hw _ (List.mem_of_getElem? (i := 24) rfl))) (mvT hZ (hw _ (List.mem_of_getElem? (i := 23) rfl))) (by decide) (backOf (W := 0) (rmY l Z a0 hw [] b1 (4607182418800017408 : UInt64) dA dB mg1 y1 T2.heap n0 O2 Fs2 Fi2 nx1 v1 m1 u1) hZ (hw _ (List.mem_of_getElem? (i := 25) rfl)) (hw _ (List.mem_of_getElem? (i := 3) rfl)) (by decide) (by decide)) q4a q4c (g := (mkF m 59 #[.val (.int p0), .val (.int p1), .val (.int p2), .val (.int p3), .val (.int p4), .val (.double dA), .second, .val (.double dB), .second, .val (.double dC), .second, .val (.double dE), .second, .val (.ref b1), .val (.double y0), .second, .unset, .unset, .unset, .unset, .unset, .unset, .unset, .unset, .unset] [(.double (4607182418800017408 : UInt64)), (.ref b1)])) rfl (by rw [hml]; rfl) (Steps.refl _) (argsL := [(.double (4607182418800017408 : UInt64))]) (rest := []) (lenOf pd_2 rfl) rfl (by show 2 * 0 + _ ≤ _; exact Nat.le_of_eq rfl) (hb hby at_59) (fun _ _ => ⟨rfl, e3, (by decide : 1 + 0 ≤ _), (by decide : 3 + 0 ≤ _)⟩)
  dsimp only [Pt.U, Pt.locs, Pt.cells, Pt.slots] at X4 l4 y4 z4 st4 hQ4
  subst l4 y4 z4
  obtain ⟨rfl, N4q, e4⟩ := hQ4
  have N4 := Fr.app N3 N4q
  obtain ⟨cq5, kq5, q5a, q5b, q5c⟩ := isOf hZ e4 Eb2
  obtain ⟨_, _, ⟨T5, L5, k5, n5⟩, -, X5, ⟨Lc5, hQ5, l5, y5, z5⟩, st5⟩ := X4.virtualBack hx (y := (⟨"com/example/ionmill/ionmill/IrtFit", "irt", "(D)D"⟩ : MethodName)) (z := (⟨"com/example/ionmill/ionmill/IrtFit", "irt", "(D)D"⟩ : MethodName)) hown (mvT hZ (hw _ (List.mem_of_getElem? (i := 21) rfl))) (mvT hZ (hw _ (List.mem_of_getElem? (i := 22) rfl))) (notFace_of_selects (args := #[]) (mvT hZ (hw _ (List.mem_of_getElem? (i := 24) rfl)))) (mvT hZ (hw _ (List.mem_of_getElem? (i := 24) rfl))) (mvT hZ (hw _ (List.mem_of_getElem? (i := 23) rfl))) (by decide) (backOf (W := 0) (rmY l Z a0 hw [] b1 dC dA dB mg2 y2 T2.heap n0 O2 Fs2 Fi2 nx2 v2 m2 u2) hZ (hw _ (List.mem_of_getElem? (i := 25) rfl)) (hw _ (List.mem_of_getElem? (i := 3) rfl)) (by decide) (by decide)) q5a q5c (g := (mkF m 68 #[.val (.int p0), .val (.int p1), .val (.int p2), .val (.int p3), .val (.int p4), .val (.double dA), .second, .val (.double dB), .second, .val (.double dC), .second, .val (.double dE), .second, .val (.ref b1), .val (.double y0), .second, .val (.double y1), .second, .unset, .unset, .unset, .unset, .unset, .unset, .unset] [(.double dC), (.ref b1)])) rfl (by rw [hml]; rfl) (Steps.refl _) (argsL := [(.double dC)]) (rest := []) (lenOf pd_2 rfl) rfl (by show 2 * 0 + _ ≤ _; exact Nat.le_of_eq rfl) (hb hby at_68) (fun _ _ => ⟨rfl, e4, (by decide : 1 + 0 ≤ _), (by decide : 3 + 0 ≤ _)⟩)
  dsimp only [Pt.U, Pt.locs, Pt.cells, Pt.slots] at X5 l5 y5 z5 st5 hQ5
  subst l5 y5 z5
  obtain ⟨rfl, N5q, e5⟩ := hQ5
  have N5 := Fr.app N4 N5q
  obtain ⟨cq6, kq6, q6a, q6b, q6c⟩ := isOf hZ e5 Eb2
  obtain ⟨_, _, ⟨T6, L6, k6, n6⟩, -, X6, ⟨Lc6, hQ6, l6, y6, z6⟩, st6⟩ := X5.virtualBack hx (y := (⟨"com/example/ionmill/ionmill/IrtFit", "irt", "(D)D"⟩ : MethodName)) (z := (⟨"com/example/ionmill/ionmill/IrtFit", "irt", "(D)D"⟩ : MethodName)) hown (mvT hZ (hw _ (List.mem_of_getElem? (i := 21) rfl))) (mvT hZ (hw _ (List.mem_of_getElem? (i := 22) rfl))) (notFace_of_selects (args := #[]) (mvT hZ (hw _ (List.mem_of_getElem? (i := 24) rfl)))) (mvT hZ (hw _ (List.mem_of_getElem? (i := 24) rfl))) (mvT hZ (hw _ (List.mem_of_getElem? (i := 23) rfl))) (by decide) (backOf (W := 0) (rmY l Z a0 hw [] b1 dE dA dB mg3 y3 T2.heap n0 O2 Fs2 Fi2 nx3 v3 m3 u3) hZ (hw _ (List.mem_of_getElem? (i := 25) rfl)) (hw _ (List.mem_of_getElem? (i := 3) rfl)) (by decide) (by decide)) q6a q6c (g := (mkF m 77 #[.val (.int p0), .val (.int p1), .val (.int p2), .val (.int p3), .val (.int p4), .val (.double dA), .second, .val (.double dB), .second, .val (.double dC), .second, .val (.double dE), .second, .val (.ref b1), .val (.double y0), .second, .val (.double y1), .second, .val (.double y2), .second, .unset, .unset, .unset, .unset, .unset] [(.double dE), (.ref b1)])) rfl (by rw [hml]; rfl) (Steps.refl _) (argsL := [(.double dE)]) (rest := []) (lenOf pd_2 rfl) rfl (by show 2 * 0 + _ ≤ _; exact Nat.le_of_eq rfl) (hb hby at_77) (fun _ _ => ⟨rfl, e5, (by decide : 1 + 0 ≤ _), (by decide : 3 + 0 ≤ _)⟩)
  dsimp only [Pt.U, Pt.locs, Pt.cells, Pt.slots] at X6 l6 y6 z6 st6 hQ6
  subst l6 y6 z6
  obtain ⟨rfl, N6q, e6⟩ := hQ6
  have N6 := Fr.app N5 N6q
  obtain ⟨fs, hr, hrun, hended, hW, hsame⟩ := X6.leave (v := some (.int (1 : Int32))) (fun h => by rw [Bd.returns] at h; cases h)
  refine ⟨_, _, pre0 _ ?_, hrun, hended, _, _, rfl, ?_, ⟨_, rfl⟩, hW, hsame.mono (by decide) (by decide)⟩
  · show Steps p.tables e below (s₁.setTop (mkF m 0 #[.val (.int p0), .val (.int p1), .val (.int p2), .val (.int p3), .val (.int p4), .unset, .unset, .unset, .unset, .unset, .unset, .unset, .unset, .unset, .unset, .unset, .unset, .unset, .unset, .unset, .unset, .unset, .unset, .unset, .unset] [])) _
    refine XS.iloadN X0.here hx rfl (hb hby at_0) rfl ?_
    show Steps p.tables e below (s₁.setTop (mkF m 1 #[.val (.int p0), .val (.int p1), .val (.int p2), .val (.int p3), .val (.int p4), .unset, .unset, .unset, .unset, .unset, .unset, .unset, .unset, .unset, .unset, .unset, .unset, .unset, .unset, .unset, .unset, .unset, .unset, .unset, .unset] [(.int p0)])) _
    refine X0.ldcInt hx hown (mvT hZ (hw _ (List.mem_of_getElem? (i := 0) rfl))) (g := (mkF m 1 #[.val (.int p0), .val (.int p1), .val (.int p2), .val (.int p3), .val (.int p4), .unset, .unset, .unset, .unset, .unset, .unset, .unset, .unset, .unset, .unset, .unset, .unset, .unset, .unset, .unset, .unset, .unset, .unset, .unset, .unset] [(.int p0)])) rfl (hb hby at_1) _ ?_
    show Steps p.tables e below (s₁.setTop (mkF m 3 #[.val (.int p0), .val (.int p1), .val (.int p2), .val (.int p3), .val (.int p4), .unset, .unset, .unset, .unset, .unset, .unset, .unset, .unset, .unset, .unset, .unset, .unset, .unset, .unset, .unset, .unset, .unset, .unset, .unset, .unset] [(.int (1048576 : Int32)), (.int p0)])) _
    refine iremM X0 hx rfl (hb hby at_3) rfl (by decide) ?_
    show Steps p.tables e below (s₁.setTop (mkF m 4 #[.val (.int p0), .val (.int p1), .val (.int p2), .val (.int p3), .val (.int p4), .unset, .unset, .unset, .unset, .unset, .unset, .unset, .unset, .unset, .unset, .unset, .unset, .unset, .unset, .unset, .unset, .unset, .unset, .unset, .unset] [(.int (p0 % (1048576 : Int32)))])) _
    refine XS.i2dS X0.here hx rfl (hb hby at_4) rfl hA ?_
    show Steps p.tables e below (s₁.setTop (mkF m 5 #[.val (.int p0), .val (.int p1), .val (.int p2), .val (.int p3), .val (.int p4), .unset, .unset, .unset, .unset, .unset, .unset, .unset, .unset, .unset, .unset, .unset, .unset, .unset, .unset, .unset, .unset, .unset, .unset, .unset, .unset] [(.double dA)])) _
    refine XS.dstore X0.here hx rfl (hb hby at_5) rfl (l' := #[.val (.int p0), .val (.int p1), .val (.int p2), .val (.int p3), .val (.int p4), .val (.double dA), .second, .unset, .unset, .unset, .unset, .unset, .unset, .unset, .unset, .unset, .unset, .unset, .unset, .unset, .unset, .unset, .unset, .unset, .unset]) rfl ?_
    show Steps p.tables e below (s₁.setTop (mkF m 7 #[.val (.int p0), .val (.int p1), .val (.int p2), .val (.int p3), .val (.int p4), .val (.double dA), .second, .unset, .unset, .unset, .unset, .unset, .unset, .unset, .unset, .unset, .unset, .unset, .unset, .unset, .unset, .unset, .unset, .unset, .unset] [])) _
    refine XS.iloadN X0.here hx rfl (hb hby at_7) rfl ?_
    show Steps p.tables e below (s₁.setTop (mkF m 8 #[.val (.int p0), .val (.int p1), .val (.int p2), .val (.int p3), .val (.int p4), .val (.double dA), .second, .unset, .unset, .unset, .unset, .unset, .unset, .unset, .unset, .unset, .unset, .unset, .unset, .unset, .unset, .unset, .unset, .unset, .unset] [(.int p1)])) _
    refine X0.ldcInt hx hown (mvT hZ (hw _ (List.mem_of_getElem? (i := 0) rfl))) (g := (mkF m 8 #[.val (.int p0), .val (.int p1), .val (.int p2), .val (.int p3), .val (.int p4), .val (.double dA), .second, .unset, .unset, .unset, .unset, .unset, .unset, .unset, .unset, .unset, .unset, .unset, .unset, .unset, .unset, .unset, .unset, .unset, .unset] [(.int p1)])) rfl (hb hby at_8) _ ?_
    show Steps p.tables e below (s₁.setTop (mkF m 10 #[.val (.int p0), .val (.int p1), .val (.int p2), .val (.int p3), .val (.int p4), .val (.double dA), .second, .unset, .unset, .unset, .unset, .unset, .unset, .unset, .unset, .unset, .unset, .unset, .unset, .unset, .unset, .unset, .unset, .unset, .unset] [(.int (1048576 : Int32)), (.int p1)])) _
    refine iremM X0 hx rfl (hb hby at_10) rfl (by decide) ?_
    show Steps p.tables e below (s₁.setTop (mkF m 11 #[.val (.int p0), .val (.int p1), .val (.int p2), .val (.int p3), .val (.int p4), .val (.double dA), .second, .unset, .unset, .unset, .unset, .unset, .unset, .unset, .unset, .unset, .unset, .unset, .unset, .unset, .unset, .unset, .unset, .unset, .unset] [(.int (p1 % (1048576 : Int32)))])) _
    refine XS.i2dS X0.here hx rfl (hb hby at_11) rfl hB ?_
    show Steps p.tables e below (s₁.setTop (mkF m 12 #[.val (.int p0), .val (.int p1), .val (.int p2), .val (.int p3), .val (.int p4), .val (.double dA), .second, .unset, .unset, .unset, .unset, .unset, .unset, .unset, .unset, .unset, .unset, .unset, .unset, .unset, .unset, .unset, .unset, .unset, .unset] [(.double dB)])) _
    refine XS.dstore X0.here hx rfl (hb hby at_12) rfl (l' := #[.val (.int p0), .val (.int p1), .val (.int p2), .val (.int p3), .val (.int p4), .val (.double dA), .second, .val (.double dB), .second, .unset, .unset, .unset, .unset, .unset, .unset, .unset, .unset, .unset, .unset, .unset, .unset, .unset, .unset, .unset, .unset]) rfl ?_
    show Steps p.tables e below (s₁.setTop (mkF m 14 #[.val (.int p0), .val (.int p1), .val (.int p2), .val (.int p3), .val (.int p4), .val (.double dA), .second, .val (.double dB), .second, .unset, .unset, .unset, .unset, .unset, .unset, .unset, .unset, .unset, .unset, .unset, .unset, .unset, .unset, .unset, .unset] [])) _
    refine XS.iloadN X0.here hx rfl (hb hby at_14) rfl ?_
    show Steps p.tables e below (s₁.setTop (mkF m 15 #[.val (.int p0), .val (.int p1), .val (.int p2), .val (.int p3), .val (.int p4), .val (.double dA), .second, .val (.double dB), .second, .unset, .unset, .unset, .unset, .unset, .unset, .unset, .unset, .unset, .unset, .unset, .unset, .unset, .unset, .unset, .unset] [(.int p2)])) _
    refine XS.sipush X0.here hx rfl (hb hby at_15) ?_
    show Steps p.tables e below (s₁.setTop (mkF m 18 #[.val (.int p0), .val (.int p1), .val (.int p2), .val (.int p3), .val (.int p4), .val (.double dA), .second, .val (.double dB), .second, .unset, .unset, .unset, .unset, .unset, .unset, .unset, .unset, .unset, .unset, .unset, .unset, .unset, .unset, .unset, .unset] [(.int (1024 : Int32)), (.int p2)])) _
    refine iremM X0 hx rfl (hb hby at_18) rfl (by decide) ?_
    show Steps p.tables e below (s₁.setTop (mkF m 19 #[.val (.int p0), .val (.int p1), .val (.int p2), .val (.int p3), .val (.int p4), .val (.double dA), .second, .val (.double dB), .second, .unset, .unset, .unset, .unset, .unset, .unset, .unset, .unset, .unset, .unset, .unset, .unset, .unset, .unset, .unset, .unset] [(.int (p2 % (1024 : Int32)))])) _
    refine XS.i2dS X0.here hx rfl (hb hby at_19) rfl hC ?_
    show Steps p.tables e below (s₁.setTop (mkF m 20 #[.val (.int p0), .val (.int p1), .val (.int p2), .val (.int p3), .val (.int p4), .val (.double dA), .second, .val (.double dB), .second, .unset, .unset, .unset, .unset, .unset, .unset, .unset, .unset, .unset, .unset, .unset, .unset, .unset, .unset, .unset, .unset] [(.double dC)])) _
    refine XS.dstore X0.here hx rfl (hb hby at_20) rfl (l' := #[.val (.int p0), .val (.int p1), .val (.int p2), .val (.int p3), .val (.int p4), .val (.double dA), .second, .val (.double dB), .second, .val (.double dC), .second, .unset, .unset, .unset, .unset, .unset, .unset, .unset, .unset, .unset, .unset, .unset, .unset, .unset, .unset]) rfl ?_
    show Steps p.tables e below (s₁.setTop (mkF m 22 #[.val (.int p0), .val (.int p1), .val (.int p2), .val (.int p3), .val (.int p4), .val (.double dA), .second, .val (.double dB), .second, .val (.double dC), .second, .unset, .unset, .unset, .unset, .unset, .unset, .unset, .unset, .unset, .unset, .unset, .unset, .unset, .unset] [])) _
    refine XS.iloadN X0.here hx rfl (hb hby at_22) rfl ?_
    show Steps p.tables e below (s₁.setTop (mkF m 23 #[.val (.int p0), .val (.int p1), .val (.int p2), .val (.int p3), .val (.int p4), .val (.double dA), .second, .val (.double dB), .second, .val (.double dC), .second, .unset, .unset, .unset, .unset, .unset, .unset, .unset, .unset, .unset, .unset, .unset, .unset, .unset, .unset] [(.int p3)])) _
    refine XS.sipush X0.here hx rfl (hb hby at_23) ?_
    show Steps p.tables e below (s₁.setTop (mkF m 26 #[.val (.int p0), .val (.int p1), .val (.int p2), .val (.int p3), .val (.int p4), .val (.double dA), .second, .val (.double dB), .second, .val (.double dC), .second, .unset, .unset, .unset, .unset, .unset, .unset, .unset, .unset, .unset, .unset, .unset, .unset, .unset, .unset] [(.int (1024 : Int32)), (.int p3)])) _
    refine iremM X0 hx rfl (hb hby at_26) rfl (by decide) ?_
    show Steps p.tables e below (s₁.setTop (mkF m 27 #[.val (.int p0), .val (.int p1), .val (.int p2), .val (.int p3), .val (.int p4), .val (.double dA), .second, .val (.double dB), .second, .val (.double dC), .second, .unset, .unset, .unset, .unset, .unset, .unset, .unset, .unset, .unset, .unset, .unset, .unset, .unset, .unset] [(.int (p3 % (1024 : Int32)))])) _
    refine XS.i2dS X0.here hx rfl (hb hby at_27) rfl hE ?_
    show Steps p.tables e below (s₁.setTop (mkF m 28 #[.val (.int p0), .val (.int p1), .val (.int p2), .val (.int p3), .val (.int p4), .val (.double dA), .second, .val (.double dB), .second, .val (.double dC), .second, .unset, .unset, .unset, .unset, .unset, .unset, .unset, .unset, .unset, .unset, .unset, .unset, .unset, .unset] [(.double dE)])) _
    refine XS.dstore X0.here hx rfl (hb hby at_28) rfl (l' := #[.val (.int p0), .val (.int p1), .val (.int p2), .val (.int p3), .val (.int p4), .val (.double dA), .second, .val (.double dB), .second, .val (.double dC), .second, .val (.double dE), .second, .unset, .unset, .unset, .unset, .unset, .unset, .unset, .unset, .unset, .unset, .unset, .unset]) rfl ?_
    show Steps p.tables e below (s₁.setTop (mkF m 30 #[.val (.int p0), .val (.int p1), .val (.int p2), .val (.int p3), .val (.int p4), .val (.double dA), .second, .val (.double dB), .second, .val (.double dC), .second, .val (.double dE), .second, .unset, .unset, .unset, .unset, .unset, .unset, .unset, .unset, .unset, .unset, .unset, .unset] [])) _
    refine st1 _ ?_
    show Steps p.tables e below (T1.setTop (mkF m 33 #[.val (.int p0), .val (.int p1), .val (.int p2), .val (.int p3), .val (.int p4), .val (.double dA), .second, .val (.double dB), .second, .val (.double dC), .second, .val (.double dE), .second, .unset, .unset, .unset, .unset, .unset, .unset, .unset, .unset, .unset, .unset, .unset, .unset] [(.ref b1)])) _
    refine XS.dup X1.here hx rfl (hb hby at_33) rfl rfl ?_
    show Steps p.tables e below (T1.setTop (mkF m 34 #[.val (.int p0), .val (.int p1), .val (.int p2), .val (.int p3), .val (.int p4), .val (.double dA), .second, .val (.double dB), .second, .val (.double dC), .second, .val (.double dE), .second, .unset, .unset, .unset, .unset, .unset, .unset, .unset, .unset, .unset, .unset, .unset, .unset] [(.ref b1), (.ref b1)])) _
    refine XS.dload X1.here hx rfl (hb hby at_34) rfl ?_
    show Steps p.tables e below (T1.setTop (mkF m 36 #[.val (.int p0), .val (.int p1), .val (.int p2), .val (.int p3), .val (.int p4), .val (.double dA), .second, .val (.double dB), .second, .val (.double dC), .second, .val (.double dE), .second, .unset, .unset, .unset, .unset, .unset, .unset, .unset, .unset, .unset, .unset, .unset, .unset] [(.double dA), (.ref b1), (.ref b1)])) _
    refine XS.dload X1.here hx rfl (hb hby at_36) rfl ?_
    show Steps p.tables e below (T1.setTop (mkF m 38 #[.val (.int p0), .val (.int p1), .val (.int p2), .val (.int p3), .val (.int p4), .val (.double dA), .second, .val (.double dB), .second, .val (.double dC), .second, .val (.double dE), .second, .unset, .unset, .unset, .unset, .unset, .unset, .unset, .unset, .unset, .unset, .unset, .unset] [(.double dB), (.double dA), (.ref b1), (.ref b1)])) _
    refine XS.iload X1.here hx rfl (hb hby at_38) rfl ?_
    show Steps p.tables e below (T1.setTop (mkF m 40 #[.val (.int p0), .val (.int p1), .val (.int p2), .val (.int p3), .val (.int p4), .val (.double dA), .second, .val (.double dB), .second, .val (.double dC), .second, .val (.double dE), .second, .unset, .unset, .unset, .unset, .unset, .unset, .unset, .unset, .unset, .unset, .unset, .unset] [(.int p4), (.double dB), (.double dA), (.ref b1), (.ref b1)])) _
    refine XS.iconst X1.here hx rfl (hb hby at_40) ?_
    show Steps p.tables e below (T1.setTop (mkF m 41 #[.val (.int p0), .val (.int p1), .val (.int p2), .val (.int p3), .val (.int p4), .val (.double dA), .second, .val (.double dB), .second, .val (.double dC), .second, .val (.double dE), .second, .unset, .unset, .unset, .unset, .unset, .unset, .unset, .unset, .unset, .unset, .unset, .unset] [(.int (2 : Int32)), (.int p4), (.double dB), (.double dA), (.ref b1), (.ref b1)])) _
    refine iremM X1 hx rfl (hb hby at_41) rfl (by decide) ?_
    show Steps p.tables e below (T1.setTop (mkF m 42 #[.val (.int p0), .val (.int p1), .val (.int p2), .val (.int p3), .val (.int p4), .val (.double dA), .second, .val (.double dB), .second, .val (.double dC), .second, .val (.double dE), .second, .unset, .unset, .unset, .unset, .unset, .unset, .unset, .unset, .unset, .unset, .unset, .unset] [(.int (p4 % (2 : Int32))), (.double dB), (.double dA), (.ref b1), (.ref b1)])) _
    refine XS.i2dS X1.here hx rfl (hb hby at_42) rfl hR ?_
    show Steps p.tables e below (T1.setTop (mkF m 43 #[.val (.int p0), .val (.int p1), .val (.int p2), .val (.int p3), .val (.int p4), .val (.double dA), .second, .val (.double dB), .second, .val (.double dC), .second, .val (.double dE), .second, .unset, .unset, .unset, .unset, .unset, .unset, .unset, .unset, .unset, .unset, .unset, .unset] [(.double dR), (.double dB), (.double dA), (.ref b1), (.ref b1)])) _
    refine st2.trans ?_
    show Steps p.tables e below (T2.setTop (mkF m 46 #[.val (.int p0), .val (.int p1), .val (.int p2), .val (.int p3), .val (.int p4), .val (.double dA), .second, .val (.double dB), .second, .val (.double dC), .second, .val (.double dE), .second, .unset, .unset, .unset, .unset, .unset, .unset, .unset, .unset, .unset, .unset, .unset, .unset] [(.ref b1)])) _
    refine XS.astore X2.here hx rfl (hb hby at_46) rfl rfl (l' := #[.val (.int p0), .val (.int p1), .val (.int p2), .val (.int p3), .val (.int p4), .val (.double dA), .second, .val (.double dB), .second, .val (.double dC), .second, .val (.double dE), .second, .val (.ref b1), .unset, .unset, .unset, .unset, .unset, .unset, .unset, .unset, .unset, .unset, .unset]) rfl ?_
    show Steps p.tables e below (T2.setTop (mkF m 48 #[.val (.int p0), .val (.int p1), .val (.int p2), .val (.int p3), .val (.int p4), .val (.double dA), .second, .val (.double dB), .second, .val (.double dC), .second, .val (.double dE), .second, .val (.ref b1), .unset, .unset, .unset, .unset, .unset, .unset, .unset, .unset, .unset, .unset, .unset] [])) _
    refine XS.aload X2.here hx rfl (hb hby at_48) rfl rfl ?_
    show Steps p.tables e below (T2.setTop (mkF m 50 #[.val (.int p0), .val (.int p1), .val (.int p2), .val (.int p3), .val (.int p4), .val (.double dA), .second, .val (.double dB), .second, .val (.double dC), .second, .val (.double dE), .second, .val (.ref b1), .unset, .unset, .unset, .unset, .unset, .unset, .unset, .unset, .unset, .unset, .unset] [(.ref b1)])) _
    refine XS.dconst0 X2.here hx rfl (v := (0 : UInt64)) (hb hby at_50) rfl ?_
    show Steps p.tables e below (T2.setTop (mkF m 51 #[.val (.int p0), .val (.int p1), .val (.int p2), .val (.int p3), .val (.int p4), .val (.double dA), .second, .val (.double dB), .second, .val (.double dC), .second, .val (.double dE), .second, .val (.ref b1), .unset, .unset, .unset, .unset, .unset, .unset, .unset, .unset, .unset, .unset, .unset] [(.double (0 : UInt64)), (.ref b1)])) _
    refine st3.trans ?_
    show Steps p.tables e below (T3.setTop (mkF m 54 #[.val (.int p0), .val (.int p1), .val (.int p2), .val (.int p3), .val (.int p4), .val (.double dA), .second, .val (.double dB), .second, .val (.double dC), .second, .val (.double dE), .second, .val (.ref b1), .unset, .unset, .unset, .unset, .unset, .unset, .unset, .unset, .unset, .unset, .unset] [(.double y0)])) _
    refine XS.dstore X3.here hx rfl (hb hby at_54) rfl (l' := #[.val (.int p0), .val (.int p1), .val (.int p2), .val (.int p3), .val (.int p4), .val (.double dA), .second, .val (.double dB), .second, .val (.double dC), .second, .val (.double dE), .second, .val (.ref b1), .val (.double y0), .second, .unset, .unset, .unset, .unset, .unset, .unset, .unset, .unset, .unset]) rfl ?_
    show Steps p.tables e below (T3.setTop (mkF m 56 #[.val (.int p0), .val (.int p1), .val (.int p2), .val (.int p3), .val (.int p4), .val (.double dA), .second, .val (.double dB), .second, .val (.double dC), .second, .val (.double dE), .second, .val (.ref b1), .val (.double y0), .second, .unset, .unset, .unset, .unset, .unset, .unset, .unset, .unset, .unset] [])) _
    refine XS.aload X3.here hx rfl (hb hby at_56) rfl rfl ?_
    show Steps p.tables e below (T3.setTop (mkF m 58 #[.val (.int p0), .val (.int p1), .val (.int p2), .val (.int p3), .val (.int p4), .val (.double dA), .second, .val (.double dB), .second, .val (.double dC), .second, .val (.double dE), .second, .val (.ref b1), .val (.double y0), .second, .unset, .unset, .unset, .unset, .unset, .unset, .unset, .unset, .unset] [(.ref b1)])) _
    refine XS.dconst1 X3.here hx rfl (v := (4607182418800017408 : UInt64)) (hb hby at_58) rfl ?_
    show Steps p.tables e below (T3.setTop (mkF m 59 #[.val (.int p0), .val (.int p1), .val (.int p2), .val (.int p3), .val (.int p4), .val (.double dA), .second, .val (.double dB), .second, .val (.double dC), .second, .val (.double dE), .second, .val (.ref b1), .val (.double y0), .second, .unset, .unset, .unset, .unset, .unset, .unset, .unset, .unset, .unset] [(.double (4607182418800017408 : UInt64)), (.ref b1)])) _
    refine st4.trans ?_
    show Steps p.tables e below (T4.setTop (mkF m 62 #[.val (.int p0), .val (.int p1), .val (.int p2), .val (.int p3), .val (.int p4), .val (.double dA), .second, .val (.double dB), .second, .val (.double dC), .second, .val (.double dE), .second, .val (.ref b1), .val (.double y0), .second, .unset, .unset, .unset, .unset, .unset, .unset, .unset, .unset, .unset] [(.double y1)])) _
    refine XS.dstore X4.here hx rfl (hb hby at_62) rfl (l' := #[.val (.int p0), .val (.int p1), .val (.int p2), .val (.int p3), .val (.int p4), .val (.double dA), .second, .val (.double dB), .second, .val (.double dC), .second, .val (.double dE), .second, .val (.ref b1), .val (.double y0), .second, .val (.double y1), .second, .unset, .unset, .unset, .unset, .unset, .unset, .unset]) rfl ?_
    show Steps p.tables e below (T4.setTop (mkF m 64 #[.val (.int p0), .val (.int p1), .val (.int p2), .val (.int p3), .val (.int p4), .val (.double dA), .second, .val (.double dB), .second, .val (.double dC), .second, .val (.double dE), .second, .val (.ref b1), .val (.double y0), .second, .val (.double y1), .second, .unset, .unset, .unset, .unset, .unset, .unset, .unset] [])) _
    refine XS.aload X4.here hx rfl (hb hby at_64) rfl rfl ?_
    show Steps p.tables e below (T4.setTop (mkF m 66 #[.val (.int p0), .val (.int p1), .val (.int p2), .val (.int p3), .val (.int p4), .val (.double dA), .second, .val (.double dB), .second, .val (.double dC), .second, .val (.double dE), .second, .val (.ref b1), .val (.double y0), .second, .val (.double y1), .second, .unset, .unset, .unset, .unset, .unset, .unset, .unset] [(.ref b1)])) _
    refine XS.dload X4.here hx rfl (hb hby at_66) rfl ?_
    show Steps p.tables e below (T4.setTop (mkF m 68 #[.val (.int p0), .val (.int p1), .val (.int p2), .val (.int p3), .val (.int p4), .val (.double dA), .second, .val (.double dB), .second, .val (.double dC), .second, .val (.double dE), .second, .val (.ref b1), .val (.double y0), .second, .val (.double y1), .second, .unset, .unset, .unset, .unset, .unset, .unset, .unset] [(.double dC), (.ref b1)])) _
    refine st5.trans ?_
    show Steps p.tables e below (T5.setTop (mkF m 71 #[.val (.int p0), .val (.int p1), .val (.int p2), .val (.int p3), .val (.int p4), .val (.double dA), .second, .val (.double dB), .second, .val (.double dC), .second, .val (.double dE), .second, .val (.ref b1), .val (.double y0), .second, .val (.double y1), .second, .unset, .unset, .unset, .unset, .unset, .unset, .unset] [(.double y2)])) _
    refine XS.dstore X5.here hx rfl (hb hby at_71) rfl (l' := #[.val (.int p0), .val (.int p1), .val (.int p2), .val (.int p3), .val (.int p4), .val (.double dA), .second, .val (.double dB), .second, .val (.double dC), .second, .val (.double dE), .second, .val (.ref b1), .val (.double y0), .second, .val (.double y1), .second, .val (.double y2), .second, .unset, .unset, .unset, .unset, .unset]) rfl ?_
    show Steps p.tables e below (T5.setTop (mkF m 73 #[.val (.int p0), .val (.int p1), .val (.int p2), .val (.int p3), .val (.int p4), .val (.double dA), .second, .val (.double dB), .second, .val (.double dC), .second, .val (.double dE), .second, .val (.ref b1), .val (.double y0), .second, .val (.double y1), .second, .val (.double y2), .second, .unset, .unset, .unset, .unset, .unset] [])) _
    refine XS.aload X5.here hx rfl (hb hby at_73) rfl rfl ?_
    show Steps p.tables e below (T5.setTop (mkF m 75 #[.val (.int p0), .val (.int p1), .val (.int p2), .val (.int p3), .val (.int p4), .val (.double dA), .second, .val (.double dB), .second, .val (.double dC), .second, .val (.double dE), .second, .val (.ref b1), .val (.double y0), .second, .val (.double y1), .second, .val (.double y2), .second, .unset, .unset, .unset, .unset, .unset] [(.ref b1)])) _
    refine XS.dload X5.here hx rfl (hb hby at_75) rfl ?_
    show Steps p.tables e below (T5.setTop (mkF m 77 #[.val (.int p0), .val (.int p1), .val (.int p2), .val (.int p3), .val (.int p4), .val (.double dA), .second, .val (.double dB), .second, .val (.double dC), .second, .val (.double dE), .second, .val (.ref b1), .val (.double y0), .second, .val (.double y1), .second, .val (.double y2), .second, .unset, .unset, .unset, .unset, .unset] [(.double dE), (.ref b1)])) _
    refine st6.trans ?_
    show Steps p.tables e below (T6.setTop (mkF m 80 #[.val (.int p0), .val (.int p1), .val (.int p2), .val (.int p3), .val (.int p4), .val (.double dA), .second, .val (.double dB), .second, .val (.double dC), .second, .val (.double dE), .second, .val (.ref b1), .val (.double y0), .second, .val (.double y1), .second, .val (.double y2), .second, .unset, .unset, .unset, .unset, .unset] [(.double y3)])) _
    refine XS.dstore X6.here hx rfl (hb hby at_80) rfl (l' := #[.val (.int p0), .val (.int p1), .val (.int p2), .val (.int p3), .val (.int p4), .val (.double dA), .second, .val (.double dB), .second, .val (.double dC), .second, .val (.double dE), .second, .val (.ref b1), .val (.double y0), .second, .val (.double y1), .second, .val (.double y2), .second, .val (.double y3), .second, .unset, .unset, .unset]) rfl ?_
    show Steps p.tables e below (T6.setTop (mkF m 82 #[.val (.int p0), .val (.int p1), .val (.int p2), .val (.int p3), .val (.int p4), .val (.double dA), .second, .val (.double dB), .second, .val (.double dC), .second, .val (.double dE), .second, .val (.ref b1), .val (.double y0), .second, .val (.double y1), .second, .val (.double y2), .second, .val (.double y3), .second, .unset, .unset, .unset] [])) _
    refine XS.dload X6.here hx rfl (hb hby at_82) rfl ?_
    show Steps p.tables e below (T6.setTop (mkF m 84 #[.val (.int p0), .val (.int p1), .val (.int p2), .val (.int p3), .val (.int p4), .val (.double dA), .second, .val (.double dB), .second, .val (.double dC), .second, .val (.double dE), .second, .val (.ref b1), .val (.double y0), .second, .val (.double y1), .second, .val (.double y2), .second, .val (.double y3), .second, .unset, .unset, .unset] [(.double y0)])) _
    refine XS.dload X6.here hx rfl (hb hby at_84) rfl ?_
    show Steps p.tables e below (T6.setTop (mkF m 86 #[.val (.int p0), .val (.int p1), .val (.int p2), .val (.int p3), .val (.int p4), .val (.double dA), .second, .val (.double dB), .second, .val (.double dC), .second, .val (.double dE), .second, .val (.ref b1), .val (.double y0), .second, .val (.double y1), .second, .val (.double y2), .second, .val (.double y3), .second, .unset, .unset, .unset] [(.double dB), (.double y0)])) _
    refine XS.dcmpS X6.here hx rfl (hb hby at_86) rfl t0 ?_
    show Steps p.tables e below (T6.setTop (mkF m 87 #[.val (.int p0), .val (.int p1), .val (.int p2), .val (.int p3), .val (.int p4), .val (.double dA), .second, .val (.double dB), .second, .val (.double dC), .second, .val (.double dE), .second, .val (.ref b1), .val (.double y0), .second, .val (.double y1), .second, .val (.double y2), .second, .val (.double y3), .second, .unset, .unset, .unset] [(.int (0 : Int32))])) _
    refine XS.ifNo X6.here hx rfl (hb hby at_87) rfl ((if0 _ _).trans (teq (by decide : (0 : Int32) = (0 : Int32))).2) ?_
    show Steps p.tables e below (T6.setTop (mkF m 90 #[.val (.int p0), .val (.int p1), .val (.int p2), .val (.int p3), .val (.int p4), .val (.double dA), .second, .val (.double dB), .second, .val (.double dC), .second, .val (.double dE), .second, .val (.ref b1), .val (.double y0), .second, .val (.double y1), .second, .val (.double y2), .second, .val (.double y3), .second, .unset, .unset, .unset] [])) _
    refine XS.iconst X6.here hx rfl (hb hby at_90) ?_
    show Steps p.tables e below (T6.setTop (mkF m 91 #[.val (.int p0), .val (.int p1), .val (.int p2), .val (.int p3), .val (.int p4), .val (.double dA), .second, .val (.double dB), .second, .val (.double dC), .second, .val (.double dE), .second, .val (.ref b1), .val (.double y0), .second, .val (.double y1), .second, .val (.double y2), .second, .val (.double y3), .second, .unset, .unset, .unset] [(.int (1 : Int32))])) _
    refine XS.goto X6.here hx rfl (pc0 := 91) (pc' := 95) rfl (hb hby at_91) (by decide) (by decide) ?_
    show Steps p.tables e below (T6.setTop (mkF m 95 #[.val (.int p0), .val (.int p1), .val (.int p2), .val (.int p3), .val (.int p4), .val (.double dA), .second, .val (.double dB), .second, .val (.double dC), .second, .val (.double dE), .second, .val (.ref b1), .val (.double y0), .second, .val (.double y1), .second, .val (.double y2), .second, .val (.double y3), .second, .unset, .unset, .unset] [(.int (1 : Int32))])) _
    refine XS.istore X6.here hx rfl (hb hby at_95) rfl (l' := #[.val (.int p0), .val (.int p1), .val (.int p2), .val (.int p3), .val (.int p4), .val (.double dA), .second, .val (.double dB), .second, .val (.double dC), .second, .val (.double dE), .second, .val (.ref b1), .val (.double y0), .second, .val (.double y1), .second, .val (.double y2), .second, .val (.double y3), .second, .val (.int (1 : Int32)), .unset, .unset]) rfl ?_
    show Steps p.tables e below (T6.setTop (mkF m 97 #[.val (.int p0), .val (.int p1), .val (.int p2), .val (.int p3), .val (.int p4), .val (.double dA), .second, .val (.double dB), .second, .val (.double dC), .second, .val (.double dE), .second, .val (.ref b1), .val (.double y0), .second, .val (.double y1), .second, .val (.double y2), .second, .val (.double y3), .second, .val (.int (1 : Int32)), .unset, .unset] [])) _
    refine XS.dload X6.here hx rfl (hb hby at_97) rfl ?_
    show Steps p.tables e below (T6.setTop (mkF m 99 #[.val (.int p0), .val (.int p1), .val (.int p2), .val (.int p3), .val (.int p4), .val (.double dA), .second, .val (.double dB), .second, .val (.double dC), .second, .val (.double dE), .second, .val (.ref b1), .val (.double y0), .second, .val (.double y1), .second, .val (.double y2), .second, .val (.double y3), .second, .val (.int (1 : Int32)), .unset, .unset] [(.double y1)])) _
    refine XS.dload X6.here hx rfl (hb hby at_99) rfl ?_
    show Steps p.tables e below (T6.setTop (mkF m 101 #[.val (.int p0), .val (.int p1), .val (.int p2), .val (.int p3), .val (.int p4), .val (.double dA), .second, .val (.double dB), .second, .val (.double dC), .second, .val (.double dE), .second, .val (.ref b1), .val (.double y0), .second, .val (.double y1), .second, .val (.double y2), .second, .val (.double y3), .second, .val (.int (1 : Int32)), .unset, .unset] [(.double y0), (.double y1)])) _
    refine XS.dsubS X6.here hx rfl (hb hby at_101) rfl an1 be1 ?_
    show Steps p.tables e below (T6.setTop (mkF m 102 #[.val (.int p0), .val (.int p1), .val (.int p2), .val (.int p3), .val (.int p4), .val (.double dA), .second, .val (.double dB), .second, .val (.double dC), .second, .val (.double dE), .second, .val (.ref b1), .val (.double y0), .second, .val (.double y1), .second, .val (.double y2), .second, .val (.double y3), .second, .val (.int (1 : Int32)), .unset, .unset] [(.double s1)])) _
    refine XS.dload X6.here hx rfl (hb hby at_102) rfl ?_
    show Steps p.tables e below (T6.setTop (mkF m 104 #[.val (.int p0), .val (.int p1), .val (.int p2), .val (.int p3), .val (.int p4), .val (.double dA), .second, .val (.double dB), .second, .val (.double dC), .second, .val (.double dE), .second, .val (.ref b1), .val (.double y0), .second, .val (.double y1), .second, .val (.double y2), .second, .val (.double y3), .second, .val (.int (1 : Int32)), .unset, .unset] [(.double dA), (.double s1)])) _
    refine XS.dcmpS X6.here hx rfl (hb hby at_104) rfl t1 ?_
    show Steps p.tables e below (T6.setTop (mkF m 105 #[.val (.int p0), .val (.int p1), .val (.int p2), .val (.int p3), .val (.int p4), .val (.double dA), .second, .val (.double dB), .second, .val (.double dC), .second, .val (.double dE), .second, .val (.ref b1), .val (.double y0), .second, .val (.double y1), .second, .val (.double y2), .second, .val (.double y3), .second, .val (.int (1 : Int32)), .unset, .unset] [(.int (0 : Int32))])) _
    refine XS.ifNo X6.here hx rfl (hb hby at_105) rfl ((if0 _ _).trans (teq (by decide : (0 : Int32) = (0 : Int32))).2) ?_
    show Steps p.tables e below (T6.setTop (mkF m 108 #[.val (.int p0), .val (.int p1), .val (.int p2), .val (.int p3), .val (.int p4), .val (.double dA), .second, .val (.double dB), .second, .val (.double dC), .second, .val (.double dE), .second, .val (.ref b1), .val (.double y0), .second, .val (.double y1), .second, .val (.double y2), .second, .val (.double y3), .second, .val (.int (1 : Int32)), .unset, .unset] [])) _
    refine XS.iconst X6.here hx rfl (hb hby at_108) ?_
    show Steps p.tables e below (T6.setTop (mkF m 109 #[.val (.int p0), .val (.int p1), .val (.int p2), .val (.int p3), .val (.int p4), .val (.double dA), .second, .val (.double dB), .second, .val (.double dC), .second, .val (.double dE), .second, .val (.ref b1), .val (.double y0), .second, .val (.double y1), .second, .val (.double y2), .second, .val (.double y3), .second, .val (.int (1 : Int32)), .unset, .unset] [(.int (1 : Int32))])) _
    refine XS.goto X6.here hx rfl (pc0 := 109) (pc' := 113) rfl (hb hby at_109) (by decide) (by decide) ?_
    show Steps p.tables e below (T6.setTop (mkF m 113 #[.val (.int p0), .val (.int p1), .val (.int p2), .val (.int p3), .val (.int p4), .val (.double dA), .second, .val (.double dB), .second, .val (.double dC), .second, .val (.double dE), .second, .val (.ref b1), .val (.double y0), .second, .val (.double y1), .second, .val (.double y2), .second, .val (.double y3), .second, .val (.int (1 : Int32)), .unset, .unset] [(.int (1 : Int32))])) _
    refine XS.istore X6.here hx rfl (hb hby at_113) rfl (l' := #[.val (.int p0), .val (.int p1), .val (.int p2), .val (.int p3), .val (.int p4), .val (.double dA), .second, .val (.double dB), .second, .val (.double dC), .second, .val (.double dE), .second, .val (.ref b1), .val (.double y0), .second, .val (.double y1), .second, .val (.double y2), .second, .val (.double y3), .second, .val (.int (1 : Int32)), .val (.int (1 : Int32)), .unset]) rfl ?_
    show Steps p.tables e below (T6.setTop (mkF m 115 #[.val (.int p0), .val (.int p1), .val (.int p2), .val (.int p3), .val (.int p4), .val (.double dA), .second, .val (.double dB), .second, .val (.double dC), .second, .val (.double dE), .second, .val (.ref b1), .val (.double y0), .second, .val (.double y1), .second, .val (.double y2), .second, .val (.double y3), .second, .val (.int (1 : Int32)), .val (.int (1 : Int32)), .unset] [])) _
    refine XS.dload X6.here hx rfl (hb hby at_115) rfl ?_
    show Steps p.tables e below (T6.setTop (mkF m 117 #[.val (.int p0), .val (.int p1), .val (.int p2), .val (.int p3), .val (.int p4), .val (.double dA), .second, .val (.double dB), .second, .val (.double dC), .second, .val (.double dE), .second, .val (.ref b1), .val (.double y0), .second, .val (.double y1), .second, .val (.double y2), .second, .val (.double y3), .second, .val (.int (1 : Int32)), .val (.int (1 : Int32)), .unset] [(.double y2)])) _
    refine XS.dload X6.here hx rfl (hb hby at_117) rfl ?_
    show Steps p.tables e below (T6.setTop (mkF m 119 #[.val (.int p0), .val (.int p1), .val (.int p2), .val (.int p3), .val (.int p4), .val (.double dA), .second, .val (.double dB), .second, .val (.double dC), .second, .val (.double dE), .second, .val (.ref b1), .val (.double y0), .second, .val (.double y1), .second, .val (.double y2), .second, .val (.double y3), .second, .val (.int (1 : Int32)), .val (.int (1 : Int32)), .unset] [(.double y3), (.double y2)])) _
    refine XS.dsubS X6.here hx rfl (hb hby at_119) rfl an2 be2 ?_
    show Steps p.tables e below (T6.setTop (mkF m 120 #[.val (.int p0), .val (.int p1), .val (.int p2), .val (.int p3), .val (.int p4), .val (.double dA), .second, .val (.double dB), .second, .val (.double dC), .second, .val (.double dE), .second, .val (.ref b1), .val (.double y0), .second, .val (.double y1), .second, .val (.double y2), .second, .val (.double y3), .second, .val (.int (1 : Int32)), .val (.int (1 : Int32)), .unset] [(.double s2)])) _
    refine XS.dload X6.here hx rfl (hb hby at_120) rfl ?_
    show Steps p.tables e below (T6.setTop (mkF m 122 #[.val (.int p0), .val (.int p1), .val (.int p2), .val (.int p3), .val (.int p4), .val (.double dA), .second, .val (.double dB), .second, .val (.double dC), .second, .val (.double dE), .second, .val (.ref b1), .val (.double y0), .second, .val (.double y1), .second, .val (.double y2), .second, .val (.double y3), .second, .val (.int (1 : Int32)), .val (.int (1 : Int32)), .unset] [(.double dA), (.double s2)])) _
    refine XS.dload X6.here hx rfl (hb hby at_122) rfl ?_
    show Steps p.tables e below (T6.setTop (mkF m 124 #[.val (.int p0), .val (.int p1), .val (.int p2), .val (.int p3), .val (.int p4), .val (.double dA), .second, .val (.double dB), .second, .val (.double dC), .second, .val (.double dE), .second, .val (.ref b1), .val (.double y0), .second, .val (.double y1), .second, .val (.double y2), .second, .val (.double y3), .second, .val (.int (1 : Int32)), .val (.int (1 : Int32)), .unset] [(.double dC), (.double dA), (.double s2)])) _
    refine XS.dload X6.here hx rfl (hb hby at_124) rfl ?_
    show Steps p.tables e below (T6.setTop (mkF m 126 #[.val (.int p0), .val (.int p1), .val (.int p2), .val (.int p3), .val (.int p4), .val (.double dA), .second, .val (.double dB), .second, .val (.double dC), .second, .val (.double dE), .second, .val (.ref b1), .val (.double y0), .second, .val (.double y1), .second, .val (.double y2), .second, .val (.double y3), .second, .val (.int (1 : Int32)), .val (.int (1 : Int32)), .unset] [(.double dE), (.double dC), (.double dA), (.double s2)])) _
    refine XS.dsubS X6.here hx rfl (hb hby at_126) rfl an3 be3 ?_
    show Steps p.tables e below (T6.setTop (mkF m 127 #[.val (.int p0), .val (.int p1), .val (.int p2), .val (.int p3), .val (.int p4), .val (.double dA), .second, .val (.double dB), .second, .val (.double dC), .second, .val (.double dE), .second, .val (.ref b1), .val (.double y0), .second, .val (.double y1), .second, .val (.double y2), .second, .val (.double y3), .second, .val (.int (1 : Int32)), .val (.int (1 : Int32)), .unset] [(.double s3), (.double dA), (.double s2)])) _
    refine XS.dmulS X6.here hx rfl (hb hby at_127) rfl an4 be4 ?_
    show Steps p.tables e below (T6.setTop (mkF m 128 #[.val (.int p0), .val (.int p1), .val (.int p2), .val (.int p3), .val (.int p4), .val (.double dA), .second, .val (.double dB), .second, .val (.double dC), .second, .val (.double dE), .second, .val (.ref b1), .val (.double y0), .second, .val (.double y1), .second, .val (.double y2), .second, .val (.double y3), .second, .val (.int (1 : Int32)), .val (.int (1 : Int32)), .unset] [(.double s4), (.double s2)])) _
    refine XS.dcmpS X6.here hx rfl (hb hby at_128) rfl t2 ?_
    show Steps p.tables e below (T6.setTop (mkF m 129 #[.val (.int p0), .val (.int p1), .val (.int p2), .val (.int p3), .val (.int p4), .val (.double dA), .second, .val (.double dB), .second, .val (.double dC), .second, .val (.double dE), .second, .val (.ref b1), .val (.double y0), .second, .val (.double y1), .second, .val (.double y2), .second, .val (.double y3), .second, .val (.int (1 : Int32)), .val (.int (1 : Int32)), .unset] [(.int (0 : Int32))])) _
    refine XS.ifNo X6.here hx rfl (hb hby at_129) rfl ((if0 _ _).trans (teq (by decide : (0 : Int32) = (0 : Int32))).2) ?_
    show Steps p.tables e below (T6.setTop (mkF m 132 #[.val (.int p0), .val (.int p1), .val (.int p2), .val (.int p3), .val (.int p4), .val (.double dA), .second, .val (.double dB), .second, .val (.double dC), .second, .val (.double dE), .second, .val (.ref b1), .val (.double y0), .second, .val (.double y1), .second, .val (.double y2), .second, .val (.double y3), .second, .val (.int (1 : Int32)), .val (.int (1 : Int32)), .unset] [])) _
    refine XS.iconst X6.here hx rfl (hb hby at_132) ?_
    show Steps p.tables e below (T6.setTop (mkF m 133 #[.val (.int p0), .val (.int p1), .val (.int p2), .val (.int p3), .val (.int p4), .val (.double dA), .second, .val (.double dB), .second, .val (.double dC), .second, .val (.double dE), .second, .val (.ref b1), .val (.double y0), .second, .val (.double y1), .second, .val (.double y2), .second, .val (.double y3), .second, .val (.int (1 : Int32)), .val (.int (1 : Int32)), .unset] [(.int (1 : Int32))])) _
    refine XS.goto X6.here hx rfl (pc0 := 133) (pc' := 137) rfl (hb hby at_133) (by decide) (by decide) ?_
    show Steps p.tables e below (T6.setTop (mkF m 137 #[.val (.int p0), .val (.int p1), .val (.int p2), .val (.int p3), .val (.int p4), .val (.double dA), .second, .val (.double dB), .second, .val (.double dC), .second, .val (.double dE), .second, .val (.ref b1), .val (.double y0), .second, .val (.double y1), .second, .val (.double y2), .second, .val (.double y3), .second, .val (.int (1 : Int32)), .val (.int (1 : Int32)), .unset] [(.int (1 : Int32))])) _
    refine XS.istore X6.here hx rfl (hb hby at_137) rfl (l' := #[.val (.int p0), .val (.int p1), .val (.int p2), .val (.int p3), .val (.int p4), .val (.double dA), .second, .val (.double dB), .second, .val (.double dC), .second, .val (.double dE), .second, .val (.ref b1), .val (.double y0), .second, .val (.double y1), .second, .val (.double y2), .second, .val (.double y3), .second, .val (.int (1 : Int32)), .val (.int (1 : Int32)), .val (.int (1 : Int32))]) rfl ?_
    show Steps p.tables e below (T6.setTop (mkF m 139 #[.val (.int p0), .val (.int p1), .val (.int p2), .val (.int p3), .val (.int p4), .val (.double dA), .second, .val (.double dB), .second, .val (.double dC), .second, .val (.double dE), .second, .val (.ref b1), .val (.double y0), .second, .val (.double y1), .second, .val (.double y2), .second, .val (.double y3), .second, .val (.int (1 : Int32)), .val (.int (1 : Int32)), .val (.int (1 : Int32))] [])) _
    refine XS.iload X6.here hx rfl (hb hby at_139) rfl ?_
    show Steps p.tables e below (T6.setTop (mkF m 141 #[.val (.int p0), .val (.int p1), .val (.int p2), .val (.int p3), .val (.int p4), .val (.double dA), .second, .val (.double dB), .second, .val (.double dC), .second, .val (.double dE), .second, .val (.ref b1), .val (.double y0), .second, .val (.double y1), .second, .val (.double y2), .second, .val (.double y3), .second, .val (.int (1 : Int32)), .val (.int (1 : Int32)), .val (.int (1 : Int32))] [(.int (1 : Int32))])) _
    refine XS.ifNo X6.here hx rfl (hb hby at_141) rfl ((if0 _ _).trans (feq (by decide : ¬ ((1 : Int32) = (0 : Int32)))).1) ?_
    show Steps p.tables e below (T6.setTop (mkF m 144 #[.val (.int p0), .val (.int p1), .val (.int p2), .val (.int p3), .val (.int p4), .val (.double dA), .second, .val (.double dB), .second, .val (.double dC), .second, .val (.double dE), .second, .val (.ref b1), .val (.double y0), .second, .val (.double y1), .second, .val (.double y2), .second, .val (.double y3), .second, .val (.int (1 : Int32)), .val (.int (1 : Int32)), .val (.int (1 : Int32))] [])) _
    refine XS.iload X6.here hx rfl (hb hby at_144) rfl ?_
    show Steps p.tables e below (T6.setTop (mkF m 146 #[.val (.int p0), .val (.int p1), .val (.int p2), .val (.int p3), .val (.int p4), .val (.double dA), .second, .val (.double dB), .second, .val (.double dC), .second, .val (.double dE), .second, .val (.ref b1), .val (.double y0), .second, .val (.double y1), .second, .val (.double y2), .second, .val (.double y3), .second, .val (.int (1 : Int32)), .val (.int (1 : Int32)), .val (.int (1 : Int32))] [(.int (1 : Int32))])) _
    refine XS.ifNo X6.here hx rfl (hb hby at_146) rfl ((if0 _ _).trans (feq (by decide : ¬ ((1 : Int32) = (0 : Int32)))).1) ?_
    show Steps p.tables e below (T6.setTop (mkF m 149 #[.val (.int p0), .val (.int p1), .val (.int p2), .val (.int p3), .val (.int p4), .val (.double dA), .second, .val (.double dB), .second, .val (.double dC), .second, .val (.double dE), .second, .val (.ref b1), .val (.double y0), .second, .val (.double y1), .second, .val (.double y2), .second, .val (.double y3), .second, .val (.int (1 : Int32)), .val (.int (1 : Int32)), .val (.int (1 : Int32))] [])) _
    refine XS.iload X6.here hx rfl (hb hby at_149) rfl ?_
    show Steps p.tables e below (T6.setTop (mkF m 151 #[.val (.int p0), .val (.int p1), .val (.int p2), .val (.int p3), .val (.int p4), .val (.double dA), .second, .val (.double dB), .second, .val (.double dC), .second, .val (.double dE), .second, .val (.ref b1), .val (.double y0), .second, .val (.double y1), .second, .val (.double y2), .second, .val (.double y3), .second, .val (.int (1 : Int32)), .val (.int (1 : Int32)), .val (.int (1 : Int32))] [(.int (1 : Int32))])) _
    refine XS.ifNo X6.here hx rfl (hb hby at_151) rfl ((if0 _ _).trans (feq (by decide : ¬ ((1 : Int32) = (0 : Int32)))).1) ?_
    show Steps p.tables e below (T6.setTop (mkF m 154 #[.val (.int p0), .val (.int p1), .val (.int p2), .val (.int p3), .val (.int p4), .val (.double dA), .second, .val (.double dB), .second, .val (.double dC), .second, .val (.double dE), .second, .val (.ref b1), .val (.double y0), .second, .val (.double y1), .second, .val (.double y2), .second, .val (.double y3), .second, .val (.int (1 : Int32)), .val (.int (1 : Int32)), .val (.int (1 : Int32))] [])) _
    refine XS.iconst X6.here hx rfl (hb hby at_154) ?_
    show Steps p.tables e below (T6.setTop (mkF m 155 #[.val (.int p0), .val (.int p1), .val (.int p2), .val (.int p3), .val (.int p4), .val (.double dA), .second, .val (.double dB), .second, .val (.double dC), .second, .val (.double dE), .second, .val (.ref b1), .val (.double y0), .second, .val (.double y1), .second, .val (.double y2), .second, .val (.double y3), .second, .val (.int (1 : Int32)), .val (.int (1 : Int32)), .val (.int (1 : Int32))] [(.int (1 : Int32))])) _
    refine XS.goto X6.here hx rfl (pc0 := 155) (pc' := 159) rfl (hb hby at_155) (by decide) (by decide) ?_
    show Steps p.tables e below (T6.setTop (mkF m 159 #[.val (.int p0), .val (.int p1), .val (.int p2), .val (.int p3), .val (.int p4), .val (.double dA), .second, .val (.double dB), .second, .val (.double dC), .second, .val (.double dE), .second, .val (.ref b1), .val (.double y0), .second, .val (.double y1), .second, .val (.double y2), .second, .val (.double y3), .second, .val (.int (1 : Int32)), .val (.int (1 : Int32)), .val (.int (1 : Int32))] [(.int (1 : Int32))])) _
    exact retN X6 hx (t := .boolean) Bd.returns (by simp) (hb hby at_159) hr
  · show own_R n0 _ T6.heap _
    rw [e6]
    exact ⟨rfl, N6⟩
set_option maxRecDepth 65536 in
set_option maxHeartbeats 40000000 in
theorem comes_1 {Post : Tables → Env → Array Value → State → Outcome → State → Prop} (hpost : ∀ tb e args s v u, (limb_1_1.after args s (.returned v) u = true ∧ limb_1_2.after args s (.returned v) u = true ∧ True) → FrameEnd s (.returned v) u (Jvm.fieldLocs frame_1_writes args s ++ Jvm.arrayLocs frame_1_arrays args s ++ Jvm.staticLocs frame_1_statics s) 16 128 → Post tb e args s (.returned v) u) :
    ArmFor flags0 classFile x code maxLocals ret World_1 tables_1 room_1 Calls_1 rest_1 Pre_1 Post := by
  intro l hfl _ _ p e ha hc hk s m args below hf hA hF happ hP
  obtain ⟨hcalls, hrest, hpre⟩ := hP
  obtain ⟨-, -, -, hnamed, -, -, -, hat⟩ := (Spec.applies_iff hf).mp happ
  obtain ⟨hg, hn⟩ := and_e (Cond.before_iff.mp (show (Jvm.Cond.and given_1 narrow_1).before args s = true from hpre))
  obtain ⟨gc, gr0⟩ := and_e hg
  obtain ⟨ga0, gr1⟩ := and_e gr0
  obtain ⟨ga1, gr2⟩ := and_e gr1
  obtain ⟨ga2, gr3⟩ := and_e gr2
  obtain ⟨ga3, gr4⟩ := and_e gr3
  obtain ⟨w0, w1, w2, w3, w4, rfl⟩ : ∃ w0 w1 w2 w3 w4 : Value, args = #[w0, w1, w2, w3, w4] := by
    have hs : args.size = 5 := by simpa [Cond.value, given_1] using gc
    obtain ⟨L⟩ := args
    match L, hs with
    | [w0, w1, w2, w3, w4], _ => exact ⟨w0, w1, w2, w3, w4, rfl⟩
  have hw := fun d (hd : d ∈ tables_1) => atoms_spec (ws := Jvm.Cond.code x code maxLocals ret :: tables_1) hat d (List.mem_cons_of_mem _ hd)
  have hfit : Fit s := fun {y c} hc i hi => by
    obtain ⟨ha, rfl⟩ := Array.getElem?_eq_some_iff.mp hc
    have q := List.all_eq_true.mp ((Array.all_eq_true_iff_forall_mem.mp hF) _ (Array.getElem_mem ha)) i (List.mem_range.mpr hi)
    simpa [Array.getElem?_eq_getElem hi] using q
  obtain ⟨i0, ei0⟩ := is_v ga0
  obtain rfl : w0 = (.int i0) := Option.some.inj ei0
  obtain ⟨i1, ei1⟩ := is_v ga1
  obtain rfl : w1 = (.int i1) := Option.some.inj ei1
  obtain ⟨i2, ei2⟩ := is_v ga2
  obtain rfl : w2 = (.int i2) := Option.some.inj ei2
  obtain ⟨i3, ei3⟩ := is_v ga3
  obtain rfl : w3 = (.int i3) := Option.some.inj ei3
  obtain ⟨i4, ei4⟩ := is_v gr4
  obtain rfl : w4 = (.int i4) := Option.some.inj ei4
  have key : MetFree l x (head1 (Jvm.Cond.code x code maxLocals ret :: tables_1) room_1) (fun a U => a = #[(.int i0), (.int i1), (.int i2), (.int i3), (.int i4)] ∧ s.Warmed39 U.vm ∧ U.heap = s.heap) (fun _ _ _ _ _ => True) (fun _ U o U' => ∃ v L, o = .returned v ∧ own_R s.heap.size v U'.heap L ∧ FrameEnd U o U' L room_1.cells room_1.slots) := by
    obtain ⟨dA, hA⟩ : ∃ d : UInt64, FP.i2d (i0 % (1048576 : Int32)) = d := ⟨_, rfl⟩
    obtain ⟨dB, hB⟩ : ∃ d : UInt64, FP.i2d (i1 % (1048576 : Int32)) = d := ⟨_, rfl⟩
    obtain ⟨dC, hC⟩ : ∃ d : UInt64, FP.i2d (i2 % (1024 : Int32)) = d := ⟨_, rfl⟩
    obtain ⟨dE, hE⟩ : ∃ d : UInt64, FP.i2d (i3 % (1024 : Int32)) = d := ⟨_, rfl⟩
    obtain ⟨dR, hR⟩ : ∃ d : UInt64, FP.i2d (i4 % (2 : Int32)) = d := ⟨_, rfl⟩
    obtain ⟨mg0, v0⟩ : ∃ d : UInt64, FP.dmul dA (0 : UInt64) = d := ⟨_, rfl⟩
    obtain ⟨y0, u0⟩ : ∃ d : UInt64, FP.dadd dB mg0 = d := ⟨_, rfl⟩
    obtain ⟨mg1, v1⟩ : ∃ d : UInt64, FP.dmul dA (4607182418800017408 : UInt64) = d := ⟨_, rfl⟩
    obtain ⟨y1, u1⟩ : ∃ d : UInt64, FP.dadd dB mg1 = d := ⟨_, rfl⟩
    obtain ⟨mg2, v2⟩ : ∃ d : UInt64, FP.dmul dA dC = d := ⟨_, rfl⟩
    obtain ⟨y2, u2⟩ : ∃ d : UInt64, FP.dadd dB mg2 = d := ⟨_, rfl⟩
    obtain ⟨mg3, v3⟩ : ∃ d : UInt64, FP.dmul dA dE = d := ⟨_, rfl⟩
    obtain ⟨y3, u3⟩ : ∃ d : UInt64, FP.dadd dB mg3 = d := ⟨_, rfl⟩
    obtain ⟨s1, be1⟩ : ∃ d : UInt64, FP.dsub y1 y0 = d := ⟨_, rfl⟩
    obtain ⟨s2, be2⟩ : ∃ d : UInt64, FP.dsub y2 y3 = d := ⟨_, rfl⟩
    obtain ⟨s3, be3⟩ : ∃ d : UInt64, FP.dsub dC dE = d := ⟨_, rfl⟩
    obtain ⟨s4, be4⟩ : ∃ d : UInt64, FP.dmul dA s3 = d := ⟨_, rfl⟩
    obtain ⟨nx0, m0, nx1, m1, nx2, m2, nx3, m3, t0, an1, t1, an2, an3, an4, t2⟩ := own_law i0 i1 i2 i3 hA hB hC hE v0 u0 v1 u1 v2 u2 v3 u3 be1 be2 be3 be4
    exact rm0 l s _ hw tables_1 i0 i1 i2 i3 i4 dA dB dC dE dR mg0 mg1 mg2 mg3 y0 y1 y2 y3 s1 s2 s3 s4 s.heap s.heap.size (Old.start s) hA hB hC hE hR nx0 v0 m0 u0 nx1 v1 m1 u1 nx2 v2 m2 u2 nx3 v3 m3 u3 t0 an1 be1 t1 an2 be2 an3 be3 an4 be4 t2
  obtain ⟨n, o, h1, h2, h3, _, L, rfl, ⟨rfl, N⟩, hq⟩ := key p e ha hc hk s m _ below hf ((Spec.applies_iff_loose hf).mp happ).1 ⟨rfl, State.Warmed39.refl s, rfl⟩ trivial
  refine ⟨n, _, h1, h2, h3, hpost _ _ _ _ _ _ ⟨Cond.after_iff.mpr rfl, Cond.after_iff.mpr (eq_i res_at (Term.int_eval (1)) rfl), trivial⟩ ⟨hq.1, hq.2.1, (hq.2.2.sift fun y hy => Or.inr (N y hy)).mono (by decide) (by decide)⟩⟩
theorem main_1_1 : Claimed_1_1 := comes_1 fun _ _ _ _ _ _ h hF => ⟨h.1, hF⟩
theorem main_1_2 : Claimed_1_2 := comes_1 fun _ _ _ _ _ _ h hF => ⟨h.2.1, hF⟩
end Jvm.Pilot.@@N@@
namespace Jvm.Pilot.@@N@@
open Jvm Jvm.ClassFile Sem Op Lib Jvm.Free Jvm.Stand Jvm.Pilot.@@N@@.Jvm.D
/-! MADE BY PROGRAM (witnessworld.py) out of the Statement's table words and the real class files: 10 classes; the members and pool entries that the words name. The judged class is class 1, her method 1. -/
namespace start1
open Jvm.ClassFile
def u (s : String) : CpInfo := .utf8 (stringToUtf16 s)
/-- a pool by its gaps: so many unusable entries, then the entry; so many at the end -/
def gap : Nat → List CpInfo → List CpInfo
  | 0, r => r
  | n + 1, r => .unusable :: gap n r
def poolList (es : List (Nat × CpInfo)) (last : Nat) : List CpInfo := es.foldr (fun e r => gap e.1 (e.2 :: r)) (gap last [])
def pool (es : List (Nat × CpInfo)) (last : Nat) : Array CpInfo := ⟨poolList es last⟩
def fileOf (pool : Array CpInfo) (this : Nat) (attrs : Array Attribute := #[]) (ms : Array MethodInfo := #[]) (fl : Nat := 33) (sup : Nat := 0) (ifs : Array Nat := #[]) (fds : Array FieldInfo := #[]) : ClassFile where
  minorVersion := 0
  majorVersion := 65
  constantPool := pool
  accessFlags := fl
  thisClass := this
  superClass := sup
  interfaces := ifs
  fields := fds
  methods := ms
  attributes := attrs
def plain (name : String) (sup : Option ClassId) : Class where
  name := name
  kind := .ordinary
  loader := none
  accessFlags := 33
  super := sup
  interfaces := #[]
  cf := none
  fields := #[]
  methods := #[]
  instanceTypes := #[]
  staticTypes := #[]
  resolved := #[]
  callSites := []
  init := .initialized
  statics := none
  mirror := none

def pool0 : Array CpInfo := pool [(5, u "<init>"), (0, u "()V"), (1, .class_ 10), (1, u "java/lang/Object")] 113

def k0c0 : Code := { maxStack := 0, maxLocals := 1, code := object_method_1_code, exceptionTable := #[], attributes := #[] }
def k0m0 : Method := { name := "<init>", desc := "()V", sig := { parameters := [], returnType := none }, accessFlags := 1, code := some k0c0 }
/-- java/lang/Object -/
def k0 : Class := { plain "java/lang/Object" none with
  accessFlags := 33
  interfaces := #[]
  cf := some (fileOf pool0 8 #[] #[{ accessFlags := 1, nameIndex := 5, descriptorIndex := 6, attributes := #[] }] 33 0 #[] #[])
  fields := #[]
  methods := #[k0m0]
  instanceTypes := #[]
  staticTypes := #[]
  resolved := Array.replicate 124 none
  statics := none }

def pool1 : Array CpInfo := pool [(2, .class_ 4), (1, u "java/lang/Object"), (0, u "<init>"), (0, u "()V"), (0, .integer 1048576), (0, .class_ 9), (0, u "com/example/ionmill/ionmill/IrtFit"), (0, .methodref 8 11), (0, .nameAndType 5 12), (0, u "(DDD)V"), (0, .methodref 8 14), (0, .nameAndType 15 16), (0, u "irt"), (0, u "(D)D"), (0, .class_ 18), (0, u "com/example/ionmill/ionmill/IrtFitIrtPinLaw"), (2, u "law"), (0, u "(IIIII)Z")] 3

def k1m0 : Method := { name := "<init>", desc := "()V", sig := { parameters := [], returnType := none }, accessFlags := 1, code := none }
def k1c1 : Code := { maxStack := 8, maxLocals := 25, code := code, exceptionTable := #[], attributes := #[] }
def k1m1 : Method := { name := "law", desc := "(IIIII)Z", sig := { parameters := [.int, .int, .int, .int, .int], returnType := some .boolean }, accessFlags := 9, code := some k1c1 }
/-- com/example/ionmill/ionmill/IrtFitIrtPinLaw -/
def k1 : Class := { plain "com/example/ionmill/ionmill/IrtFitIrtPinLaw" (some 0) with
  accessFlags := 49
  interfaces := #[]
  cf := some (fileOf pool1 17 #[] #[{ accessFlags := 1, nameIndex := 5, descriptorIndex := 6, attributes := #[] }, { accessFlags := 9, nameIndex := 21, descriptorIndex := 22, attributes := #[] }] 49 2 #[] #[])
  fields := #[]
  methods := #[k1m0, k1m1]
  instanceTypes := #[]
  staticTypes := #[]
  resolved := Array.replicate 26 none
  statics := none }

def pool2 : Array CpInfo := pool [(1, .methodref 2 3), (0, .class_ 4), (0, .nameAndType 5 6), (0, u "java/lang/Object"), (0, u "<init>"), (0, u "()V"), (0, .class_ 8), (0, u "java/lang/Record")] 13

def k2c0 : Code := { maxStack := 1, maxLocals := 1, code := jdk_30_method_1_code, exceptionTable := #[], attributes := #[] }
def k2m0 : Method := { name := "<init>", desc := "()V", sig := { parameters := [], returnType := none }, accessFlags := 4, code := some k2c0 }
/-- java/lang/Record -/
def k2 : Class := { plain "java/lang/Record" (some 0) with
  accessFlags := 1057
  interfaces := #[]
  cf := some (fileOf pool2 7 #[] #[{ accessFlags := 4, nameIndex := 5, descriptorIndex := 6, attributes := #[] }] 1057 2 #[] #[])
  fields := #[]
  methods := #[k2m0]
  instanceTypes := #[]
  staticTypes := #[]
  resolved := Array.replicate 22 none
  statics := none }

def pool3 : Array CpInfo := pool [(1, .methodref 2 3), (0, .class_ 4), (0, .nameAndType 5 6), (0, u "java/lang/Record"), (0, u "<init>"), (0, u "()V"), (0, .fieldref 8 9), (0, .class_ 10), (0, .nameAndType 11 12), (0, u "com/example/ionmill/ionmill/IrtFit"), (0, u "slope"), (0, u "D"), (0, .fieldref 8 14), (0, .nameAndType 15 12), (0, u "intercept"), (0, .fieldref 8 17), (0, .nameAndType 18 12), (0, u "r2"), (37, u "(DDD)V"), (20, u "irt"), (0, u "(D)D")] 42

def k3c0 : Code := { maxStack := 3, maxLocals := 7, code := prog_25_method_1_code, exceptionTable := #[], attributes := #[] }
def k3m0 : Method := { name := "<init>", desc := "(DDD)V", sig := { parameters := [.double, .double, .double], returnType := none }, accessFlags := 1, code := some k3c0 }
def k3c1 : Code := { maxStack := 6, maxLocals := 3, code := prog_25_method_3_code, exceptionTable := #[], attributes := #[] }
def k3m1 : Method := { name := "irt", desc := "(D)D", sig := { parameters := [.double], returnType := some .double }, accessFlags := 1, code := some k3c1 }
/-- com/example/ionmill/ionmill/IrtFit -/
def k3 : Class := { plain "com/example/ionmill/ionmill/IrtFit" (some 2) with
  accessFlags := 49
  interfaces := #[]
  cf := some (fileOf pool3 8 #[] #[{ accessFlags := 1, nameIndex := 5, descriptorIndex := 56, attributes := #[] }, { accessFlags := 1, nameIndex := 77, descriptorIndex := 78, attributes := #[] }] 49 2 #[] #[{ accessFlags := 18, nameIndex := 11, descriptorIndex := 12, attributes := #[] }, { accessFlags := 18, nameIndex := 15, descriptorIndex := 12, attributes := #[] }, { accessFlags := 18, nameIndex := 18, descriptorIndex := 12, attributes := #[] }])
  fields := #[{ name := "slope", type := .double, accessFlags := 18, slot := 0, constantValue := 0 }, { name := "intercept", type := .double, accessFlags := 18, slot := 1, constantValue := 0 }, { name := "r2", type := .double, accessFlags := 18, slot := 2, constantValue := 0 }]
  methods := #[k3m0, k3m1]
  instanceTypes := #[.double, .double, .double]
  staticTypes := #[]
  resolved := Array.replicate 121 none
  statics := none }

def pool4 : Array CpInfo := pool [(1, u "java/lang/Cloneable"), (0, .class_ 1), (0, u "java/lang/Object"), (0, .class_ 3)] 3

/-- java/lang/Cloneable -/
def k4 : Class := { plain "java/lang/Cloneable" (some 0) with
  accessFlags := 1537
  interfaces := #[]
  cf := some (fileOf pool4 2 #[] #[] 1537 4 #[] #[])
  fields := #[]
  methods := #[]
  instanceTypes := #[]
  staticTypes := #[]
  resolved := Array.replicate 8 none
  statics := none }

def pool5 : Array CpInfo := pool [(1, u "java/io/Serializable"), (0, .class_ 1), (0, u "java/lang/Object"), (0, .class_ 3)] 3

/-- java/io/Serializable -/
def k5 : Class := { plain "java/io/Serializable" (some 0) with
  accessFlags := 1537
  interfaces := #[]
  cf := some (fileOf pool5 2 #[] #[] 1537 4 #[] #[])
  fields := #[]
  methods := #[]
  instanceTypes := #[]
  staticTypes := #[]
  resolved := Array.replicate 8 none
  statics := none }

/-- the primitive byte -/
def k6 : Class := { plain "byte" none with kind := .primitive 'B', accessFlags := 0x411 }
/-- [B -/
def k7 : Class := { plain "[B" (some 0) with kind := .array 6 .byte, interfaces := #[4, 5], accessFlags := 1041 }

/-- the primitive int -/
def k8 : Class := { plain "int" none with kind := .primitive 'I', accessFlags := 0x411 }
/-- [I -/
def k9 : Class := { plain "[I" (some 0) with kind := .array 8 .int, interfaces := #[4, 5], accessFlags := 1041 }

def heap : Heap := #[]
def classes : Array Class := #[k0, k1, k2, k3, k4, k5, k6, k7, k8, k9]
def interned : List (Array UInt16 × Addr) := []
def slotsUsed : Nat := 0
def theMethod : MethodId := ⟨1, 1⟩
def args0 : Array Value := #[.int 1, .int 2, .int 3, .int 4, .int 5]
def aboutOver (below : List Frame) : State where
  vm := { classes := classes, interned := interned.toArray }
  heap := heap
  slotsUsed := slotsUsed
  threads := #[{ frames := .invoking theMethod args0 :: below }]
def below0 : List Frame := [.native { method := ⟨0, 0⟩, args := #[] }]
def about1 : State := aboutOver below0
def p0 : Program := .bare "" "" ""
def e0 : Env := launch0.env 0 0 0
theorem w_frames : about1.frames = Frame.invoking theMethod args0 :: below0 := rfl
set_option maxRecDepth 65536 in
theorem w_args : argsFit about1.vm theMethod args0 = true := by decide +kernel
set_option maxRecDepth 65536 in
theorem w_heap : heapFits about1 = true := by decide +kernel
set_option maxRecDepth 65536 in
theorem w_runnable : about1.curStatus? = some .runnable := by decide +kernel
set_option maxRecDepth 65536 in
theorem w_alone : about1.alone = true := by decide +kernel
set_option maxRecDepth 65536 in
theorem w_named : about1.methodNamed? x = some theMethod := by decide +kernel
set_option maxRecDepth 65536 in
theorem w_hears : about1.hears theMethod below0 = true := by decide +kernel
set_option maxRecDepth 65536 in
theorem w_ripe : about1.ripe theMethod args0 below0 = true := by decide +kernel
theorem w_running : about1.status = .running := rfl
set_option maxRecDepth 65536 in
theorem w_room : about1.hasRoom e0.platform room_1 = true :=
  launch0.hasRoom_least _ room_1 (by decide +kernel) (by decide +kernel) (by decide +kernel) (by decide +kernel) (by decide +kernel) (by decide +kernel)
theorem allAtoms_all (ts : List Jvm.Cond) (a : Array Jvm.Value) (st : Jvm.State) : (allAtoms ts).before a st = ts.all (fun c => c.before a st) := by
  induction ts with
  | nil => rfl
  | cons c t ih =>
    show (Jvm.Cond.and c (allAtoms t)).before a st = _
    rw [Jvm.Cond.before_and, ih, List.all_cons]
def words1 : List Jvm.Cond := Jvm.Cond.code x code maxLocals ret :: tables_1
/-- a 'code' word, met by the world's own term for the bytes: nothing is compared byte by byte -/
theorem code_word {y : MethodName} {bytes : ByteArray} {mx : Nat} {rt : Option FieldType} {a : Array Value} {s : State} {m : MethodId} {meth : Method} {c : Code} (h1 : s.methodNamed? y = some m) (h2 : s.vm.method? m = some meth) (h3 : meth.code = some c) (h4 : c.code = bytes)
    (h5 : (c.maxLocals == mx && c.exceptionTable.isEmpty && decide (c.maxStack ≤ mostOperands) && decide (meth.sig.returnType = rt) && !meth.locks && decide (parseMethodDescriptor y.desc = some meth.sig)) = true) : (Jvm.Cond.code y bytes mx rt).before a s = true := by
  simp only [Bool.and_eq_true, beq_iff_eq, Bool.not_eq_true', decide_eq_true_eq] at h5
  obtain ⟨⟨⟨⟨⟨g1, g2⟩, g3⟩, g4⟩, g5⟩, g6⟩ := h5
  simp [Cond.before, Cond.holds, Cond.value, h1, h2, h3, h4, g1, g2, g3, g4, g5, g6]
def isCode : Jvm.Cond → Bool
  | .code _ _ _ _ => true
  | _ => false
theorem all_split {L : List Jvm.Cond} {P : Jvm.Cond → Bool} (h1 : L.all (fun c => isCode c || P c) = true) (h2 : ∀ c ∈ L.filter isCode, P c = true) : L.all P = true := by
  refine List.all_eq_true.mpr fun c hc => ?_
  have h := List.all_eq_true.mp h1 c hc
  rcases Bool.eq_false_or_eq_true (isCode c) with hi | hi
  · exact h2 c (List.mem_filter.mpr ⟨hc, hi⟩)
  · simpa [hi] using h
set_option maxRecDepth 65536 in
theorem w_c0 : (Jvm.Cond.code x code maxLocals ret).before args0 about1 = true := code_word (m := ⟨1, 1⟩) (meth := k1m1) (c := k1c1) (by decide +kernel) rfl rfl rfl (by decide +kernel)
set_option maxRecDepth 65536 in
theorem w_c1 : (Jvm.Cond.code ({ cls := "com/example/ionmill/ionmill/IrtFit", name := "<init>", desc := "(DDD)V" } : Jvm.MethodName) prog_25_method_1_code (7 : Nat) (Option.none : Option Jvm.ClassFile.FieldType)).before args0 about1 = true := code_word (m := ⟨3, 0⟩) (meth := k3m0) (c := k3c0) (by decide +kernel) rfl rfl rfl (by decide +kernel)
set_option maxRecDepth 65536 in
theorem w_c2 : (Jvm.Cond.code ({ cls := "java/lang/Record", name := "<init>", desc := "()V" } : Jvm.MethodName) jdk_30_method_1_code (1 : Nat) (Option.none : Option Jvm.ClassFile.FieldType)).before args0 about1 = true := code_word (m := ⟨2, 0⟩) (meth := k2m0) (c := k2c0) (by decide +kernel) rfl rfl rfl (by decide +kernel)
set_option maxRecDepth 65536 in
theorem w_c3 : (Jvm.Cond.code ({ cls := "java/lang/Object", name := "<init>", desc := "()V" } : Jvm.MethodName) object_method_1_code (1 : Nat) (Option.none : Option Jvm.ClassFile.FieldType)).before args0 about1 = true := code_word (m := ⟨0, 0⟩) (meth := k0m0) (c := k0c0) (by decide +kernel) rfl rfl rfl (by decide +kernel)
set_option maxRecDepth 65536 in
theorem w_c4 : (Jvm.Cond.code ({ cls := "com/example/ionmill/ionmill/IrtFit", name := "irt", desc := "(D)D" } : Jvm.MethodName) prog_25_method_3_code (3 : Nat) (Option.some Jvm.ClassFile.FieldType.double)).before args0 about1 = true := code_word (m := ⟨3, 1⟩) (meth := k3m1) (c := k3c1) (by decide +kernel) rfl rfl rfl (by decide +kernel)
def codes1 : List Jvm.Cond := [Jvm.Cond.code x code maxLocals ret, Jvm.Cond.code ({ cls := "com/example/ionmill/ionmill/IrtFit", name := "<init>", desc := "(DDD)V" } : Jvm.MethodName) prog_25_method_1_code (7 : Nat) (Option.none : Option Jvm.ClassFile.FieldType), Jvm.Cond.code ({ cls := "java/lang/Record", name := "<init>", desc := "()V" } : Jvm.MethodName) jdk_30_method_1_code (1 : Nat) (Option.none : Option Jvm.ClassFile.FieldType), Jvm.Cond.code ({ cls := "java/lang/Object", name := "<init>", desc := "()V" } : Jvm.MethodName) object_method_1_code (1 : Nat) (Option.none : Option Jvm.ClassFile.FieldType), Jvm.Cond.code ({ cls := "com/example/ionmill/ionmill/IrtFit", name := "irt", desc := "(D)D" } : Jvm.MethodName) prog_25_method_3_code (3 : Nat) (Option.some Jvm.ClassFile.FieldType.double)]
set_option maxRecDepth 65536 in
theorem codes_eq : words1.filter isCode = codes1 := rfl
theorem w_codes : ∀ c ∈ words1.filter isCode, c.before args0 about1 = true := by
  rw [codes_eq]
  intro c hc
  simp only [codes1, List.mem_cons, List.not_mem_nil, or_false] at hc
  rcases hc with rfl | rfl | rfl | rfl | rfl
  · exact w_c0
  · exact w_c1
  · exact w_c2
  · exact w_c3
  · exact w_c4
set_option maxRecDepth 65536 in
theorem w_t1 : (words1.take 24).all (fun c => isCode c || c.before args0 about1) = true := by decide +kernel
set_option maxRecDepth 65536 in
theorem w_t2 : (words1.drop 24).all (fun c => isCode c || c.before args0 about1) = true := by decide +kernel
theorem w_tables : (allAtoms (Jvm.Cond.code x code maxLocals ret :: tables_1)).before args0 about1 = true := by
  rw [allAtoms_all]
  show words1.all (fun c => c.before args0 about1) = true
  refine all_split ?_ w_codes
  rw [← List.take_append_drop 24 words1, List.all_append, w_t1, w_t2]
  rfl
set_option maxRecDepth 65536 in
theorem w_case : (Jvm.Cond.and given_1 narrow_1).before args0 about1 = true := by decide +kernel
theorem w_applies : (headSpec (Jvm.Cond.code x code maxLocals ret :: tables_1) room_1).applies x e0.platform about1 = true :=
  (Spec.applies_iff w_frames).mpr ⟨w_running, w_runnable, w_alone, w_named, w_hears, w_ripe, w_room, w_tables⟩
theorem atStart : AtStart classFile x code maxLocals ret World_1 tables_1 room_1 Calls_1 rest_1 Pre_1 launch0 p0 e0 about1 theMethod args0 below0 :=
  ⟨lists_1, trivial, launch0.admits_env _ _ _, launch0.least_env, fairChoices_fair.cas, fairChoices_fair.clock, w_frames, w_args, w_heap, w_applies, trivial, trivial, w_case⟩
end start1
theorem witness_1 : WitnessClaimed_1 := ⟨start1.p0, start1.e0, start1.about1, start1.theMethod, start1.args0, start1.below0, start1.atStart⟩
end Jvm.Pilot.@@N@@
