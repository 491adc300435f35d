import JvmDerived
import JvmDerived.Pilot.@@N@@Statement
import JvmDerived.Pilot.@@N@@Code
set_option linter.unusedVariables false
set_option linter.unusedSimpArgs false
namespace Jvm.RoadKit
open Sem ClassFile Op Lib Jvm.Stand Jvm.Free Jvm.LawKit
section New
variable {p : Program} {l : Launch} {e : Env} {R : Room} {s : State} {m : MethodId} {args : Array Value} {below : List Frame} {meth : Method} {c : Code} {T : State} {locs : List Loc} {cells slots : Nat}
theorem retI (X : Stand p l e R s m args below meth c T locs cells slots) (hx : p.tables.exec = Jvm.exec) {pc : Nat} {Ls : Array Slot} {z : Int32} {rest : List Value} (hret : meth.sig.returnType = some .int) (hd : decode c.code pc = .ok (.ireturn, 1)) {fs : List Frame}
    (hl : ∀ (f : JFrame) (acts : List Action), f.method = m → f.locked = none → f.entered = [] → (doReturn e (T.setTop f) acts (some (.int z))).1 = T.setFrames fs) : Steps p.tables e below (T.setTop (mkF m pc Ls (.int z :: rest))) (T.setFrames fs) := by
  have hm' : T.vm.method? m = some meth := X.method'
  have hn : narrow .int (.int z) = .int z := rfl
  show Steps p.tables e below (T.setTop { method := m, pc := pc, locals := Ls, stack := _ :: rest, locked := none }) _
  jvm_step X.here [X.here.top, hx, hd, hm', hret, hn]
  first | (intro acts; rw [hl _ acts rfl rfl rfl]) | rw [hl _ _ rfl rfl rfl]
  exact Steps.refl _
end New
end Jvm.RoadKit
namespace Jvm.Pilot.@@N@@
open Jvm Jvm.ClassFile Sem Op Lib Jvm.Free Jvm.Stand Jvm.LawKit Jvm.RoadKit Bundle Jvm.Pilot.@@N@@.Jvm.D
theorem own_le {Z : State} {n0 : Nat} {h : Heap} (O : Old Z n0 h) : n0 ≤ h.size := O.1 ▸ O.2.1
def own_Q (r : Value) (h0 : Heap) (n0 : Nat) (v : Option Value) (h : Heap) (L : List Loc) : Prop := v = some r ∧ Fr n0 L ∧ h = h0
def own_Qn (h0 : Heap) (n0 : Nat) (v : Option Value) (h : Heap) (L : List Loc) : Prop := v = none ∧ Fr n0 L ∧ h = h0
def own_R (n0 : Nat) (v : Option Value) (h : Heap) (L : List Loc) : Prop := v = some (.int (1 : Int32)) ∧ Fr n0 L
theorem own_ne {args : Array Value} {s : State} {t u : Term} {K n d : String} {a b : Addr} {i j : Int32} (ht : t.eval args s none [] s = some (.ref a)) (hu : u.eval args s none [] s = some (.ref b))
    (h1 : (Jvm.Cond.eq (Term.field t K n d) (Term.int i)).value args s none s [] = some true) (h2 : (Jvm.Cond.eq (Term.field u K n d) (Term.int j)).value args s none s [] = some true) (hij : i ≠ j) : ¬ a = b := by
  intro e
  subst e
  obtain ⟨v, e1, e2⟩ := Cond.eq_worth h1
  obtain ⟨v', e3, e4⟩ := Cond.eq_worth h2
  rw [fld_at ht] at e1
  rw [fld_at hu] at e3
  have q1 : v = .int i := Option.some.inj (e2.symm.trans (Term.int_eval i))
  have q2 : v' = .int j := Option.some.inj (e4.symm.trans (Term.int_eval j))
  have q3 : v = v' := Option.some.inj (e1.symm.trans e3)
  rw [q1, q2] at q3
  exact hij (by injection q3)
theorem own_mod (p n : Int32) (hn : 0 < n.toInt) : 0 ≤ ((p &&& (2147483647 : Int32)) % n).toInt ∧ ((p &&& (2147483647 : Int32)) % n).toInt < n.toInt := by
  have e1 := c_mask p 2147483647 31 (by decide) (by decide)
  have e2 : 0 ≤ (p &&& (2147483647 : Int32)).toInt := by rw [e1]; exact Int.emod_nonneg _ (by decide)
  rw [Int32.toInt_mod, Int.tmod_eq_emod_of_nonneg e2]
  exact ⟨Int.emod_nonneg _ (by omega), Int.emod_lt_of_pos _ hn⟩
theorem own_mod3 (p : Int32) : ((p &&& (2147483647 : Int32)) % (3 : Int32)) = (0 : Int32) ∨ ((p &&& (2147483647 : Int32)) % (3 : Int32)) = (1 : Int32) ∨ ((p &&& (2147483647 : Int32)) % (3 : Int32)) = (2 : Int32) := by
  have h := own_mod p (3 : Int32) (by decide)
  generalize ((p &&& (2147483647 : Int32)) % (3 : Int32)) = i at h ⊢
  have hn : (3 : Int32).toInt = 3 := by decide
  have hk : i.toInt = 0 ∨ i.toInt = 1 ∨ i.toInt = 2 := by omega
  rcases hk with hk | hk | hk
  · exact Or.inl (Int32.toInt_inj.mp (hk.trans (by decide)))
  · exact Or.inr (Or.inl (Int32.toInt_inj.mp (hk.trans (by decide))))
  · exact Or.inr (Or.inr ((Int32.toInt_inj.mp (hk.trans (by decide)))))
def own_QI (Z : State) (o w : Addr) (h0 : Heap) (n0 : Nat) (v : Option Value) (h : Heap) (L : List Loc) : Prop := v = none ∧ Fr n0 L ∧ Keep h0 h [o] ∧ Exa Z h o "com/example/firstmover/firstmover/solver/lp/LpSolution" ∧ Fld Z h o "com/example/firstmover/firstmover/solver/lp/LpSolution" "status" "Lcom/example/firstmover/firstmover/solver/lp/LpSolution$Status;" (.ref w) ∧ Fld Z h o "com/example/firstmover/firstmover/solver/lp/LpSolution" "point" "[D" .null
def own_QW (Z : State) (w : Addr) (n0 : Nat) (v : Option Value) (h : Heap) (L : List Loc) : Prop := ∃ b : Addr, v = some (.ref b) ∧ Fr n0 L ∧ Old Z n0 h ∧ Exa Z h b "com/example/firstmover/firstmover/solver/lp/LpSolution" ∧ Fld Z h b "com/example/firstmover/firstmover/solver/lp/LpSolution" "status" "Lcom/example/firstmover/firstmover/solver/lp/LpSolution$Status;" (.ref w) ∧ Fld Z h b "com/example/firstmover/firstmover/solver/lp/LpSolution" "point" "[D" .null
theorem d2_0 : decode jdk_31_method_11_code 0 = .ok (.aload_n 0, 1) := by decide +kernel
theorem d2_1 : decode jdk_31_method_11_code 1 = .ok (.ifnonnull 12, 3) := by decide +kernel
theorem d2_13 : decode jdk_31_method_11_code 13 = .ok (.aload_n 0, 1) := by decide +kernel
theorem d2_14 : decode jdk_31_method_11_code 14 = .ok (.areturn, 1) := by decide +kernel
theorem ef_2 (m : MethodId) (x0 : Addr) (x1 : Addr) : entryFrame m #[(.ref x0), (.ref x1)] 2 = mkF m 0 #[.val (.ref x0), .val (.ref x1)] [] := by first | (simp [entryFrame, mkF, argsToLocals, Value.category]; done) | rfl
theorem pn_2 : plainName "java/util/Objects" = true := by first | (simp [plainName, overriddenIn]; done) | decide +kernel
set_option maxRecDepth 65536 in
set_option maxHeartbeats 40000000 in
theorem rmN (l : Launch) (Z : State) (a0 : Array Value) (hw : ∀ d ∈ tables_1, d.before a0 Z = true) (ws : List Jvm.Cond) (o0 : Addr) (o1 : Addr) (h0 : Heap) (n0 : Nat) (O0 : Old Z n0 h0) :
    MetFree l (⟨"java/util/Objects", "requireNonNull", "(Ljava/lang/Object;Ljava/lang/String;)Ljava/lang/Object;"⟩ : MethodName) (head1 (Jvm.Cond.code (⟨"java/util/Objects", "requireNonNull", "(Ljava/lang/Object;Ljava/lang/String;)Ljava/lang/Object;"⟩ : MethodName) jdk_31_method_11_code 2 (some (.object "java/lang/Object")) :: ws) ({ frames := 0, cells := 0, slots := 0, locals := 0 } : Room)) (fun a U => a = #[(.ref o0), (.ref o1)] ∧ Z.Warmed39 U.vm ∧ U.heap = h0) (fun _ _ _ _ _ => True) (fun _ U o U' => ∃ v L, o = .returned v ∧ own_Q (.ref o0) h0 n0 v U'.heap L ∧ FrameEnd U o U' L ({ frames := 0, cells := 0, slots := 0, locals := 0 } : Room).cells ({ frames := 0, cells := 0, slots := 0, locals := 0 } : Room).slots) := by
  refine MetFree.of_bodySF (plainFor_of_name pn_2) hisR ?_
  intro p e s m args below meth c s₁ Bd hml0 hP hK
  obtain ⟨rfl, hZ, hh⟩ := hP
  have hx := Bd.exec
  have hby := Bd.bytes
  have hml : c.maxLocals = 2 := hml0
  have hown : s.vm.findClass "java/util/Objects" = some m.cls := findClass_of_methodNamed Bd.named
  have hnm := (name_of_methodNamed Bd.named Bd.method).1
  have X0 : Stand p l e ({ frames := 0, cells := 0, slots := 0, locals := 0 } : Room) s m #[(.ref o0), (.ref o1)] below meth c s₁ [] 0 0 := Stand.of_body Bd
  have e0 : s₁.heap = h0 := by rw [← hh, Bd.state]; rfl
  have N0 := Fr.nil n0
  have pre0 : ∀ t, Steps p.tables e below (s₁.setTop (mkF m 0 #[.val (.ref o0), .val (.ref o1)] [])) t → Steps p.tables e below (s₁.setTop (entryFrame m #[(.ref o0), (.ref o1)] 2)) t := fun t k => castTop (ef_2 m o0 o1) k
  obtain ⟨fs, hr, hrun, hended, hW, hsame⟩ := X0.leave (v := some (.ref o0)) (fun h => by rw [Bd.returns] at h; cases h)
  refine ⟨_, _, pre0 _ ?_, hrun, hended, _, _, rfl, ?_, ⟨_, rfl⟩, hW, hsame.mono (by decide) (by decide)⟩
  · show Steps p.tables e below (s₁.setTop (mkF m 0 #[.val (.ref o0), .val (.ref o1)] [])) _
    refine XS.aloadN X0.here hx rfl (hb hby d2_0) rfl rfl ?_
    show Steps p.tables e below (s₁.setTop (mkF m 1 #[.val (.ref o0), .val (.ref o1)] [(.ref o0)])) _
    refine XS.ifnonnullYes X0.here hx rfl (pc0 := 1) (pc' := 13) rfl (hb hby d2_1) rfl (by decide) (by decide) ?_
    show Steps p.tables e below (s₁.setTop (mkF m 13 #[.val (.ref o0), .val (.ref o1)] [])) _
    refine XS.aloadN X0.here hx rfl (hb hby d2_13) rfl rfl ?_
    show Steps p.tables e below (s₁.setTop (mkF m 14 #[.val (.ref o0), .val (.ref o1)] [(.ref o0)])) _
    jvm_step X0.here [X0.here.top, hx, (hb hby d2_14), X0.method', Bd.returns, Value.isRef, FieldType.isReference]
    first | (intro acts; rw [hr _ acts rfl rfl rfl]) | rw [hr _ _ rfl rfl rfl]
    exact Steps.refl _
  · show own_Q (.ref o0) h0 n0 _ s₁.heap _
    rw [e0]
    exact ⟨rfl, N0, rfl⟩
theorem d3_0 : decode prog_23_method_1_code 0 = .ok (.aload_n 0, 1) := by decide +kernel
theorem d3_1 : decode prog_23_method_1_code 1 = .ok (.invokespecial 1, 3) := by decide +kernel
theorem d3_4 : decode prog_23_method_1_code 4 = .ok (.aload_n 0, 1) := by decide +kernel
theorem d3_5 : decode prog_23_method_1_code 5 = .ok (.aload_n 1, 1) := by decide +kernel
theorem d3_6 : decode prog_23_method_1_code 6 = .ok (.putfield 7, 3) := by decide +kernel
theorem d3_9 : decode prog_23_method_1_code 9 = .ok (.aload_n 0, 1) := by decide +kernel
theorem d3_10 : decode prog_23_method_1_code 10 = .ok (.dload_n 2, 1) := by decide +kernel
theorem d3_11 : decode prog_23_method_1_code 11 = .ok (.putfield 13, 3) := by decide +kernel
theorem d3_14 : decode prog_23_method_1_code 14 = .ok (.aload_n 0, 1) := by decide +kernel
theorem d3_15 : decode prog_23_method_1_code 15 = .ok (.aload 4, 2) := by decide +kernel
theorem d3_17 : decode prog_23_method_1_code 17 = .ok (.putfield 17, 3) := by decide +kernel
theorem d3_20 : decode prog_23_method_1_code 20 = .ok (.return_, 1) := by decide +kernel
theorem ef_3_vvvn (m : MethodId) (x0 : Addr) (x1 : Addr) (x2 : UInt64) : entryFrame m #[(.ref x0), (.ref x1), (.double x2), .null] 5 = mkF m 0 #[.val (.ref x0), .val (.ref x1), .val (.double x2), .second, .val .null] [] := by first | (simp [entryFrame, mkF, argsToLocals, Value.category]; done) | rfl
theorem pn_3 : plainName "com/example/firstmover/firstmover/solver/lp/LpSolution" = true := by first | (simp [plainName, overriddenIn]; done) | decide +kernel
set_option maxRecDepth 65536 in
set_option maxHeartbeats 40000000 in
theorem rmI (l : Launch) (Z : State) (a0 : Array Value) (hw : ∀ d ∈ tables_1, d.before a0 Z = true) (ws : List Jvm.Cond) (o0 : Addr) (o1 : Addr) (f2 : UInt64) (h0 : Heap) (n0 : Nat) (O0 : Old Z n0 h0) (E_o0 : Exa Z h0 o0 "com/example/firstmover/firstmover/solver/lp/LpSolution") (U_o0 : Unt h0 o0) (g_o0 : n0 ≤ o0) :
    MetFree l (⟨"com/example/firstmover/firstmover/solver/lp/LpSolution", "<init>", "(Lcom/example/firstmover/firstmover/solver/lp/LpSolution$Status;D[D)V"⟩ : MethodName) (head1 (Jvm.Cond.code (⟨"com/example/firstmover/firstmover/solver/lp/LpSolution", "<init>", "(Lcom/example/firstmover/firstmover/solver/lp/LpSolution$Status;D[D)V"⟩ : MethodName) prog_23_method_1_code 5 none :: ws) ({ frames := 1, cells := 0, slots := 0, locals := 12 } : Room)) (fun a U => a = #[(.ref o0), (.ref o1), (.double f2), .null] ∧ Z.Warmed39 U.vm ∧ U.heap = h0) (fun _ _ _ _ _ => True) (fun _ U o U' => ∃ v L, o = .returned v ∧ own_QI Z o0 o1 h0 n0 v U'.heap L ∧ FrameEnd U o U' L ({ frames := 1, cells := 0, slots := 0, locals := 12 } : Room).cells ({ frames := 1, cells := 0, slots := 0, locals := 12 } : Room).slots) := by
  refine MetFree.of_bodySF (plainFor_of_name pn_3) hisR ?_
  intro p e s m args below meth c s₁ Bd hml0 hP hK
  obtain ⟨rfl, hZ, hh⟩ := hP
  have hx := Bd.exec
  have hby := Bd.bytes
  have hml : c.maxLocals = 5 := hml0
  have hown : s.vm.findClass "com/example/firstmover/firstmover/solver/lp/LpSolution" = some m.cls := findClass_of_methodNamed Bd.named
  have hnm := (name_of_methodNamed Bd.named Bd.method).1
  have X0 : Stand p l e ({ frames := 1, cells := 0, slots := 0, locals := 12 } : Room) s m #[(.ref o0), (.ref o1), (.double f2), .null] below meth c s₁ [] 0 0 := Stand.of_body Bd
  have e0 : s₁.heap = h0 := by rw [← hh, Bd.state]; rfl
  have N0 := Fr.nil n0
  have pre0 : ∀ t, Steps p.tables e below (s₁.setTop (mkF m 0 #[.val (.ref o0), .val (.ref o1), .val (.double f2), .second, .val .null] [])) t → Steps p.tables e below (s₁.setTop (entryFrame m #[(.ref o0), (.ref o1), (.double f2), .null] 5)) t := fun t k => castTop (ef_3_vvvn m o0 o1 f2) k
  obtain ⟨T1, X1, e1, st1⟩ := initO X0 hx hZ hown (hw _ (List.mem_of_getElem? (i := 28) rfl)) (hw _ (List.mem_of_getElem? (i := 29) rfl)) (hw _ (List.mem_of_getElem? (i := 30) rfl)) e0 (g := (mkF m 1 #[.val (.ref o0), .val (.ref o1), .val (.double f2), .second, .val .null] [(.ref o0)])) rfl (by rw [hml]; rfl) rfl (hb hby d3_1) (by decide) (W := 0) (by show 2 * 0 + _ ≤ _; exact Nat.le_of_eq rfl) (by decide)
  obtain ⟨uo2, Fo2⟩ := fld_laid E_o0 (Unt.known U_o0) (hw _ (List.mem_of_getElem? (i := 23) rfl)) (Or.inr (hw _ (List.mem_of_getElem? (i := 32) rfl)))
  obtain ⟨T2, h2, X2, e2, W2, st2⟩ := putF X1 hx hZ hown (host := "") (Or.inl (hw _ (List.mem_of_getElem? (i := 31) rfl))) Via.refl e1 Fo2 E_o0 (Or.inr ⟨(hw _ (List.mem_of_getElem? (i := 32) rfl)), rfl, hnm⟩) (hw _ (List.mem_of_getElem? (i := 23) rfl)) (ty := (.object "com/example/firstmover/firstmover/solver/lp/LpSolution$Status")) (by decide) rfl rfl (g := (mkF m 6 #[.val (.ref o0), .val (.ref o1), .val (.double f2), .second, .val .null] [(.ref o1), (.ref o0)])) rfl rfl (hb hby d3_6)
  have O2 := O0.wr W2 g_o0
  have Fw2 := Fo2.same W2
  have N2 := Fr.snoc X2 N0 g_o0
  obtain ⟨uo3, Fo3⟩ := fld_laid (E_o0.wr W2) (Unt.known (Unt.wr W2 U_o0)) (hw _ (List.mem_of_getElem? (i := 23) rfl)) (Or.inr (hw _ (List.mem_of_getElem? (i := 34) rfl)))
  obtain ⟨T3, h3, X3, e3, W3, st3⟩ := putF X2 hx hZ hown (host := "") (Or.inl (hw _ (List.mem_of_getElem? (i := 33) rfl))) Via.refl e2 Fo3 (E_o0.wr W2) (Or.inr ⟨(hw _ (List.mem_of_getElem? (i := 34) rfl)), rfl, hnm⟩) (hw _ (List.mem_of_getElem? (i := 23) rfl)) (ty := .double) (by decide) rfl rfl (g := (mkF m 11 #[.val (.ref o0), .val (.ref o1), .val (.double f2), .second, .val .null] [(.double f2), (.ref o0)])) rfl rfl (hb hby d3_11)
  have O3 := O2.wr W3 g_o0
  have Fw3 := Fo3.same W3
  have N3 := Fr.snoc X3 N2 g_o0
  obtain ⟨uo4, Fo4⟩ := fld_laid ((E_o0.wr W2).wr W3) (Unt.known (Unt.wr W3 (Unt.wr W2 U_o0))) (hw _ (List.mem_of_getElem? (i := 23) rfl)) (Or.inr (hw _ (List.mem_of_getElem? (i := 36) rfl)))
  obtain ⟨T4, h4, X4, e4, W4, st4⟩ := putF X3 hx hZ hown (host := "") (Or.inl (hw _ (List.mem_of_getElem? (i := 35) rfl))) Via.refl e3 Fo4 ((E_o0.wr W2).wr W3) (Or.inr ⟨(hw _ (List.mem_of_getElem? (i := 36) rfl)), rfl, hnm⟩) (hw _ (List.mem_of_getElem? (i := 23) rfl)) (ty := (.array .double)) (by decide) rfl rfl (g := (mkF m 17 #[.val (.ref o0), .val (.ref o1), .val (.double f2), .second, .val .null] [.null, (.ref o0)])) rfl rfl (hb hby d3_17)
  have O4 := O3.wr W4 g_o0
  have Fw4 := Fo4.same W4
  have N4 := Fr.snoc X4 N3 g_o0
  have f_o0_3_status := ((Fw2.other W3 (Or.inr (slot_ne (Or.inr (hw _ (List.mem_of_getElem? (i := 32) rfl))) (Or.inr (hw _ (List.mem_of_getElem? (i := 34) rfl))) (by decide) (t := (.object "com/example/firstmover/firstmover/solver/lp/LpSolution$Status")) (t' := .double) (by decide) (by decide)))).other W4 (Or.inr (slot_ne (Or.inr (hw _ (List.mem_of_getElem? (i := 32) rfl))) (Or.inr (hw _ (List.mem_of_getElem? (i := 36) rfl))) (by decide) (t := (.object "com/example/firstmover/firstmover/solver/lp/LpSolution$Status")) (t' := (.array .double)) (by decide) (by decide))))
  obtain ⟨fs, hr, hrun, hended, hW, hsame⟩ := X4.leave (v := none) (fun _ => rfl)
  refine ⟨_, _, pre0 _ ?_, hrun, hended, _, _, rfl, ?_, ⟨_, rfl⟩, hW, hsame.mono (by decide) (by decide)⟩
  · show Steps p.tables e below (s₁.setTop (mkF m 0 #[.val (.ref o0), .val (.ref o1), .val (.double f2), .second, .val .null] [])) _
    refine XS.aloadN X0.here hx rfl (hb hby d3_0) rfl rfl ?_
    show Steps p.tables e below (s₁.setTop (mkF m 1 #[.val (.ref o0), .val (.ref o1), .val (.double f2), .second, .val .null] [(.ref o0)])) _
    refine st1 _ ?_
    show Steps p.tables e below (T1.setTop (mkF m 4 #[.val (.ref o0), .val (.ref o1), .val (.double f2), .second, .val .null] [])) _
    refine XS.aloadN X1.here hx rfl (hb hby d3_4) rfl rfl ?_
    show Steps p.tables e below (T1.setTop (mkF m 5 #[.val (.ref o0), .val (.ref o1), .val (.double f2), .second, .val .null] [(.ref o0)])) _
    refine XS.aloadN X1.here hx rfl (hb hby d3_5) rfl rfl ?_
    show Steps p.tables e below (T1.setTop (mkF m 6 #[.val (.ref o0), .val (.ref o1), .val (.double f2), .second, .val .null] [(.ref o1), (.ref o0)])) _
    refine st2 _ ?_
    show Steps p.tables e below (T2.setTop (mkF m 9 #[.val (.ref o0), .val (.ref o1), .val (.double f2), .second, .val .null] [])) _
    refine XS.aloadN X2.here hx rfl (hb hby d3_9) rfl rfl ?_
    show Steps p.tables e below (T2.setTop (mkF m 10 #[.val (.ref o0), .val (.ref o1), .val (.double f2), .second, .val .null] [(.ref o0)])) _
    refine XS.dloadN X2.here hx rfl (hb hby d3_10) rfl ?_
    show Steps p.tables e below (T2.setTop (mkF m 11 #[.val (.ref o0), .val (.ref o1), .val (.double f2), .second, .val .null] [(.double f2), (.ref o0)])) _
    refine st3 _ ?_
    show Steps p.tables e below (T3.setTop (mkF m 14 #[.val (.ref o0), .val (.ref o1), .val (.double f2), .second, .val .null] [])) _
    refine XS.aloadN X3.here hx rfl (hb hby d3_14) rfl rfl ?_
    show Steps p.tables e below (T3.setTop (mkF m 15 #[.val (.ref o0), .val (.ref o1), .val (.double f2), .second, .val .null] [(.ref o0)])) _
    refine XS.aload X3.here hx rfl (hb hby d3_15) rfl rfl ?_
    show Steps p.tables e below (T3.setTop (mkF m 17 #[.val (.ref o0), .val (.ref o1), .val (.double f2), .second, .val .null] [.null, (.ref o0)])) _
    refine st4 _ ?_
    show Steps p.tables e below (T4.setTop (mkF m 20 #[.val (.ref o0), .val (.ref o1), .val (.double f2), .second, .val .null] [])) _
    exact X4.returnOut hx Bd.returns (hb hby d3_20) hr
  · show own_QI Z o0 o1 h0 n0 _ T4.heap _
    rw [e4]
    exact ⟨rfl, N4, ((((Keep.refl h0 [o0]).wr W2 (Or.inl (List.mem_of_getElem? (i := 0) rfl))).wr W3 (Or.inl (List.mem_of_getElem? (i := 0) rfl))).wr W4 (Or.inl (List.mem_of_getElem? (i := 0) rfl))), (((E_o0.wr W2).wr W3).wr W4), f_o0_3_status, Fw4⟩
theorem d1_0 : decode prog_23_method_4_code 0 = .ok (.aload_n 0, 1) := by decide +kernel
theorem d1_1 : decode prog_23_method_4_code 1 = .ok (.ldc 33, 2) := by decide +kernel
theorem own_sa {a0 : Array Value} {Z : State} (hw : ∀ d ∈ tables_1, d.before a0 Z = true) : ∀ a ∈ Bundle.stringAtoms, a.before a0 Z = true := by
  intro a ha
  simp only [Bundle.stringAtoms, List.mem_cons, List.not_mem_nil, or_false] at ha
  rcases ha with rfl | rfl | rfl | rfl | rfl | rfl | rfl
  · exact (hw _ (List.mem_of_getElem? (i := 9) rfl))
  · exact (hw _ (List.mem_of_getElem? (i := 10) rfl))
  · exact (hw _ (List.mem_of_getElem? (i := 11) rfl))
  · exact (hw _ (List.mem_of_getElem? (i := 12) rfl))
  · exact (hw _ (List.mem_of_getElem? (i := 13) rfl))
  · exact (hw _ (List.mem_of_getElem? (i := 14) rfl))
  · exact (hw _ (List.mem_of_getElem? (i := 15) rfl))
theorem d1_3 : decode prog_23_method_4_code 3 = .ok (.invokestatic 34, 3) := by decide +kernel
theorem pd_0 : parseMethodDescriptor "(Ljava/lang/Object;Ljava/lang/String;)Ljava/lang/Object;" = some ⟨[(.object "java/lang/Object"), (.object "java/lang/String")], some (.object "java/lang/Object")⟩ := by decide +kernel
theorem d1_6 : decode prog_23_method_4_code 6 = .ok (.getstatic 21, 3) := by decide +kernel
theorem d1_9 : decode prog_23_method_4_code 9 = .ok (.if_acmp .ne 13, 3) := by decide +kernel
theorem d1_22 : decode prog_23_method_4_code 22 = .ok (.new 8, 3) := by decide +kernel
theorem d1_25 : decode prog_23_method_4_code 25 = .ok (.dup, 1) := by decide +kernel
theorem d1_26 : decode prog_23_method_4_code 26 = .ok (.aload_n 0, 1) := by decide +kernel
theorem d1_27 : decode prog_23_method_4_code 27 = .ok (.ldc2_w 49, 3) := by decide +kernel
theorem d1_30 : decode prog_23_method_4_code 30 = .ok (.aconst_null, 1) := by decide +kernel
theorem d1_31 : decode prog_23_method_4_code 31 = .ok (.invokespecial 51, 3) := by decide +kernel
theorem pd_1 : parseMethodDescriptor "(Lcom/example/firstmover/firstmover/solver/lp/LpSolution$Status;D[D)V" = some ⟨[(.object "com/example/firstmover/firstmover/solver/lp/LpSolution$Status"), .double, (.array .double)], none⟩ := by decide +kernel
theorem d1_34 : decode prog_23_method_4_code 34 = .ok (.areturn, 1) := by decide +kernel
theorem ef_1 (m : MethodId) (x0 : Addr) : entryFrame m #[(.ref x0)] 1 = mkF m 0 #[.val (.ref x0)] [] := by first | (simp [entryFrame, mkF, argsToLocals, Value.category]; done) | rfl
theorem pn_1 : plainName "com/example/firstmover/firstmover/solver/lp/LpSolution" = true := by first | (simp [plainName, overriddenIn]; done) | decide +kernel
set_option maxRecDepth 65536 in
set_option maxHeartbeats 40000000 in
theorem rmW (l : Launch) (Z : State) (a0 : Array Value) (hw : ∀ d ∈ tables_1, d.before a0 Z = true) (ws : List Jvm.Cond) (o0 : Addr) (wO : Addr) (h0 : Heap) (n0 : Nat) (O0 : Old Z n0 h0) (S_OPTIMAL : Sta Z Z.heap "com/example/firstmover/firstmover/solver/lp/LpSolution$Status" "OPTIMAL" "Lcom/example/firstmover/firstmover/solver/lp/LpSolution$Status;" (.ref wO)) (ha : ¬ (o0 = wO)) :
    MetFree l (⟨"com/example/firstmover/firstmover/solver/lp/LpSolution", "withoutOptimum", "(Lcom/example/firstmover/firstmover/solver/lp/LpSolution$Status;)Lcom/example/firstmover/firstmover/solver/lp/LpSolution;"⟩ : MethodName) (head1 (Jvm.Cond.code (⟨"com/example/firstmover/firstmover/solver/lp/LpSolution", "withoutOptimum", "(Lcom/example/firstmover/firstmover/solver/lp/LpSolution$Status;)Lcom/example/firstmover/firstmover/solver/lp/LpSolution;"⟩ : MethodName) prog_23_method_4_code 1 (some (.object "com/example/firstmover/firstmover/solver/lp/LpSolution")) :: ws) ({ frames := 2, cells := 3, slots := 31, locals := 29 } : Room)) (fun a U => a = #[(.ref o0)] ∧ Z.Warmed39 U.vm ∧ U.heap = h0) (fun _ _ _ _ _ => True) (fun _ U o U' => ∃ v L, o = .returned v ∧ own_QW Z o0 n0 v U'.heap L ∧ ReturnedEndW U o U' L ({ frames := 2, cells := 3, slots := 31, locals := 29 } : Room).cells ({ frames := 2, cells := 3, slots := 31, locals := 29 } : Room).slots) := by
  refine MetFree.of_bodySF (plainFor_of_name pn_1) hisR ?_
  intro p e s m args below meth c s₁ Bd hml0 hP hK
  obtain ⟨rfl, hZ, hh⟩ := hP
  have hx := Bd.exec
  have hby := Bd.bytes
  have hml : c.maxLocals = 1 := hml0
  have hown : s.vm.findClass "com/example/firstmover/firstmover/solver/lp/LpSolution" = some m.cls := findClass_of_methodNamed Bd.named
  have hnm := (name_of_methodNamed Bd.named Bd.method).1
  have X0 : Stand p l e ({ frames := 2, cells := 3, slots := 31, locals := 29 } : Room) s m #[(.ref o0)] below meth c s₁ [] 0 0 := Stand.of_body Bd
  have e0 : s₁.heap = h0 := by rw [← hh, Bd.state]; rfl
  have N0 := Fr.nil n0
  have pre0 : ∀ t, Steps p.tables e below (s₁.setTop (mkF m 0 #[.val (.ref o0)] [])) t → Steps p.tables e below (s₁.setTop (entryFrame m #[(.ref o0)] 1)) t := fun t k => castTop (ef_1 m o0) k
  have Sn0 : s.Since s.vm 0 := (State.WarmedH.refl s).since 0
  have XS0 : Stand p l e _ (s.setVm s.vm) m #[(.ref o0)] below meth c s₁ _ 0 0 := X0
  have hZS : Z.Warmed39 s.vm := hZ
  have hownS : s.vm.findClass "com/example/firstmover/firstmover/solver/lp/LpSolution" = some m.cls := hown
  obtain ⟨sa1, T1, h1, ks1, X1, e1, E1, Sn1, hk1, hZ1, hown1, st1⟩ := ldcS XS0 hx hZ hown (hw _ (List.mem_of_getElem? (i := 8) rfl)) (own_sa hw) e0 Sn0 (Nat.zero_le _) (g := (mkF m 1 #[.val (.ref o0)] [(.ref o0)])) rfl (hb hby d1_1) (n := 24) (by decide) (by decide) (by decide) (by decide)
  have O1 := O0.ext E1
  obtain ⟨_, _, ⟨T2, L2, k2, n2⟩, -, X2, ⟨Lc2, hQ2, l2, y2, z2⟩, st2⟩ := Jvm.LawKit.callS X1 hx (y := (⟨"java/util/Objects", "requireNonNull", "(Ljava/lang/Object;Ljava/lang/String;)Ljava/lang/Object;"⟩ : MethodName)) hown1 (mvT hZ1 (hw _ (List.mem_of_getElem? (i := 16) rfl))) (mvT hZ1 (hw _ (List.mem_of_getElem? (i := 17) rfl))) (mvT hZ1 (hw _ (List.mem_of_getElem? (i := 18) rfl))) (mvT hZ1 (hw _ (List.mem_of_getElem? (i := 19) rfl))) (by decide) (backOf (W := 0) (rmN l Z a0 hw [] o0 sa1  h1 n0 O1 ) hZ1 (hw _ (List.mem_of_getElem? (i := 19) rfl)) (hw _ (List.mem_of_getElem? (i := 18) rfl)) (by decide) (by decide)) (g := (mkF m 3 #[.val (.ref o0)] [(.ref sa1), (.ref o0)])) rfl (by rw [hml]; rfl) (argsL := [(.ref o0), (.ref sa1)]) (rest := []) (lenOf pd_0 rfl) rfl (by show 2 * 0 + _ ≤ _; exact Nat.le_of_eq rfl) (hb hby d1_3) (fun _ _ => ⟨rfl, e1, (by decide : 2 + 0 ≤ _), (by decide : 28 + 0 ≤ _)⟩)
  dsimp only [Pt.U, Pt.locs, Pt.cells, Pt.slots] at X2 l2 y2 z2 st2 hQ2
  subst l2 y2 z2
  obtain ⟨rfl, N2q, e2⟩ := hQ2
  have N2 := Fr.app N0 N2q
  obtain ⟨T3, X3, e3, st3⟩ := getS2 X2 hx hZ1 hown1 (host := "") (Or.inl (hw _ (List.mem_of_getElem? (i := 20) rfl))) Via.refl e2 (S_OPTIMAL.ext O1.2) (g := (mkF m 6 #[.val (.ref o0)] [(.ref o0)])) rfl (hb hby d1_6)
  obtain ⟨T4, h4, X4, e4, E4, A4, D4, U4, st4⟩ := newO X3 hx hZ1 hown1 (hw _ (List.mem_of_getElem? (i := 22) rfl)) (hw _ (List.mem_of_getElem? (i := 23) rfl)) (hw _ (List.mem_of_getElem? (i := 6) rfl)) e3 (g := (mkF m 22 #[.val (.ref o0)] [])) rfl (hb hby d1_22) (by decide) (by decide)
  obtain ⟨b4, g4⟩ : ∃ z, z = h1.size := ⟨_, rfl⟩
  rw [← g4] at A4 D4 U4 st4
  have Ut4 : Unt h4 b4 := U4
  have g_b4 : n0 ≤ b4 := Nat.le_trans (own_le O1) (Nat.le_of_eq g4.symm)
  have O4 := O1.ext E4
  have F_status_b4 : Fld Z h4 b4 "com/example/firstmover/firstmover/solver/lp/LpSolution" "status" "Lcom/example/firstmover/firstmover/solver/lp/LpSolution$Status;" .null := D4 (Or.inr (hw _ (List.mem_of_getElem? (i := 32) rfl))) (ty := (.object "com/example/firstmover/firstmover/solver/lp/LpSolution$Status")) (by decide)
  have F_objectiveValue_b4 : Fld Z h4 b4 "com/example/firstmover/firstmover/solver/lp/LpSolution" "objectiveValue" "D" (.double (0 : UInt64)) := D4 (Or.inr (hw _ (List.mem_of_getElem? (i := 34) rfl))) (ty := .double) (by decide)
  have F_point_b4 : Fld Z h4 b4 "com/example/firstmover/firstmover/solver/lp/LpSolution" "point" "[D" .null := D4 (Or.inr (hw _ (List.mem_of_getElem? (i := 36) rfl))) (ty := (.array .double)) (by decide)
  obtain ⟨_, _, ⟨T5, L5, k5, n5⟩, -, X5, ⟨Lc5, hQ5, l5, y5, z5⟩, st5⟩ := X4.specialBack hx (y := (⟨"com/example/firstmover/firstmover/solver/lp/LpSolution", "<init>", "(Lcom/example/firstmover/firstmover/solver/lp/LpSolution$Status;D[D)V"⟩ : MethodName)) rfl hown1 (mvT hZ1 (hw _ (List.mem_of_getElem? (i := 25) rfl))) (mvT hZ1 (hw _ (List.mem_of_getElem? (i := 26) rfl))) (mvT hZ1 (hw _ (List.mem_of_getElem? (i := 27) rfl))) (by decide) (backOf (W := 1) (rmI l Z a0 hw [] b4 o0 (9221120237041090560 : UInt64)  h4 n0 O4 A4 Ut4 g_b4) hZ1 (hw _ (List.mem_of_getElem? (i := 27) rfl)) (hw _ (List.mem_of_getElem? (i := 6) rfl)) (by decide) (by decide)) (g := (mkF m 31 #[.val (.ref o0)] [.null, (.double (9221120237041090560 : UInt64)), (.ref o0), (.ref b4), (.ref b4)])) rfl (by rw [hml]; rfl) (Steps.refl _) (a := b4) (argsL := [(.ref o0), (.double (9221120237041090560 : UInt64)), .null]) (rest := [(.ref b4)]) (lenOf pd_1 rfl) rfl (by show 2 * 0 + _ ≤ _; exact Nat.le_of_eq rfl) (hb hby d1_31) (fun _ _ => ⟨rfl, e4, (by decide : 3 + 0 ≤ _), (by decide : 31 + 0 ≤ _)⟩)
  dsimp only [Pt.U, Pt.locs, Pt.cells, Pt.slots] at X5 l5 y5 z5 st5 hQ5
  subst l5 y5 z5
  obtain ⟨rfl, N5q, K5, Eb5, Fs5, Fp5⟩ := hQ5
  have N5 := Fr.app N2 N5q
  have O5 := O4.keep K5 (allS g_b4 all0)
  obtain ⟨fs, hr, hrun, hended, hRW⟩ := X5.leaveW Sn1 (Nat.le_trans hk1 (Nat.le_trans E4.1 K5.1)) (v := some (.ref b4)) (fun h => by rw [Bd.returns] at h; cases h)
  refine ⟨_, _, pre0 _ ?_, hrun, hended, _, _, rfl, ?_, hRW.1, hRW.2.1, hRW.2.2.1, hRW.2.2.2.mono (by decide) (by decide)⟩
  · show Steps p.tables e below (s₁.setTop (mkF m 0 #[.val (.ref o0)] [])) _
    refine XS.aloadN X0.here hx rfl (hb hby d1_0) rfl rfl ?_
    show Steps p.tables e below (s₁.setTop (mkF m 1 #[.val (.ref o0)] [(.ref o0)])) _
    refine st1 _ ?_
    show Steps p.tables e below (T1.setTop (mkF m 3 #[.val (.ref o0)] [(.ref sa1), (.ref o0)])) _
    refine st2 _ ?_
    show Steps p.tables e below (T2.setTop (mkF m 6 #[.val (.ref o0)] [(.ref o0)])) _
    refine st3 _ ?_
    show Steps p.tables e below (T3.setTop (mkF m 9 #[.val (.ref o0)] [(.ref wO), (.ref o0)])) _
    refine Jvm.RoadKit.acmp (g := (mkF m 9 #[.val (.ref o0)] [(.ref wO), (.ref o0)])) X3 hx rfl rfl rfl (pc0 := 9) (pc' := 22) (same := false) rfl (hb hby d1_9) rfl (decide_eq_false fun q => ha (Value.ref.inj q)) (by decide) (by decide) ?_
    show Steps p.tables e below (T3.setTop (mkF m 22 #[.val (.ref o0)] [])) _
    refine st4 _ ?_
    show Steps p.tables e below (T4.setTop (mkF m 25 #[.val (.ref o0)] [(.ref b4)])) _
    refine XS.dup X4.here hx rfl (hb hby d1_25) rfl rfl ?_
    show Steps p.tables e below (T4.setTop (mkF m 26 #[.val (.ref o0)] [(.ref b4), (.ref b4)])) _
    refine XS.aloadN X4.here hx rfl (hb hby d1_26) rfl rfl ?_
    show Steps p.tables e below (T4.setTop (mkF m 27 #[.val (.ref o0)] [(.ref o0), (.ref b4), (.ref b4)])) _
    refine X4.ldc2DoubleC hx hown1 (mvT hZ1 (hw _ (List.mem_of_getElem? (i := 24) rfl))) (g := (mkF m 27 #[.val (.ref o0)] [(.ref o0), (.ref b4), (.ref b4)])) rfl (hb hby d1_27) _ ?_
    show Steps p.tables e below (T4.setTop (mkF m 30 #[.val (.ref o0)] [(.double (9221120237041090560 : UInt64)), (.ref o0), (.ref b4), (.ref b4)])) _
    refine XS.aconstNull X4.here hx rfl (hb hby d1_30) ?_
    show Steps p.tables e below (T4.setTop (mkF m 31 #[.val (.ref o0)] [.null, (.double (9221120237041090560 : UInt64)), (.ref o0), (.ref b4), (.ref b4)])) _
    refine st5.trans ?_
    show Steps p.tables e below (T5.setTop (mkF m 34 #[.val (.ref o0)] [(.ref b4)])) _
    jvm_step X5.here [X5.here.top, hx, (hb hby d1_34), X5.method', Bd.returns, Value.isRef, FieldType.isReference]
    first | (intro acts; rw [hr _ acts rfl rfl rfl]) | rw [hr _ _ rfl rfl rfl]
    exact Steps.refl _
  · show own_QW Z o0 n0 _ T5.heap _
    exact ⟨b4, rfl, N5, O5, Eb5, Fs5, Fp5⟩
theorem d5_0 : decode prog_23_method_6_code 0 = .ok (.aload_n 0, 1) := by decide +kernel
theorem d5_1 : decode prog_23_method_6_code 1 = .ok (.getfield 7, 3) := by decide +kernel
theorem d5_4 : decode prog_23_method_6_code 4 = .ok (.areturn, 1) := by decide +kernel
theorem ef_5 (m : MethodId) (x0 : Addr) : entryFrame m #[(.ref x0)] 1 = mkF m 0 #[.val (.ref x0)] [] := by first | (simp [entryFrame, mkF, argsToLocals, Value.category]; done) | rfl
theorem pn_5 : plainName "com/example/firstmover/firstmover/solver/lp/LpSolution" = true := by first | (simp [plainName, overriddenIn]; done) | decide +kernel
set_option maxRecDepth 65536 in
set_option maxHeartbeats 40000000 in
theorem rmS (l : Launch) (Z : State) (a0 : Array Value) (hw : ∀ d ∈ tables_1, d.before a0 Z = true) (ws : List Jvm.Cond) (o0 : Addr) (w1 : Addr) (h0 : Heap) (n0 : Nat) (O0 : Old Z n0 h0) (F_status_o0 : Fld Z h0 o0 "com/example/firstmover/firstmover/solver/lp/LpSolution" "status" "Lcom/example/firstmover/firstmover/solver/lp/LpSolution$Status;" (.ref w1)) :
    MetFree l (⟨"com/example/firstmover/firstmover/solver/lp/LpSolution", "status", "()Lcom/example/firstmover/firstmover/solver/lp/LpSolution$Status;"⟩ : MethodName) (head1 (Jvm.Cond.code (⟨"com/example/firstmover/firstmover/solver/lp/LpSolution", "status", "()Lcom/example/firstmover/firstmover/solver/lp/LpSolution$Status;"⟩ : MethodName) prog_23_method_6_code 1 (some (.object "com/example/firstmover/firstmover/solver/lp/LpSolution$Status")) :: ws) ({ frames := 0, cells := 0, slots := 0, locals := 0 } : Room)) (fun a U => a = #[(.ref o0)] ∧ Z.Warmed39 U.vm ∧ U.heap = h0) (fun _ _ _ _ _ => True) (fun _ U o U' => ∃ v L, o = .returned v ∧ own_Q (.ref w1) h0 n0 v U'.heap L ∧ FrameEnd U o U' L ({ frames := 0, cells := 0, slots := 0, locals := 0 } : Room).cells ({ frames := 0, cells := 0, slots := 0, locals := 0 } : Room).slots) := by
  refine MetFree.of_bodySF (plainFor_of_name pn_5) hisR ?_
  intro p e s m args below meth c s₁ Bd hml0 hP hK
  obtain ⟨rfl, hZ, hh⟩ := hP
  have hx := Bd.exec
  have hby := Bd.bytes
  have hml : c.maxLocals = 1 := hml0
  have hown : s.vm.findClass "com/example/firstmover/firstmover/solver/lp/LpSolution" = some m.cls := findClass_of_methodNamed Bd.named
  have hnm := (name_of_methodNamed Bd.named Bd.method).1
  have X0 : Stand p l e ({ frames := 0, cells := 0, slots := 0, locals := 0 } : Room) s m #[(.ref o0)] below meth c s₁ [] 0 0 := Stand.of_body Bd
  have e0 : s₁.heap = h0 := by rw [← hh, Bd.state]; rfl
  have N0 := Fr.nil n0
  have pre0 : ∀ t, Steps p.tables e below (s₁.setTop (mkF m 0 #[.val (.ref o0)] [])) t → Steps p.tables e below (s₁.setTop (entryFrame m #[(.ref o0)] 1)) t := fun t k => castTop (ef_5 m o0) k
  obtain ⟨T1, X1, e1, st1⟩ := getF X0 hx hZ hown (host := "") (Or.inl (hw _ (List.mem_of_getElem? (i := 31) rfl))) Via.refl e0 F_status_o0 (g := (mkF m 1 #[.val (.ref o0)] [(.ref o0)])) rfl rfl (hb hby d5_1)
  obtain ⟨fs, hr, hrun, hended, hW, hsame⟩ := X1.leave (v := some (.ref w1)) (fun h => by rw [Bd.returns] at h; cases h)
  refine ⟨_, _, pre0 _ ?_, hrun, hended, _, _, rfl, ?_, ⟨_, rfl⟩, hW, hsame.mono (by decide) (by decide)⟩
  · show Steps p.tables e below (s₁.setTop (mkF m 0 #[.val (.ref o0)] [])) _
    refine XS.aloadN X0.here hx rfl (hb hby d5_0) rfl rfl ?_
    show Steps p.tables e below (s₁.setTop (mkF m 1 #[.val (.ref o0)] [(.ref o0)])) _
    refine st1 _ ?_
    show Steps p.tables e below (T1.setTop (mkF m 4 #[.val (.ref o0)] [(.ref w1)])) _
    jvm_step X1.here [X1.here.top, hx, (hb hby d5_4), X1.method', Bd.returns, Value.isRef, FieldType.isReference]
    first | (intro acts; rw [hr _ acts rfl rfl rfl]) | rw [hr _ _ rfl rfl rfl]
    exact Steps.refl _
  · show own_Q (.ref w1) h0 n0 _ T1.heap _
    rw [e1]
    exact ⟨rfl, N0, rfl⟩
theorem d6_0 : decode prog_23_method_7_code 0 = .ok (.aload_n 0, 1) := by decide +kernel
theorem d6_1 : decode prog_23_method_7_code 1 = .ok (.getfield 7, 3) := by decide +kernel
theorem d6_4 : decode prog_23_method_7_code 4 = .ok (.getstatic 21, 3) := by decide +kernel
theorem d6_7 : decode prog_23_method_7_code 7 = .ok (.if_acmp .ne 7, 3) := by decide +kernel
theorem d6_14 : decode prog_23_method_7_code 14 = .ok (.iconst 0, 1) := by decide +kernel
theorem d6_15 : decode prog_23_method_7_code 15 = .ok (.ireturn, 1) := by decide +kernel
theorem ef_6 (m : MethodId) (x0 : Addr) : entryFrame m #[(.ref x0)] 1 = mkF m 0 #[.val (.ref x0)] [] := by first | (simp [entryFrame, mkF, argsToLocals, Value.category]; done) | rfl
theorem pn_6 : plainName "com/example/firstmover/firstmover/solver/lp/LpSolution" = true := by first | (simp [plainName, overriddenIn]; done) | decide +kernel
set_option maxRecDepth 65536 in
set_option maxHeartbeats 40000000 in
theorem rmO (l : Launch) (Z : State) (a0 : Array Value) (hw : ∀ d ∈ tables_1, d.before a0 Z = true) (ws : List Jvm.Cond) (o0 : Addr) (w1 : Addr) (wO : Addr) (h0 : Heap) (n0 : Nat) (O0 : Old Z n0 h0) (F_status_o0 : Fld Z h0 o0 "com/example/firstmover/firstmover/solver/lp/LpSolution" "status" "Lcom/example/firstmover/firstmover/solver/lp/LpSolution$Status;" (.ref w1)) (S_OPTIMAL : Sta Z Z.heap "com/example/firstmover/firstmover/solver/lp/LpSolution$Status" "OPTIMAL" "Lcom/example/firstmover/firstmover/solver/lp/LpSolution$Status;" (.ref wO)) (ha7 : ¬ (w1 = wO)) :
    MetFree l (⟨"com/example/firstmover/firstmover/solver/lp/LpSolution", "isOptimal", "()Z"⟩ : MethodName) (head1 (Jvm.Cond.code (⟨"com/example/firstmover/firstmover/solver/lp/LpSolution", "isOptimal", "()Z"⟩ : MethodName) prog_23_method_7_code 1 (some .boolean) :: ws) ({ frames := 0, cells := 0, slots := 0, locals := 0 } : Room)) (fun a U => a = #[(.ref o0)] ∧ Z.Warmed39 U.vm ∧ U.heap = h0) (fun _ _ _ _ _ => True) (fun _ U o U' => ∃ v L, o = .returned v ∧ own_Q (.int (0 : Int32)) h0 n0 v U'.heap L ∧ FrameEnd U o U' L ({ frames := 0, cells := 0, slots := 0, locals := 0 } : Room).cells ({ frames := 0, cells := 0, slots := 0, locals := 0 } : Room).slots) := by
  refine MetFree.of_bodySF (plainFor_of_name pn_6) hisR ?_
  intro p e s m args below meth c s₁ Bd hml0 hP hK
  obtain ⟨rfl, hZ, hh⟩ := hP
  have hx := Bd.exec
  have hby := Bd.bytes
  have hml : c.maxLocals = 1 := hml0
  have hown : s.vm.findClass "com/example/firstmover/firstmover/solver/lp/LpSolution" = some m.cls := findClass_of_methodNamed Bd.named
  have hnm := (name_of_methodNamed Bd.named Bd.method).1
  have X0 : Stand p l e ({ frames := 0, cells := 0, slots := 0, locals := 0 } : Room) s m #[(.ref o0)] below meth c s₁ [] 0 0 := Stand.of_body Bd
  have e0 : s₁.heap = h0 := by rw [← hh, Bd.state]; rfl
  have N0 := Fr.nil n0
  have pre0 : ∀ t, Steps p.tables e below (s₁.setTop (mkF m 0 #[.val (.ref o0)] [])) t → Steps p.tables e below (s₁.setTop (entryFrame m #[(.ref o0)] 1)) t := fun t k => castTop (ef_6 m o0) k
  obtain ⟨T1, X1, e1, st1⟩ := getF X0 hx hZ hown (host := "") (Or.inl (hw _ (List.mem_of_getElem? (i := 31) rfl))) Via.refl e0 F_status_o0 (g := (mkF m 1 #[.val (.ref o0)] [(.ref o0)])) rfl rfl (hb hby d6_1)
  obtain ⟨T2, X2, e2, st2⟩ := getS2 X1 hx hZ hown (host := "") (Or.inl (hw _ (List.mem_of_getElem? (i := 20) rfl))) Via.refl e1 (S_OPTIMAL.ext O0.2) (g := (mkF m 4 #[.val (.ref o0)] [(.ref w1)])) rfl (hb hby d6_4)
  obtain ⟨fs, hr, hrun, hended, hW, hsame⟩ := X2.leave (v := some (.int (0 : Int32))) (fun h => by rw [Bd.returns] at h; cases h)
  refine ⟨_, _, pre0 _ ?_, hrun, hended, _, _, rfl, ?_, ⟨_, rfl⟩, hW, hsame.mono (by decide) (by decide)⟩
  · show Steps p.tables e below (s₁.setTop (mkF m 0 #[.val (.ref o0)] [])) _
    refine XS.aloadN X0.here hx rfl (hb hby d6_0) rfl rfl ?_
    show Steps p.tables e below (s₁.setTop (mkF m 1 #[.val (.ref o0)] [(.ref o0)])) _
    refine st1 _ ?_
    show Steps p.tables e below (T1.setTop (mkF m 4 #[.val (.ref o0)] [(.ref w1)])) _
    refine st2 _ ?_
    show Steps p.tables e below (T2.setTop (mkF m 7 #[.val (.ref o0)] [(.ref wO), (.ref w1)])) _
    refine Jvm.RoadKit.acmp (g := (mkF m 7 #[.val (.ref o0)] [(.ref wO), (.ref w1)])) X2 hx rfl rfl rfl (pc0 := 7) (pc' := 14) (same := false) rfl (hb hby d6_7) rfl (decide_eq_false fun q => ha7 (Value.ref.inj q)) (by decide) (by decide) ?_
    show Steps p.tables e below (T2.setTop (mkF m 14 #[.val (.ref o0)] [])) _
    refine XS.iconst X2.here hx rfl (hb hby d6_14) ?_
    show Steps p.tables e below (T2.setTop (mkF m 15 #[.val (.ref o0)] [(.int (0 : Int32))])) _
    exact retN X2 hx (t := .boolean) Bd.returns (by simp) (hb hby d6_15) hr
  · show own_Q (.int (0 : Int32)) h0 n0 _ T2.heap _
    rw [e2]
    exact ⟨rfl, N0, rfl⟩
theorem d7_0 : decode prog_23_method_8_code 0 = .ok (.aload_n 0, 1) := by decide +kernel
theorem d7_1 : decode prog_23_method_8_code 1 = .ok (.getfield 17, 3) := by decide +kernel
theorem d7_4 : decode prog_23_method_8_code 4 = .ok (.ifnull 7, 3) := by decide +kernel
theorem d7_11 : decode prog_23_method_8_code 11 = .ok (.iconst 0, 1) := by decide +kernel
theorem d7_12 : decode prog_23_method_8_code 12 = .ok (.ireturn, 1) := by decide +kernel
theorem ef_7 (m : MethodId) (x0 : Addr) : entryFrame m #[(.ref x0)] 1 = mkF m 0 #[.val (.ref x0)] [] := by first | (simp [entryFrame, mkF, argsToLocals, Value.category]; done) | rfl
theorem pn_7 : plainName "com/example/firstmover/firstmover/solver/lp/LpSolution" = true := by first | (simp [plainName, overriddenIn]; done) | decide +kernel
set_option maxRecDepth 65536 in
set_option maxHeartbeats 40000000 in
theorem rmP (l : Launch) (Z : State) (a0 : Array Value) (hw : ∀ d ∈ tables_1, d.before a0 Z = true) (ws : List Jvm.Cond) (o0 : Addr) (h0 : Heap) (n0 : Nat) (O0 : Old Z n0 h0) (F_point_o0 : Fld Z h0 o0 "com/example/firstmover/firstmover/solver/lp/LpSolution" "point" "[D" .null) :
    MetFree l (⟨"com/example/firstmover/firstmover/solver/lp/LpSolution", "hasPoint", "()Z"⟩ : MethodName) (head1 (Jvm.Cond.code (⟨"com/example/firstmover/firstmover/solver/lp/LpSolution", "hasPoint", "()Z"⟩ : MethodName) prog_23_method_8_code 1 (some .boolean) :: ws) ({ frames := 0, cells := 0, slots := 0, locals := 0 } : Room)) (fun a U => a = #[(.ref o0)] ∧ Z.Warmed39 U.vm ∧ U.heap = h0) (fun _ _ _ _ _ => True) (fun _ U o U' => ∃ v L, o = .returned v ∧ own_Q (.int (0 : Int32)) h0 n0 v U'.heap L ∧ FrameEnd U o U' L ({ frames := 0, cells := 0, slots := 0, locals := 0 } : Room).cells ({ frames := 0, cells := 0, slots := 0, locals := 0 } : Room).slots) := by
  refine MetFree.of_bodySF (plainFor_of_name pn_7) hisR ?_
  intro p e s m args below meth c s₁ Bd hml0 hP hK
  obtain ⟨rfl, hZ, hh⟩ := hP
  have hx := Bd.exec
  have hby := Bd.bytes
  have hml : c.maxLocals = 1 := hml0
  have hown : s.vm.findClass "com/example/firstmover/firstmover/solver/lp/LpSolution" = some m.cls := findClass_of_methodNamed Bd.named
  have hnm := (name_of_methodNamed Bd.named Bd.method).1
  have X0 : Stand p l e ({ frames := 0, cells := 0, slots := 0, locals := 0 } : Room) s m #[(.ref o0)] below meth c s₁ [] 0 0 := Stand.of_body Bd
  have e0 : s₁.heap = h0 := by rw [← hh, Bd.state]; rfl
  have N0 := Fr.nil n0
  have pre0 : ∀ t, Steps p.tables e below (s₁.setTop (mkF m 0 #[.val (.ref o0)] [])) t → Steps p.tables e below (s₁.setTop (entryFrame m #[(.ref o0)] 1)) t := fun t k => castTop (ef_7 m o0) k
  obtain ⟨T1, X1, e1, st1⟩ := getF X0 hx hZ hown (host := "") (Or.inl (hw _ (List.mem_of_getElem? (i := 35) rfl))) Via.refl e0 F_point_o0 (g := (mkF m 1 #[.val (.ref o0)] [(.ref o0)])) rfl rfl (hb hby d7_1)
  obtain ⟨fs, hr, hrun, hended, hW, hsame⟩ := X1.leave (v := some (.int (0 : Int32))) (fun h => by rw [Bd.returns] at h; cases h)
  refine ⟨_, _, pre0 _ ?_, hrun, hended, _, _, rfl, ?_, ⟨_, rfl⟩, hW, hsame.mono (by decide) (by decide)⟩
  · show Steps p.tables e below (s₁.setTop (mkF m 0 #[.val (.ref o0)] [])) _
    refine XS.aloadN X0.here hx rfl (hb hby d7_0) rfl rfl ?_
    show Steps p.tables e below (s₁.setTop (mkF m 1 #[.val (.ref o0)] [(.ref o0)])) _
    refine st1 _ ?_
    show Steps p.tables e below (T1.setTop (mkF m 4 #[.val (.ref o0)] [.null])) _
    refine XS.ifnullYes X1.here hx rfl (pc0 := 4) (pc' := 11) rfl (hb hby d7_4) rfl (by decide) (by decide) ?_
    show Steps p.tables e below (T1.setTop (mkF m 11 #[.val (.ref o0)] [])) _
    refine XS.iconst X1.here hx rfl (hb hby d7_11) ?_
    show Steps p.tables e below (T1.setTop (mkF m 12 #[.val (.ref o0)] [(.int (0 : Int32))])) _
    exact retN X1 hx (t := .boolean) Bd.returns (by simp) (hb hby d7_12) hr
  · show own_Q (.int (0 : Int32)) h0 n0 _ T1.heap _
    rw [e1]
    exact ⟨rfl, N0, rfl⟩
theorem pd_2 : parseMethodDescriptor "(Lcom/example/firstmover/firstmover/solver/lp/LpSolution$Status;)Lcom/example/firstmover/firstmover/solver/lp/LpSolution;" = some ⟨[(.object "com/example/firstmover/firstmover/solver/lp/LpSolution$Status")], some (.object "com/example/firstmover/firstmover/solver/lp/LpSolution")⟩ := by decide +kernel
theorem pd_3 : parseMethodDescriptor "()Lcom/example/firstmover/firstmover/solver/lp/LpSolution$Status;" = some ⟨[], some (.object "com/example/firstmover/firstmover/solver/lp/LpSolution$Status")⟩ := by decide +kernel
theorem pd_4 : parseMethodDescriptor "()Z" = some ⟨[], some .boolean⟩ := by decide +kernel
theorem ef_0 (m : MethodId) (x0 : Int32) : entryFrame m #[(.int x0)] maxLocals = mkF m 0 #[.val (.int x0), .unset, .unset, .unset] [] := by first | (simp [entryFrame, mkF, argsToLocals, Value.category, maxLocals]; done) | rfl
theorem pn_0 : plainName "com/example/firstmover/firstmover/solver/lp/LpSolutionWithoutOptimumPinLaw" = true := by first | (simp [plainName, overriddenIn]; done) | decide +kernel
set_option maxRecDepth 65536 in
set_option maxHeartbeats 40000000 in
theorem rm0_0 (l : Launch) (Z : State) (a0 : Array Value) (hw : ∀ d ∈ tables_1, d.before a0 Z = true) (ws : List Jvm.Cond) (p0 : Int32) (wO : Addr) (wS : Addr) (h0 : Heap) (n0 : Nat) (O0 : Old Z n0 h0) (S_OPTIMAL : Sta Z Z.heap "com/example/firstmover/firstmover/solver/lp/LpSolution$Status" "OPTIMAL" "Lcom/example/firstmover/firstmover/solver/lp/LpSolution$Status;" (.ref wO)) (S_INFEASIBLE : Sta Z Z.heap "com/example/firstmover/firstmover/solver/lp/LpSolution$Status" "INFEASIBLE" "Lcom/example/firstmover/firstmover/solver/lp/LpSolution$Status;" (.ref wS)) (hi : ((p0 &&& (2147483647 : Int32)) % (3 : Int32)) = (0 : Int32)) (hne : ¬ (wS = wO)) :
    MetFree l x (head1 (Jvm.Cond.code x code maxLocals ret :: ws) room_1) (fun a U => a = #[(.int p0)] ∧ Z.Warmed39 U.vm ∧ U.heap = h0) (fun _ _ _ _ _ => True) (fun _ U o U' => ∃ v L, o = .returned v ∧ own_R n0 v U'.heap L ∧ ReturnedEndW U o U' L room_1.cells room_1.slots) := by
  refine MetFree.of_bodySF (plainFor_of_name pn_0) hisR ?_
  intro p e s m args below meth c s₁ Bd hml0 hP hK
  obtain ⟨rfl, hZ, hh⟩ := hP
  have hx := Bd.exec
  have hby := Bd.bytes
  have hml : c.maxLocals = 4 := hml0
  have hown : s.vm.findClass "com/example/firstmover/firstmover/solver/lp/LpSolutionWithoutOptimumPinLaw" = some m.cls := findClass_of_methodNamed Bd.named
  have hnm := (name_of_methodNamed Bd.named Bd.method).1
  have X0 : Stand p l e room_1 s m #[(.int p0)] below meth c s₁ [] 0 0 := Stand.of_body Bd
  have e0 : s₁.heap = h0 := by rw [← hh, Bd.state]; rfl
  have N0 := Fr.nil n0
  have pre0 : ∀ t, Steps p.tables e below (s₁.setTop (mkF m 0 #[.val (.int p0), .unset, .unset, .unset] [])) t → Steps p.tables e below (s₁.setTop (entryFrame m #[(.int p0)] maxLocals)) t := fun t k => castTop (ef_0 m p0) k
  obtain ⟨T1, X1, e1, st1⟩ := getS2 X0 hx hZ hown (host := "") (Or.inl (hw _ (List.mem_of_getElem? (i := 1) rfl))) Via.refl e0 (S_INFEASIBLE.ext O0.2) (g := (mkF m 11 #[.val (.int p0), .val (.int (0 : Int32)), .unset, .unset] [])) rfl (hb hby at_11)
  obtain ⟨_, _, ⟨T2, L2, k2, n2⟩, -, X2, Sn2, sz2, ⟨Lc2, hQ2, l2, y2, z2⟩, st2⟩ := callSS X1 hx (y := (⟨"com/example/firstmover/firstmover/solver/lp/LpSolution", "withoutOptimum", "(Lcom/example/firstmover/firstmover/solver/lp/LpSolution$Status;)Lcom/example/firstmover/firstmover/solver/lp/LpSolution;"⟩ : MethodName)) hown (mvT hZ (hw _ (List.mem_of_getElem? (i := 4) rfl))) (mvT hZ (hw _ (List.mem_of_getElem? (i := 5) rfl))) (mvT hZ (hw _ (List.mem_of_getElem? (i := 6) rfl))) (mvT hZ (hw _ (List.mem_of_getElem? (i := 7) rfl))) (by decide) (backOfS (W := 0) (rmW l Z a0 hw [] wS wO h0 n0 O0 S_OPTIMAL hne) hZ (hw _ (List.mem_of_getElem? (i := 7) rfl)) (hw _ (List.mem_of_getElem? (i := 6) rfl)) (by decide) (by decide)) (g := (mkF m 35 #[.val (.int p0), .val (.int (0 : Int32)), .val (.ref wS), .unset] [(.ref wS)])) rfl (by rw [hml]; rfl) (argsL := [(.ref wS)]) (rest := []) (lenOf pd_2 rfl) rfl (by show 2 * 0 + _ ≤ _; exact Nat.le_of_eq rfl) (hb hby at_35) (fun _ _ => ⟨rfl, e1, (by decide : 0 + 3 ≤ _), (by decide : 0 + 31 ≤ _)⟩)
  have hZ2 : Z.Warmed39 (s.setVm T2.vm).vm := State.Warmed39.trans hZ Sn2.1
  have hown2 : (s.setVm T2.vm).vm.findClass "com/example/firstmover/firstmover/solver/lp/LpSolutionWithoutOptimumPinLaw" = some m.cls := by rw [show (s.setVm T2.vm).vm = T2.vm from rfl, Sn2.1.alike.findClass]; exact hown
  dsimp only [Pt.U, Pt.locs, Pt.cells, Pt.slots] at X2 l2 y2 z2 st2 hQ2
  subst l2 y2 z2
  obtain ⟨b2, rfl, N2q, O2, Eb2, Fs2, Fp2⟩ := hQ2
  have N2 := Fr.app N0 N2q
  obtain ⟨cq3, kq3, q3a, q3b, q3c⟩ := isOf hZ2 rfl Eb2
  obtain ⟨_, _, ⟨T3, L3, k3, n3⟩, -, X3, ⟨Lc3, hQ3, l3, y3, z3⟩, st3⟩ := X2.virtualBack hx (y := (⟨"com/example/firstmover/firstmover/solver/lp/LpSolution", "status", "()Lcom/example/firstmover/firstmover/solver/lp/LpSolution$Status;"⟩ : MethodName)) (z := (⟨"com/example/firstmover/firstmover/solver/lp/LpSolution", "status", "()Lcom/example/firstmover/firstmover/solver/lp/LpSolution$Status;"⟩ : MethodName)) hown2 (mvT hZ2 (hw _ (List.mem_of_getElem? (i := 37) rfl))) (mvT hZ2 (hw _ (List.mem_of_getElem? (i := 38) rfl))) (notFace_of_selects (args := #[]) (mvT hZ2 (hw _ (List.mem_of_getElem? (i := 40) rfl)))) (mvT hZ2 (hw _ (List.mem_of_getElem? (i := 40) rfl))) (mvT hZ2 (hw _ (List.mem_of_getElem? (i := 39) rfl))) (by decide) (backOf (W := 0) (rmS l Z a0 hw [] b2 wS T2.heap n0 O2 Fs2) hZ2 (hw _ (List.mem_of_getElem? (i := 41) rfl)) (hw _ (List.mem_of_getElem? (i := 6) rfl)) (by decide) (by decide)) q3a q3c (g := (mkF m 40 #[.val (.int p0), .val (.int (0 : Int32)), .val (.ref wS), .val (.ref b2)] [(.ref b2)])) rfl (by rw [hml]; rfl) (Steps.refl _) (argsL := []) (rest := []) (lenOf pd_3 rfl) rfl (by show 2 * 0 + _ ≤ _; exact Nat.le_of_eq rfl) (hb hby at_40) (fun _ _ => ⟨rfl, rfl, (by decide : 3 + 0 ≤ _), (by decide : 31 + 0 ≤ _)⟩)
  dsimp only [Pt.U, Pt.locs, Pt.cells, Pt.slots] at X3 l3 y3 z3 st3 hQ3
  subst l3 y3 z3
  obtain ⟨rfl, N3q, e3⟩ := hQ3
  have N3 := Fr.app N2 N3q
  obtain ⟨cq4, kq4, q4a, q4b, q4c⟩ := isOf hZ2 e3 Eb2
  obtain ⟨_, _, ⟨T4, L4, k4, n4⟩, -, X4, ⟨Lc4, hQ4, l4, y4, z4⟩, st4⟩ := X3.virtualBack hx (y := (⟨"com/example/firstmover/firstmover/solver/lp/LpSolution", "isOptimal", "()Z"⟩ : MethodName)) (z := (⟨"com/example/firstmover/firstmover/solver/lp/LpSolution", "isOptimal", "()Z"⟩ : MethodName)) hown2 (mvT hZ2 (hw _ (List.mem_of_getElem? (i := 42) rfl))) (mvT hZ2 (hw _ (List.mem_of_getElem? (i := 43) rfl))) (notFace_of_selects (args := #[]) (mvT hZ2 (hw _ (List.mem_of_getElem? (i := 45) rfl)))) (mvT hZ2 (hw _ (List.mem_of_getElem? (i := 45) rfl))) (mvT hZ2 (hw _ (List.mem_of_getElem? (i := 44) rfl))) (by decide) (backOf (W := 0) (rmO l Z a0 hw [] b2 wS wO T2.heap n0 O2 Fs2 S_OPTIMAL hne) hZ2 (hw _ (List.mem_of_getElem? (i := 46) rfl)) (hw _ (List.mem_of_getElem? (i := 6) rfl)) (by decide) (by decide)) q4a q4c (g := (mkF m 48 #[.val (.int p0), .val (.int (0 : Int32)), .val (.ref wS), .val (.ref b2)] [(.ref b2)])) rfl (by rw [hml]; rfl) (Steps.refl _) (argsL := []) (rest := []) (lenOf pd_4 rfl) rfl (by show 2 * 0 + _ ≤ _; exact Nat.le_of_eq rfl) (hb hby at_48) (fun _ _ => ⟨rfl, e3, (by decide : 3 + 0 ≤ _), (by decide : 31 + 0 ≤ _)⟩)
  dsimp only [Pt.U, Pt.locs, Pt.cells, Pt.slots] at X4 l4 y4 z4 st4 hQ4
  subst l4 y4 z4
  obtain ⟨rfl, N4q, e4⟩ := hQ4
  have N4 := Fr.app N3 N4q
  obtain ⟨cq5, kq5, q5a, q5b, q5c⟩ := isOf hZ2 e4 Eb2
  obtain ⟨_, _, ⟨T5, L5, k5, n5⟩, -, X5, ⟨Lc5, hQ5, l5, y5, z5⟩, st5⟩ := X4.virtualBack hx (y := (⟨"com/example/firstmover/firstmover/solver/lp/LpSolution", "hasPoint", "()Z"⟩ : MethodName)) (z := (⟨"com/example/firstmover/firstmover/solver/lp/LpSolution", "hasPoint", "()Z"⟩ : MethodName)) hown2 (mvT hZ2 (hw _ (List.mem_of_getElem? (i := 47) rfl))) (mvT hZ2 (hw _ (List.mem_of_getElem? (i := 48) rfl))) (notFace_of_selects (args := #[]) (mvT hZ2 (hw _ (List.mem_of_getElem? (i := 50) rfl)))) (mvT hZ2 (hw _ (List.mem_of_getElem? (i := 50) rfl))) (mvT hZ2 (hw _ (List.mem_of_getElem? (i := 49) rfl))) (by decide) (backOf (W := 0) (rmP l Z a0 hw [] b2  T2.heap n0 O2 Fp2) hZ2 (hw _ (List.mem_of_getElem? (i := 51) rfl)) (hw _ (List.mem_of_getElem? (i := 6) rfl)) (by decide) (by decide)) q5a q5c (g := (mkF m 55 #[.val (.int p0), .val (.int (0 : Int32)), .val (.ref wS), .val (.ref b2)] [(.ref b2)])) rfl (by rw [hml]; rfl) (Steps.refl _) (argsL := []) (rest := []) (lenOf pd_4 rfl) rfl (by show 2 * 0 + _ ≤ _; exact Nat.le_of_eq rfl) (hb hby at_55) (fun _ _ => ⟨rfl, e4, (by decide : 3 + 0 ≤ _), (by decide : 31 + 0 ≤ _)⟩)
  dsimp only [Pt.U, Pt.locs, Pt.cells, Pt.slots] at X5 l5 y5 z5 st5 hQ5
  subst l5 y5 z5
  obtain ⟨rfl, N5q, e5⟩ := hQ5
  have N5 := Fr.app N4 N5q
  obtain ⟨fs, hr, hrun, hended, hRW⟩ := X5.leaveW Sn2 (by rw [e5]; exact (Nat.le_refl _)) (v := some (.int (1 : Int32))) (fun h => by rw [Bd.returns] at h; cases h)
  refine ⟨_, _, pre0 _ ?_, hrun, hended, _, _, rfl, ?_, hRW.1, hRW.2.1, hRW.2.2.1, hRW.2.2.2.mono (by decide) (by decide)⟩
  · show Steps p.tables e below (s₁.setTop (mkF m 0 #[.val (.int p0), .unset, .unset, .unset] [])) _
    refine XS.iloadN X0.here hx rfl (hb hby at_0) rfl ?_
    show Steps p.tables e below (s₁.setTop (mkF m 1 #[.val (.int p0), .unset, .unset, .unset] [(.int p0)])) _
    refine X0.ldcInt hx hown (mvT hZ (hw _ (List.mem_of_getElem? (i := 0) rfl))) (g := (mkF m 1 #[.val (.int p0), .unset, .unset, .unset] [(.int p0)])) rfl (hb hby at_1) _ ?_
    show Steps p.tables e below (s₁.setTop (mkF m 3 #[.val (.int p0), .unset, .unset, .unset] [(.int (2147483647 : Int32)), (.int p0)])) _
    refine XS.iand X0.here hx rfl (hb hby at_3) rfl ?_
    show Steps p.tables e below (s₁.setTop (mkF m 4 #[.val (.int p0), .unset, .unset, .unset] [(.int (p0 &&& (2147483647 : Int32)))])) _
    refine XS.iconst X0.here hx rfl (hb hby at_4) ?_
    show Steps p.tables e below (s₁.setTop (mkF m 5 #[.val (.int p0), .unset, .unset, .unset] [(.int (3 : Int32)), (.int (p0 &&& (2147483647 : Int32)))])) _
    refine iremM X0 hx rfl (hb hby at_5) rfl (by decide) ?_
    show Steps p.tables e below (s₁.setTop (mkF m 6 #[.val (.int p0), .unset, .unset, .unset] [(.int ((p0 &&& (2147483647 : Int32)) % (3 : Int32)))])) _
    rw [hi]
    show Steps p.tables e below (s₁.setTop (mkF m 6 #[.val (.int p0), .unset, .unset, .unset] [(.int (0 : Int32))])) _
    refine XS.istoreN X0.here hx rfl (hb hby at_6) rfl (l' := #[.val (.int p0), .val (.int (0 : Int32)), .unset, .unset]) rfl ?_
    show Steps p.tables e below (s₁.setTop (mkF m 7 #[.val (.int p0), .val (.int (0 : Int32)), .unset, .unset] [])) _
    refine XS.iloadN X0.here hx rfl (hb hby at_7) rfl ?_
    show Steps p.tables e below (s₁.setTop (mkF m 8 #[.val (.int p0), .val (.int (0 : Int32)), .unset, .unset] [(.int (0 : Int32))])) _
    refine XS.ifNo X0.here hx rfl (hb hby at_8) rfl ((if0 _ _).trans (teq (by decide : (0 : Int32) = (0 : Int32))).2) ?_
    show Steps p.tables e below (s₁.setTop (mkF m 11 #[.val (.int p0), .val (.int (0 : Int32)), .unset, .unset] [])) _
    refine st1 _ ?_
    show Steps p.tables e below (T1.setTop (mkF m 14 #[.val (.int p0), .val (.int (0 : Int32)), .unset, .unset] [(.ref wS)])) _
    refine XS.astoreN X1.here hx rfl (hb hby at_14) rfl rfl (l' := #[.val (.int p0), .val (.int (0 : Int32)), .val (.ref wS), .unset]) rfl ?_
    show Steps p.tables e below (T1.setTop (mkF m 15 #[.val (.int p0), .val (.int (0 : Int32)), .val (.ref wS), .unset] [])) _
    refine XS.goto X1.here hx rfl (pc0 := 15) (pc' := 34) rfl (hb hby at_15) (by decide) (by decide) ?_
    show Steps p.tables e below (T1.setTop (mkF m 34 #[.val (.int p0), .val (.int (0 : Int32)), .val (.ref wS), .unset] [])) _
    refine XS.aloadN X1.here hx rfl (hb hby at_34) rfl rfl ?_
    show Steps p.tables e below (T1.setTop (mkF m 35 #[.val (.int p0), .val (.int (0 : Int32)), .val (.ref wS), .unset] [(.ref wS)])) _
    refine st2.trans ?_
    show Steps p.tables e below (T2.setTop (mkF m 38 #[.val (.int p0), .val (.int (0 : Int32)), .val (.ref wS), .unset] [(.ref b2)])) _
    refine XS.astoreN X2.here hx rfl (hb hby at_38) rfl rfl (l' := #[.val (.int p0), .val (.int (0 : Int32)), .val (.ref wS), .val (.ref b2)]) rfl ?_
    show Steps p.tables e below (T2.setTop (mkF m 39 #[.val (.int p0), .val (.int (0 : Int32)), .val (.ref wS), .val (.ref b2)] [])) _
    refine XS.aloadN X2.here hx rfl (hb hby at_39) rfl rfl ?_
    show Steps p.tables e below (T2.setTop (mkF m 40 #[.val (.int p0), .val (.int (0 : Int32)), .val (.ref wS), .val (.ref b2)] [(.ref b2)])) _
    refine st3.trans ?_
    show Steps p.tables e below (T3.setTop (mkF m 43 #[.val (.int p0), .val (.int (0 : Int32)), .val (.ref wS), .val (.ref b2)] [(.ref wS)])) _
    refine XS.aloadN X3.here hx rfl (hb hby at_43) rfl rfl ?_
    show Steps p.tables e below (T3.setTop (mkF m 44 #[.val (.int p0), .val (.int (0 : Int32)), .val (.ref wS), .val (.ref b2)] [(.ref wS), (.ref wS)])) _
    refine Jvm.RoadKit.acmp (g := (mkF m 44 #[.val (.int p0), .val (.int (0 : Int32)), .val (.ref wS), .val (.ref b2)] [(.ref wS), (.ref wS)])) X3 hx rfl rfl rfl (pc0 := 44) (pc' := 47) (same := true) rfl (hb hby at_44) rfl (decide_eq_true rfl) (by decide) (by decide) ?_
    show Steps p.tables e below (T3.setTop (mkF m 47 #[.val (.int p0), .val (.int (0 : Int32)), .val (.ref wS), .val (.ref b2)] [])) _
    refine XS.aloadN X3.here hx rfl (hb hby at_47) rfl rfl ?_
    show Steps p.tables e below (T3.setTop (mkF m 48 #[.val (.int p0), .val (.int (0 : Int32)), .val (.ref wS), .val (.ref b2)] [(.ref b2)])) _
    refine st4.trans ?_
    show Steps p.tables e below (T4.setTop (mkF m 51 #[.val (.int p0), .val (.int (0 : Int32)), .val (.ref wS), .val (.ref b2)] [(.int (0 : Int32))])) _
    refine XS.ifNo X4.here hx rfl (hb hby at_51) rfl ((if0 _ _).trans (teq (by decide : (0 : Int32) = (0 : Int32))).2) ?_
    show Steps p.tables e below (T4.setTop (mkF m 54 #[.val (.int p0), .val (.int (0 : Int32)), .val (.ref wS), .val (.ref b2)] [])) _
    refine XS.aloadN X4.here hx rfl (hb hby at_54) rfl rfl ?_
    show Steps p.tables e below (T4.setTop (mkF m 55 #[.val (.int p0), .val (.int (0 : Int32)), .val (.ref wS), .val (.ref b2)] [(.ref b2)])) _
    refine st5.trans ?_
    show Steps p.tables e below (T5.setTop (mkF m 58 #[.val (.int p0), .val (.int (0 : Int32)), .val (.ref wS), .val (.ref b2)] [(.int (0 : Int32))])) _
    refine XS.ifNo X5.here hx rfl (hb hby at_58) rfl ((if0 _ _).trans (teq (by decide : (0 : Int32) = (0 : Int32))).2) ?_
    show Steps p.tables e below (T5.setTop (mkF m 61 #[.val (.int p0), .val (.int (0 : Int32)), .val (.ref wS), .val (.ref b2)] [])) _
    refine XS.iconst X5.here hx rfl (hb hby at_61) ?_
    show Steps p.tables e below (T5.setTop (mkF m 62 #[.val (.int p0), .val (.int (0 : Int32)), .val (.ref wS), .val (.ref b2)] [(.int (1 : Int32))])) _
    refine XS.goto X5.here hx rfl (pc0 := 62) (pc' := 66) rfl (hb hby at_62) (by decide) (by decide) ?_
    show Steps p.tables e below (T5.setTop (mkF m 66 #[.val (.int p0), .val (.int (0 : Int32)), .val (.ref wS), .val (.ref b2)] [(.int (1 : Int32))])) _
    exact retN X5 hx (t := .boolean) Bd.returns (by simp) (hb hby at_66) hr
  · show own_R n0 _ T5.heap _
    rw [e5]
    exact ⟨rfl, N5⟩
set_option maxRecDepth 65536 in
set_option maxHeartbeats 40000000 in
theorem rm0_1 (l : Launch) (Z : State) (a0 : Array Value) (hw : ∀ d ∈ tables_1, d.before a0 Z = true) (ws : List Jvm.Cond) (p0 : Int32) (wO : Addr) (wS : Addr) (h0 : Heap) (n0 : Nat) (O0 : Old Z n0 h0) (S_OPTIMAL : Sta Z Z.heap "com/example/firstmover/firstmover/solver/lp/LpSolution$Status" "OPTIMAL" "Lcom/example/firstmover/firstmover/solver/lp/LpSolution$Status;" (.ref wO)) (S_UNBOUNDED : Sta Z Z.heap "com/example/firstmover/firstmover/solver/lp/LpSolution$Status" "UNBOUNDED" "Lcom/example/firstmover/firstmover/solver/lp/LpSolution$Status;" (.ref wS)) (hi : ((p0 &&& (2147483647 : Int32)) % (3 : Int32)) = (1 : Int32)) (hne : ¬ (wS = wO)) :
    MetFree l x (head1 (Jvm.Cond.code x code maxLocals ret :: ws) room_1) (fun a U => a = #[(.int p0)] ∧ Z.Warmed39 U.vm ∧ U.heap = h0) (fun _ _ _ _ _ => True) (fun _ U o U' => ∃ v L, o = .returned v ∧ own_R n0 v U'.heap L ∧ ReturnedEndW U o U' L room_1.cells room_1.slots) := by
  refine MetFree.of_bodySF (plainFor_of_name pn_0) hisR ?_
  intro p e s m args below meth c s₁ Bd hml0 hP hK
  obtain ⟨rfl, hZ, hh⟩ := hP
  have hx := Bd.exec
  have hby := Bd.bytes
  have hml : c.maxLocals = 4 := hml0
  have hown : s.vm.findClass "com/example/firstmover/firstmover/solver/lp/LpSolutionWithoutOptimumPinLaw" = some m.cls := findClass_of_methodNamed Bd.named
  have hnm := (name_of_methodNamed Bd.named Bd.method).1
  have X0 : Stand p l e room_1 s m #[(.int p0)] below meth c s₁ [] 0 0 := Stand.of_body Bd
  have e0 : s₁.heap = h0 := by rw [← hh, Bd.state]; rfl
  have N0 := Fr.nil n0
  have pre0 : ∀ t, Steps p.tables e below (s₁.setTop (mkF m 0 #[.val (.int p0), .unset, .unset, .unset] [])) t → Steps p.tables e below (s₁.setTop (entryFrame m #[(.int p0)] maxLocals)) t := fun t k => castTop (ef_0 m p0) k
  obtain ⟨T1, X1, e1, st1⟩ := getS2 X0 hx hZ hown (host := "") (Or.inl (hw _ (List.mem_of_getElem? (i := 54) rfl))) Via.refl e0 (S_UNBOUNDED.ext O0.2) (g := (mkF m 23 #[.val (.int p0), .val (.int (1 : Int32)), .unset, .unset] [])) rfl (hb hby at_23)
  obtain ⟨_, _, ⟨T2, L2, k2, n2⟩, -, X2, Sn2, sz2, ⟨Lc2, hQ2, l2, y2, z2⟩, st2⟩ := callSS X1 hx (y := (⟨"com/example/firstmover/firstmover/solver/lp/LpSolution", "withoutOptimum", "(Lcom/example/firstmover/firstmover/solver/lp/LpSolution$Status;)Lcom/example/firstmover/firstmover/solver/lp/LpSolution;"⟩ : MethodName)) hown (mvT hZ (hw _ (List.mem_of_getElem? (i := 4) rfl))) (mvT hZ (hw _ (List.mem_of_getElem? (i := 5) rfl))) (mvT hZ (hw _ (List.mem_of_getElem? (i := 6) rfl))) (mvT hZ (hw _ (List.mem_of_getElem? (i := 7) rfl))) (by decide) (backOfS (W := 0) (rmW l Z a0 hw [] wS wO h0 n0 O0 S_OPTIMAL hne) hZ (hw _ (List.mem_of_getElem? (i := 7) rfl)) (hw _ (List.mem_of_getElem? (i := 6) rfl)) (by decide) (by decide)) (g := (mkF m 35 #[.val (.int p0), .val (.int (1 : Int32)), .val (.ref wS), .unset] [(.ref wS)])) rfl (by rw [hml]; rfl) (argsL := [(.ref wS)]) (rest := []) (lenOf pd_2 rfl) rfl (by show 2 * 0 + _ ≤ _; exact Nat.le_of_eq rfl) (hb hby at_35) (fun _ _ => ⟨rfl, e1, (by decide : 0 + 3 ≤ _), (by decide : 0 + 31 ≤ _)⟩)
  have hZ2 : Z.Warmed39 (s.setVm T2.vm).vm := State.Warmed39.trans hZ Sn2.1
  have hown2 : (s.setVm T2.vm).vm.findClass "com/example/firstmover/firstmover/solver/lp/LpSolutionWithoutOptimumPinLaw" = some m.cls := by rw [show (s.setVm T2.vm).vm = T2.vm from rfl, Sn2.1.alike.findClass]; exact hown
  dsimp only [Pt.U, Pt.locs, Pt.cells, Pt.slots] at X2 l2 y2 z2 st2 hQ2
  subst l2 y2 z2
  obtain ⟨b2, rfl, N2q, O2, Eb2, Fs2, Fp2⟩ := hQ2
  have N2 := Fr.app N0 N2q
  obtain ⟨cq3, kq3, q3a, q3b, q3c⟩ := isOf hZ2 rfl Eb2
  obtain ⟨_, _, ⟨T3, L3, k3, n3⟩, -, X3, ⟨Lc3, hQ3, l3, y3, z3⟩, st3⟩ := X2.virtualBack hx (y := (⟨"com/example/firstmover/firstmover/solver/lp/LpSolution", "status", "()Lcom/example/firstmover/firstmover/solver/lp/LpSolution$Status;"⟩ : MethodName)) (z := (⟨"com/example/firstmover/firstmover/solver/lp/LpSolution", "status", "()Lcom/example/firstmover/firstmover/solver/lp/LpSolution$Status;"⟩ : MethodName)) hown2 (mvT hZ2 (hw _ (List.mem_of_getElem? (i := 37) rfl))) (mvT hZ2 (hw _ (List.mem_of_getElem? (i := 38) rfl))) (notFace_of_selects (args := #[]) (mvT hZ2 (hw _ (List.mem_of_getElem? (i := 40) rfl)))) (mvT hZ2 (hw _ (List.mem_of_getElem? (i := 40) rfl))) (mvT hZ2 (hw _ (List.mem_of_getElem? (i := 39) rfl))) (by decide) (backOf (W := 0) (rmS l Z a0 hw [] b2 wS T2.heap n0 O2 Fs2) hZ2 (hw _ (List.mem_of_getElem? (i := 41) rfl)) (hw _ (List.mem_of_getElem? (i := 6) rfl)) (by decide) (by decide)) q3a q3c (g := (mkF m 40 #[.val (.int p0), .val (.int (1 : Int32)), .val (.ref wS), .val (.ref b2)] [(.ref b2)])) rfl (by rw [hml]; rfl) (Steps.refl _) (argsL := []) (rest := []) (lenOf pd_3 rfl) rfl (by show 2 * 0 + _ ≤ _; exact Nat.le_of_eq rfl) (hb hby at_40) (fun _ _ => ⟨rfl, rfl, (by decide : 3 + 0 ≤ _), (by decide : 31 + 0 ≤ _)⟩)
  dsimp only [Pt.U, Pt.locs, Pt.cells, Pt.slots] at X3 l3 y3 z3 st3 hQ3
  subst l3 y3 z3
  obtain ⟨rfl, N3q, e3⟩ := hQ3
  have N3 := Fr.app N2 N3q
  obtain ⟨cq4, kq4, q4a, q4b, q4c⟩ := isOf hZ2 e3 Eb2
  obtain ⟨_, _, ⟨T4, L4, k4, n4⟩, -, X4, ⟨Lc4, hQ4, l4, y4, z4⟩, st4⟩ := X3.virtualBack hx (y := (⟨"com/example/firstmover/firstmover/solver/lp/LpSolution", "isOptimal", "()Z"⟩ : MethodName)) (z := (⟨"com/example/firstmover/firstmover/solver/lp/LpSolution", "isOptimal", "()Z"⟩ : MethodName)) hown2 (mvT hZ2 (hw _ (List.mem_of_getElem? (i := 42) rfl))) (mvT hZ2 (hw _ (List.mem_of_getElem? (i := 43) rfl))) (notFace_of_selects (args := #[]) (mvT hZ2 (hw _ (List.mem_of_getElem? (i := 45) rfl)))) (mvT hZ2 (hw _ (List.mem_of_getElem? (i := 45) rfl))) (mvT hZ2 (hw _ (List.mem_of_getElem? (i := 44) rfl))) (by decide) (backOf (W := 0) (rmO l Z a0 hw [] b2 wS wO T2.heap n0 O2 Fs2 S_OPTIMAL hne) hZ2 (hw _ (List.mem_of_getElem? (i := 46) rfl)) (hw _ (List.mem_of_getElem? (i := 6) rfl)) (by decide) (by decide)) q4a q4c (g := (mkF m 48 #[.val (.int p0), .val (.int (1 : Int32)), .val (.ref wS), .val (.ref b2)] [(.ref b2)])) rfl (by rw [hml]; rfl) (Steps.refl _) (argsL := []) (rest := []) (lenOf pd_4 rfl) rfl (by show 2 * 0 + _ ≤ _; exact Nat.le_of_eq rfl) (hb hby at_48) (fun _ _ => ⟨rfl, e3, (by decide : 3 + 0 ≤ _), (by decide : 31 + 0 ≤ _)⟩)
  dsimp only [Pt.U, Pt.locs, Pt.cells, Pt.slots] at X4 l4 y4 z4 st4 hQ4
  subst l4 y4 z4
  obtain ⟨rfl, N4q, e4⟩ := hQ4
  have N4 := Fr.app N3 N4q
  obtain ⟨cq5, kq5, q5a, q5b, q5c⟩ := isOf hZ2 e4 Eb2
  obtain ⟨_, _, ⟨T5, L5, k5, n5⟩, -, X5, ⟨Lc5, hQ5, l5, y5, z5⟩, st5⟩ := X4.virtualBack hx (y := (⟨"com/example/firstmover/firstmover/solver/lp/LpSolution", "hasPoint", "()Z"⟩ : MethodName)) (z := (⟨"com/example/firstmover/firstmover/solver/lp/LpSolution", "hasPoint", "()Z"⟩ : MethodName)) hown2 (mvT hZ2 (hw _ (List.mem_of_getElem? (i := 47) rfl))) (mvT hZ2 (hw _ (List.mem_of_getElem? (i := 48) rfl))) (notFace_of_selects (args := #[]) (mvT hZ2 (hw _ (List.mem_of_getElem? (i := 50) rfl)))) (mvT hZ2 (hw _ (List.mem_of_getElem? (i := 50) rfl))) (mvT hZ2 (hw _ (List.mem_of_getElem? (i := 49) rfl))) (by decide) (backOf (W := 0) (rmP l Z a0 hw [] b2  T2.heap n0 O2 Fp2) hZ2 (hw _ (List.mem_of_getElem? (i := 51) rfl)) (hw _ (List.mem_of_getElem? (i := 6) rfl)) (by decide) (by decide)) q5a q5c (g := (mkF m 55 #[.val (.int p0), .val (.int (1 : Int32)), .val (.ref wS), .val (.ref b2)] [(.ref b2)])) rfl (by rw [hml]; rfl) (Steps.refl _) (argsL := []) (rest := []) (lenOf pd_4 rfl) rfl (by show 2 * 0 + _ ≤ _; exact Nat.le_of_eq rfl) (hb hby at_55) (fun _ _ => ⟨rfl, e4, (by decide : 3 + 0 ≤ _), (by decide : 31 + 0 ≤ _)⟩)
  dsimp only [Pt.U, Pt.locs, Pt.cells, Pt.slots] at X5 l5 y5 z5 st5 hQ5
  subst l5 y5 z5
  obtain ⟨rfl, N5q, e5⟩ := hQ5
  have N5 := Fr.app N4 N5q
  obtain ⟨fs, hr, hrun, hended, hRW⟩ := X5.leaveW Sn2 (by rw [e5]; exact (Nat.le_refl _)) (v := some (.int (1 : Int32))) (fun h => by rw [Bd.returns] at h; cases h)
  refine ⟨_, _, pre0 _ ?_, hrun, hended, _, _, rfl, ?_, hRW.1, hRW.2.1, hRW.2.2.1, hRW.2.2.2.mono (by decide) (by decide)⟩
  · show Steps p.tables e below (s₁.setTop (mkF m 0 #[.val (.int p0), .unset, .unset, .unset] [])) _
    refine XS.iloadN X0.here hx rfl (hb hby at_0) rfl ?_
    show Steps p.tables e below (s₁.setTop (mkF m 1 #[.val (.int p0), .unset, .unset, .unset] [(.int p0)])) _
    refine X0.ldcInt hx hown (mvT hZ (hw _ (List.mem_of_getElem? (i := 0) rfl))) (g := (mkF m 1 #[.val (.int p0), .unset, .unset, .unset] [(.int p0)])) rfl (hb hby at_1) _ ?_
    show Steps p.tables e below (s₁.setTop (mkF m 3 #[.val (.int p0), .unset, .unset, .unset] [(.int (2147483647 : Int32)), (.int p0)])) _
    refine XS.iand X0.here hx rfl (hb hby at_3) rfl ?_
    show Steps p.tables e below (s₁.setTop (mkF m 4 #[.val (.int p0), .unset, .unset, .unset] [(.int (p0 &&& (2147483647 : Int32)))])) _
    refine XS.iconst X0.here hx rfl (hb hby at_4) ?_
    show Steps p.tables e below (s₁.setTop (mkF m 5 #[.val (.int p0), .unset, .unset, .unset] [(.int (3 : Int32)), (.int (p0 &&& (2147483647 : Int32)))])) _
    refine iremM X0 hx rfl (hb hby at_5) rfl (by decide) ?_
    show Steps p.tables e below (s₁.setTop (mkF m 6 #[.val (.int p0), .unset, .unset, .unset] [(.int ((p0 &&& (2147483647 : Int32)) % (3 : Int32)))])) _
    rw [hi]
    show Steps p.tables e below (s₁.setTop (mkF m 6 #[.val (.int p0), .unset, .unset, .unset] [(.int (1 : Int32))])) _
    refine XS.istoreN X0.here hx rfl (hb hby at_6) rfl (l' := #[.val (.int p0), .val (.int (1 : Int32)), .unset, .unset]) rfl ?_
    show Steps p.tables e below (s₁.setTop (mkF m 7 #[.val (.int p0), .val (.int (1 : Int32)), .unset, .unset] [])) _
    refine XS.iloadN X0.here hx rfl (hb hby at_7) rfl ?_
    show Steps p.tables e below (s₁.setTop (mkF m 8 #[.val (.int p0), .val (.int (1 : Int32)), .unset, .unset] [(.int (1 : Int32))])) _
    refine XS.ifYes X0.here hx rfl (pc0 := 8) (pc' := 18) rfl (hb hby at_8) rfl ((if0 _ _).trans (feq (by decide : ¬ ((1 : Int32) = (0 : Int32)))).2) (by decide) (by decide) ?_
    show Steps p.tables e below (s₁.setTop (mkF m 18 #[.val (.int p0), .val (.int (1 : Int32)), .unset, .unset] [])) _
    refine XS.iloadN X0.here hx rfl (hb hby at_18) rfl ?_
    show Steps p.tables e below (s₁.setTop (mkF m 19 #[.val (.int p0), .val (.int (1 : Int32)), .unset, .unset] [(.int (1 : Int32))])) _
    refine XS.iconst X0.here hx rfl (hb hby at_19) ?_
    show Steps p.tables e below (s₁.setTop (mkF m 20 #[.val (.int p0), .val (.int (1 : Int32)), .unset, .unset] [(.int (1 : Int32)), (.int (1 : Int32))])) _
    refine XS.icmpNo X0.here hx rfl (hb hby at_20) rfl (teq (by decide : (1 : Int32) = (1 : Int32))).2 ?_
    show Steps p.tables e below (s₁.setTop (mkF m 23 #[.val (.int p0), .val (.int (1 : Int32)), .unset, .unset] [])) _
    refine st1 _ ?_
    show Steps p.tables e below (T1.setTop (mkF m 26 #[.val (.int p0), .val (.int (1 : Int32)), .unset, .unset] [(.ref wS)])) _
    refine XS.astoreN X1.here hx rfl (hb hby at_26) rfl rfl (l' := #[.val (.int p0), .val (.int (1 : Int32)), .val (.ref wS), .unset]) rfl ?_
    show Steps p.tables e below (T1.setTop (mkF m 27 #[.val (.int p0), .val (.int (1 : Int32)), .val (.ref wS), .unset] [])) _
    refine XS.goto X1.here hx rfl (pc0 := 27) (pc' := 34) rfl (hb hby at_27) (by decide) (by decide) ?_
    show Steps p.tables e below (T1.setTop (mkF m 34 #[.val (.int p0), .val (.int (1 : Int32)), .val (.ref wS), .unset] [])) _
    refine XS.aloadN X1.here hx rfl (hb hby at_34) rfl rfl ?_
    show Steps p.tables e below (T1.setTop (mkF m 35 #[.val (.int p0), .val (.int (1 : Int32)), .val (.ref wS), .unset] [(.ref wS)])) _
    refine st2.trans ?_
    show Steps p.tables e below (T2.setTop (mkF m 38 #[.val (.int p0), .val (.int (1 : Int32)), .val (.ref wS), .unset] [(.ref b2)])) _
    refine XS.astoreN X2.here hx rfl (hb hby at_38) rfl rfl (l' := #[.val (.int p0), .val (.int (1 : Int32)), .val (.ref wS), .val (.ref b2)]) rfl ?_
    show Steps p.tables e below (T2.setTop (mkF m 39 #[.val (.int p0), .val (.int (1 : Int32)), .val (.ref wS), .val (.ref b2)] [])) _
    refine XS.aloadN X2.here hx rfl (hb hby at_39) rfl rfl ?_
    show Steps p.tables e below (T2.setTop (mkF m 40 #[.val (.int p0), .val (.int (1 : Int32)), .val (.ref wS), .val (.ref b2)] [(.ref b2)])) _
    refine st3.trans ?_
    show Steps p.tables e below (T3.setTop (mkF m 43 #[.val (.int p0), .val (.int (1 : Int32)), .val (.ref wS), .val (.ref b2)] [(.ref wS)])) _
    refine XS.aloadN X3.here hx rfl (hb hby at_43) rfl rfl ?_
    show Steps p.tables e below (T3.setTop (mkF m 44 #[.val (.int p0), .val (.int (1 : Int32)), .val (.ref wS), .val (.ref b2)] [(.ref wS), (.ref wS)])) _
    refine Jvm.RoadKit.acmp (g := (mkF m 44 #[.val (.int p0), .val (.int (1 : Int32)), .val (.ref wS), .val (.ref b2)] [(.ref wS), (.ref wS)])) X3 hx rfl rfl rfl (pc0 := 44) (pc' := 47) (same := true) rfl (hb hby at_44) rfl (decide_eq_true rfl) (by decide) (by decide) ?_
    show Steps p.tables e below (T3.setTop (mkF m 47 #[.val (.int p0), .val (.int (1 : Int32)), .val (.ref wS), .val (.ref b2)] [])) _
    refine XS.aloadN X3.here hx rfl (hb hby at_47) rfl rfl ?_
    show Steps p.tables e below (T3.setTop (mkF m 48 #[.val (.int p0), .val (.int (1 : Int32)), .val (.ref wS), .val (.ref b2)] [(.ref b2)])) _
    refine st4.trans ?_
    show Steps p.tables e below (T4.setTop (mkF m 51 #[.val (.int p0), .val (.int (1 : Int32)), .val (.ref wS), .val (.ref b2)] [(.int (0 : Int32))])) _
    refine XS.ifNo X4.here hx rfl (hb hby at_51) rfl ((if0 _ _).trans (teq (by decide : (0 : Int32) = (0 : Int32))).2) ?_
    show Steps p.tables e below (T4.setTop (mkF m 54 #[.val (.int p0), .val (.int (1 : Int32)), .val (.ref wS), .val (.ref b2)] [])) _
    refine XS.aloadN X4.here hx rfl (hb hby at_54) rfl rfl ?_
    show Steps p.tables e below (T4.setTop (mkF m 55 #[.val (.int p0), .val (.int (1 : Int32)), .val (.ref wS), .val (.ref b2)] [(.ref b2)])) _
    refine st5.trans ?_
    show Steps p.tables e below (T5.setTop (mkF m 58 #[.val (.int p0), .val (.int (1 : Int32)), .val (.ref wS), .val (.ref b2)] [(.int (0 : Int32))])) _
    refine XS.ifNo X5.here hx rfl (hb hby at_58) rfl ((if0 _ _).trans (teq (by decide : (0 : Int32) = (0 : Int32))).2) ?_
    show Steps p.tables e below (T5.setTop (mkF m 61 #[.val (.int p0), .val (.int (1 : Int32)), .val (.ref wS), .val (.ref b2)] [])) _
    refine XS.iconst X5.here hx rfl (hb hby at_61) ?_
    show Steps p.tables e below (T5.setTop (mkF m 62 #[.val (.int p0), .val (.int (1 : Int32)), .val (.ref wS), .val (.ref b2)] [(.int (1 : Int32))])) _
    refine XS.goto X5.here hx rfl (pc0 := 62) (pc' := 66) rfl (hb hby at_62) (by decide) (by decide) ?_
    show Steps p.tables e below (T5.setTop (mkF m 66 #[.val (.int p0), .val (.int (1 : Int32)), .val (.ref wS), .val (.ref b2)] [(.int (1 : Int32))])) _
    exact retN X5 hx (t := .boolean) Bd.returns (by simp) (hb hby at_66) hr
  · show own_R n0 _ T5.heap _
    rw [e5]
    exact ⟨rfl, N5⟩
set_option maxRecDepth 65536 in
set_option maxHeartbeats 40000000 in
theorem rm0_2 (l : Launch) (Z : State) (a0 : Array Value) (hw : ∀ d ∈ tables_1, d.before a0 Z = true) (ws : List Jvm.Cond) (p0 : Int32) (wO : Addr) (wS : Addr) (h0 : Heap) (n0 : Nat) (O0 : Old Z n0 h0) (S_OPTIMAL : Sta Z Z.heap "com/example/firstmover/firstmover/solver/lp/LpSolution$Status" "OPTIMAL" "Lcom/example/firstmover/firstmover/solver/lp/LpSolution$Status;" (.ref wO)) (S_STOPPED : Sta Z Z.heap "com/example/firstmover/firstmover/solver/lp/LpSolution$Status" "STOPPED" "Lcom/example/firstmover/firstmover/solver/lp/LpSolution$Status;" (.ref wS)) (hi : ((p0 &&& (2147483647 : Int32)) % (3 : Int32)) = (2 : Int32)) (hne : ¬ (wS = wO)) :
    MetFree l x (head1 (Jvm.Cond.code x code maxLocals ret :: ws) room_1) (fun a U => a = #[(.int p0)] ∧ Z.Warmed39 U.vm ∧ U.heap = h0) (fun _ _ _ _ _ => True) (fun _ U o U' => ∃ v L, o = .returned v ∧ own_R n0 v U'.heap L ∧ ReturnedEndW U o U' L room_1.cells room_1.slots) := by
  refine MetFree.of_bodySF (plainFor_of_name pn_0) hisR ?_
  intro p e s m args below meth c s₁ Bd hml0 hP hK
  obtain ⟨rfl, hZ, hh⟩ := hP
  have hx := Bd.exec
  have hby := Bd.bytes
  have hml : c.maxLocals = 4 := hml0
  have hown : s.vm.findClass "com/example/firstmover/firstmover/solver/lp/LpSolutionWithoutOptimumPinLaw" = some m.cls := findClass_of_methodNamed Bd.named
  have hnm := (name_of_methodNamed Bd.named Bd.method).1
  have X0 : Stand p l e room_1 s m #[(.int p0)] below meth c s₁ [] 0 0 := Stand.of_body Bd
  have e0 : s₁.heap = h0 := by rw [← hh, Bd.state]; rfl
  have N0 := Fr.nil n0
  have pre0 : ∀ t, Steps p.tables e below (s₁.setTop (mkF m 0 #[.val (.int p0), .unset, .unset, .unset] [])) t → Steps p.tables e below (s₁.setTop (entryFrame m #[(.int p0)] maxLocals)) t := fun t k => castTop (ef_0 m p0) k
  obtain ⟨T1, X1, e1, st1⟩ := getS2 X0 hx hZ hown (host := "") (Or.inl (hw _ (List.mem_of_getElem? (i := 52) rfl))) Via.refl e0 (S_STOPPED.ext O0.2) (g := (mkF m 30 #[.val (.int p0), .val (.int (2 : Int32)), .unset, .unset] [])) rfl (hb hby at_30)
  obtain ⟨_, _, ⟨T2, L2, k2, n2⟩, -, X2, Sn2, sz2, ⟨Lc2, hQ2, l2, y2, z2⟩, st2⟩ := callSS X1 hx (y := (⟨"com/example/firstmover/firstmover/solver/lp/LpSolution", "withoutOptimum", "(Lcom/example/firstmover/firstmover/solver/lp/LpSolution$Status;)Lcom/example/firstmover/firstmover/solver/lp/LpSolution;"⟩ : MethodName)) hown (mvT hZ (hw _ (List.mem_of_getElem? (i := 4) rfl))) (mvT hZ (hw _ (List.mem_of_getElem? (i := 5) rfl))) (mvT hZ (hw _ (List.mem_of_getElem? (i := 6) rfl))) (mvT hZ (hw _ (List.mem_of_getElem? (i := 7) rfl))) (by decide) (backOfS (W := 0) (rmW l Z a0 hw [] wS wO h0 n0 O0 S_OPTIMAL hne) hZ (hw _ (List.mem_of_getElem? (i := 7) rfl)) (hw _ (List.mem_of_getElem? (i := 6) rfl)) (by decide) (by decide)) (g := (mkF m 35 #[.val (.int p0), .val (.int (2 : Int32)), .val (.ref wS), .unset] [(.ref wS)])) rfl (by rw [hml]; rfl) (argsL := [(.ref wS)]) (rest := []) (lenOf pd_2 rfl) rfl (by show 2 * 0 + _ ≤ _; exact Nat.le_of_eq rfl) (hb hby at_35) (fun _ _ => ⟨rfl, e1, (by decide : 0 + 3 ≤ _), (by decide : 0 + 31 ≤ _)⟩)
  have hZ2 : Z.Warmed39 (s.setVm T2.vm).vm := State.Warmed39.trans hZ Sn2.1
  have hown2 : (s.setVm T2.vm).vm.findClass "com/example/firstmover/firstmover/solver/lp/LpSolutionWithoutOptimumPinLaw" = some m.cls := by rw [show (s.setVm T2.vm).vm = T2.vm from rfl, Sn2.1.alike.findClass]; exact hown
  dsimp only [Pt.U, Pt.locs, Pt.cells, Pt.slots] at X2 l2 y2 z2 st2 hQ2
  subst l2 y2 z2
  obtain ⟨b2, rfl, N2q, O2, Eb2, Fs2, Fp2⟩ := hQ2
  have N2 := Fr.app N0 N2q
  obtain ⟨cq3, kq3, q3a, q3b, q3c⟩ := isOf hZ2 rfl Eb2
  obtain ⟨_, _, ⟨T3, L3, k3, n3⟩, -, X3, ⟨Lc3, hQ3, l3, y3, z3⟩, st3⟩ := X2.virtualBack hx (y := (⟨"com/example/firstmover/firstmover/solver/lp/LpSolution", "status", "()Lcom/example/firstmover/firstmover/solver/lp/LpSolution$Status;"⟩ : MethodName)) (z := (⟨"com/example/firstmover/firstmover/solver/lp/LpSolution", "status", "()Lcom/example/firstmover/firstmover/solver/lp/LpSolution$Status;"⟩ : MethodName)) hown2 (mvT hZ2 (hw _ (List.mem_of_getElem? (i := 37) rfl))) (mvT hZ2 (hw _ (List.mem_of_getElem? (i := 38) rfl))) (notFace_of_selects (args := #[]) (mvT hZ2 (hw _ (List.mem_of_getElem? (i := 40) rfl)))) (mvT hZ2 (hw _ (List.mem_of_getElem? (i := 40) rfl))) (mvT hZ2 (hw _ (List.mem_of_getElem? (i := 39) rfl))) (by decide) (backOf (W := 0) (rmS l Z a0 hw [] b2 wS T2.heap n0 O2 Fs2) hZ2 (hw _ (List.mem_of_getElem? (i := 41) rfl)) (hw _ (List.mem_of_getElem? (i := 6) rfl)) (by decide) (by decide)) q3a q3c (g := (mkF m 40 #[.val (.int p0), .val (.int (2 : Int32)), .val (.ref wS), .val (.ref b2)] [(.ref b2)])) rfl (by rw [hml]; rfl) (Steps.refl _) (argsL := []) (rest := []) (lenOf pd_3 rfl) rfl (by show 2 * 0 + _ ≤ _; exact Nat.le_of_eq rfl) (hb hby at_40) (fun _ _ => ⟨rfl, rfl, (by decide : 3 + 0 ≤ _), (by decide : 31 + 0 ≤ _)⟩)
  dsimp only [Pt.U, Pt.locs, Pt.cells, Pt.slots] at X3 l3 y3 z3 st3 hQ3
  subst l3 y3 z3
  obtain ⟨rfl, N3q, e3⟩ := hQ3
  have N3 := Fr.app N2 N3q
  obtain ⟨cq4, kq4, q4a, q4b, q4c⟩ := isOf hZ2 e3 Eb2
  obtain ⟨_, _, ⟨T4, L4, k4, n4⟩, -, X4, ⟨Lc4, hQ4, l4, y4, z4⟩, st4⟩ := X3.virtualBack hx (y := (⟨"com/example/firstmover/firstmover/solver/lp/LpSolution", "isOptimal", "()Z"⟩ : MethodName)) (z := (⟨"com/example/firstmover/firstmover/solver/lp/LpSolution", "isOptimal", "()Z"⟩ : MethodName)) hown2 (mvT hZ2 (hw _ (List.mem_of_getElem? (i := 42) rfl))) (mvT hZ2 (hw _ (List.mem_of_getElem? (i := 43) rfl))) (notFace_of_selects (args := #[]) (mvT hZ2 (hw _ (List.mem_of_getElem? (i := 45) rfl)))) (mvT hZ2 (hw _ (List.mem_of_getElem? (i := 45) rfl))) (mvT hZ2 (hw _ (List.mem_of_getElem? (i := 44) rfl))) (by decide) (backOf (W := 0) (rmO l Z a0 hw [] b2 wS wO T2.heap n0 O2 Fs2 S_OPTIMAL hne) hZ2 (hw _ (List.mem_of_getElem? (i := 46) rfl)) (hw _ (List.mem_of_getElem? (i := 6) rfl)) (by decide) (by decide)) q4a q4c (g := (mkF m 48 #[.val (.int p0), .val (.int (2 : Int32)), .val (.ref wS), .val (.ref b2)] [(.ref b2)])) rfl (by rw [hml]; rfl) (Steps.refl _) (argsL := []) (rest := []) (lenOf pd_4 rfl) rfl (by show 2 * 0 + _ ≤ _; exact Nat.le_of_eq rfl) (hb hby at_48) (fun _ _ => ⟨rfl, e3, (by decide : 3 + 0 ≤ _), (by decide : 31 + 0 ≤ _)⟩)
  dsimp only [Pt.U, Pt.locs, Pt.cells, Pt.slots] at X4 l4 y4 z4 st4 hQ4
  subst l4 y4 z4
  obtain ⟨rfl, N4q, e4⟩ := hQ4
  have N4 := Fr.app N3 N4q
  obtain ⟨cq5, kq5, q5a, q5b, q5c⟩ := isOf hZ2 e4 Eb2
  obtain ⟨_, _, ⟨T5, L5, k5, n5⟩, -, X5, ⟨Lc5, hQ5, l5, y5, z5⟩, st5⟩ := X4.virtualBack hx (y := (⟨"com/example/firstmover/firstmover/solver/lp/LpSolution", "hasPoint", "()Z"⟩ : MethodName)) (z := (⟨"com/example/firstmover/firstmover/solver/lp/LpSolution", "hasPoint", "()Z"⟩ : MethodName)) hown2 (mvT hZ2 (hw _ (List.mem_of_getElem? (i := 47) rfl))) (mvT hZ2 (hw _ (List.mem_of_getElem? (i := 48) rfl))) (notFace_of_selects (args := #[]) (mvT hZ2 (hw _ (List.mem_of_getElem? (i := 50) rfl)))) (mvT hZ2 (hw _ (List.mem_of_getElem? (i := 50) rfl))) (mvT hZ2 (hw _ (List.mem_of_getElem? (i := 49) rfl))) (by decide) (backOf (W := 0) (rmP l Z a0 hw [] b2  T2.heap n0 O2 Fp2) hZ2 (hw _ (List.mem_of_getElem? (i := 51) rfl)) (hw _ (List.mem_of_getElem? (i := 6) rfl)) (by decide) (by decide)) q5a q5c (g := (mkF m 55 #[.val (.int p0), .val (.int (2 : Int32)), .val (.ref wS), .val (.ref b2)] [(.ref b2)])) rfl (by rw [hml]; rfl) (Steps.refl _) (argsL := []) (rest := []) (lenOf pd_4 rfl) rfl (by show 2 * 0 + _ ≤ _; exact Nat.le_of_eq rfl) (hb hby at_55) (fun _ _ => ⟨rfl, e4, (by decide : 3 + 0 ≤ _), (by decide : 31 + 0 ≤ _)⟩)
  dsimp only [Pt.U, Pt.locs, Pt.cells, Pt.slots] at X5 l5 y5 z5 st5 hQ5
  subst l5 y5 z5
  obtain ⟨rfl, N5q, e5⟩ := hQ5
  have N5 := Fr.app N4 N5q
  obtain ⟨fs, hr, hrun, hended, hRW⟩ := X5.leaveW Sn2 (by rw [e5]; exact (Nat.le_refl _)) (v := some (.int (1 : Int32))) (fun h => by rw [Bd.returns] at h; cases h)
  refine ⟨_, _, pre0 _ ?_, hrun, hended, _, _, rfl, ?_, hRW.1, hRW.2.1, hRW.2.2.1, hRW.2.2.2.mono (by decide) (by decide)⟩
  · show Steps p.tables e below (s₁.setTop (mkF m 0 #[.val (.int p0), .unset, .unset, .unset] [])) _
    refine XS.iloadN X0.here hx rfl (hb hby at_0) rfl ?_
    show Steps p.tables e below (s₁.setTop (mkF m 1 #[.val (.int p0), .unset, .unset, .unset] [(.int p0)])) _
    refine X0.ldcInt hx hown (mvT hZ (hw _ (List.mem_of_getElem? (i := 0) rfl))) (g := (mkF m 1 #[.val (.int p0), .unset, .unset, .unset] [(.int p0)])) rfl (hb hby at_1) _ ?_
    show Steps p.tables e below (s₁.setTop (mkF m 3 #[.val (.int p0), .unset, .unset, .unset] [(.int (2147483647 : Int32)), (.int p0)])) _
    refine XS.iand X0.here hx rfl (hb hby at_3) rfl ?_
    show Steps p.tables e below (s₁.setTop (mkF m 4 #[.val (.int p0), .unset, .unset, .unset] [(.int (p0 &&& (2147483647 : Int32)))])) _
    refine XS.iconst X0.here hx rfl (hb hby at_4) ?_
    show Steps p.tables e below (s₁.setTop (mkF m 5 #[.val (.int p0), .unset, .unset, .unset] [(.int (3 : Int32)), (.int (p0 &&& (2147483647 : Int32)))])) _
    refine iremM X0 hx rfl (hb hby at_5) rfl (by decide) ?_
    show Steps p.tables e below (s₁.setTop (mkF m 6 #[.val (.int p0), .unset, .unset, .unset] [(.int ((p0 &&& (2147483647 : Int32)) % (3 : Int32)))])) _
    rw [hi]
    show Steps p.tables e below (s₁.setTop (mkF m 6 #[.val (.int p0), .unset, .unset, .unset] [(.int (2 : Int32))])) _
    refine XS.istoreN X0.here hx rfl (hb hby at_6) rfl (l' := #[.val (.int p0), .val (.int (2 : Int32)), .unset, .unset]) rfl ?_
    show Steps p.tables e below (s₁.setTop (mkF m 7 #[.val (.int p0), .val (.int (2 : Int32)), .unset, .unset] [])) _
    refine XS.iloadN X0.here hx rfl (hb hby at_7) rfl ?_
    show Steps p.tables e below (s₁.setTop (mkF m 8 #[.val (.int p0), .val (.int (2 : Int32)), .unset, .unset] [(.int (2 : Int32))])) _
    refine XS.ifYes X0.here hx rfl (pc0 := 8) (pc' := 18) rfl (hb hby at_8) rfl ((if0 _ _).trans (feq (by decide : ¬ ((2 : Int32) = (0 : Int32)))).2) (by decide) (by decide) ?_
    show Steps p.tables e below (s₁.setTop (mkF m 18 #[.val (.int p0), .val (.int (2 : Int32)), .unset, .unset] [])) _
    refine XS.iloadN X0.here hx rfl (hb hby at_18) rfl ?_
    show Steps p.tables e below (s₁.setTop (mkF m 19 #[.val (.int p0), .val (.int (2 : Int32)), .unset, .unset] [(.int (2 : Int32))])) _
    refine XS.iconst X0.here hx rfl (hb hby at_19) ?_
    show Steps p.tables e below (s₁.setTop (mkF m 20 #[.val (.int p0), .val (.int (2 : Int32)), .unset, .unset] [(.int (1 : Int32)), (.int (2 : Int32))])) _
    refine XS.icmpYes X0.here hx rfl (pc0 := 20) (pc' := 30) rfl (hb hby at_20) rfl (feq (by decide : ¬ ((2 : Int32) = (1 : Int32)))).2 (by decide) (by decide) ?_
    show Steps p.tables e below (s₁.setTop (mkF m 30 #[.val (.int p0), .val (.int (2 : Int32)), .unset, .unset] [])) _
    refine st1 _ ?_
    show Steps p.tables e below (T1.setTop (mkF m 33 #[.val (.int p0), .val (.int (2 : Int32)), .unset, .unset] [(.ref wS)])) _
    refine XS.astoreN X1.here hx rfl (hb hby at_33) rfl rfl (l' := #[.val (.int p0), .val (.int (2 : Int32)), .val (.ref wS), .unset]) rfl ?_
    show Steps p.tables e below (T1.setTop (mkF m 34 #[.val (.int p0), .val (.int (2 : Int32)), .val (.ref wS), .unset] [])) _
    refine XS.aloadN X1.here hx rfl (hb hby at_34) rfl rfl ?_
    show Steps p.tables e below (T1.setTop (mkF m 35 #[.val (.int p0), .val (.int (2 : Int32)), .val (.ref wS), .unset] [(.ref wS)])) _
    refine st2.trans ?_
    show Steps p.tables e below (T2.setTop (mkF m 38 #[.val (.int p0), .val (.int (2 : Int32)), .val (.ref wS), .unset] [(.ref b2)])) _
    refine XS.astoreN X2.here hx rfl (hb hby at_38) rfl rfl (l' := #[.val (.int p0), .val (.int (2 : Int32)), .val (.ref wS), .val (.ref b2)]) rfl ?_
    show Steps p.tables e below (T2.setTop (mkF m 39 #[.val (.int p0), .val (.int (2 : Int32)), .val (.ref wS), .val (.ref b2)] [])) _
    refine XS.aloadN X2.here hx rfl (hb hby at_39) rfl rfl ?_
    show Steps p.tables e below (T2.setTop (mkF m 40 #[.val (.int p0), .val (.int (2 : Int32)), .val (.ref wS), .val (.ref b2)] [(.ref b2)])) _
    refine st3.trans ?_
    show Steps p.tables e below (T3.setTop (mkF m 43 #[.val (.int p0), .val (.int (2 : Int32)), .val (.ref wS), .val (.ref b2)] [(.ref wS)])) _
    refine XS.aloadN X3.here hx rfl (hb hby at_43) rfl rfl ?_
    show Steps p.tables e below (T3.setTop (mkF m 44 #[.val (.int p0), .val (.int (2 : Int32)), .val (.ref wS), .val (.ref b2)] [(.ref wS), (.ref wS)])) _
    refine Jvm.RoadKit.acmp (g := (mkF m 44 #[.val (.int p0), .val (.int (2 : Int32)), .val (.ref wS), .val (.ref b2)] [(.ref wS), (.ref wS)])) X3 hx rfl rfl rfl (pc0 := 44) (pc' := 47) (same := true) rfl (hb hby at_44) rfl (decide_eq_true rfl) (by decide) (by decide) ?_
    show Steps p.tables e below (T3.setTop (mkF m 47 #[.val (.int p0), .val (.int (2 : Int32)), .val (.ref wS), .val (.ref b2)] [])) _
    refine XS.aloadN X3.here hx rfl (hb hby at_47) rfl rfl ?_
    show Steps p.tables e below (T3.setTop (mkF m 48 #[.val (.int p0), .val (.int (2 : Int32)), .val (.ref wS), .val (.ref b2)] [(.ref b2)])) _
    refine st4.trans ?_
    show Steps p.tables e below (T4.setTop (mkF m 51 #[.val (.int p0), .val (.int (2 : Int32)), .val (.ref wS), .val (.ref b2)] [(.int (0 : Int32))])) _
    refine XS.ifNo X4.here hx rfl (hb hby at_51) rfl ((if0 _ _).trans (teq (by decide : (0 : Int32) = (0 : Int32))).2) ?_
    show Steps p.tables e below (T4.setTop (mkF m 54 #[.val (.int p0), .val (.int (2 : Int32)), .val (.ref wS), .val (.ref b2)] [])) _
    refine XS.aloadN X4.here hx rfl (hb hby at_54) rfl rfl ?_
    show Steps p.tables e below (T4.setTop (mkF m 55 #[.val (.int p0), .val (.int (2 : Int32)), .val (.ref wS), .val (.ref b2)] [(.ref b2)])) _
    refine st5.trans ?_
    show Steps p.tables e below (T5.setTop (mkF m 58 #[.val (.int p0), .val (.int (2 : Int32)), .val (.ref wS), .val (.ref b2)] [(.int (0 : Int32))])) _
    refine XS.ifNo X5.here hx rfl (hb hby at_58) rfl ((if0 _ _).trans (teq (by decide : (0 : Int32) = (0 : Int32))).2) ?_
    show Steps p.tables e below (T5.setTop (mkF m 61 #[.val (.int p0), .val (.int (2 : Int32)), .val (.ref wS), .val (.ref b2)] [])) _
    refine XS.iconst X5.here hx rfl (hb hby at_61) ?_
    show Steps p.tables e below (T5.setTop (mkF m 62 #[.val (.int p0), .val (.int (2 : Int32)), .val (.ref wS), .val (.ref b2)] [(.int (1 : Int32))])) _
    refine XS.goto X5.here hx rfl (pc0 := 62) (pc' := 66) rfl (hb hby at_62) (by decide) (by decide) ?_
    show Steps p.tables e below (T5.setTop (mkF m 66 #[.val (.int p0), .val (.int (2 : Int32)), .val (.ref wS), .val (.ref b2)] [(.int (1 : Int32))])) _
    exact retN X5 hx (t := .boolean) Bd.returns (by simp) (hb hby at_66) hr
  · show own_R n0 _ T5.heap _
    rw [e5]
    exact ⟨rfl, N5⟩
set_option maxRecDepth 65536 in
set_option maxHeartbeats 40000000 in
theorem comes_1 {Post : Tables → Env → Array Value → State → Outcome → State → Prop} (hpost : ∀ tb e args s v u, (limb_1_1.after args s (.returned v) u = true ∧ limb_1_2.after args s (.returned v) u = true ∧ True) → ReturnedEndW s (.returned v) u (Jvm.fieldLocs frame_1_writes args s ++ Jvm.arrayLocs frame_1_arrays args s ++ Jvm.staticLocs frame_1_statics s) 16 1152 → Post tb e args s (.returned v) u) :
    ArmFor flags0 classFile x code maxLocals ret World_1 tables_1 room_1 Calls_1 rest_1 Pre_1 Post := by
  intro l hfl _ _ p e ha hc hk s m args below hf hA hF happ hP
  obtain ⟨hcalls, hrest, hpre⟩ := hP
  obtain ⟨-, -, -, hnamed, -, -, -, hat⟩ := (Spec.applies_iff hf).mp happ
  obtain ⟨hg, hn⟩ := and_e (Cond.before_iff.mp (show (Jvm.Cond.and given_1 narrow_1).before args s = true from hpre))
  obtain ⟨gc, gr0⟩ := and_e hg
  obtain ⟨w0, rfl⟩ : ∃ w0 : Value, args = #[w0] := by
    have hs : args.size = 1 := by simpa [Cond.value, given_1] using gc
    obtain ⟨L⟩ := args
    match L, hs with
    | [w0], _ => exact ⟨w0, rfl⟩
  have hw := fun d (hd : d ∈ tables_1) => atoms_spec (ws := Jvm.Cond.code x code maxLocals ret :: tables_1) hat d (List.mem_cons_of_mem _ hd)
  have hfit : Fit s := fun {y c} hc i hi => by
    obtain ⟨ha, rfl⟩ := Array.getElem?_eq_some_iff.mp hc
    have q := List.all_eq_true.mp ((Array.all_eq_true_iff_forall_mem.mp hF) _ (Array.getElem_mem ha)) i (List.mem_range.mpr hi)
    simpa [Array.getElem?_eq_getElem hi] using q
  obtain ⟨i0, ei0⟩ := is_v gr0
  obtain rfl : w0 = (.int i0) := Option.some.inj ei0
  obtain ⟨cj0, cr0⟩ := and_e hn
  obtain ⟨w_INFEASIBLE, ev_INFEASIBLE⟩ := exa_v cj0
  have S_INFEASIBLE := Sta.start ev_INFEASIBLE (Or.inr ⟨(hw _ (List.mem_of_getElem? (i := 2) rfl)), (hw _ (List.mem_of_getElem? (i := 3) rfl))⟩)
  have E_INFEASIBLE := Exa.start ev_INFEASIBLE cj0
  obtain ⟨cj1, cr1⟩ := and_e cr0
  obtain ⟨w_OPTIMAL, ev_OPTIMAL⟩ := exa_v cj1
  have S_OPTIMAL := Sta.start ev_OPTIMAL (Or.inr ⟨(hw _ (List.mem_of_getElem? (i := 2) rfl)), (hw _ (List.mem_of_getElem? (i := 21) rfl))⟩)
  have E_OPTIMAL := Exa.start ev_OPTIMAL cj1
  obtain ⟨cj2, cr2⟩ := and_e cr1
  have o_INFEASIBLE := cj2
  obtain ⟨cj3, cr3⟩ := and_e cr2
  have o_OPTIMAL := cj3
  obtain ⟨cj4, cr4⟩ := and_e cr3
  obtain ⟨w_STOPPED, ev_STOPPED⟩ := exa_v cj4
  have S_STOPPED := Sta.start ev_STOPPED (Or.inr ⟨(hw _ (List.mem_of_getElem? (i := 2) rfl)), (hw _ (List.mem_of_getElem? (i := 53) rfl))⟩)
  have E_STOPPED := Exa.start ev_STOPPED cj4
  obtain ⟨cj5, cr5⟩ := and_e cr4
  have o_STOPPED := cj5
  obtain ⟨cj6, cr6⟩ := and_e cr5
  obtain ⟨w_UNBOUNDED, ev_UNBOUNDED⟩ := exa_v cj6
  have S_UNBOUNDED := Sta.start ev_UNBOUNDED (Or.inr ⟨(hw _ (List.mem_of_getElem? (i := 2) rfl)), (hw _ (List.mem_of_getElem? (i := 55) rfl))⟩)
  have E_UNBOUNDED := Exa.start ev_UNBOUNDED cj6
  have o_UNBOUNDED := cr6
  have key : MetFree l x (head1 (Jvm.Cond.code x code maxLocals ret :: tables_1) room_1) (fun a U => a = #[(.int i0)] ∧ s.Warmed39 U.vm ∧ U.heap = s.heap) (fun _ _ _ _ _ => True) (fun _ U o U' => ∃ v L, o = .returned v ∧ own_R s.heap.size v U'.heap L ∧ ReturnedEndW U o U' L room_1.cells room_1.slots) := by
    rcases own_mod3 i0 with hi | hi | hi
    · exact rm0_0 l s _ hw tables_1 i0 w_OPTIMAL w_INFEASIBLE s.heap s.heap.size (Old.start s) S_OPTIMAL S_INFEASIBLE hi (own_ne ev_INFEASIBLE ev_OPTIMAL o_INFEASIBLE o_OPTIMAL (by decide))
    · exact rm0_1 l s _ hw tables_1 i0 w_OPTIMAL w_UNBOUNDED s.heap s.heap.size (Old.start s) S_OPTIMAL S_UNBOUNDED hi (own_ne ev_UNBOUNDED ev_OPTIMAL o_UNBOUNDED o_OPTIMAL (by decide))
    · exact rm0_2 l s _ hw tables_1 i0 w_OPTIMAL w_STOPPED s.heap s.heap.size (Old.start s) S_OPTIMAL S_STOPPED hi (own_ne ev_STOPPED ev_OPTIMAL o_STOPPED o_OPTIMAL (by decide))
  obtain ⟨n, o, h1, h2, h3, _, L, rfl, ⟨rfl, N⟩, hq⟩ := key p e ha hc hk s m _ below hf ((Spec.applies_iff_loose hf).mp happ).1 ⟨rfl, State.Warmed39.refl s, rfl⟩ trivial
  refine ⟨n, _, h1, h2, h3, hpost _ _ _ _ _ _ ⟨Cond.after_iff.mpr rfl, Cond.after_iff.mpr (eq_i res_at (Term.int_eval (1)) rfl), trivial⟩ ⟨hq.1, hq.2.1, hq.2.2.1, (hq.2.2.2.sift fun y hy => Or.inr (N y hy)).mono (by decide) (by decide)⟩⟩
theorem main_1_1 : Claimed_1_1 := comes_1 fun _ _ _ _ _ _ h hF => ⟨h.1, hF⟩
theorem main_1_2 : Claimed_1_2 := comes_1 fun _ _ _ _ _ _ h hF => ⟨h.2.1, hF⟩
end Jvm.Pilot.@@N@@
namespace Jvm.Pilot.@@N@@
open Jvm Jvm.ClassFile Sem Op Lib Jvm.Free Jvm.Stand Jvm.Pilot.@@N@@.Jvm.D
/-! MADE BY PROGRAM (witnessworld.py) out of the Statement's table words and the real class files: 17 classes; the members and pool entries that the words name. The judged class is class 1, her method 1. -/
namespace start1
open Jvm.ClassFile
def u (s : String) : CpInfo := .utf8 (stringToUtf16 s)
/-- a pool by its gaps: so many unusable entries, then the entry; so many at the end -/
def gap : Nat → List CpInfo → List CpInfo
  | 0, r => r
  | n + 1, r => .unusable :: gap n r
def poolList (es : List (Nat × CpInfo)) (last : Nat) : List CpInfo := es.foldr (fun e r => gap e.1 (e.2 :: r)) (gap last [])
def pool (es : List (Nat × CpInfo)) (last : Nat) : Array CpInfo := ⟨poolList es last⟩
def fileOf (pool : Array CpInfo) (this : Nat) (attrs : Array Attribute := #[]) (ms : Array MethodInfo := #[]) (fl : Nat := 33) (sup : Nat := 0) (ifs : Array Nat := #[]) (fds : Array FieldInfo := #[]) : ClassFile where
  minorVersion := 0
  majorVersion := 65
  constantPool := pool
  accessFlags := fl
  thisClass := this
  superClass := sup
  interfaces := ifs
  fields := fds
  methods := ms
  attributes := attrs
def plain (name : String) (sup : Option ClassId) : Class where
  name := name
  kind := .ordinary
  loader := none
  accessFlags := 33
  super := sup
  interfaces := #[]
  cf := none
  fields := #[]
  methods := #[]
  instanceTypes := #[]
  staticTypes := #[]
  resolved := #[]
  callSites := []
  init := .initialized
  statics := none
  mirror := none

def pool0 : Array CpInfo := pool [(5, u "<init>"), (0, u "()V"), (1, .class_ 10), (1, u "java/lang/Object")] 113

def k0c0 : Code := { maxStack := 0, maxLocals := 1, code := object_method_1_code, exceptionTable := #[], attributes := #[] }
def k0m0 : Method := { name := "<init>", desc := "()V", sig := { parameters := [], returnType := none }, accessFlags := 1, code := some k0c0 }
/-- java/lang/Object -/
def k0 : Class := { plain "java/lang/Object" none with
  accessFlags := 33
  interfaces := #[]
  cf := some (fileOf pool0 8 #[] #[{ accessFlags := 1, nameIndex := 5, descriptorIndex := 6, attributes := #[] }] 33 0 #[] #[])
  fields := #[]
  methods := #[k0m0]
  instanceTypes := #[]
  staticTypes := #[]
  resolved := Array.replicate 124 none
  statics := none }

def pool1 : Array CpInfo := pool [(2, .class_ 4), (1, u "java/lang/Object"), (0, u "<init>"), (0, u "()V"), (0, .integer 2147483647), (0, .fieldref 9 10), (0, .class_ 11), (0, .nameAndType 12 13), (0, u "com/example/firstmover/firstmover/solver/lp/LpSolution$Status"), (0, u "INFEASIBLE"), (0, u "Lcom/example/firstmover/firstmover/solver/lp/LpSolution$Status;"), (0, .fieldref 9 15), (0, .nameAndType 16 13), (0, u "UNBOUNDED"), (0, .fieldref 9 18), (0, .nameAndType 19 13), (0, u "STOPPED"), (0, .methodref 21 22), (0, .class_ 23), (0, .nameAndType 24 25), (0, u "com/example/firstmover/firstmover/solver/lp/LpSolution"), (0, u "withoutOptimum"), (0, u "(Lcom/example/firstmover/firstmover/solver/lp/LpSolution$Status;)Lcom/example/firstmover/firstmover/solver/lp/LpSolution;"), (0, .methodref 21 27), (0, .nameAndType 28 29), (0, u "status"), (0, u "()Lcom/example/firstmover/firstmover/solver/lp/LpSolution$Status;"), (0, .methodref 21 31), (0, .nameAndType 32 33), (0, u "isOptimal"), (0, u "()Z"), (0, .methodref 21 35), (0, .nameAndType 36 33), (0, u "hasPoint"), (0, .class_ 38), (0, u "com/example/firstmover/firstmover/solver/lp/LpSolutionWithoutOptimumPinLaw"), (2, u "law"), (0, u "(I)Z")] 5

def k1m0 : Method := { name := "<init>", desc := "()V", sig := { parameters := [], returnType := none }, accessFlags := 1, code := none }
def k1c1 : Code := { maxStack := 2, maxLocals := 4, code := code, exceptionTable := #[], attributes := #[] }
def k1m1 : Method := { name := "law", desc := "(I)Z", sig := { parameters := [.int], returnType := some .boolean }, accessFlags := 9, code := some k1c1 }
/-- com/example/firstmover/firstmover/solver/lp/LpSolutionWithoutOptimumPinLaw -/
def k1 : Class := { plain "com/example/firstmover/firstmover/solver/lp/LpSolutionWithoutOptimumPinLaw" (some 0) with
  accessFlags := 49
  interfaces := #[]
  cf := some (fileOf pool1 37 #[] #[{ accessFlags := 1, nameIndex := 5, descriptorIndex := 6, attributes := #[] }, { accessFlags := 9, nameIndex := 41, descriptorIndex := 42, attributes := #[] }] 49 2 #[] #[])
  fields := #[]
  methods := #[k1m0, k1m1]
  instanceTypes := #[]
  staticTypes := #[]
  resolved := Array.replicate 48 none
  statics := none }

def pool2 : Array CpInfo := pool [(1, .class_ 2), (0, u "java/lang/constant/Constable"), (0, .class_ 4), (0, u "java/lang/Object")] 6

/-- java/lang/constant/Constable -/
def k2 : Class := { plain "java/lang/constant/Constable" (some 0) with
  accessFlags := 1537
  interfaces := #[]
  cf := some (fileOf pool2 1 #[] #[] 1537 3 #[] #[])
  fields := #[]
  methods := #[]
  instanceTypes := #[]
  staticTypes := #[]
  resolved := Array.replicate 11 none
  statics := none }

def pool3 : Array CpInfo := pool [(1, .class_ 2), (0, u "java/lang/Comparable"), (0, .class_ 4), (0, u "java/lang/Object")] 7

/-- java/lang/Comparable -/
def k3 : Class := { plain "java/lang/Comparable" (some 0) with
  accessFlags := 1537
  interfaces := #[]
  cf := some (fileOf pool3 1 #[] #[] 1537 3 #[] #[])
  fields := #[]
  methods := #[]
  instanceTypes := #[]
  staticTypes := #[]
  resolved := Array.replicate 12 none
  statics := none }

def pool4 : Array CpInfo := pool [(1, .class_ 2), (0, u "java/io/Serializable"), (0, .class_ 4), (0, u "java/lang/Object")] 2

/-- java/io/Serializable -/
def k4 : Class := { plain "java/io/Serializable" (some 0) with
  accessFlags := 1537
  interfaces := #[]
  cf := some (fileOf pool4 1 #[] #[] 1537 3 #[] #[])
  fields := #[]
  methods := #[]
  instanceTypes := #[]
  staticTypes := #[]
  resolved := Array.replicate 7 none
  statics := none }

def pool5 : Array CpInfo := pool [(2, .class_ 4), (1, u "java/lang/Enum"), (0, u "name"), (0, u "Ljava/lang/String;"), (2, u "ordinal"), (0, u "I"), (1, .class_ 14), (1, u "java/lang/Object"), (4, u "hash"), (86, .class_ 108), (1, u "java/lang/Enum$EnumDesc"), (2, .class_ 112), (0, u "java/lang/constant/Constable"), (0, .class_ 114), (0, u "java/lang/Comparable"), (0, .class_ 116), (0, u "java/io/Serializable")] 87

/-- java/lang/Enum -/
def k5 : Class := { plain "java/lang/Enum" (some 0) with
  accessFlags := 1057
  interfaces := #[2, 3, 4]
  cf := some (fileOf pool5 2 #[.nestMembers #[106]] #[] 1057 12 #[111, 113, 115] #[{ accessFlags := 18, nameIndex := 5, descriptorIndex := 6, attributes := #[] }, { accessFlags := 18, nameIndex := 9, descriptorIndex := 10, attributes := #[] }, { accessFlags := 2, nameIndex := 19, descriptorIndex := 10, attributes := #[] }])
  fields := #[{ name := "name", type := (.object "java/lang/String"), accessFlags := 18, slot := 0, constantValue := 0 }, { name := "ordinal", type := .int, accessFlags := 18, slot := 1, constantValue := 0 }, { name := "hash", type := .int, accessFlags := 2, slot := 2, constantValue := 0 }]
  methods := #[]
  instanceTypes := #[(.object "java/lang/String"), .int, .int]
  staticTypes := #[]
  resolved := Array.replicate 204 none
  statics := none }

def pool6 : Array CpInfo := pool [(1, .class_ 2), (0, u "com/example/firstmover/firstmover/solver/lp/LpSolution$Status"), (2, u "OPTIMAL"), (0, u "Lcom/example/firstmover/firstmover/solver/lp/LpSolution$Status;"), (2, u "INFEASIBLE"), (2, u "UNBOUNDED"), (2, u "STOPPED"), (2, u "$VALUES"), (0, u "[Lcom/example/firstmover/firstmover/solver/lp/LpSolution$Status;"), (6, .class_ 28), (1, u "java/lang/Enum"), (27, .class_ 57), (0, u "com/example/firstmover/firstmover/solver/lp/LpSolution")] 2

/-- com/example/firstmover/firstmover/solver/lp/LpSolution$Status -/
def k6 : Class := { plain "com/example/firstmover/firstmover/solver/lp/LpSolution$Status" (some 5) with
  accessFlags := 16433
  interfaces := #[]
  cf := some (fileOf pool6 1 #[.nestHost 56] #[] 16433 26 #[] #[{ accessFlags := 16409, nameIndex := 5, descriptorIndex := 6, attributes := #[] }, { accessFlags := 16409, nameIndex := 9, descriptorIndex := 6, attributes := #[] }, { accessFlags := 16409, nameIndex := 12, descriptorIndex := 6, attributes := #[] }, { accessFlags := 16409, nameIndex := 15, descriptorIndex := 6, attributes := #[] }, { accessFlags := 4122, nameIndex := 18, descriptorIndex := 19, attributes := #[] }])
  fields := #[{ name := "OPTIMAL", type := (.object "com/example/firstmover/firstmover/solver/lp/LpSolution$Status"), accessFlags := 16409, slot := 0, constantValue := 0 }, { name := "INFEASIBLE", type := (.object "com/example/firstmover/firstmover/solver/lp/LpSolution$Status"), accessFlags := 16409, slot := 1, constantValue := 0 }, { name := "UNBOUNDED", type := (.object "com/example/firstmover/firstmover/solver/lp/LpSolution$Status"), accessFlags := 16409, slot := 2, constantValue := 0 }, { name := "STOPPED", type := (.object "com/example/firstmover/firstmover/solver/lp/LpSolution$Status"), accessFlags := 16409, slot := 3, constantValue := 0 }, { name := "$VALUES", type := (.array (.object "com/example/firstmover/firstmover/solver/lp/LpSolution$Status")), accessFlags := 4122, slot := 4, constantValue := 0 }]
  methods := #[]
  instanceTypes := #[(.object "java/lang/String"), .int, .int]
  staticTypes := #[(.object "com/example/firstmover/firstmover/solver/lp/LpSolution$Status"), (.object "com/example/firstmover/firstmover/solver/lp/LpSolution$Status"), (.object "com/example/firstmover/firstmover/solver/lp/LpSolution$Status"), (.object "com/example/firstmover/firstmover/solver/lp/LpSolution$Status"), (.array (.object "com/example/firstmover/firstmover/solver/lp/LpSolution$Status"))]
  resolved := Array.replicate 60 none
  statics := some 0 }

def pool7 : Array CpInfo := pool [(1, .methodref 2 3), (0, .class_ 4), (0, .nameAndType 5 6), (0, u "java/lang/Object"), (0, u "<init>"), (0, u "()V"), (0, .fieldref 8 9), (0, .class_ 10), (0, .nameAndType 11 12), (0, u "com/example/firstmover/firstmover/solver/lp/LpSolution"), (0, u "status"), (0, u "Lcom/example/firstmover/firstmover/solver/lp/LpSolution$Status;"), (0, .fieldref 8 14), (0, .nameAndType 15 16), (0, u "objectiveValue"), (0, u "D"), (0, .fieldref 8 18), (0, .nameAndType 19 20), (0, u "point"), (0, u "[D"), (0, .fieldref 22 23), (0, .class_ 24), (0, .nameAndType 25 12), (0, u "com/example/firstmover/firstmover/solver/lp/LpSolution$Status"), (0, u "OPTIMAL"), (7, .string 11), (0, .methodref 35 36), (0, .class_ 37), (0, .nameAndType 38 39), (0, u "java/util/Objects"), (0, u "requireNonNull"), (0, u "(Ljava/lang/Object;Ljava/lang/String;)Ljava/lang/Object;"), (9, .double 9221120237041090560), (1, .methodref 8 52), (0, .nameAndType 5 53), (0, u "(Lcom/example/firstmover/firstmover/solver/lp/LpSolution$Status;D[D)V"), (35, u "hasPoint"), (0, u "()Z"), (17, u "withoutOptimum"), (0, u "(Lcom/example/firstmover/firstmover/solver/lp/LpSolution$Status;)Lcom/example/firstmover/firstmover/solver/lp/LpSolution;"), (1, u "()Lcom/example/firstmover/firstmover/solver/lp/LpSolution$Status;"), (0, u "isOptimal")] 24

def k7c0 : Code := { maxStack := 3, maxLocals := 5, code := prog_23_method_1_code, exceptionTable := #[], attributes := #[] }
def k7m0 : Method := { name := "<init>", desc := "(Lcom/example/firstmover/firstmover/solver/lp/LpSolution$Status;D[D)V", sig := { parameters := [(.object "com/example/firstmover/firstmover/solver/lp/LpSolution$Status"), .double, (.array .double)], returnType := none }, accessFlags := 2, code := some k7c0 }
def k7c1 : Code := { maxStack := 6, maxLocals := 1, code := prog_23_method_4_code, exceptionTable := #[], attributes := #[] }
def k7m1 : Method := { name := "withoutOptimum", desc := "(Lcom/example/firstmover/firstmover/solver/lp/LpSolution$Status;)Lcom/example/firstmover/firstmover/solver/lp/LpSolution;", sig := { parameters := [(.object "com/example/firstmover/firstmover/solver/lp/LpSolution$Status")], returnType := some (.object "com/example/firstmover/firstmover/solver/lp/LpSolution") }, accessFlags := 9, code := some k7c1 }
def k7c2 : Code := { maxStack := 1, maxLocals := 1, code := prog_23_method_6_code, exceptionTable := #[], attributes := #[] }
def k7m2 : Method := { name := "status", desc := "()Lcom/example/firstmover/firstmover/solver/lp/LpSolution$Status;", sig := { parameters := [], returnType := some (.object "com/example/firstmover/firstmover/solver/lp/LpSolution$Status") }, accessFlags := 1, code := some k7c2 }
def k7c3 : Code := { maxStack := 2, maxLocals := 1, code := prog_23_method_7_code, exceptionTable := #[], attributes := #[] }
def k7m3 : Method := { name := "isOptimal", desc := "()Z", sig := { parameters := [], returnType := some .boolean }, accessFlags := 1, code := some k7c3 }
def k7c4 : Code := { maxStack := 1, maxLocals := 1, code := prog_23_method_8_code, exceptionTable := #[], attributes := #[] }
def k7m4 : Method := { name := "hasPoint", desc := "()Z", sig := { parameters := [], returnType := some .boolean }, accessFlags := 1, code := some k7c4 }
/-- com/example/firstmover/firstmover/solver/lp/LpSolution -/
def k7 : Class := { plain "com/example/firstmover/firstmover/solver/lp/LpSolution" (some 0) with
  accessFlags := 49
  interfaces := #[]
  cf := some (fileOf pool7 8 #[.nestMembers #[22]] #[{ accessFlags := 2, nameIndex := 5, descriptorIndex := 53, attributes := #[] }, { accessFlags := 9, nameIndex := 108, descriptorIndex := 109, attributes := #[] }, { accessFlags := 1, nameIndex := 11, descriptorIndex := 111, attributes := #[] }, { accessFlags := 1, nameIndex := 112, descriptorIndex := 90, attributes := #[] }, { accessFlags := 1, nameIndex := 89, descriptorIndex := 90, attributes := #[] }] 49 2 #[] #[{ accessFlags := 18, nameIndex := 11, descriptorIndex := 12, attributes := #[] }, { accessFlags := 18, nameIndex := 15, descriptorIndex := 16, attributes := #[] }, { accessFlags := 18, nameIndex := 19, descriptorIndex := 20, attributes := #[] }])
  fields := #[{ name := "status", type := (.object "com/example/firstmover/firstmover/solver/lp/LpSolution$Status"), accessFlags := 18, slot := 0, constantValue := 0 }, { name := "objectiveValue", type := .double, accessFlags := 18, slot := 1, constantValue := 0 }, { name := "point", type := (.array .double), accessFlags := 18, slot := 2, constantValue := 0 }]
  methods := #[k7m0, k7m1, k7m2, k7m3, k7m4]
  instanceTypes := #[(.object "com/example/firstmover/firstmover/solver/lp/LpSolution$Status"), .double, (.array .double)]
  staticTypes := #[]
  resolved := Array.replicate 137 none
  statics := none }

def pool8 : Array CpInfo := pool [(2, .class_ 4), (1, u "java/lang/CharSequence"), (42, .class_ 48), (0, u "java/lang/CharSequence$1CodePointIterator"), (10, .class_ 60), (0, u "java/lang/CharSequence$1CharIterator"), (5, .class_ 67), (0, u "java/lang/Object")] 63

/-- java/lang/CharSequence -/
def k8 : Class := { plain "java/lang/CharSequence" (some 0) with
  accessFlags := 1537
  interfaces := #[]
  cf := some (fileOf pool8 2 #[.nestMembers #[47, 59]] #[] 1537 66 #[] #[])
  fields := #[]
  methods := #[]
  instanceTypes := #[]
  staticTypes := #[]
  resolved := Array.replicate 131 none
  statics := none }

def pool9 : Array CpInfo := pool [(1, .class_ 2), (0, u "java/lang/constant/ConstantDesc"), (0, .class_ 4), (0, u "java/lang/Object")] 32

/-- java/lang/constant/ConstantDesc -/
def k9 : Class := { plain "java/lang/constant/ConstantDesc" (some 0) with
  accessFlags := 1537
  interfaces := #[]
  cf := some (fileOf pool9 1 #[] #[] 1537 3 #[] #[])
  fields := #[]
  methods := #[]
  instanceTypes := #[]
  staticTypes := #[]
  resolved := Array.replicate 37 none
  statics := none }

def pool10 : Array CpInfo := pool [(2, .class_ 4), (1, u "java/lang/Object"), (0, u "<init>"), (0, u "()V"), (3, .class_ 12), (1, u "java/lang/String"), (0, u "value"), (0, u "[B"), (2, u "coder"), (0, u "B"), (2, u "hash"), (0, u "I"), (2, u "hashIsZero"), (0, u "Z"), (13, u "COMPACT_STRINGS"), (534, .class_ 576), (0, u "java/lang/CharSequence"), (22, u "CASE_INSENSITIVE_ORDER"), (0, u "Ljava/util/Comparator;"), (500, u "serialPersistentFields"), (0, u "[Ljava/io/ObjectStreamField;"), (0, .class_ 1104), (0, u "java/lang/String$CaseInsensitiveComparator"), (1, .class_ 1107), (0, u "java/io/Serializable"), (0, .class_ 1109), (0, u "java/lang/Comparable"), (0, .class_ 1111), (0, u "java/lang/constant/Constable"), (0, .class_ 1113), (0, u "java/lang/constant/ConstantDesc"), (2, u "serialVersionUID"), (0, u "J"), (3, u "REPL"), (0, u "C"), (2, u "LATIN1"), (1, u "UTF16")] 323

def k10m0 : Method := { name := "<init>", desc := "()V", sig := { parameters := [], returnType := none }, accessFlags := 1, code := none }
/-- java/lang/String -/
def k10 : Class := { plain "java/lang/String" (some 0) with
  accessFlags := 49
  interfaces := #[4, 3, 8, 2, 9]
  cf := some (fileOf pool10 10 #[.nestMembers #[1103]] #[{ accessFlags := 1, nameIndex := 5, descriptorIndex := 6, attributes := #[] }] 49 2 #[1106, 1108, 575, 1110, 1112] #[{ accessFlags := 18, nameIndex := 13, descriptorIndex := 14, attributes := #[] }, { accessFlags := 18, nameIndex := 17, descriptorIndex := 18, attributes := #[] }, { accessFlags := 2, nameIndex := 21, descriptorIndex := 22, attributes := #[] }, { accessFlags := 2, nameIndex := 25, descriptorIndex := 26, attributes := #[] }, { accessFlags := 26, nameIndex := 1116, descriptorIndex := 1117, attributes := #[] }, { accessFlags := 24, nameIndex := 40, descriptorIndex := 26, attributes := #[] }, { accessFlags := 26, nameIndex := 1101, descriptorIndex := 1102, attributes := #[] }, { accessFlags := 26, nameIndex := 1121, descriptorIndex := 1122, attributes := #[] }, { accessFlags := 25, nameIndex := 599, descriptorIndex := 600, attributes := #[] }, { accessFlags := 24, nameIndex := 1125, descriptorIndex := 18, attributes := #[] }, { accessFlags := 24, nameIndex := 1127, descriptorIndex := 18, attributes := #[] }])
  fields := #[{ name := "value", type := (.array .byte), accessFlags := 18, slot := 0, constantValue := 0 }, { name := "coder", type := .byte, accessFlags := 18, slot := 1, constantValue := 0 }, { name := "hash", type := .int, accessFlags := 2, slot := 2, constantValue := 0 }, { name := "hashIsZero", type := .boolean, accessFlags := 2, slot := 3, constantValue := 0 }, { name := "serialVersionUID", type := .long, accessFlags := 26, slot := 0, constantValue := 0 }, { name := "COMPACT_STRINGS", type := .boolean, accessFlags := 24, slot := 1, constantValue := 0 }, { name := "serialPersistentFields", type := (.array (.object "java/io/ObjectStreamField")), accessFlags := 26, slot := 2, constantValue := 0 }, { name := "REPL", type := .char, accessFlags := 26, slot := 3, constantValue := 0 }, { name := "CASE_INSENSITIVE_ORDER", type := (.object "java/util/Comparator"), accessFlags := 25, slot := 4, constantValue := 0 }, { name := "LATIN1", type := .byte, accessFlags := 24, slot := 5, constantValue := 0 }, { name := "UTF16", type := .byte, accessFlags := 24, slot := 6, constantValue := 0 }]
  methods := #[k10m0]
  instanceTypes := #[(.array .byte), .byte, .int, .boolean]
  staticTypes := #[.long, .boolean, (.array (.object "java/io/ObjectStreamField")), .char, (.object "java/util/Comparator"), .byte, .byte]
  resolved := Array.replicate 1451 none
  statics := none }

def pool11 : Array CpInfo := pool [(2, .class_ 4), (1, u "java/lang/Object"), (0, u "<init>"), (0, u "()V"), (35, .class_ 44), (1, u "java/util/Objects"), (0, u "requireNonNull"), (48, u "(Ljava/lang/Object;Ljava/lang/String;)Ljava/lang/Object;")] 89

def k11m0 : Method := { name := "<init>", desc := "()V", sig := { parameters := [], returnType := none }, accessFlags := 2, code := none }
def k11c1 : Code := { maxStack := 3, maxLocals := 2, code := jdk_31_method_11_code, exceptionTable := #[], attributes := #[] }
def k11m1 : Method := { name := "requireNonNull", desc := "(Ljava/lang/Object;Ljava/lang/String;)Ljava/lang/Object;", sig := { parameters := [(.object "java/lang/Object"), (.object "java/lang/String")], returnType := some (.object "java/lang/Object") }, accessFlags := 9, code := some k11c1 }
/-- java/util/Objects -/
def k11 : Class := { plain "java/util/Objects" (some 0) with
  accessFlags := 49
  interfaces := #[]
  cf := some (fileOf pool11 42 #[] #[{ accessFlags := 2, nameIndex := 5, descriptorIndex := 6, attributes := #[] }, { accessFlags := 9, nameIndex := 45, descriptorIndex := 94, attributes := #[] }] 49 2 #[] #[])
  fields := #[]
  methods := #[k11m0, k11m1]
  instanceTypes := #[]
  staticTypes := #[]
  resolved := Array.replicate 184 none
  statics := none }

def pool12 : Array CpInfo := pool [(1, u "java/lang/Cloneable"), (0, .class_ 1), (0, u "java/lang/Object"), (0, .class_ 3)] 3

/-- java/lang/Cloneable -/
def k12 : Class := { plain "java/lang/Cloneable" (some 0) with
  accessFlags := 1537
  interfaces := #[]
  cf := some (fileOf pool12 2 #[] #[] 1537 4 #[] #[])
  fields := #[]
  methods := #[]
  instanceTypes := #[]
  staticTypes := #[]
  resolved := Array.replicate 8 none
  statics := none }

/-- the primitive byte -/
def k13 : Class := { plain "byte" none with kind := .primitive 'B', accessFlags := 0x411 }
/-- [B -/
def k14 : Class := { plain "[B" (some 0) with kind := .array 13 .byte, interfaces := #[12, 4], accessFlags := 1041 }

/-- the primitive int -/
def k15 : Class := { plain "int" none with kind := .primitive 'I', accessFlags := 0x411 }
/-- [I -/
def k16 : Class := { plain "[I" (some 0) with kind := .array 15 .int, interfaces := #[12, 4], accessFlags := 1041 }

def heap : Heap := #[{ cls := 6, slots := #[.ref 1, .ref 2, .ref 3, .ref 4, .null], vm := .statics 6 },
  { cls := 6, slots := #[.null, .int 0, .int 0], vm := .none },
  { cls := 6, slots := #[.null, .int 1, .int 0], vm := .none },
  { cls := 6, slots := #[.null, .int 2, .int 0], vm := .none },
  { cls := 6, slots := #[.null, .int 3, .int 0], vm := .none }]
def classes : Array Class := #[k0, k1, k2, k3, k4, k5, k6, k7, k8, k9, k10, k11, k12, k13, k14, k15, k16]
def interned : List (Array UInt16 × Addr) := []
def slotsUsed : Nat := 17
def theMethod : MethodId := ⟨1, 1⟩
def args0 : Array Value := #[.int 5]
def aboutOver (below : List Frame) : State where
  vm := { classes := classes, interned := interned.toArray }
  heap := heap
  slotsUsed := slotsUsed
  threads := #[{ frames := .invoking theMethod args0 :: below }]
def below0 : List Frame := [.native { method := ⟨0, 0⟩, args := #[] }]
def about1 : State := aboutOver below0
def p0 : Program := .bare "" "" ""
def e0 : Env := launch0.env 0 0 0
theorem w_frames : about1.frames = Frame.invoking theMethod args0 :: below0 := rfl
set_option maxRecDepth 65536 in
theorem w_args : argsFit about1.vm theMethod args0 = true := by decide +kernel
set_option maxRecDepth 65536 in
theorem w_heap : heapFits about1 = true := by decide +kernel
set_option maxRecDepth 65536 in
theorem w_runnable : about1.curStatus? = some .runnable := by decide +kernel
set_option maxRecDepth 65536 in
theorem w_alone : about1.alone = true := by decide +kernel
set_option maxRecDepth 65536 in
theorem w_named : about1.methodNamed? x = some theMethod := by decide +kernel
set_option maxRecDepth 65536 in
theorem w_hears : about1.hears theMethod below0 = true := by decide +kernel
set_option maxRecDepth 65536 in
theorem w_ripe : about1.ripe theMethod args0 below0 = true := by decide +kernel
theorem w_running : about1.status = .running := rfl
set_option maxRecDepth 65536 in
theorem w_room : about1.hasRoom e0.platform room_1 = true :=
  launch0.hasRoom_least _ room_1 (by decide +kernel) (by decide +kernel) (by decide +kernel) (by decide +kernel) (by decide +kernel) (by decide +kernel)
theorem allAtoms_all (ts : List Jvm.Cond) (a : Array Jvm.Value) (st : Jvm.State) : (allAtoms ts).before a st = ts.all (fun c => c.before a st) := by
  induction ts with
  | nil => rfl
  | cons c t ih =>
    show (Jvm.Cond.and c (allAtoms t)).before a st = _
    rw [Jvm.Cond.before_and, ih, List.all_cons]
def words1 : List Jvm.Cond := Jvm.Cond.code x code maxLocals ret :: tables_1
/-- a 'code' word, met by the world's own term for the bytes: nothing is compared byte by byte -/
theorem code_word {y : MethodName} {bytes : ByteArray} {mx : Nat} {rt : Option FieldType} {a : Array Value} {s : State} {m : MethodId} {meth : Method} {c : Code} (h1 : s.methodNamed? y = some m) (h2 : s.vm.method? m = some meth) (h3 : meth.code = some c) (h4 : c.code = bytes)
    (h5 : (c.maxLocals == mx && c.exceptionTable.isEmpty && decide (c.maxStack ≤ mostOperands) && decide (meth.sig.returnType = rt) && !meth.locks && decide (parseMethodDescriptor y.desc = some meth.sig)) = true) : (Jvm.Cond.code y bytes mx rt).before a s = true := by
  simp only [Bool.and_eq_true, beq_iff_eq, Bool.not_eq_true', decide_eq_true_eq] at h5
  obtain ⟨⟨⟨⟨⟨g1, g2⟩, g3⟩, g4⟩, g5⟩, g6⟩ := h5
  simp [Cond.before, Cond.holds, Cond.value, h1, h2, h3, h4, g1, g2, g3, g4, g5, g6]
def isCode : Jvm.Cond → Bool
  | .code _ _ _ _ => true
  | _ => false
theorem all_split {L : List Jvm.Cond} {P : Jvm.Cond → Bool} (h1 : L.all (fun c => isCode c || P c) = true) (h2 : ∀ c ∈ L.filter isCode, P c = true) : L.all P = true := by
  refine List.all_eq_true.mpr fun c hc => ?_
  have h := List.all_eq_true.mp h1 c hc
  rcases Bool.eq_false_or_eq_true (isCode c) with hi | hi
  · exact h2 c (List.mem_filter.mpr ⟨hc, hi⟩)
  · simpa [hi] using h
set_option maxRecDepth 65536 in
theorem w_c0 : (Jvm.Cond.code x code maxLocals ret).before args0 about1 = true := code_word (m := ⟨1, 1⟩) (meth := k1m1) (c := k1c1) (by decide +kernel) rfl rfl rfl (by decide +kernel)
set_option maxRecDepth 65536 in
theorem w_c1 : (Jvm.Cond.code ({ cls := "com/example/firstmover/firstmover/solver/lp/LpSolution", name := "withoutOptimum", desc := "(Lcom/example/firstmover/firstmover/solver/lp/LpSolution$Status;)Lcom/example/firstmover/firstmover/solver/lp/LpSolution;" } : Jvm.MethodName) prog_23_method_4_code (1 : Nat) (Option.some (Jvm.ClassFile.FieldType.object "com/example/firstmover/firstmover/solver/lp/LpSolution"))).before args0 about1 = true := code_word (m := ⟨7, 1⟩) (meth := k7m1) (c := k7c1) (by decide +kernel) rfl rfl rfl (by decide +kernel)
set_option maxRecDepth 65536 in
theorem w_c2 : (Jvm.Cond.code ({ cls := "java/util/Objects", name := "requireNonNull", desc := "(Ljava/lang/Object;Ljava/lang/String;)Ljava/lang/Object;" } : Jvm.MethodName) jdk_31_method_11_code (2 : Nat) (Option.some (Jvm.ClassFile.FieldType.object "java/lang/Object"))).before args0 about1 = true := code_word (m := ⟨11, 1⟩) (meth := k11m1) (c := k11c1) (by decide +kernel) rfl rfl rfl (by decide +kernel)
set_option maxRecDepth 65536 in
theorem w_c3 : (Jvm.Cond.code ({ cls := "com/example/firstmover/firstmover/solver/lp/LpSolution", name := "<init>", desc := "(Lcom/example/firstmover/firstmover/solver/lp/LpSolution$Status;D[D)V" } : Jvm.MethodName) prog_23_method_1_code (5 : Nat) (Option.none : Option Jvm.ClassFile.FieldType)).before args0 about1 = true := code_word (m := ⟨7, 0⟩) (meth := k7m0) (c := k7c0) (by decide +kernel) rfl rfl rfl (by decide +kernel)
set_option maxRecDepth 65536 in
theorem w_c4 : (Jvm.Cond.code ({ cls := "java/lang/Object", name := "<init>", desc := "()V" } : Jvm.MethodName) object_method_1_code (1 : Nat) (Option.none : Option Jvm.ClassFile.FieldType)).before args0 about1 = true := code_word (m := ⟨0, 0⟩) (meth := k0m0) (c := k0c0) (by decide +kernel) rfl rfl rfl (by decide +kernel)
set_option maxRecDepth 65536 in
theorem w_c5 : (Jvm.Cond.code ({ cls := "com/example/firstmover/firstmover/solver/lp/LpSolution", name := "status", desc := "()Lcom/example/firstmover/firstmover/solver/lp/LpSolution$Status;" } : Jvm.MethodName) prog_23_method_6_code (1 : Nat) (Option.some (Jvm.ClassFile.FieldType.object "com/example/firstmover/firstmover/solver/lp/LpSolution$Status"))).before args0 about1 = true := code_word (m := ⟨7, 2⟩) (meth := k7m2) (c := k7c2) (by decide +kernel) rfl rfl rfl (by decide +kernel)
set_option maxRecDepth 65536 in
theorem w_c6 : (Jvm.Cond.code ({ cls := "com/example/firstmover/firstmover/solver/lp/LpSolution", name := "isOptimal", desc := "()Z" } : Jvm.MethodName) prog_23_method_7_code (1 : Nat) (Option.some Jvm.ClassFile.FieldType.boolean)).before args0 about1 = true := code_word (m := ⟨7, 3⟩) (meth := k7m3) (c := k7c3) (by decide +kernel) rfl rfl rfl (by decide +kernel)
set_option maxRecDepth 65536 in
theorem w_c7 : (Jvm.Cond.code ({ cls := "com/example/firstmover/firstmover/solver/lp/LpSolution", name := "hasPoint", desc := "()Z" } : Jvm.MethodName) prog_23_method_8_code (1 : Nat) (Option.some Jvm.ClassFile.FieldType.boolean)).before args0 about1 = true := code_word (m := ⟨7, 4⟩) (meth := k7m4) (c := k7c4) (by decide +kernel) rfl rfl rfl (by decide +kernel)
def codes1 : List Jvm.Cond := [Jvm.Cond.code x code maxLocals ret, Jvm.Cond.code ({ cls := "com/example/firstmover/firstmover/solver/lp/LpSolution", name := "withoutOptimum", desc := "(Lcom/example/firstmover/firstmover/solver/lp/LpSolution$Status;)Lcom/example/firstmover/firstmover/solver/lp/LpSolution;" } : Jvm.MethodName) prog_23_method_4_code (1 : Nat) (Option.some (Jvm.ClassFile.FieldType.object "com/example/firstmover/firstmover/solver/lp/LpSolution")), Jvm.Cond.code ({ cls := "java/util/Objects", name := "requireNonNull", desc := "(Ljava/lang/Object;Ljava/lang/String;)Ljava/lang/Object;" } : Jvm.MethodName) jdk_31_method_11_code (2 : Nat) (Option.some (Jvm.ClassFile.FieldType.object "java/lang/Object")), Jvm.Cond.code ({ cls := "com/example/firstmover/firstmover/solver/lp/LpSolution", name := "<init>", desc := "(Lcom/example/firstmover/firstmover/solver/lp/LpSolution$Status;D[D)V" } : Jvm.MethodName) prog_23_method_1_code (5 : Nat) (Option.none : Option Jvm.ClassFile.FieldType), Jvm.Cond.code ({ cls := "java/lang/Object", name := "<init>", desc := "()V" } : Jvm.MethodName) object_method_1_code (1 : Nat) (Option.none : Option Jvm.ClassFile.FieldType), Jvm.Cond.code ({ cls := "com/example/firstmover/firstmover/solver/lp/LpSolution", name := "status", desc := "()Lcom/example/firstmover/firstmover/solver/lp/LpSolution$Status;" } : Jvm.MethodName) prog_23_method_6_code (1 : Nat) (Option.some (Jvm.ClassFile.FieldType.object "com/example/firstmover/firstmover/solver/lp/LpSolution$Status")), Jvm.Cond.code ({ cls := "com/example/firstmover/firstmover/solver/lp/LpSolution", name := "isOptimal", desc := "()Z" } : Jvm.MethodName) prog_23_method_7_code (1 : Nat) (Option.some Jvm.ClassFile.FieldType.boolean), Jvm.Cond.code ({ cls := "com/example/firstmover/firstmover/solver/lp/LpSolution", name := "hasPoint", desc := "()Z" } : Jvm.MethodName) prog_23_method_8_code (1 : Nat) (Option.some Jvm.ClassFile.FieldType.boolean)]
set_option maxRecDepth 65536 in
theorem codes_eq : words1.filter isCode = codes1 := rfl
theorem w_codes : ∀ c ∈ words1.filter isCode, c.before args0 about1 = true := by
  rw [codes_eq]
  intro c hc
  simp only [codes1, List.mem_cons, List.not_mem_nil, or_false] at hc
  rcases hc with rfl | rfl | rfl | rfl | rfl | rfl | rfl | rfl
  · exact w_c0
  · exact w_c1
  · exact w_c2
  · exact w_c3
  · exact w_c4
  · exact w_c5
  · exact w_c6
  · exact w_c7
set_option maxRecDepth 65536 in
theorem w_t1 : (words1.take 24).all (fun c => isCode c || c.before args0 about1) = true := by decide +kernel
set_option maxRecDepth 65536 in
theorem w_t2 : ((words1.drop 24).take 24).all (fun c => isCode c || c.before args0 about1) = true := by decide +kernel
set_option maxRecDepth 65536 in
theorem w_t3 : ((words1.drop 24).drop 24).all (fun c => isCode c || c.before args0 about1) = true := by decide +kernel
theorem w_tables : (allAtoms (Jvm.Cond.code x code maxLocals ret :: tables_1)).before args0 about1 = true := by
  rw [allAtoms_all]
  show words1.all (fun c => c.before args0 about1) = true
  refine all_split ?_ w_codes
  rw [← List.take_append_drop 24 words1, List.all_append, w_t1, ← List.take_append_drop 24 (words1.drop 24), List.all_append, w_t2, w_t3]
  rfl
set_option maxRecDepth 65536 in
theorem w_case : (Jvm.Cond.and given_1 narrow_1).before args0 about1 = true := by decide +kernel
theorem w_applies : (headSpec (Jvm.Cond.code x code maxLocals ret :: tables_1) room_1).applies x e0.platform about1 = true :=
  (Spec.applies_iff w_frames).mpr ⟨w_running, w_runnable, w_alone, w_named, w_hears, w_ripe, w_room, w_tables⟩
theorem atStart : AtStart classFile x code maxLocals ret World_1 tables_1 room_1 Calls_1 rest_1 Pre_1 launch0 p0 e0 about1 theMethod args0 below0 :=
  ⟨lists_1, trivial, launch0.admits_env _ _ _, launch0.least_env, fairChoices_fair.cas, fairChoices_fair.clock, w_frames, w_args, w_heap, w_applies, trivial, trivial, w_case⟩
end start1
theorem witness_1 : WitnessClaimed_1 := ⟨start1.p0, start1.e0, start1.about1, start1.theMethod, start1.args0, start1.below0, start1.atStart⟩
end Jvm.Pilot.@@N@@
