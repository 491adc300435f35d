import JvmDerived
import JvmDerived.Pilot.@@N@@Statement
import JvmDerived.Pilot.@@N@@Code
set_option linter.unusedVariables false
set_option linter.unusedSimpArgs false
namespace Jvm.RoadKit
open Sem ClassFile Op Lib Jvm.Stand Jvm.Free Jvm.LawKit
section New
variable {p : Program} {l : Launch} {e : Env} {R : Room} {s : State} {m : MethodId} {args : Array Value} {below : List Frame} {meth : Method} {c : Code} {T : State} {locs : List Loc} {cells slots : Nat}
theorem retI (X : Stand p l e R s m args below meth c T locs cells slots) (hx : p.tables.exec = Jvm.exec) {pc : Nat} {Ls : Array Slot} {z : Int32} {rest : List Value} (hret : meth.sig.returnType = some .int) (hd : decode c.code pc = .ok (.ireturn, 1)) {fs : List Frame}
    (hl : ∀ (f : JFrame) (acts : List Action), f.method = m → f.locked = none → f.entered = [] → (doReturn e (T.setTop f) acts (some (.int z))).1 = T.setFrames fs) : Steps p.tables e below (T.setTop (mkF m pc Ls (.int z :: rest))) (T.setFrames fs) := by
  have hm' : T.vm.method? m = some meth := X.method'
  have hn : narrow .int (.int z) = .int z := rfl
  show Steps p.tables e below (T.setTop { method := m, pc := pc, locals := Ls, stack := _ :: rest, locked := none }) _
  jvm_step X.here [X.here.top, hx, hd, hm', hret, hn]
  first | (intro acts; rw [hl _ acts rfl rfl rfl]) | rw [hl _ _ rfl rfl rfl]
  exact Steps.refl _
end New
end Jvm.RoadKit
namespace Jvm.Pilot.@@N@@
open Jvm Jvm.ClassFile Sem Op Lib Jvm.Free Jvm.Stand Jvm.LawKit Jvm.RoadKit Bundle Jvm.Pilot.@@N@@.Jvm.D
theorem own_le {Z : State} {n0 : Nat} {h : Heap} (O : Old Z n0 h) : n0 ≤ h.size := O.1 ▸ O.2.1
def own_Q (r : Value) (h0 : Heap) (n0 : Nat) (v : Option Value) (h : Heap) (L : List Loc) : Prop := v = some r ∧ Fr n0 L ∧ h = h0
def own_Qn (h0 : Heap) (n0 : Nat) (v : Option Value) (h : Heap) (L : List Loc) : Prop := v = none ∧ Fr n0 L ∧ h = h0
def own_R (n0 : Nat) (v : Option Value) (h : Heap) (L : List Loc) : Prop := v = some (.int (1 : Int32)) ∧ Fr n0 L
theorem own_ne {args : Array Value} {s : State} {t u : Term} {K n d : String} {a b : Addr} {i j : Int32} (ht : t.eval args s none [] s = some (.ref a)) (hu : u.eval args s none [] s = some (.ref b))
    (h1 : (Jvm.Cond.eq (Term.field t K n d) (Term.int i)).value args s none s [] = some true) (h2 : (Jvm.Cond.eq (Term.field u K n d) (Term.int j)).value args s none s [] = some true) (hij : i ≠ j) : ¬ a = b := by
  intro e
  subst e
  obtain ⟨v, e1, e2⟩ := Cond.eq_worth h1
  obtain ⟨v', e3, e4⟩ := Cond.eq_worth h2
  rw [fld_at ht] at e1
  rw [fld_at hu] at e3
  have q1 : v = .int i := Option.some.inj (e2.symm.trans (Term.int_eval i))
  have q2 : v' = .int j := Option.some.inj (e4.symm.trans (Term.int_eval j))
  have q3 : v = v' := Option.some.inj (e1.symm.trans e3)
  rw [q1, q2] at q3
  exact hij (by injection q3)
theorem own_mod (p n : Int32) (hn : 0 < n.toInt) : 0 ≤ ((p &&& (2147483647 : Int32)) % n).toInt ∧ ((p &&& (2147483647 : Int32)) % n).toInt < n.toInt := by
  have e1 := c_mask p 2147483647 31 (by decide) (by decide)
  have e2 : 0 ≤ (p &&& (2147483647 : Int32)).toInt := by rw [e1]; exact Int.emod_nonneg _ (by decide)
  rw [Int32.toInt_mod, Int.tmod_eq_emod_of_nonneg e2]
  exact ⟨Int.emod_nonneg _ (by omega), Int.emod_lt_of_pos _ hn⟩
theorem own_mod5 (p : Int32) : ((p &&& (2147483647 : Int32)) % (5 : Int32)) = (0 : Int32) ∨ ((p &&& (2147483647 : Int32)) % (5 : Int32)) = (1 : Int32) ∨ ((p &&& (2147483647 : Int32)) % (5 : Int32)) = (2 : Int32) ∨ ((p &&& (2147483647 : Int32)) % (5 : Int32)) = (3 : Int32) ∨ ((p &&& (2147483647 : Int32)) % (5 : Int32)) = (4 : Int32) := by
  have h := own_mod p (5 : Int32) (by decide)
  generalize ((p &&& (2147483647 : Int32)) % (5 : Int32)) = i at h ⊢
  have hn : (5 : Int32).toInt = 5 := by decide
  have hk : i.toInt = 0 ∨ i.toInt = 1 ∨ i.toInt = 2 ∨ i.toInt = 3 ∨ i.toInt = 4 := by omega
  rcases hk with hk | hk | hk | hk | hk
  · exact Or.inl (Int32.toInt_inj.mp (hk.trans (by decide)))
  · exact Or.inr (Or.inl (Int32.toInt_inj.mp (hk.trans (by decide))))
  · exact Or.inr (Or.inr (Or.inl (Int32.toInt_inj.mp (hk.trans (by decide)))))
  · exact Or.inr (Or.inr (Or.inr (Or.inl (Int32.toInt_inj.mp (hk.trans (by decide))))))
  · exact Or.inr (Or.inr (Or.inr (Or.inr ((Int32.toInt_inj.mp (hk.trans (by decide)))))))
theorem d1_0 : decode prog_24_method_4_code 0 = .ok (.aload_n 0, 1) := by decide +kernel
theorem d1_1 : decode prog_24_method_4_code 1 = .ok (.getstatic 10, 3) := by decide +kernel
theorem d1_4 : decode prog_24_method_4_code 4 = .ok (.if_acmp .eq 17, 3) := by decide +kernel
theorem d1_21 : decode prog_24_method_4_code 21 = .ok (.iconst 1, 1) := by decide +kernel
theorem d1_22 : decode prog_24_method_4_code 22 = .ok (.goto 4, 3) := by decide +kernel
theorem d1_26 : decode prog_24_method_4_code 26 = .ok (.ireturn, 1) := by decide +kernel
theorem ef_1 (m : MethodId) (x0 : Addr) : entryFrame m #[(.ref x0)] 1 = mkF m 0 #[.val (.ref x0)] [] := by first | (simp [entryFrame, mkF, argsToLocals, Value.category]; done) | rfl
theorem pn_1 : plainName "com/example/detaq/detaq/core/TaskStatus" = true := by first | (simp [plainName, overriddenIn]; done) | decide +kernel
set_option maxRecDepth 65536 in
set_option maxHeartbeats 40000000 in
theorem rm1A (l : Launch) (Z : State) (a0 : Array Value) (hw : ∀ d ∈ tables_1, d.before a0 Z = true) (ws : List Jvm.Cond) (o0 : Addr) (wA : Addr) (wB : Addr) (wC : Addr) (h0 : Heap) (n0 : Nat) (O0 : Old Z n0 h0) (S_SUCCEEDED : Sta Z Z.heap "com/example/detaq/detaq/core/TaskStatus" "SUCCEEDED" "Lcom/example/detaq/detaq/core/TaskStatus;" (.ref wA)) (S_FAILED : Sta Z Z.heap "com/example/detaq/detaq/core/TaskStatus" "FAILED" "Lcom/example/detaq/detaq/core/TaskStatus;" (.ref wB)) (S_CANCELED : Sta Z Z.heap "com/example/detaq/detaq/core/TaskStatus" "CANCELED" "Lcom/example/detaq/detaq/core/TaskStatus;" (.ref wC)) (ha4 : o0 = wA) :
    MetFree l (⟨"com/example/detaq/detaq/core/TaskStatus", "isFinal", "()Z"⟩ : MethodName) (head1 (Jvm.Cond.code (⟨"com/example/detaq/detaq/core/TaskStatus", "isFinal", "()Z"⟩ : MethodName) prog_24_method_4_code 1 (some .boolean) :: ws) ({ frames := 0, cells := 0, slots := 0, locals := 0 } : Room)) (fun a U => a = #[(.ref o0)] ∧ Z.Warmed39 U.vm ∧ U.heap = h0) (fun _ _ _ _ _ => True) (fun _ U o U' => ∃ v L, o = .returned v ∧ own_Q (.int (1 : Int32)) h0 n0 v U'.heap L ∧ FrameEnd U o U' L ({ frames := 0, cells := 0, slots := 0, locals := 0 } : Room).cells ({ frames := 0, cells := 0, slots := 0, locals := 0 } : Room).slots) := by
  refine MetFree.of_bodySF (plainFor_of_name pn_1) hisR ?_
  intro p e s m args below meth c s₁ Bd hml0 hP hK
  obtain ⟨rfl, hZ, hh⟩ := hP
  have hx := Bd.exec
  have hby := Bd.bytes
  have hml : c.maxLocals = 1 := hml0
  have hown : s.vm.findClass "com/example/detaq/detaq/core/TaskStatus" = some m.cls := findClass_of_methodNamed Bd.named
  have hnm := (name_of_methodNamed Bd.named Bd.method).1
  have X0 : Stand p l e ({ frames := 0, cells := 0, slots := 0, locals := 0 } : Room) s m #[(.ref o0)] below meth c s₁ [] 0 0 := Stand.of_body Bd
  have e0 : s₁.heap = h0 := by rw [← hh, Bd.state]; rfl
  have N0 := Fr.nil n0
  have pre0 : ∀ t, Steps p.tables e below (s₁.setTop (mkF m 0 #[.val (.ref o0)] [])) t → Steps p.tables e below (s₁.setTop (entryFrame m #[(.ref o0)] 1)) t := fun t k => castTop (ef_1 m o0) k
  obtain ⟨T1, X1, e1, st1⟩ := getS2 X0 hx hZ hown (host := "") (Or.inl (hw _ (List.mem_of_getElem? (i := 21) rfl))) Via.refl e0 (S_SUCCEEDED.ext O0.2) (g := (mkF m 1 #[.val (.ref o0)] [(.ref o0)])) rfl (hb hby d1_1)
  obtain ⟨fs, hr, hrun, hended, hW, hsame⟩ := X1.leave (v := some (.int (1 : Int32))) (fun h => by rw [Bd.returns] at h; cases h)
  refine ⟨_, _, pre0 _ ?_, hrun, hended, _, _, rfl, ?_, ⟨_, rfl⟩, hW, hsame.mono (by decide) (by decide)⟩
  · show Steps p.tables e below (s₁.setTop (mkF m 0 #[.val (.ref o0)] [])) _
    refine XS.aloadN X0.here hx rfl (hb hby d1_0) rfl rfl ?_
    show Steps p.tables e below (s₁.setTop (mkF m 1 #[.val (.ref o0)] [(.ref o0)])) _
    refine st1 _ ?_
    show Steps p.tables e below (T1.setTop (mkF m 4 #[.val (.ref o0)] [(.ref wA), (.ref o0)])) _
    refine Jvm.RoadKit.acmp (g := (mkF m 4 #[.val (.ref o0)] [(.ref wA), (.ref o0)])) X1 hx rfl rfl rfl (pc0 := 4) (pc' := 21) (same := true) rfl (hb hby d1_4) rfl (decide_eq_true (congrArg Value.ref ha4)) (by decide) (by decide) ?_
    show Steps p.tables e below (T1.setTop (mkF m 21 #[.val (.ref o0)] [])) _
    refine XS.iconst X1.here hx rfl (hb hby d1_21) ?_
    show Steps p.tables e below (T1.setTop (mkF m 22 #[.val (.ref o0)] [(.int (1 : Int32))])) _
    refine XS.goto X1.here hx rfl (pc0 := 22) (pc' := 26) rfl (hb hby d1_22) (by decide) (by decide) ?_
    show Steps p.tables e below (T1.setTop (mkF m 26 #[.val (.ref o0)] [(.int (1 : Int32))])) _
    exact retN X1 hx (t := .boolean) Bd.returns (by simp) (hb hby d1_26) hr
  · show own_Q (.int (1 : Int32)) h0 n0 _ T1.heap _
    rw [e1]
    exact ⟨rfl, N0, rfl⟩
theorem d1_7 : decode prog_24_method_4_code 7 = .ok (.aload_n 0, 1) := by decide +kernel
theorem d1_8 : decode prog_24_method_4_code 8 = .ok (.getstatic 13, 3) := by decide +kernel
theorem d1_11 : decode prog_24_method_4_code 11 = .ok (.if_acmp .eq 10, 3) := by decide +kernel
set_option maxRecDepth 65536 in
set_option maxHeartbeats 40000000 in
theorem rm1B (l : Launch) (Z : State) (a0 : Array Value) (hw : ∀ d ∈ tables_1, d.before a0 Z = true) (ws : List Jvm.Cond) (o0 : Addr) (wA : Addr) (wB : Addr) (wC : Addr) (h0 : Heap) (n0 : Nat) (O0 : Old Z n0 h0) (S_SUCCEEDED : Sta Z Z.heap "com/example/detaq/detaq/core/TaskStatus" "SUCCEEDED" "Lcom/example/detaq/detaq/core/TaskStatus;" (.ref wA)) (S_FAILED : Sta Z Z.heap "com/example/detaq/detaq/core/TaskStatus" "FAILED" "Lcom/example/detaq/detaq/core/TaskStatus;" (.ref wB)) (S_CANCELED : Sta Z Z.heap "com/example/detaq/detaq/core/TaskStatus" "CANCELED" "Lcom/example/detaq/detaq/core/TaskStatus;" (.ref wC)) (ha4 : ¬ (o0 = wA)) (ha11 : o0 = wB) :
    MetFree l (⟨"com/example/detaq/detaq/core/TaskStatus", "isFinal", "()Z"⟩ : MethodName) (head1 (Jvm.Cond.code (⟨"com/example/detaq/detaq/core/TaskStatus", "isFinal", "()Z"⟩ : MethodName) prog_24_method_4_code 1 (some .boolean) :: ws) ({ frames := 0, cells := 0, slots := 0, locals := 0 } : Room)) (fun a U => a = #[(.ref o0)] ∧ Z.Warmed39 U.vm ∧ U.heap = h0) (fun _ _ _ _ _ => True) (fun _ U o U' => ∃ v L, o = .returned v ∧ own_Q (.int (1 : Int32)) h0 n0 v U'.heap L ∧ FrameEnd U o U' L ({ frames := 0, cells := 0, slots := 0, locals := 0 } : Room).cells ({ frames := 0, cells := 0, slots := 0, locals := 0 } : Room).slots) := by
  refine MetFree.of_bodySF (plainFor_of_name pn_1) hisR ?_
  intro p e s m args below meth c s₁ Bd hml0 hP hK
  obtain ⟨rfl, hZ, hh⟩ := hP
  have hx := Bd.exec
  have hby := Bd.bytes
  have hml : c.maxLocals = 1 := hml0
  have hown : s.vm.findClass "com/example/detaq/detaq/core/TaskStatus" = some m.cls := findClass_of_methodNamed Bd.named
  have hnm := (name_of_methodNamed Bd.named Bd.method).1
  have X0 : Stand p l e ({ frames := 0, cells := 0, slots := 0, locals := 0 } : Room) s m #[(.ref o0)] below meth c s₁ [] 0 0 := Stand.of_body Bd
  have e0 : s₁.heap = h0 := by rw [← hh, Bd.state]; rfl
  have N0 := Fr.nil n0
  have pre0 : ∀ t, Steps p.tables e below (s₁.setTop (mkF m 0 #[.val (.ref o0)] [])) t → Steps p.tables e below (s₁.setTop (entryFrame m #[(.ref o0)] 1)) t := fun t k => castTop (ef_1 m o0) k
  obtain ⟨T1, X1, e1, st1⟩ := getS2 X0 hx hZ hown (host := "") (Or.inl (hw _ (List.mem_of_getElem? (i := 21) rfl))) Via.refl e0 (S_SUCCEEDED.ext O0.2) (g := (mkF m 1 #[.val (.ref o0)] [(.ref o0)])) rfl (hb hby d1_1)
  obtain ⟨T2, X2, e2, st2⟩ := getS2 X1 hx hZ hown (host := "") (Or.inl (hw _ (List.mem_of_getElem? (i := 22) rfl))) Via.refl e1 (S_FAILED.ext O0.2) (g := (mkF m 8 #[.val (.ref o0)] [(.ref o0)])) rfl (hb hby d1_8)
  obtain ⟨fs, hr, hrun, hended, hW, hsame⟩ := X2.leave (v := some (.int (1 : Int32))) (fun h => by rw [Bd.returns] at h; cases h)
  refine ⟨_, _, pre0 _ ?_, hrun, hended, _, _, rfl, ?_, ⟨_, rfl⟩, hW, hsame.mono (by decide) (by decide)⟩
  · show Steps p.tables e below (s₁.setTop (mkF m 0 #[.val (.ref o0)] [])) _
    refine XS.aloadN X0.here hx rfl (hb hby d1_0) rfl rfl ?_
    show Steps p.tables e below (s₁.setTop (mkF m 1 #[.val (.ref o0)] [(.ref o0)])) _
    refine st1 _ ?_
    show Steps p.tables e below (T1.setTop (mkF m 4 #[.val (.ref o0)] [(.ref wA), (.ref o0)])) _
    refine Jvm.RoadKit.acmp (g := (mkF m 4 #[.val (.ref o0)] [(.ref wA), (.ref o0)])) X1 hx rfl rfl rfl (pc0 := 4) (pc' := 7) (same := false) rfl (hb hby d1_4) rfl (decide_eq_false fun q => ha4 (Value.ref.inj q)) (by decide) (by decide) ?_
    show Steps p.tables e below (T1.setTop (mkF m 7 #[.val (.ref o0)] [])) _
    refine XS.aloadN X1.here hx rfl (hb hby d1_7) rfl rfl ?_
    show Steps p.tables e below (T1.setTop (mkF m 8 #[.val (.ref o0)] [(.ref o0)])) _
    refine st2 _ ?_
    show Steps p.tables e below (T2.setTop (mkF m 11 #[.val (.ref o0)] [(.ref wB), (.ref o0)])) _
    refine Jvm.RoadKit.acmp (g := (mkF m 11 #[.val (.ref o0)] [(.ref wB), (.ref o0)])) X2 hx rfl rfl rfl (pc0 := 11) (pc' := 21) (same := true) rfl (hb hby d1_11) rfl (decide_eq_true (congrArg Value.ref ha11)) (by decide) (by decide) ?_
    show Steps p.tables e below (T2.setTop (mkF m 21 #[.val (.ref o0)] [])) _
    refine XS.iconst X2.here hx rfl (hb hby d1_21) ?_
    show Steps p.tables e below (T2.setTop (mkF m 22 #[.val (.ref o0)] [(.int (1 : Int32))])) _
    refine XS.goto X2.here hx rfl (pc0 := 22) (pc' := 26) rfl (hb hby d1_22) (by decide) (by decide) ?_
    show Steps p.tables e below (T2.setTop (mkF m 26 #[.val (.ref o0)] [(.int (1 : Int32))])) _
    exact retN X2 hx (t := .boolean) Bd.returns (by simp) (hb hby d1_26) hr
  · show own_Q (.int (1 : Int32)) h0 n0 _ T2.heap _
    rw [e2]
    exact ⟨rfl, N0, rfl⟩
theorem d1_14 : decode prog_24_method_4_code 14 = .ok (.aload_n 0, 1) := by decide +kernel
theorem d1_15 : decode prog_24_method_4_code 15 = .ok (.getstatic 16, 3) := by decide +kernel
theorem d1_18 : decode prog_24_method_4_code 18 = .ok (.if_acmp .ne 7, 3) := by decide +kernel
set_option maxRecDepth 65536 in
set_option maxHeartbeats 40000000 in
theorem rm1C (l : Launch) (Z : State) (a0 : Array Value) (hw : ∀ d ∈ tables_1, d.before a0 Z = true) (ws : List Jvm.Cond) (o0 : Addr) (wA : Addr) (wB : Addr) (wC : Addr) (h0 : Heap) (n0 : Nat) (O0 : Old Z n0 h0) (S_SUCCEEDED : Sta Z Z.heap "com/example/detaq/detaq/core/TaskStatus" "SUCCEEDED" "Lcom/example/detaq/detaq/core/TaskStatus;" (.ref wA)) (S_FAILED : Sta Z Z.heap "com/example/detaq/detaq/core/TaskStatus" "FAILED" "Lcom/example/detaq/detaq/core/TaskStatus;" (.ref wB)) (S_CANCELED : Sta Z Z.heap "com/example/detaq/detaq/core/TaskStatus" "CANCELED" "Lcom/example/detaq/detaq/core/TaskStatus;" (.ref wC)) (ha4 : ¬ (o0 = wA)) (ha11 : ¬ (o0 = wB)) (ha18 : o0 = wC) :
    MetFree l (⟨"com/example/detaq/detaq/core/TaskStatus", "isFinal", "()Z"⟩ : MethodName) (head1 (Jvm.Cond.code (⟨"com/example/detaq/detaq/core/TaskStatus", "isFinal", "()Z"⟩ : MethodName) prog_24_method_4_code 1 (some .boolean) :: ws) ({ frames := 0, cells := 0, slots := 0, locals := 0 } : Room)) (fun a U => a = #[(.ref o0)] ∧ Z.Warmed39 U.vm ∧ U.heap = h0) (fun _ _ _ _ _ => True) (fun _ U o U' => ∃ v L, o = .returned v ∧ own_Q (.int (1 : Int32)) h0 n0 v U'.heap L ∧ FrameEnd U o U' L ({ frames := 0, cells := 0, slots := 0, locals := 0 } : Room).cells ({ frames := 0, cells := 0, slots := 0, locals := 0 } : Room).slots) := by
  refine MetFree.of_bodySF (plainFor_of_name pn_1) hisR ?_
  intro p e s m args below meth c s₁ Bd hml0 hP hK
  obtain ⟨rfl, hZ, hh⟩ := hP
  have hx := Bd.exec
  have hby := Bd.bytes
  have hml : c.maxLocals = 1 := hml0
  have hown : s.vm.findClass "com/example/detaq/detaq/core/TaskStatus" = some m.cls := findClass_of_methodNamed Bd.named
  have hnm := (name_of_methodNamed Bd.named Bd.method).1
  have X0 : Stand p l e ({ frames := 0, cells := 0, slots := 0, locals := 0 } : Room) s m #[(.ref o0)] below meth c s₁ [] 0 0 := Stand.of_body Bd
  have e0 : s₁.heap = h0 := by rw [← hh, Bd.state]; rfl
  have N0 := Fr.nil n0
  have pre0 : ∀ t, Steps p.tables e below (s₁.setTop (mkF m 0 #[.val (.ref o0)] [])) t → Steps p.tables e below (s₁.setTop (entryFrame m #[(.ref o0)] 1)) t := fun t k => castTop (ef_1 m o0) k
  obtain ⟨T1, X1, e1, st1⟩ := getS2 X0 hx hZ hown (host := "") (Or.inl (hw _ (List.mem_of_getElem? (i := 21) rfl))) Via.refl e0 (S_SUCCEEDED.ext O0.2) (g := (mkF m 1 #[.val (.ref o0)] [(.ref o0)])) rfl (hb hby d1_1)
  obtain ⟨T2, X2, e2, st2⟩ := getS2 X1 hx hZ hown (host := "") (Or.inl (hw _ (List.mem_of_getElem? (i := 22) rfl))) Via.refl e1 (S_FAILED.ext O0.2) (g := (mkF m 8 #[.val (.ref o0)] [(.ref o0)])) rfl (hb hby d1_8)
  obtain ⟨T3, X3, e3, st3⟩ := getS2 X2 hx hZ hown (host := "") (Or.inl (hw _ (List.mem_of_getElem? (i := 23) rfl))) Via.refl e2 (S_CANCELED.ext O0.2) (g := (mkF m 15 #[.val (.ref o0)] [(.ref o0)])) rfl (hb hby d1_15)
  obtain ⟨fs, hr, hrun, hended, hW, hsame⟩ := X3.leave (v := some (.int (1 : Int32))) (fun h => by rw [Bd.returns] at h; cases h)
  refine ⟨_, _, pre0 _ ?_, hrun, hended, _, _, rfl, ?_, ⟨_, rfl⟩, hW, hsame.mono (by decide) (by decide)⟩
  · show Steps p.tables e below (s₁.setTop (mkF m 0 #[.val (.ref o0)] [])) _
    refine XS.aloadN X0.here hx rfl (hb hby d1_0) rfl rfl ?_
    show Steps p.tables e below (s₁.setTop (mkF m 1 #[.val (.ref o0)] [(.ref o0)])) _
    refine st1 _ ?_
    show Steps p.tables e below (T1.setTop (mkF m 4 #[.val (.ref o0)] [(.ref wA), (.ref o0)])) _
    refine Jvm.RoadKit.acmp (g := (mkF m 4 #[.val (.ref o0)] [(.ref wA), (.ref o0)])) X1 hx rfl rfl rfl (pc0 := 4) (pc' := 7) (same := false) rfl (hb hby d1_4) rfl (decide_eq_false fun q => ha4 (Value.ref.inj q)) (by decide) (by decide) ?_
    show Steps p.tables e below (T1.setTop (mkF m 7 #[.val (.ref o0)] [])) _
    refine XS.aloadN X1.here hx rfl (hb hby d1_7) rfl rfl ?_
    show Steps p.tables e below (T1.setTop (mkF m 8 #[.val (.ref o0)] [(.ref o0)])) _
    refine st2 _ ?_
    show Steps p.tables e below (T2.setTop (mkF m 11 #[.val (.ref o0)] [(.ref wB), (.ref o0)])) _
    refine Jvm.RoadKit.acmp (g := (mkF m 11 #[.val (.ref o0)] [(.ref wB), (.ref o0)])) X2 hx rfl rfl rfl (pc0 := 11) (pc' := 14) (same := false) rfl (hb hby d1_11) rfl (decide_eq_false fun q => ha11 (Value.ref.inj q)) (by decide) (by decide) ?_
    show Steps p.tables e below (T2.setTop (mkF m 14 #[.val (.ref o0)] [])) _
    refine XS.aloadN X2.here hx rfl (hb hby d1_14) rfl rfl ?_
    show Steps p.tables e below (T2.setTop (mkF m 15 #[.val (.ref o0)] [(.ref o0)])) _
    refine st3 _ ?_
    show Steps p.tables e below (T3.setTop (mkF m 18 #[.val (.ref o0)] [(.ref wC), (.ref o0)])) _
    refine Jvm.RoadKit.acmp (g := (mkF m 18 #[.val (.ref o0)] [(.ref wC), (.ref o0)])) X3 hx rfl rfl rfl (pc0 := 18) (pc' := 21) (same := true) rfl (hb hby d1_18) rfl (decide_eq_true (congrArg Value.ref ha18)) (by decide) (by decide) ?_
    show Steps p.tables e below (T3.setTop (mkF m 21 #[.val (.ref o0)] [])) _
    refine XS.iconst X3.here hx rfl (hb hby d1_21) ?_
    show Steps p.tables e below (T3.setTop (mkF m 22 #[.val (.ref o0)] [(.int (1 : Int32))])) _
    refine XS.goto X3.here hx rfl (pc0 := 22) (pc' := 26) rfl (hb hby d1_22) (by decide) (by decide) ?_
    show Steps p.tables e below (T3.setTop (mkF m 26 #[.val (.ref o0)] [(.int (1 : Int32))])) _
    exact retN X3 hx (t := .boolean) Bd.returns (by simp) (hb hby d1_26) hr
  · show own_Q (.int (1 : Int32)) h0 n0 _ T3.heap _
    rw [e3]
    exact ⟨rfl, N0, rfl⟩
theorem d1_25 : decode prog_24_method_4_code 25 = .ok (.iconst 0, 1) := by decide +kernel
set_option maxRecDepth 65536 in
set_option maxHeartbeats 40000000 in
theorem rm1N (l : Launch) (Z : State) (a0 : Array Value) (hw : ∀ d ∈ tables_1, d.before a0 Z = true) (ws : List Jvm.Cond) (o0 : Addr) (wA : Addr) (wB : Addr) (wC : Addr) (h0 : Heap) (n0 : Nat) (O0 : Old Z n0 h0) (S_SUCCEEDED : Sta Z Z.heap "com/example/detaq/detaq/core/TaskStatus" "SUCCEEDED" "Lcom/example/detaq/detaq/core/TaskStatus;" (.ref wA)) (S_FAILED : Sta Z Z.heap "com/example/detaq/detaq/core/TaskStatus" "FAILED" "Lcom/example/detaq/detaq/core/TaskStatus;" (.ref wB)) (S_CANCELED : Sta Z Z.heap "com/example/detaq/detaq/core/TaskStatus" "CANCELED" "Lcom/example/detaq/detaq/core/TaskStatus;" (.ref wC)) (ha4 : ¬ (o0 = wA)) (ha11 : ¬ (o0 = wB)) (ha18 : ¬ (o0 = wC)) :
    MetFree l (⟨"com/example/detaq/detaq/core/TaskStatus", "isFinal", "()Z"⟩ : MethodName) (head1 (Jvm.Cond.code (⟨"com/example/detaq/detaq/core/TaskStatus", "isFinal", "()Z"⟩ : MethodName) prog_24_method_4_code 1 (some .boolean) :: ws) ({ frames := 0, cells := 0, slots := 0, locals := 0 } : Room)) (fun a U => a = #[(.ref o0)] ∧ Z.Warmed39 U.vm ∧ U.heap = h0) (fun _ _ _ _ _ => True) (fun _ U o U' => ∃ v L, o = .returned v ∧ own_Q (.int (0 : Int32)) h0 n0 v U'.heap L ∧ FrameEnd U o U' L ({ frames := 0, cells := 0, slots := 0, locals := 0 } : Room).cells ({ frames := 0, cells := 0, slots := 0, locals := 0 } : Room).slots) := by
  refine MetFree.of_bodySF (plainFor_of_name pn_1) hisR ?_
  intro p e s m args below meth c s₁ Bd hml0 hP hK
  obtain ⟨rfl, hZ, hh⟩ := hP
  have hx := Bd.exec
  have hby := Bd.bytes
  have hml : c.maxLocals = 1 := hml0
  have hown : s.vm.findClass "com/example/detaq/detaq/core/TaskStatus" = some m.cls := findClass_of_methodNamed Bd.named
  have hnm := (name_of_methodNamed Bd.named Bd.method).1
  have X0 : Stand p l e ({ frames := 0, cells := 0, slots := 0, locals := 0 } : Room) s m #[(.ref o0)] below meth c s₁ [] 0 0 := Stand.of_body Bd
  have e0 : s₁.heap = h0 := by rw [← hh, Bd.state]; rfl
  have N0 := Fr.nil n0
  have pre0 : ∀ t, Steps p.tables e below (s₁.setTop (mkF m 0 #[.val (.ref o0)] [])) t → Steps p.tables e below (s₁.setTop (entryFrame m #[(.ref o0)] 1)) t := fun t k => castTop (ef_1 m o0) k
  obtain ⟨T1, X1, e1, st1⟩ := getS2 X0 hx hZ hown (host := "") (Or.inl (hw _ (List.mem_of_getElem? (i := 21) rfl))) Via.refl e0 (S_SUCCEEDED.ext O0.2) (g := (mkF m 1 #[.val (.ref o0)] [(.ref o0)])) rfl (hb hby d1_1)
  obtain ⟨T2, X2, e2, st2⟩ := getS2 X1 hx hZ hown (host := "") (Or.inl (hw _ (List.mem_of_getElem? (i := 22) rfl))) Via.refl e1 (S_FAILED.ext O0.2) (g := (mkF m 8 #[.val (.ref o0)] [(.ref o0)])) rfl (hb hby d1_8)
  obtain ⟨T3, X3, e3, st3⟩ := getS2 X2 hx hZ hown (host := "") (Or.inl (hw _ (List.mem_of_getElem? (i := 23) rfl))) Via.refl e2 (S_CANCELED.ext O0.2) (g := (mkF m 15 #[.val (.ref o0)] [(.ref o0)])) rfl (hb hby d1_15)
  obtain ⟨fs, hr, hrun, hended, hW, hsame⟩ := X3.leave (v := some (.int (0 : Int32))) (fun h => by rw [Bd.returns] at h; cases h)
  refine ⟨_, _, pre0 _ ?_, hrun, hended, _, _, rfl, ?_, ⟨_, rfl⟩, hW, hsame.mono (by decide) (by decide)⟩
  · show Steps p.tables e below (s₁.setTop (mkF m 0 #[.val (.ref o0)] [])) _
    refine XS.aloadN X0.here hx rfl (hb hby d1_0) rfl rfl ?_
    show Steps p.tables e below (s₁.setTop (mkF m 1 #[.val (.ref o0)] [(.ref o0)])) _
    refine st1 _ ?_
    show Steps p.tables e below (T1.setTop (mkF m 4 #[.val (.ref o0)] [(.ref wA), (.ref o0)])) _
    refine Jvm.RoadKit.acmp (g := (mkF m 4 #[.val (.ref o0)] [(.ref wA), (.ref o0)])) X1 hx rfl rfl rfl (pc0 := 4) (pc' := 7) (same := false) rfl (hb hby d1_4) rfl (decide_eq_false fun q => ha4 (Value.ref.inj q)) (by decide) (by decide) ?_
    show Steps p.tables e below (T1.setTop (mkF m 7 #[.val (.ref o0)] [])) _
    refine XS.aloadN X1.here hx rfl (hb hby d1_7) rfl rfl ?_
    show Steps p.tables e below (T1.setTop (mkF m 8 #[.val (.ref o0)] [(.ref o0)])) _
    refine st2 _ ?_
    show Steps p.tables e below (T2.setTop (mkF m 11 #[.val (.ref o0)] [(.ref wB), (.ref o0)])) _
    refine Jvm.RoadKit.acmp (g := (mkF m 11 #[.val (.ref o0)] [(.ref wB), (.ref o0)])) X2 hx rfl rfl rfl (pc0 := 11) (pc' := 14) (same := false) rfl (hb hby d1_11) rfl (decide_eq_false fun q => ha11 (Value.ref.inj q)) (by decide) (by decide) ?_
    show Steps p.tables e below (T2.setTop (mkF m 14 #[.val (.ref o0)] [])) _
    refine XS.aloadN X2.here hx rfl (hb hby d1_14) rfl rfl ?_
    show Steps p.tables e below (T2.setTop (mkF m 15 #[.val (.ref o0)] [(.ref o0)])) _
    refine st3 _ ?_
    show Steps p.tables e below (T3.setTop (mkF m 18 #[.val (.ref o0)] [(.ref wC), (.ref o0)])) _
    refine Jvm.RoadKit.acmp (g := (mkF m 18 #[.val (.ref o0)] [(.ref wC), (.ref o0)])) X3 hx rfl rfl rfl (pc0 := 18) (pc' := 25) (same := false) rfl (hb hby d1_18) rfl (decide_eq_false fun q => ha18 (Value.ref.inj q)) (by decide) (by decide) ?_
    show Steps p.tables e below (T3.setTop (mkF m 25 #[.val (.ref o0)] [])) _
    refine XS.iconst X3.here hx rfl (hb hby d1_25) ?_
    show Steps p.tables e below (T3.setTop (mkF m 26 #[.val (.ref o0)] [(.int (0 : Int32))])) _
    exact retN X3 hx (t := .boolean) Bd.returns (by simp) (hb hby d1_26) hr
  · show own_Q (.int (0 : Int32)) h0 n0 _ T3.heap _
    rw [e3]
    exact ⟨rfl, N0, rfl⟩
theorem pd_0 : parseMethodDescriptor "()Z" = some ⟨[], some .boolean⟩ := by decide +kernel
theorem ef_0 (m : MethodId) (x0 : Int32) : entryFrame m #[(.int x0)] maxLocals = mkF m 0 #[.val (.int x0), .unset, .unset, .unset] [] := by first | (simp [entryFrame, mkF, argsToLocals, Value.category, maxLocals]; done) | rfl
theorem pn_0 : plainName "com/example/detaq/detaq/core/TaskStatusIsFinalPinLaw" = true := by first | (simp [plainName, overriddenIn]; done) | decide +kernel
set_option maxRecDepth 65536 in
set_option maxHeartbeats 40000000 in
theorem rm0_0 (l : Launch) (Z : State) (a0 : Array Value) (hw : ∀ d ∈ tables_1, d.before a0 Z = true) (ws : List Jvm.Cond) (p0 : Int32) (w0 : Addr) (w1 : Addr) (w2 : Addr) (w3 : Addr) (w4 : Addr) (h0 : Heap) (n0 : Nat) (O0 : Old Z n0 h0) (hi : ((p0 &&& (2147483647 : Int32)) % (5 : Int32)) = (0 : Int32)) (S_ENQUEUED : Sta Z Z.heap "com/example/detaq/detaq/core/TaskStatus" "ENQUEUED" "Lcom/example/detaq/detaq/core/TaskStatus;" (.ref w0)) (E_w0 : Exa Z Z.heap w0 "com/example/detaq/detaq/core/TaskStatus") (S_PROCESSING : Sta Z Z.heap "com/example/detaq/detaq/core/TaskStatus" "PROCESSING" "Lcom/example/detaq/detaq/core/TaskStatus;" (.ref w1)) (E_w1 : Exa Z Z.heap w1 "com/example/detaq/detaq/core/TaskStatus") (S_SUCCEEDED : Sta Z Z.heap "com/example/detaq/detaq/core/TaskStatus" "SUCCEEDED" "Lcom/example/detaq/detaq/core/TaskStatus;" (.ref w2)) (E_w2 : Exa Z Z.heap w2 "com/example/detaq/detaq/core/TaskStatus") (S_FAILED : Sta Z Z.heap "com/example/detaq/detaq/core/TaskStatus" "FAILED" "Lcom/example/detaq/detaq/core/TaskStatus;" (.ref w3)) (E_w3 : Exa Z Z.heap w3 "com/example/detaq/detaq/core/TaskStatus") (S_CANCELED : Sta Z Z.heap "com/example/detaq/detaq/core/TaskStatus" "CANCELED" "Lcom/example/detaq/detaq/core/TaskStatus;" (.ref w4)) (E_w4 : Exa Z Z.heap w4 "com/example/detaq/detaq/core/TaskStatus") (q02 : ¬ (w0 = w2)) (q03 : ¬ (w0 = w3)) (q04 : ¬ (w0 = w4)) :
    MetFree l x (head1 (Jvm.Cond.code x code maxLocals ret :: ws) room_1) (fun a U => a = #[(.int p0)] ∧ Z.Warmed39 U.vm ∧ U.heap = h0) (fun _ _ _ _ _ => True) (fun _ U o U' => ∃ v L, o = .returned v ∧ own_R n0 v U'.heap L ∧ FrameEnd U o U' L room_1.cells room_1.slots) := by
  refine MetFree.of_bodySF (plainFor_of_name pn_0) hisR ?_
  intro p e s m args below meth c s₁ Bd hml0 hP hK
  obtain ⟨rfl, hZ, hh⟩ := hP
  have hx := Bd.exec
  have hby := Bd.bytes
  have hml : c.maxLocals = 4 := hml0
  have hown : s.vm.findClass "com/example/detaq/detaq/core/TaskStatusIsFinalPinLaw" = some m.cls := findClass_of_methodNamed Bd.named
  have hnm := (name_of_methodNamed Bd.named Bd.method).1
  have X0 : Stand p l e room_1 s m #[(.int p0)] below meth c s₁ [] 0 0 := Stand.of_body Bd
  have e0 : s₁.heap = h0 := by rw [← hh, Bd.state]; rfl
  have N0 := Fr.nil n0
  have pre0 : ∀ t, Steps p.tables e below (s₁.setTop (mkF m 0 #[.val (.int p0), .unset, .unset, .unset] [])) t → Steps p.tables e below (s₁.setTop (entryFrame m #[(.int p0)] maxLocals)) t := fun t k => castTop (ef_0 m p0) k
  obtain ⟨T1, h1, k1, X1, e1, E1, A1, Ov1, st1⟩ := newR X0 hx hZ hown (hw _ (List.mem_of_getElem? (i := 0) rfl)) (hw _ (List.mem_of_getElem? (i := 1) rfl)) e0 (g := (mkF m 1 #[.val (.int p0), .unset, .unset, .unset] [(.int (5 : Int32))])) rfl (hb hby at_1) rfl (by decide) (cap := 5) (by decide) (by decide) (by decide) (by decide)
  obtain ⟨b1, g1⟩ : ∃ z, z = h0.size := ⟨_, rfl⟩
  rw [← g1] at A1 st1
  have g_b1 : n0 ≤ b1 := Nat.le_trans (own_le O0) (Nat.le_of_eq g1.symm)
  have O1 := O0.ext E1
  have V_b1 : Arv Z h1 b1 k1 (.object "com/example/detaq/detaq/core/TaskStatus") (5 : Int32) [.null, .null, .null, .null, .null] .null := (Arv.new A1 (by decide)).pad (pad_rep [] .null 5)
  obtain ⟨T2, X2, e2, st2⟩ := getS2 X1 hx hZ hown (host := "") (Or.inl (hw _ (List.mem_of_getElem? (i := 2) rfl))) Via.refl e1 (S_ENQUEUED.ext O1.2) (g := (mkF m 6 #[.val (.int p0), .unset, .unset, .unset] [(.int (0 : Int32)), (.ref b1), (.ref b1)])) rfl (hb hby at_6)
  obtain ⟨cl3, Ar3, qa3, Sz3, Ng3, Hs3, Ft3⟩ := V_b1
  obtain ⟨T3, h3, X3, e3, W3, st3⟩ := stR X2 hx hZ e2 Ar3 (j := (0 : Int32)) (inb_of Sz3 ⟨by decide, by decide⟩) rfl (Sto.ofV Ar3 qa3 Ov1 (Ins.self (E_w0.ext O1.2))) (g := (mkF m 9 #[.val (.int p0), .unset, .unset, .unset] [(.ref w0), (.int (0 : Int32)), (.ref b1), (.ref b1)])) rfl rfl (hb hby at_9)
  have O3 := O1.wr W3 g_b1
  have N3 := Fr.snoc X3 N0 g_b1
  have V3 : Arv Z h3 b1 k1 (.object "com/example/detaq/detaq/core/TaskStatus") (5 : Int32) [(.ref w0), .null, .null, .null, .null] .null := Arv.set Ar3 qa3 Sz3 Ng3 Hs3 Ft3 rfl W3 0 rfl (Nat.le_of_ble_eq_true rfl)
  obtain ⟨T4, X4, e4, st4⟩ := getS2 X3 hx hZ hown (host := "") (Or.inl (hw _ (List.mem_of_getElem? (i := 6) rfl))) Via.refl e3 (S_PROCESSING.ext O3.2) (g := (mkF m 12 #[.val (.int p0), .unset, .unset, .unset] [(.int (1 : Int32)), (.ref b1), (.ref b1)])) rfl (hb hby at_12)
  obtain ⟨cl5, Ar5, qa5, Sz5, Ng5, Hs5, Ft5⟩ := V3
  obtain ⟨T5, h5, X5, e5, W5, st5⟩ := stR X4 hx hZ e4 Ar5 (j := (1 : Int32)) (inb_of Sz5 ⟨by decide, by decide⟩) rfl (Sto.ofV Ar5 qa5 Ov1 (Ins.self (E_w1.ext O3.2))) (g := (mkF m 15 #[.val (.int p0), .unset, .unset, .unset] [(.ref w1), (.int (1 : Int32)), (.ref b1), (.ref b1)])) rfl rfl (hb hby at_15)
  have O5 := O3.wr W5 g_b1
  have N5 := Fr.snoc X5 N3 g_b1
  have V5 : Arv Z h5 b1 k1 (.object "com/example/detaq/detaq/core/TaskStatus") (5 : Int32) [(.ref w0), (.ref w1), .null, .null, .null] .null := Arv.set Ar5 qa5 Sz5 Ng5 Hs5 Ft5 rfl W5 1 rfl (Nat.le_of_ble_eq_true rfl)
  obtain ⟨T6, X6, e6, st6⟩ := getS2 X5 hx hZ hown (host := "") (Or.inl (hw _ (List.mem_of_getElem? (i := 8) rfl))) Via.refl e5 (S_SUCCEEDED.ext O5.2) (g := (mkF m 18 #[.val (.int p0), .unset, .unset, .unset] [(.int (2 : Int32)), (.ref b1), (.ref b1)])) rfl (hb hby at_18)
  obtain ⟨cl7, Ar7, qa7, Sz7, Ng7, Hs7, Ft7⟩ := V5
  obtain ⟨T7, h7, X7, e7, W7, st7⟩ := stR X6 hx hZ e6 Ar7 (j := (2 : Int32)) (inb_of Sz7 ⟨by decide, by decide⟩) rfl (Sto.ofV Ar7 qa7 Ov1 (Ins.self (E_w2.ext O5.2))) (g := (mkF m 21 #[.val (.int p0), .unset, .unset, .unset] [(.ref w2), (.int (2 : Int32)), (.ref b1), (.ref b1)])) rfl rfl (hb hby at_21)
  have O7 := O5.wr W7 g_b1
  have N7 := Fr.snoc X7 N5 g_b1
  have V7 : Arv Z h7 b1 k1 (.object "com/example/detaq/detaq/core/TaskStatus") (5 : Int32) [(.ref w0), (.ref w1), (.ref w2), .null, .null] .null := Arv.set Ar7 qa7 Sz7 Ng7 Hs7 Ft7 rfl W7 2 rfl (Nat.le_of_ble_eq_true rfl)
  obtain ⟨T8, X8, e8, st8⟩ := getS2 X7 hx hZ hown (host := "") (Or.inl (hw _ (List.mem_of_getElem? (i := 10) rfl))) Via.refl e7 (S_FAILED.ext O7.2) (g := (mkF m 24 #[.val (.int p0), .unset, .unset, .unset] [(.int (3 : Int32)), (.ref b1), (.ref b1)])) rfl (hb hby at_24)
  obtain ⟨cl9, Ar9, qa9, Sz9, Ng9, Hs9, Ft9⟩ := V7
  obtain ⟨T9, h9, X9, e9, W9, st9⟩ := stR X8 hx hZ e8 Ar9 (j := (3 : Int32)) (inb_of Sz9 ⟨by decide, by decide⟩) rfl (Sto.ofV Ar9 qa9 Ov1 (Ins.self (E_w3.ext O7.2))) (g := (mkF m 27 #[.val (.int p0), .unset, .unset, .unset] [(.ref w3), (.int (3 : Int32)), (.ref b1), (.ref b1)])) rfl rfl (hb hby at_27)
  have O9 := O7.wr W9 g_b1
  have N9 := Fr.snoc X9 N7 g_b1
  have V9 : Arv Z h9 b1 k1 (.object "com/example/detaq/detaq/core/TaskStatus") (5 : Int32) [(.ref w0), (.ref w1), (.ref w2), (.ref w3), .null] .null := Arv.set Ar9 qa9 Sz9 Ng9 Hs9 Ft9 rfl W9 3 rfl (Nat.le_of_ble_eq_true rfl)
  obtain ⟨T10, X10, e10, st10⟩ := getS2 X9 hx hZ hown (host := "") (Or.inl (hw _ (List.mem_of_getElem? (i := 12) rfl))) Via.refl e9 (S_CANCELED.ext O9.2) (g := (mkF m 30 #[.val (.int p0), .unset, .unset, .unset] [(.int (4 : Int32)), (.ref b1), (.ref b1)])) rfl (hb hby at_30)
  obtain ⟨cl11, Ar11, qa11, Sz11, Ng11, Hs11, Ft11⟩ := V9
  obtain ⟨T11, h11, X11, e11, W11, st11⟩ := stR X10 hx hZ e10 Ar11 (j := (4 : Int32)) (inb_of Sz11 ⟨by decide, by decide⟩) rfl (Sto.ofV Ar11 qa11 Ov1 (Ins.self (E_w4.ext O9.2))) (g := (mkF m 33 #[.val (.int p0), .unset, .unset, .unset] [(.ref w4), (.int (4 : Int32)), (.ref b1), (.ref b1)])) rfl rfl (hb hby at_33)
  have O11 := O9.wr W11 g_b1
  have N11 := Fr.snoc X11 N9 g_b1
  have V11 : Arv Z h11 b1 k1 (.object "com/example/detaq/detaq/core/TaskStatus") (5 : Int32) [(.ref w0), (.ref w1), (.ref w2), (.ref w3), (.ref w4)] .null := Arv.set Ar11 qa11 Sz11 Ng11 Hs11 Ft11 rfl W11 4 rfl (Nat.le_of_ble_eq_true rfl)
  obtain ⟨T12, h12, k12, X12, e12, E12, A12, st12⟩ := newP X11 hx hZ (hw _ (List.mem_of_getElem? (i := 14) rfl)) e11 (g := (mkF m 36 #[.val (.int p0), .val (.ref b1), .unset, .unset] [(.int (5 : Int32))])) rfl (hb hby at_36) rfl (by decide) (cap := 5) (by decide) (by decide) (by decide) (by decide)
  obtain ⟨b12, g12⟩ : ∃ z, z = h11.size := ⟨_, rfl⟩
  rw [← g12] at A12 st12
  have g_b12 : n0 ≤ b12 := Nat.le_trans (own_le O11) (Nat.le_of_eq g12.symm)
  have O12 := O11.ext E12
  have V_b12 : Arv Z h12 b12 k12 .boolean (5 : Int32) [(.int (0 : Int32)), (.int (0 : Int32)), (.int (0 : Int32)), (.int (0 : Int32)), (.int (0 : Int32))] (.int (0 : Int32)) := (Arv.new A12 (by decide)).pad (pad_rep [] (.int (0 : Int32)) 5)
  obtain ⟨cl13, Ar13, qa13, Sz13, Ng13, Hs13, Ft13⟩ := V_b12
  obtain ⟨T13, h13, X13, e13, W13, st13⟩ := stZ X12 hx hZ e12 Ar13 (j := (0 : Int32)) (inb_of Sz13 ⟨by decide, by decide⟩) (g := (mkF m 41 #[.val (.int p0), .val (.ref b1), .unset, .unset] [(.int (0 : Int32)), (.int (0 : Int32)), (.ref b12), (.ref b12)])) rfl rfl (hb hby at_41)
  have O13 := O12.wr W13 g_b12
  have N13 := Fr.snoc X13 N11 g_b12
  have V13 : Arv Z h13 b12 k12 .boolean (5 : Int32) [(.int (0 : Int32)), (.int (0 : Int32)), (.int (0 : Int32)), (.int (0 : Int32)), (.int (0 : Int32))] (.int (0 : Int32)) := Arv.set Ar13 qa13 Sz13 Ng13 Hs13 Ft13 (fits_nar_bool _) W13 0 rfl (Nat.le_of_ble_eq_true rfl)
  obtain ⟨cl14, Ar14, qa14, Sz14, Ng14, Hs14, Ft14⟩ := V13
  obtain ⟨T14, h14, X14, e14, W14, st14⟩ := stZ X13 hx hZ e13 Ar14 (j := (1 : Int32)) (inb_of Sz14 ⟨by decide, by decide⟩) (g := (mkF m 45 #[.val (.int p0), .val (.ref b1), .unset, .unset] [(.int (0 : Int32)), (.int (1 : Int32)), (.ref b12), (.ref b12)])) rfl rfl (hb hby at_45)
  have O14 := O13.wr W14 g_b12
  have N14 := Fr.snoc X14 N13 g_b12
  have V14 : Arv Z h14 b12 k12 .boolean (5 : Int32) [(.int (0 : Int32)), (.int (0 : Int32)), (.int (0 : Int32)), (.int (0 : Int32)), (.int (0 : Int32))] (.int (0 : Int32)) := Arv.set Ar14 qa14 Sz14 Ng14 Hs14 Ft14 (fits_nar_bool _) W14 1 rfl (Nat.le_of_ble_eq_true rfl)
  obtain ⟨cl15, Ar15, qa15, Sz15, Ng15, Hs15, Ft15⟩ := V14
  obtain ⟨T15, h15, X15, e15, W15, st15⟩ := stZ X14 hx hZ e14 Ar15 (j := (2 : Int32)) (inb_of Sz15 ⟨by decide, by decide⟩) (g := (mkF m 49 #[.val (.int p0), .val (.ref b1), .unset, .unset] [(.int (1 : Int32)), (.int (2 : Int32)), (.ref b12), (.ref b12)])) rfl rfl (hb hby at_49)
  have O15 := O14.wr W15 g_b12
  have N15 := Fr.snoc X15 N14 g_b12
  have V15 : Arv Z h15 b12 k12 .boolean (5 : Int32) [(.int (0 : Int32)), (.int (0 : Int32)), (.int (1 : Int32)), (.int (0 : Int32)), (.int (0 : Int32))] (.int (0 : Int32)) := Arv.set Ar15 qa15 Sz15 Ng15 Hs15 Ft15 (fits_nar_bool _) W15 2 rfl (Nat.le_of_ble_eq_true rfl)
  obtain ⟨cl16, Ar16, qa16, Sz16, Ng16, Hs16, Ft16⟩ := V15
  obtain ⟨T16, h16, X16, e16, W16, st16⟩ := stZ X15 hx hZ e15 Ar16 (j := (3 : Int32)) (inb_of Sz16 ⟨by decide, by decide⟩) (g := (mkF m 53 #[.val (.int p0), .val (.ref b1), .unset, .unset] [(.int (1 : Int32)), (.int (3 : Int32)), (.ref b12), (.ref b12)])) rfl rfl (hb hby at_53)
  have O16 := O15.wr W16 g_b12
  have N16 := Fr.snoc X16 N15 g_b12
  have V16 : Arv Z h16 b12 k12 .boolean (5 : Int32) [(.int (0 : Int32)), (.int (0 : Int32)), (.int (1 : Int32)), (.int (1 : Int32)), (.int (0 : Int32))] (.int (0 : Int32)) := Arv.set Ar16 qa16 Sz16 Ng16 Hs16 Ft16 (fits_nar_bool _) W16 3 rfl (Nat.le_of_ble_eq_true rfl)
  obtain ⟨cl17, Ar17, qa17, Sz17, Ng17, Hs17, Ft17⟩ := V16
  obtain ⟨T17, h17, X17, e17, W17, st17⟩ := stZ X16 hx hZ e16 Ar17 (j := (4 : Int32)) (inb_of Sz17 ⟨by decide, by decide⟩) (g := (mkF m 57 #[.val (.int p0), .val (.ref b1), .unset, .unset] [(.int (1 : Int32)), (.int (4 : Int32)), (.ref b12), (.ref b12)])) rfl rfl (hb hby at_57)
  have O17 := O16.wr W17 g_b12
  have N17 := Fr.snoc X17 N16 g_b12
  have V17 : Arv Z h17 b12 k12 .boolean (5 : Int32) [(.int (0 : Int32)), (.int (0 : Int32)), (.int (1 : Int32)), (.int (1 : Int32)), (.int (1 : Int32))] (.int (0 : Int32)) := Arv.set Ar17 qa17 Sz17 Ng17 Hs17 Ft17 (fits_nar_bool _) W17 4 rfl (Nat.le_of_ble_eq_true rfl)
  have v_b1_12_x := ((((((V11.ext E12).other W13 (Nat.ne_of_lt (Nat.lt_of_lt_of_le V11.lt (Nat.le_of_eq g12.symm)))).other W14 (Nat.ne_of_lt (Nat.lt_of_lt_of_le V11.lt (Nat.le_of_eq g12.symm)))).other W15 (Nat.ne_of_lt (Nat.lt_of_lt_of_le V11.lt (Nat.le_of_eq g12.symm)))).other W16 (Nat.ne_of_lt (Nat.lt_of_lt_of_le V11.lt (Nat.le_of_eq g12.symm)))).other W17 (Nat.ne_of_lt (Nat.lt_of_lt_of_le V11.lt (Nat.le_of_eq g12.symm))))
  obtain ⟨cl18, Ar18, qa18, Sz18, Ng18, Hs18, Ft18⟩ := v_b1_12_x
  have hin18 := (inb_of (j := (0 : Int32)) Sz18 ⟨by decide, by decide⟩)
  have hat18 := Hs18.at (v := (.ref w0)) hin18 rfl
  have V18o : Arv Z h17 b1 k1 (.object "com/example/detaq/detaq/core/TaskStatus") (5 : Int32) [(.ref w0), (.ref w1), (.ref w2), (.ref w3), (.ref w4)] .null := ⟨cl18, Ar18, qa18, Sz18, Ng18, Hs18, Ft18⟩
  obtain ⟨cq19, kq19, q19a, q19b, q19c⟩ := isOf hZ e17 (E_w0.ext O17.2)
  obtain ⟨_, _, ⟨T19, L19, k19, n19⟩, -, X19, ⟨Lc19, hQ19, l19, y19, z19⟩, st19⟩ := X17.virtualBack hx (y := (⟨"com/example/detaq/detaq/core/TaskStatus", "isFinal", "()Z"⟩ : MethodName)) (z := (⟨"com/example/detaq/detaq/core/TaskStatus", "isFinal", "()Z"⟩ : MethodName)) hown (mvT hZ (hw _ (List.mem_of_getElem? (i := 16) rfl))) (mvT hZ (hw _ (List.mem_of_getElem? (i := 17) rfl))) (notFace_of_selects (args := #[]) (mvT hZ (hw _ (List.mem_of_getElem? (i := 19) rfl)))) (mvT hZ (hw _ (List.mem_of_getElem? (i := 19) rfl))) (mvT hZ (hw _ (List.mem_of_getElem? (i := 18) rfl))) (by decide) (backOf (W := 0) (rm1N l Z a0 hw [] w0 w2 w3 w4 h17 n0 O17 S_SUCCEEDED S_FAILED S_CANCELED q02 q03 q04) hZ (hw _ (List.mem_of_getElem? (i := 20) rfl)) (hw _ (List.mem_of_getElem? (i := 3) rfl)) (by decide) (by decide)) q19a q19c (g := (mkF m 69 #[.val (.int p0), .val (.ref b1), .val (.ref b12), .val (.int (0 : Int32))] [(.ref w0)])) rfl (by rw [hml]; rfl) (Steps.refl _) (argsL := []) (rest := []) (lenOf pd_0 rfl) rfl (by show 2 * 0 + _ ≤ _; exact Nat.le_of_eq rfl) (hb hby at_69) (fun _ _ => ⟨rfl, e17, (by decide : 2 + 0 ≤ _), (by decide : 10 + 0 ≤ _)⟩)
  dsimp only [Pt.U, Pt.locs, Pt.cells, Pt.slots] at X19 l19 y19 z19 st19 hQ19
  subst l19 y19 z19
  obtain ⟨rfl, N19q, e19⟩ := hQ19
  have N19 := Fr.app N17 N19q
  obtain ⟨cl20, Ar20, qa20, Sz20, Ng20, Hs20, Ft20⟩ := V17
  have hin20 := (inb_of (j := (0 : Int32)) Sz20 ⟨by decide, by decide⟩)
  have hat20 := Hs20.at (v := (.int (0 : Int32))) hin20 rfl
  have V20o : Arv Z h17 b12 k12 .boolean (5 : Int32) [(.int (0 : Int32)), (.int (0 : Int32)), (.int (1 : Int32)), (.int (1 : Int32)), (.int (1 : Int32))] (.int (0 : Int32)) := ⟨cl20, Ar20, qa20, Sz20, Ng20, Hs20, Ft20⟩
  obtain ⟨fs, hr, hrun, hended, hW, hsame⟩ := X19.leave (v := some (.int (1 : Int32))) (fun h => by rw [Bd.returns] at h; cases h)
  refine ⟨_, _, pre0 _ ?_, hrun, hended, _, _, rfl, ?_, ⟨_, rfl⟩, hW, hsame.mono (by decide) (by decide)⟩
  · show Steps p.tables e below (s₁.setTop (mkF m 0 #[.val (.int p0), .unset, .unset, .unset] [])) _
    refine XS.iconst X0.here hx rfl (hb hby at_0) ?_
    show Steps p.tables e below (s₁.setTop (mkF m 1 #[.val (.int p0), .unset, .unset, .unset] [(.int (5 : Int32))])) _
    refine st1 _ ?_
    show Steps p.tables e below (T1.setTop (mkF m 4 #[.val (.int p0), .unset, .unset, .unset] [(.ref b1)])) _
    refine XS.dup X1.here hx rfl (hb hby at_4) rfl rfl ?_
    show Steps p.tables e below (T1.setTop (mkF m 5 #[.val (.int p0), .unset, .unset, .unset] [(.ref b1), (.ref b1)])) _
    refine XS.iconst X1.here hx rfl (hb hby at_5) ?_
    show Steps p.tables e below (T1.setTop (mkF m 6 #[.val (.int p0), .unset, .unset, .unset] [(.int (0 : Int32)), (.ref b1), (.ref b1)])) _
    refine st2 _ ?_
    show Steps p.tables e below (T2.setTop (mkF m 9 #[.val (.int p0), .unset, .unset, .unset] [(.ref w0), (.int (0 : Int32)), (.ref b1), (.ref b1)])) _
    refine st3 _ ?_
    show Steps p.tables e below (T3.setTop (mkF m 10 #[.val (.int p0), .unset, .unset, .unset] [(.ref b1)])) _
    refine XS.dup X3.here hx rfl (hb hby at_10) rfl rfl ?_
    show Steps p.tables e below (T3.setTop (mkF m 11 #[.val (.int p0), .unset, .unset, .unset] [(.ref b1), (.ref b1)])) _
    refine XS.iconst X3.here hx rfl (hb hby at_11) ?_
    show Steps p.tables e below (T3.setTop (mkF m 12 #[.val (.int p0), .unset, .unset, .unset] [(.int (1 : Int32)), (.ref b1), (.ref b1)])) _
    refine st4 _ ?_
    show Steps p.tables e below (T4.setTop (mkF m 15 #[.val (.int p0), .unset, .unset, .unset] [(.ref w1), (.int (1 : Int32)), (.ref b1), (.ref b1)])) _
    refine st5 _ ?_
    show Steps p.tables e below (T5.setTop (mkF m 16 #[.val (.int p0), .unset, .unset, .unset] [(.ref b1)])) _
    refine XS.dup X5.here hx rfl (hb hby at_16) rfl rfl ?_
    show Steps p.tables e below (T5.setTop (mkF m 17 #[.val (.int p0), .unset, .unset, .unset] [(.ref b1), (.ref b1)])) _
    refine XS.iconst X5.here hx rfl (hb hby at_17) ?_
    show Steps p.tables e below (T5.setTop (mkF m 18 #[.val (.int p0), .unset, .unset, .unset] [(.int (2 : Int32)), (.ref b1), (.ref b1)])) _
    refine st6 _ ?_
    show Steps p.tables e below (T6.setTop (mkF m 21 #[.val (.int p0), .unset, .unset, .unset] [(.ref w2), (.int (2 : Int32)), (.ref b1), (.ref b1)])) _
    refine st7 _ ?_
    show Steps p.tables e below (T7.setTop (mkF m 22 #[.val (.int p0), .unset, .unset, .unset] [(.ref b1)])) _
    refine XS.dup X7.here hx rfl (hb hby at_22) rfl rfl ?_
    show Steps p.tables e below (T7.setTop (mkF m 23 #[.val (.int p0), .unset, .unset, .unset] [(.ref b1), (.ref b1)])) _
    refine XS.iconst X7.here hx rfl (hb hby at_23) ?_
    show Steps p.tables e below (T7.setTop (mkF m 24 #[.val (.int p0), .unset, .unset, .unset] [(.int (3 : Int32)), (.ref b1), (.ref b1)])) _
    refine st8 _ ?_
    show Steps p.tables e below (T8.setTop (mkF m 27 #[.val (.int p0), .unset, .unset, .unset] [(.ref w3), (.int (3 : Int32)), (.ref b1), (.ref b1)])) _
    refine st9 _ ?_
    show Steps p.tables e below (T9.setTop (mkF m 28 #[.val (.int p0), .unset, .unset, .unset] [(.ref b1)])) _
    refine XS.dup X9.here hx rfl (hb hby at_28) rfl rfl ?_
    show Steps p.tables e below (T9.setTop (mkF m 29 #[.val (.int p0), .unset, .unset, .unset] [(.ref b1), (.ref b1)])) _
    refine XS.iconst X9.here hx rfl (hb hby at_29) ?_
    show Steps p.tables e below (T9.setTop (mkF m 30 #[.val (.int p0), .unset, .unset, .unset] [(.int (4 : Int32)), (.ref b1), (.ref b1)])) _
    refine st10 _ ?_
    show Steps p.tables e below (T10.setTop (mkF m 33 #[.val (.int p0), .unset, .unset, .unset] [(.ref w4), (.int (4 : Int32)), (.ref b1), (.ref b1)])) _
    refine st11 _ ?_
    show Steps p.tables e below (T11.setTop (mkF m 34 #[.val (.int p0), .unset, .unset, .unset] [(.ref b1)])) _
    refine XS.astoreN X11.here hx rfl (hb hby at_34) rfl rfl (l' := #[.val (.int p0), .val (.ref b1), .unset, .unset]) rfl ?_
    show Steps p.tables e below (T11.setTop (mkF m 35 #[.val (.int p0), .val (.ref b1), .unset, .unset] [])) _
    refine XS.iconst X11.here hx rfl (hb hby at_35) ?_
    show Steps p.tables e below (T11.setTop (mkF m 36 #[.val (.int p0), .val (.ref b1), .unset, .unset] [(.int (5 : Int32))])) _
    refine st12 _ ?_
    show Steps p.tables e below (T12.setTop (mkF m 38 #[.val (.int p0), .val (.ref b1), .unset, .unset] [(.ref b12)])) _
    refine XS.dup X12.here hx rfl (hb hby at_38) rfl rfl ?_
    show Steps p.tables e below (T12.setTop (mkF m 39 #[.val (.int p0), .val (.ref b1), .unset, .unset] [(.ref b12), (.ref b12)])) _
    refine XS.iconst X12.here hx rfl (hb hby at_39) ?_
    show Steps p.tables e below (T12.setTop (mkF m 40 #[.val (.int p0), .val (.ref b1), .unset, .unset] [(.int (0 : Int32)), (.ref b12), (.ref b12)])) _
    refine XS.iconst X12.here hx rfl (hb hby at_40) ?_
    show Steps p.tables e below (T12.setTop (mkF m 41 #[.val (.int p0), .val (.ref b1), .unset, .unset] [(.int (0 : Int32)), (.int (0 : Int32)), (.ref b12), (.ref b12)])) _
    refine st13 _ ?_
    show Steps p.tables e below (T13.setTop (mkF m 42 #[.val (.int p0), .val (.ref b1), .unset, .unset] [(.ref b12)])) _
    refine XS.dup X13.here hx rfl (hb hby at_42) rfl rfl ?_
    show Steps p.tables e below (T13.setTop (mkF m 43 #[.val (.int p0), .val (.ref b1), .unset, .unset] [(.ref b12), (.ref b12)])) _
    refine XS.iconst X13.here hx rfl (hb hby at_43) ?_
    show Steps p.tables e below (T13.setTop (mkF m 44 #[.val (.int p0), .val (.ref b1), .unset, .unset] [(.int (1 : Int32)), (.ref b12), (.ref b12)])) _
    refine XS.iconst X13.here hx rfl (hb hby at_44) ?_
    show Steps p.tables e below (T13.setTop (mkF m 45 #[.val (.int p0), .val (.ref b1), .unset, .unset] [(.int (0 : Int32)), (.int (1 : Int32)), (.ref b12), (.ref b12)])) _
    refine st14 _ ?_
    show Steps p.tables e below (T14.setTop (mkF m 46 #[.val (.int p0), .val (.ref b1), .unset, .unset] [(.ref b12)])) _
    refine XS.dup X14.here hx rfl (hb hby at_46) rfl rfl ?_
    show Steps p.tables e below (T14.setTop (mkF m 47 #[.val (.int p0), .val (.ref b1), .unset, .unset] [(.ref b12), (.ref b12)])) _
    refine XS.iconst X14.here hx rfl (hb hby at_47) ?_
    show Steps p.tables e below (T14.setTop (mkF m 48 #[.val (.int p0), .val (.ref b1), .unset, .unset] [(.int (2 : Int32)), (.ref b12), (.ref b12)])) _
    refine XS.iconst X14.here hx rfl (hb hby at_48) ?_
    show Steps p.tables e below (T14.setTop (mkF m 49 #[.val (.int p0), .val (.ref b1), .unset, .unset] [(.int (1 : Int32)), (.int (2 : Int32)), (.ref b12), (.ref b12)])) _
    refine st15 _ ?_
    show Steps p.tables e below (T15.setTop (mkF m 50 #[.val (.int p0), .val (.ref b1), .unset, .unset] [(.ref b12)])) _
    refine XS.dup X15.here hx rfl (hb hby at_50) rfl rfl ?_
    show Steps p.tables e below (T15.setTop (mkF m 51 #[.val (.int p0), .val (.ref b1), .unset, .unset] [(.ref b12), (.ref b12)])) _
    refine XS.iconst X15.here hx rfl (hb hby at_51) ?_
    show Steps p.tables e below (T15.setTop (mkF m 52 #[.val (.int p0), .val (.ref b1), .unset, .unset] [(.int (3 : Int32)), (.ref b12), (.ref b12)])) _
    refine XS.iconst X15.here hx rfl (hb hby at_52) ?_
    show Steps p.tables e below (T15.setTop (mkF m 53 #[.val (.int p0), .val (.ref b1), .unset, .unset] [(.int (1 : Int32)), (.int (3 : Int32)), (.ref b12), (.ref b12)])) _
    refine st16 _ ?_
    show Steps p.tables e below (T16.setTop (mkF m 54 #[.val (.int p0), .val (.ref b1), .unset, .unset] [(.ref b12)])) _
    refine XS.dup X16.here hx rfl (hb hby at_54) rfl rfl ?_
    show Steps p.tables e below (T16.setTop (mkF m 55 #[.val (.int p0), .val (.ref b1), .unset, .unset] [(.ref b12), (.ref b12)])) _
    refine XS.iconst X16.here hx rfl (hb hby at_55) ?_
    show Steps p.tables e below (T16.setTop (mkF m 56 #[.val (.int p0), .val (.ref b1), .unset, .unset] [(.int (4 : Int32)), (.ref b12), (.ref b12)])) _
    refine XS.iconst X16.here hx rfl (hb hby at_56) ?_
    show Steps p.tables e below (T16.setTop (mkF m 57 #[.val (.int p0), .val (.ref b1), .unset, .unset] [(.int (1 : Int32)), (.int (4 : Int32)), (.ref b12), (.ref b12)])) _
    refine st17 _ ?_
    show Steps p.tables e below (T17.setTop (mkF m 58 #[.val (.int p0), .val (.ref b1), .unset, .unset] [(.ref b12)])) _
    refine XS.astoreN X17.here hx rfl (hb hby at_58) rfl rfl (l' := #[.val (.int p0), .val (.ref b1), .val (.ref b12), .unset]) rfl ?_
    show Steps p.tables e below (T17.setTop (mkF m 59 #[.val (.int p0), .val (.ref b1), .val (.ref b12), .unset] [])) _
    refine XS.iloadN X17.here hx rfl (hb hby at_59) rfl ?_
    show Steps p.tables e below (T17.setTop (mkF m 60 #[.val (.int p0), .val (.ref b1), .val (.ref b12), .unset] [(.int p0)])) _
    refine X17.ldcInt hx hown (mvT hZ (hw _ (List.mem_of_getElem? (i := 15) rfl))) (g := (mkF m 60 #[.val (.int p0), .val (.ref b1), .val (.ref b12), .unset] [(.int p0)])) rfl (hb hby at_60) _ ?_
    show Steps p.tables e below (T17.setTop (mkF m 62 #[.val (.int p0), .val (.ref b1), .val (.ref b12), .unset] [(.int (2147483647 : Int32)), (.int p0)])) _
    refine XS.iand X17.here hx rfl (hb hby at_62) rfl ?_
    show Steps p.tables e below (T17.setTop (mkF m 63 #[.val (.int p0), .val (.ref b1), .val (.ref b12), .unset] [(.int (p0 &&& (2147483647 : Int32)))])) _
    refine XS.iconst X17.here hx rfl (hb hby at_63) ?_
    show Steps p.tables e below (T17.setTop (mkF m 64 #[.val (.int p0), .val (.ref b1), .val (.ref b12), .unset] [(.int (5 : Int32)), (.int (p0 &&& (2147483647 : Int32)))])) _
    refine iremM X17 hx rfl (hb hby at_64) rfl (by decide) ?_
    show Steps p.tables e below (T17.setTop (mkF m 65 #[.val (.int p0), .val (.ref b1), .val (.ref b12), .unset] [(.int ((p0 &&& (2147483647 : Int32)) % (5 : Int32)))])) _
    rw [hi]
    show Steps p.tables e below (T17.setTop (mkF m 65 #[.val (.int p0), .val (.ref b1), .val (.ref b12), .unset] [(.int (0 : Int32))])) _
    refine XS.istoreN X17.here hx rfl (hb hby at_65) rfl (l' := #[.val (.int p0), .val (.ref b1), .val (.ref b12), .val (.int (0 : Int32))]) rfl ?_
    show Steps p.tables e below (T17.setTop (mkF m 66 #[.val (.int p0), .val (.ref b1), .val (.ref b12), .val (.int (0 : Int32))] [])) _
    refine XS.aloadN X17.here hx rfl (hb hby at_66) rfl rfl ?_
    show Steps p.tables e below (T17.setTop (mkF m 67 #[.val (.int p0), .val (.ref b1), .val (.ref b12), .val (.int (0 : Int32))] [(.ref b1)])) _
    refine XS.iloadN X17.here hx rfl (hb hby at_67) rfl ?_
    show Steps p.tables e below (T17.setTop (mkF m 68 #[.val (.int p0), .val (.ref b1), .val (.ref b12), .val (.int (0 : Int32))] [(.int (0 : Int32)), (.ref b1)])) _
    refine X17.aaload hx (j := (0 : Int32)) (v := (.ref w0)) (by rw [e17]; exact Ar18.1) (State.isArrayOf_alike hZ.alike Ar18.2.1) rfl Ar18.2.2 hin18 hat18 (g := (mkF m 68 #[.val (.int p0), .val (.ref b1), .val (.ref b12), .val (.int (0 : Int32))] [(.int (0 : Int32)), (.ref b1)])) rfl rfl (hb hby at_68) _ ?_
    show Steps p.tables e below (T17.setTop (mkF m 69 #[.val (.int p0), .val (.ref b1), .val (.ref b12), .val (.int (0 : Int32))] [(.ref w0)])) _
    refine st19.trans ?_
    show Steps p.tables e below (T19.setTop (mkF m 72 #[.val (.int p0), .val (.ref b1), .val (.ref b12), .val (.int (0 : Int32))] [(.int (0 : Int32))])) _
    refine XS.aloadN X19.here hx rfl (hb hby at_72) rfl rfl ?_
    show Steps p.tables e below (T19.setTop (mkF m 73 #[.val (.int p0), .val (.ref b1), .val (.ref b12), .val (.int (0 : Int32))] [(.ref b12), (.int (0 : Int32))])) _
    refine XS.iloadN X19.here hx rfl (hb hby at_73) rfl ?_
    show Steps p.tables e below (T19.setTop (mkF m 74 #[.val (.int p0), .val (.ref b1), .val (.ref b12), .val (.int (0 : Int32))] [(.int (0 : Int32)), (.ref b12), (.int (0 : Int32))])) _
    refine X19.baloadBooleans hx (j := (0 : Int32)) (v := (.int (0 : Int32))) (by rw [e19]; exact Ar20.1) (State.isArrayOf_alike hZ.alike Ar20.2.1) Ar20.2.2 hin20 hat20 (g := (mkF m 74 #[.val (.int p0), .val (.ref b1), .val (.ref b12), .val (.int (0 : Int32))] [(.int (0 : Int32)), (.ref b12), (.int (0 : Int32))])) rfl rfl (hb hby at_74) _ ?_
    show Steps p.tables e below (T19.setTop (mkF m 75 #[.val (.int p0), .val (.ref b1), .val (.ref b12), .val (.int (0 : Int32))] [(.int (0 : Int32)), (.int (0 : Int32))])) _
    refine XS.icmpNo X19.here hx rfl (hb hby at_75) rfl (teq (by decide : (0 : Int32) = (0 : Int32))).2 ?_
    show Steps p.tables e below (T19.setTop (mkF m 78 #[.val (.int p0), .val (.ref b1), .val (.ref b12), .val (.int (0 : Int32))] [])) _
    refine XS.iconst X19.here hx rfl (hb hby at_78) ?_
    show Steps p.tables e below (T19.setTop (mkF m 79 #[.val (.int p0), .val (.ref b1), .val (.ref b12), .val (.int (0 : Int32))] [(.int (1 : Int32))])) _
    refine XS.goto X19.here hx rfl (pc0 := 79) (pc' := 83) rfl (hb hby at_79) (by decide) (by decide) ?_
    show Steps p.tables e below (T19.setTop (mkF m 83 #[.val (.int p0), .val (.ref b1), .val (.ref b12), .val (.int (0 : Int32))] [(.int (1 : Int32))])) _
    exact retN X19 hx (t := .boolean) Bd.returns (by simp) (hb hby at_83) hr
  · show own_R n0 _ T19.heap _
    rw [e19]
    exact ⟨rfl, N19⟩
set_option maxRecDepth 65536 in
set_option maxHeartbeats 40000000 in
theorem rm0_1 (l : Launch) (Z : State) (a0 : Array Value) (hw : ∀ d ∈ tables_1, d.before a0 Z = true) (ws : List Jvm.Cond) (p0 : Int32) (w0 : Addr) (w1 : Addr) (w2 : Addr) (w3 : Addr) (w4 : Addr) (h0 : Heap) (n0 : Nat) (O0 : Old Z n0 h0) (hi : ((p0 &&& (2147483647 : Int32)) % (5 : Int32)) = (1 : Int32)) (S_ENQUEUED : Sta Z Z.heap "com/example/detaq/detaq/core/TaskStatus" "ENQUEUED" "Lcom/example/detaq/detaq/core/TaskStatus;" (.ref w0)) (E_w0 : Exa Z Z.heap w0 "com/example/detaq/detaq/core/TaskStatus") (S_PROCESSING : Sta Z Z.heap "com/example/detaq/detaq/core/TaskStatus" "PROCESSING" "Lcom/example/detaq/detaq/core/TaskStatus;" (.ref w1)) (E_w1 : Exa Z Z.heap w1 "com/example/detaq/detaq/core/TaskStatus") (S_SUCCEEDED : Sta Z Z.heap "com/example/detaq/detaq/core/TaskStatus" "SUCCEEDED" "Lcom/example/detaq/detaq/core/TaskStatus;" (.ref w2)) (E_w2 : Exa Z Z.heap w2 "com/example/detaq/detaq/core/TaskStatus") (S_FAILED : Sta Z Z.heap "com/example/detaq/detaq/core/TaskStatus" "FAILED" "Lcom/example/detaq/detaq/core/TaskStatus;" (.ref w3)) (E_w3 : Exa Z Z.heap w3 "com/example/detaq/detaq/core/TaskStatus") (S_CANCELED : Sta Z Z.heap "com/example/detaq/detaq/core/TaskStatus" "CANCELED" "Lcom/example/detaq/detaq/core/TaskStatus;" (.ref w4)) (E_w4 : Exa Z Z.heap w4 "com/example/detaq/detaq/core/TaskStatus") (q12 : ¬ (w1 = w2)) (q13 : ¬ (w1 = w3)) (q14 : ¬ (w1 = w4)) :
    MetFree l x (head1 (Jvm.Cond.code x code maxLocals ret :: ws) room_1) (fun a U => a = #[(.int p0)] ∧ Z.Warmed39 U.vm ∧ U.heap = h0) (fun _ _ _ _ _ => True) (fun _ U o U' => ∃ v L, o = .returned v ∧ own_R n0 v U'.heap L ∧ FrameEnd U o U' L room_1.cells room_1.slots) := by
  refine MetFree.of_bodySF (plainFor_of_name pn_0) hisR ?_
  intro p e s m args below meth c s₁ Bd hml0 hP hK
  obtain ⟨rfl, hZ, hh⟩ := hP
  have hx := Bd.exec
  have hby := Bd.bytes
  have hml : c.maxLocals = 4 := hml0
  have hown : s.vm.findClass "com/example/detaq/detaq/core/TaskStatusIsFinalPinLaw" = some m.cls := findClass_of_methodNamed Bd.named
  have hnm := (name_of_methodNamed Bd.named Bd.method).1
  have X0 : Stand p l e room_1 s m #[(.int p0)] below meth c s₁ [] 0 0 := Stand.of_body Bd
  have e0 : s₁.heap = h0 := by rw [← hh, Bd.state]; rfl
  have N0 := Fr.nil n0
  have pre0 : ∀ t, Steps p.tables e below (s₁.setTop (mkF m 0 #[.val (.int p0), .unset, .unset, .unset] [])) t → Steps p.tables e below (s₁.setTop (entryFrame m #[(.int p0)] maxLocals)) t := fun t k => castTop (ef_0 m p0) k
  obtain ⟨T1, h1, k1, X1, e1, E1, A1, Ov1, st1⟩ := newR X0 hx hZ hown (hw _ (List.mem_of_getElem? (i := 0) rfl)) (hw _ (List.mem_of_getElem? (i := 1) rfl)) e0 (g := (mkF m 1 #[.val (.int p0), .unset, .unset, .unset] [(.int (5 : Int32))])) rfl (hb hby at_1) rfl (by decide) (cap := 5) (by decide) (by decide) (by decide) (by decide)
  obtain ⟨b1, g1⟩ : ∃ z, z = h0.size := ⟨_, rfl⟩
  rw [← g1] at A1 st1
  have g_b1 : n0 ≤ b1 := Nat.le_trans (own_le O0) (Nat.le_of_eq g1.symm)
  have O1 := O0.ext E1
  have V_b1 : Arv Z h1 b1 k1 (.object "com/example/detaq/detaq/core/TaskStatus") (5 : Int32) [.null, .null, .null, .null, .null] .null := (Arv.new A1 (by decide)).pad (pad_rep [] .null 5)
  obtain ⟨T2, X2, e2, st2⟩ := getS2 X1 hx hZ hown (host := "") (Or.inl (hw _ (List.mem_of_getElem? (i := 2) rfl))) Via.refl e1 (S_ENQUEUED.ext O1.2) (g := (mkF m 6 #[.val (.int p0), .unset, .unset, .unset] [(.int (0 : Int32)), (.ref b1), (.ref b1)])) rfl (hb hby at_6)
  obtain ⟨cl3, Ar3, qa3, Sz3, Ng3, Hs3, Ft3⟩ := V_b1
  obtain ⟨T3, h3, X3, e3, W3, st3⟩ := stR X2 hx hZ e2 Ar3 (j := (0 : Int32)) (inb_of Sz3 ⟨by decide, by decide⟩) rfl (Sto.ofV Ar3 qa3 Ov1 (Ins.self (E_w0.ext O1.2))) (g := (mkF m 9 #[.val (.int p0), .unset, .unset, .unset] [(.ref w0), (.int (0 : Int32)), (.ref b1), (.ref b1)])) rfl rfl (hb hby at_9)
  have O3 := O1.wr W3 g_b1
  have N3 := Fr.snoc X3 N0 g_b1
  have V3 : Arv Z h3 b1 k1 (.object "com/example/detaq/detaq/core/TaskStatus") (5 : Int32) [(.ref w0), .null, .null, .null, .null] .null := Arv.set Ar3 qa3 Sz3 Ng3 Hs3 Ft3 rfl W3 0 rfl (Nat.le_of_ble_eq_true rfl)
  obtain ⟨T4, X4, e4, st4⟩ := getS2 X3 hx hZ hown (host := "") (Or.inl (hw _ (List.mem_of_getElem? (i := 6) rfl))) Via.refl e3 (S_PROCESSING.ext O3.2) (g := (mkF m 12 #[.val (.int p0), .unset, .unset, .unset] [(.int (1 : Int32)), (.ref b1), (.ref b1)])) rfl (hb hby at_12)
  obtain ⟨cl5, Ar5, qa5, Sz5, Ng5, Hs5, Ft5⟩ := V3
  obtain ⟨T5, h5, X5, e5, W5, st5⟩ := stR X4 hx hZ e4 Ar5 (j := (1 : Int32)) (inb_of Sz5 ⟨by decide, by decide⟩) rfl (Sto.ofV Ar5 qa5 Ov1 (Ins.self (E_w1.ext O3.2))) (g := (mkF m 15 #[.val (.int p0), .unset, .unset, .unset] [(.ref w1), (.int (1 : Int32)), (.ref b1), (.ref b1)])) rfl rfl (hb hby at_15)
  have O5 := O3.wr W5 g_b1
  have N5 := Fr.snoc X5 N3 g_b1
  have V5 : Arv Z h5 b1 k1 (.object "com/example/detaq/detaq/core/TaskStatus") (5 : Int32) [(.ref w0), (.ref w1), .null, .null, .null] .null := Arv.set Ar5 qa5 Sz5 Ng5 Hs5 Ft5 rfl W5 1 rfl (Nat.le_of_ble_eq_true rfl)
  obtain ⟨T6, X6, e6, st6⟩ := getS2 X5 hx hZ hown (host := "") (Or.inl (hw _ (List.mem_of_getElem? (i := 8) rfl))) Via.refl e5 (S_SUCCEEDED.ext O5.2) (g := (mkF m 18 #[.val (.int p0), .unset, .unset, .unset] [(.int (2 : Int32)), (.ref b1), (.ref b1)])) rfl (hb hby at_18)
  obtain ⟨cl7, Ar7, qa7, Sz7, Ng7, Hs7, Ft7⟩ := V5
  obtain ⟨T7, h7, X7, e7, W7, st7⟩ := stR X6 hx hZ e6 Ar7 (j := (2 : Int32)) (inb_of Sz7 ⟨by decide, by decide⟩) rfl (Sto.ofV Ar7 qa7 Ov1 (Ins.self (E_w2.ext O5.2))) (g := (mkF m 21 #[.val (.int p0), .unset, .unset, .unset] [(.ref w2), (.int (2 : Int32)), (.ref b1), (.ref b1)])) rfl rfl (hb hby at_21)
  have O7 := O5.wr W7 g_b1
  have N7 := Fr.snoc X7 N5 g_b1
  have V7 : Arv Z h7 b1 k1 (.object "com/example/detaq/detaq/core/TaskStatus") (5 : Int32) [(.ref w0), (.ref w1), (.ref w2), .null, .null] .null := Arv.set Ar7 qa7 Sz7 Ng7 Hs7 Ft7 rfl W7 2 rfl (Nat.le_of_ble_eq_true rfl)
  obtain ⟨T8, X8, e8, st8⟩ := getS2 X7 hx hZ hown (host := "") (Or.inl (hw _ (List.mem_of_getElem? (i := 10) rfl))) Via.refl e7 (S_FAILED.ext O7.2) (g := (mkF m 24 #[.val (.int p0), .unset, .unset, .unset] [(.int (3 : Int32)), (.ref b1), (.ref b1)])) rfl (hb hby at_24)
  obtain ⟨cl9, Ar9, qa9, Sz9, Ng9, Hs9, Ft9⟩ := V7
  obtain ⟨T9, h9, X9, e9, W9, st9⟩ := stR X8 hx hZ e8 Ar9 (j := (3 : Int32)) (inb_of Sz9 ⟨by decide, by decide⟩) rfl (Sto.ofV Ar9 qa9 Ov1 (Ins.self (E_w3.ext O7.2))) (g := (mkF m 27 #[.val (.int p0), .unset, .unset, .unset] [(.ref w3), (.int (3 : Int32)), (.ref b1), (.ref b1)])) rfl rfl (hb hby at_27)
  have O9 := O7.wr W9 g_b1
  have N9 := Fr.snoc X9 N7 g_b1
  have V9 : Arv Z h9 b1 k1 (.object "com/example/detaq/detaq/core/TaskStatus") (5 : Int32) [(.ref w0), (.ref w1), (.ref w2), (.ref w3), .null] .null := Arv.set Ar9 qa9 Sz9 Ng9 Hs9 Ft9 rfl W9 3 rfl (Nat.le_of_ble_eq_true rfl)
  obtain ⟨T10, X10, e10, st10⟩ := getS2 X9 hx hZ hown (host := "") (Or.inl (hw _ (List.mem_of_getElem? (i := 12) rfl))) Via.refl e9 (S_CANCELED.ext O9.2) (g := (mkF m 30 #[.val (.int p0), .unset, .unset, .unset] [(.int (4 : Int32)), (.ref b1), (.ref b1)])) rfl (hb hby at_30)
  obtain ⟨cl11, Ar11, qa11, Sz11, Ng11, Hs11, Ft11⟩ := V9
  obtain ⟨T11, h11, X11, e11, W11, st11⟩ := stR X10 hx hZ e10 Ar11 (j := (4 : Int32)) (inb_of Sz11 ⟨by decide, by decide⟩) rfl (Sto.ofV Ar11 qa11 Ov1 (Ins.self (E_w4.ext O9.2))) (g := (mkF m 33 #[.val (.int p0), .unset, .unset, .unset] [(.ref w4), (.int (4 : Int32)), (.ref b1), (.ref b1)])) rfl rfl (hb hby at_33)
  have O11 := O9.wr W11 g_b1
  have N11 := Fr.snoc X11 N9 g_b1
  have V11 : Arv Z h11 b1 k1 (.object "com/example/detaq/detaq/core/TaskStatus") (5 : Int32) [(.ref w0), (.ref w1), (.ref w2), (.ref w3), (.ref w4)] .null := Arv.set Ar11 qa11 Sz11 Ng11 Hs11 Ft11 rfl W11 4 rfl (Nat.le_of_ble_eq_true rfl)
  obtain ⟨T12, h12, k12, X12, e12, E12, A12, st12⟩ := newP X11 hx hZ (hw _ (List.mem_of_getElem? (i := 14) rfl)) e11 (g := (mkF m 36 #[.val (.int p0), .val (.ref b1), .unset, .unset] [(.int (5 : Int32))])) rfl (hb hby at_36) rfl (by decide) (cap := 5) (by decide) (by decide) (by decide) (by decide)
  obtain ⟨b12, g12⟩ : ∃ z, z = h11.size := ⟨_, rfl⟩
  rw [← g12] at A12 st12
  have g_b12 : n0 ≤ b12 := Nat.le_trans (own_le O11) (Nat.le_of_eq g12.symm)
  have O12 := O11.ext E12
  have V_b12 : Arv Z h12 b12 k12 .boolean (5 : Int32) [(.int (0 : Int32)), (.int (0 : Int32)), (.int (0 : Int32)), (.int (0 : Int32)), (.int (0 : Int32))] (.int (0 : Int32)) := (Arv.new A12 (by decide)).pad (pad_rep [] (.int (0 : Int32)) 5)
  obtain ⟨cl13, Ar13, qa13, Sz13, Ng13, Hs13, Ft13⟩ := V_b12
  obtain ⟨T13, h13, X13, e13, W13, st13⟩ := stZ X12 hx hZ e12 Ar13 (j := (0 : Int32)) (inb_of Sz13 ⟨by decide, by decide⟩) (g := (mkF m 41 #[.val (.int p0), .val (.ref b1), .unset, .unset] [(.int (0 : Int32)), (.int (0 : Int32)), (.ref b12), (.ref b12)])) rfl rfl (hb hby at_41)
  have O13 := O12.wr W13 g_b12
  have N13 := Fr.snoc X13 N11 g_b12
  have V13 : Arv Z h13 b12 k12 .boolean (5 : Int32) [(.int (0 : Int32)), (.int (0 : Int32)), (.int (0 : Int32)), (.int (0 : Int32)), (.int (0 : Int32))] (.int (0 : Int32)) := Arv.set Ar13 qa13 Sz13 Ng13 Hs13 Ft13 (fits_nar_bool _) W13 0 rfl (Nat.le_of_ble_eq_true rfl)
  obtain ⟨cl14, Ar14, qa14, Sz14, Ng14, Hs14, Ft14⟩ := V13
  obtain ⟨T14, h14, X14, e14, W14, st14⟩ := stZ X13 hx hZ e13 Ar14 (j := (1 : Int32)) (inb_of Sz14 ⟨by decide, by decide⟩) (g := (mkF m 45 #[.val (.int p0), .val (.ref b1), .unset, .unset] [(.int (0 : Int32)), (.int (1 : Int32)), (.ref b12), (.ref b12)])) rfl rfl (hb hby at_45)
  have O14 := O13.wr W14 g_b12
  have N14 := Fr.snoc X14 N13 g_b12
  have V14 : Arv Z h14 b12 k12 .boolean (5 : Int32) [(.int (0 : Int32)), (.int (0 : Int32)), (.int (0 : Int32)), (.int (0 : Int32)), (.int (0 : Int32))] (.int (0 : Int32)) := Arv.set Ar14 qa14 Sz14 Ng14 Hs14 Ft14 (fits_nar_bool _) W14 1 rfl (Nat.le_of_ble_eq_true rfl)
  obtain ⟨cl15, Ar15, qa15, Sz15, Ng15, Hs15, Ft15⟩ := V14
  obtain ⟨T15, h15, X15, e15, W15, st15⟩ := stZ X14 hx hZ e14 Ar15 (j := (2 : Int32)) (inb_of Sz15 ⟨by decide, by decide⟩) (g := (mkF m 49 #[.val (.int p0), .val (.ref b1), .unset, .unset] [(.int (1 : Int32)), (.int (2 : Int32)), (.ref b12), (.ref b12)])) rfl rfl (hb hby at_49)
  have O15 := O14.wr W15 g_b12
  have N15 := Fr.snoc X15 N14 g_b12
  have V15 : Arv Z h15 b12 k12 .boolean (5 : Int32) [(.int (0 : Int32)), (.int (0 : Int32)), (.int (1 : Int32)), (.int (0 : Int32)), (.int (0 : Int32))] (.int (0 : Int32)) := Arv.set Ar15 qa15 Sz15 Ng15 Hs15 Ft15 (fits_nar_bool _) W15 2 rfl (Nat.le_of_ble_eq_true rfl)
  obtain ⟨cl16, Ar16, qa16, Sz16, Ng16, Hs16, Ft16⟩ := V15
  obtain ⟨T16, h16, X16, e16, W16, st16⟩ := stZ X15 hx hZ e15 Ar16 (j := (3 : Int32)) (inb_of Sz16 ⟨by decide, by decide⟩) (g := (mkF m 53 #[.val (.int p0), .val (.ref b1), .unset, .unset] [(.int (1 : Int32)), (.int (3 : Int32)), (.ref b12), (.ref b12)])) rfl rfl (hb hby at_53)
  have O16 := O15.wr W16 g_b12
  have N16 := Fr.snoc X16 N15 g_b12
  have V16 : Arv Z h16 b12 k12 .boolean (5 : Int32) [(.int (0 : Int32)), (.int (0 : Int32)), (.int (1 : Int32)), (.int (1 : Int32)), (.int (0 : Int32))] (.int (0 : Int32)) := Arv.set Ar16 qa16 Sz16 Ng16 Hs16 Ft16 (fits_nar_bool _) W16 3 rfl (Nat.le_of_ble_eq_true rfl)
  obtain ⟨cl17, Ar17, qa17, Sz17, Ng17, Hs17, Ft17⟩ := V16
  obtain ⟨T17, h17, X17, e17, W17, st17⟩ := stZ X16 hx hZ e16 Ar17 (j := (4 : Int32)) (inb_of Sz17 ⟨by decide, by decide⟩) (g := (mkF m 57 #[.val (.int p0), .val (.ref b1), .unset, .unset] [(.int (1 : Int32)), (.int (4 : Int32)), (.ref b12), (.ref b12)])) rfl rfl (hb hby at_57)
  have O17 := O16.wr W17 g_b12
  have N17 := Fr.snoc X17 N16 g_b12
  have V17 : Arv Z h17 b12 k12 .boolean (5 : Int32) [(.int (0 : Int32)), (.int (0 : Int32)), (.int (1 : Int32)), (.int (1 : Int32)), (.int (1 : Int32))] (.int (0 : Int32)) := Arv.set Ar17 qa17 Sz17 Ng17 Hs17 Ft17 (fits_nar_bool _) W17 4 rfl (Nat.le_of_ble_eq_true rfl)
  have v_b1_12_x := ((((((V11.ext E12).other W13 (Nat.ne_of_lt (Nat.lt_of_lt_of_le V11.lt (Nat.le_of_eq g12.symm)))).other W14 (Nat.ne_of_lt (Nat.lt_of_lt_of_le V11.lt (Nat.le_of_eq g12.symm)))).other W15 (Nat.ne_of_lt (Nat.lt_of_lt_of_le V11.lt (Nat.le_of_eq g12.symm)))).other W16 (Nat.ne_of_lt (Nat.lt_of_lt_of_le V11.lt (Nat.le_of_eq g12.symm)))).other W17 (Nat.ne_of_lt (Nat.lt_of_lt_of_le V11.lt (Nat.le_of_eq g12.symm))))
  obtain ⟨cl18, Ar18, qa18, Sz18, Ng18, Hs18, Ft18⟩ := v_b1_12_x
  have hin18 := (inb_of (j := (1 : Int32)) Sz18 ⟨by decide, by decide⟩)
  have hat18 := Hs18.at (v := (.ref w1)) hin18 rfl
  have V18o : Arv Z h17 b1 k1 (.object "com/example/detaq/detaq/core/TaskStatus") (5 : Int32) [(.ref w0), (.ref w1), (.ref w2), (.ref w3), (.ref w4)] .null := ⟨cl18, Ar18, qa18, Sz18, Ng18, Hs18, Ft18⟩
  obtain ⟨cq19, kq19, q19a, q19b, q19c⟩ := isOf hZ e17 (E_w1.ext O17.2)
  obtain ⟨_, _, ⟨T19, L19, k19, n19⟩, -, X19, ⟨Lc19, hQ19, l19, y19, z19⟩, st19⟩ := X17.virtualBack hx (y := (⟨"com/example/detaq/detaq/core/TaskStatus", "isFinal", "()Z"⟩ : MethodName)) (z := (⟨"com/example/detaq/detaq/core/TaskStatus", "isFinal", "()Z"⟩ : MethodName)) hown (mvT hZ (hw _ (List.mem_of_getElem? (i := 16) rfl))) (mvT hZ (hw _ (List.mem_of_getElem? (i := 17) rfl))) (notFace_of_selects (args := #[]) (mvT hZ (hw _ (List.mem_of_getElem? (i := 19) rfl)))) (mvT hZ (hw _ (List.mem_of_getElem? (i := 19) rfl))) (mvT hZ (hw _ (List.mem_of_getElem? (i := 18) rfl))) (by decide) (backOf (W := 0) (rm1N l Z a0 hw [] w1 w2 w3 w4 h17 n0 O17 S_SUCCEEDED S_FAILED S_CANCELED q12 q13 q14) hZ (hw _ (List.mem_of_getElem? (i := 20) rfl)) (hw _ (List.mem_of_getElem? (i := 3) rfl)) (by decide) (by decide)) q19a q19c (g := (mkF m 69 #[.val (.int p0), .val (.ref b1), .val (.ref b12), .val (.int (1 : Int32))] [(.ref w1)])) rfl (by rw [hml]; rfl) (Steps.refl _) (argsL := []) (rest := []) (lenOf pd_0 rfl) rfl (by show 2 * 0 + _ ≤ _; exact Nat.le_of_eq rfl) (hb hby at_69) (fun _ _ => ⟨rfl, e17, (by decide : 2 + 0 ≤ _), (by decide : 10 + 0 ≤ _)⟩)
  dsimp only [Pt.U, Pt.locs, Pt.cells, Pt.slots] at X19 l19 y19 z19 st19 hQ19
  subst l19 y19 z19
  obtain ⟨rfl, N19q, e19⟩ := hQ19
  have N19 := Fr.app N17 N19q
  obtain ⟨cl20, Ar20, qa20, Sz20, Ng20, Hs20, Ft20⟩ := V17
  have hin20 := (inb_of (j := (1 : Int32)) Sz20 ⟨by decide, by decide⟩)
  have hat20 := Hs20.at (v := (.int (0 : Int32))) hin20 rfl
  have V20o : Arv Z h17 b12 k12 .boolean (5 : Int32) [(.int (0 : Int32)), (.int (0 : Int32)), (.int (1 : Int32)), (.int (1 : Int32)), (.int (1 : Int32))] (.int (0 : Int32)) := ⟨cl20, Ar20, qa20, Sz20, Ng20, Hs20, Ft20⟩
  obtain ⟨fs, hr, hrun, hended, hW, hsame⟩ := X19.leave (v := some (.int (1 : Int32))) (fun h => by rw [Bd.returns] at h; cases h)
  refine ⟨_, _, pre0 _ ?_, hrun, hended, _, _, rfl, ?_, ⟨_, rfl⟩, hW, hsame.mono (by decide) (by decide)⟩
  · show Steps p.tables e below (s₁.setTop (mkF m 0 #[.val (.int p0), .unset, .unset, .unset] [])) _
    refine XS.iconst X0.here hx rfl (hb hby at_0) ?_
    show Steps p.tables e below (s₁.setTop (mkF m 1 #[.val (.int p0), .unset, .unset, .unset] [(.int (5 : Int32))])) _
    refine st1 _ ?_
    show Steps p.tables e below (T1.setTop (mkF m 4 #[.val (.int p0), .unset, .unset, .unset] [(.ref b1)])) _
    refine XS.dup X1.here hx rfl (hb hby at_4) rfl rfl ?_
    show Steps p.tables e below (T1.setTop (mkF m 5 #[.val (.int p0), .unset, .unset, .unset] [(.ref b1), (.ref b1)])) _
    refine XS.iconst X1.here hx rfl (hb hby at_5) ?_
    show Steps p.tables e below (T1.setTop (mkF m 6 #[.val (.int p0), .unset, .unset, .unset] [(.int (0 : Int32)), (.ref b1), (.ref b1)])) _
    refine st2 _ ?_
    show Steps p.tables e below (T2.setTop (mkF m 9 #[.val (.int p0), .unset, .unset, .unset] [(.ref w0), (.int (0 : Int32)), (.ref b1), (.ref b1)])) _
    refine st3 _ ?_
    show Steps p.tables e below (T3.setTop (mkF m 10 #[.val (.int p0), .unset, .unset, .unset] [(.ref b1)])) _
    refine XS.dup X3.here hx rfl (hb hby at_10) rfl rfl ?_
    show Steps p.tables e below (T3.setTop (mkF m 11 #[.val (.int p0), .unset, .unset, .unset] [(.ref b1), (.ref b1)])) _
    refine XS.iconst X3.here hx rfl (hb hby at_11) ?_
    show Steps p.tables e below (T3.setTop (mkF m 12 #[.val (.int p0), .unset, .unset, .unset] [(.int (1 : Int32)), (.ref b1), (.ref b1)])) _
    refine st4 _ ?_
    show Steps p.tables e below (T4.setTop (mkF m 15 #[.val (.int p0), .unset, .unset, .unset] [(.ref w1), (.int (1 : Int32)), (.ref b1), (.ref b1)])) _
    refine st5 _ ?_
    show Steps p.tables e below (T5.setTop (mkF m 16 #[.val (.int p0), .unset, .unset, .unset] [(.ref b1)])) _
    refine XS.dup X5.here hx rfl (hb hby at_16) rfl rfl ?_
    show Steps p.tables e below (T5.setTop (mkF m 17 #[.val (.int p0), .unset, .unset, .unset] [(.ref b1), (.ref b1)])) _
    refine XS.iconst X5.here hx rfl (hb hby at_17) ?_
    show Steps p.tables e below (T5.setTop (mkF m 18 #[.val (.int p0), .unset, .unset, .unset] [(.int (2 : Int32)), (.ref b1), (.ref b1)])) _
    refine st6 _ ?_
    show Steps p.tables e below (T6.setTop (mkF m 21 #[.val (.int p0), .unset, .unset, .unset] [(.ref w2), (.int (2 : Int32)), (.ref b1), (.ref b1)])) _
    refine st7 _ ?_
    show Steps p.tables e below (T7.setTop (mkF m 22 #[.val (.int p0), .unset, .unset, .unset] [(.ref b1)])) _
    refine XS.dup X7.here hx rfl (hb hby at_22) rfl rfl ?_
    show Steps p.tables e below (T7.setTop (mkF m 23 #[.val (.int p0), .unset, .unset, .unset] [(.ref b1), (.ref b1)])) _
    refine XS.iconst X7.here hx rfl (hb hby at_23) ?_
    show Steps p.tables e below (T7.setTop (mkF m 24 #[.val (.int p0), .unset, .unset, .unset] [(.int (3 : Int32)), (.ref b1), (.ref b1)])) _
    refine st8 _ ?_
    show Steps p.tables e below (T8.setTop (mkF m 27 #[.val (.int p0), .unset, .unset, .unset] [(.ref w3), (.int (3 : Int32)), (.ref b1), (.ref b1)])) _
    refine st9 _ ?_
    show Steps p.tables e below (T9.setTop (mkF m 28 #[.val (.int p0), .unset, .unset, .unset] [(.ref b1)])) _
    refine XS.dup X9.here hx rfl (hb hby at_28) rfl rfl ?_
    show Steps p.tables e below (T9.setTop (mkF m 29 #[.val (.int p0), .unset, .unset, .unset] [(.ref b1), (.ref b1)])) _
    refine XS.iconst X9.here hx rfl (hb hby at_29) ?_
    show Steps p.tables e below (T9.setTop (mkF m 30 #[.val (.int p0), .unset, .unset, .unset] [(.int (4 : Int32)), (.ref b1), (.ref b1)])) _
    refine st10 _ ?_
    show Steps p.tables e below (T10.setTop (mkF m 33 #[.val (.int p0), .unset, .unset, .unset] [(.ref w4), (.int (4 : Int32)), (.ref b1), (.ref b1)])) _
    refine st11 _ ?_
    show Steps p.tables e below (T11.setTop (mkF m 34 #[.val (.int p0), .unset, .unset, .unset] [(.ref b1)])) _
    refine XS.astoreN X11.here hx rfl (hb hby at_34) rfl rfl (l' := #[.val (.int p0), .val (.ref b1), .unset, .unset]) rfl ?_
    show Steps p.tables e below (T11.setTop (mkF m 35 #[.val (.int p0), .val (.ref b1), .unset, .unset] [])) _
    refine XS.iconst X11.here hx rfl (hb hby at_35) ?_
    show Steps p.tables e below (T11.setTop (mkF m 36 #[.val (.int p0), .val (.ref b1), .unset, .unset] [(.int (5 : Int32))])) _
    refine st12 _ ?_
    show Steps p.tables e below (T12.setTop (mkF m 38 #[.val (.int p0), .val (.ref b1), .unset, .unset] [(.ref b12)])) _
    refine XS.dup X12.here hx rfl (hb hby at_38) rfl rfl ?_
    show Steps p.tables e below (T12.setTop (mkF m 39 #[.val (.int p0), .val (.ref b1), .unset, .unset] [(.ref b12), (.ref b12)])) _
    refine XS.iconst X12.here hx rfl (hb hby at_39) ?_
    show Steps p.tables e below (T12.setTop (mkF m 40 #[.val (.int p0), .val (.ref b1), .unset, .unset] [(.int (0 : Int32)), (.ref b12), (.ref b12)])) _
    refine XS.iconst X12.here hx rfl (hb hby at_40) ?_
    show Steps p.tables e below (T12.setTop (mkF m 41 #[.val (.int p0), .val (.ref b1), .unset, .unset] [(.int (0 : Int32)), (.int (0 : Int32)), (.ref b12), (.ref b12)])) _
    refine st13 _ ?_
    show Steps p.tables e below (T13.setTop (mkF m 42 #[.val (.int p0), .val (.ref b1), .unset, .unset] [(.ref b12)])) _
    refine XS.dup X13.here hx rfl (hb hby at_42) rfl rfl ?_
    show Steps p.tables e below (T13.setTop (mkF m 43 #[.val (.int p0), .val (.ref b1), .unset, .unset] [(.ref b12), (.ref b12)])) _
    refine XS.iconst X13.here hx rfl (hb hby at_43) ?_
    show Steps p.tables e below (T13.setTop (mkF m 44 #[.val (.int p0), .val (.ref b1), .unset, .unset] [(.int (1 : Int32)), (.ref b12), (.ref b12)])) _
    refine XS.iconst X13.here hx rfl (hb hby at_44) ?_
    show Steps p.tables e below (T13.setTop (mkF m 45 #[.val (.int p0), .val (.ref b1), .unset, .unset] [(.int (0 : Int32)), (.int (1 : Int32)), (.ref b12), (.ref b12)])) _
    refine st14 _ ?_
    show Steps p.tables e below (T14.setTop (mkF m 46 #[.val (.int p0), .val (.ref b1), .unset, .unset] [(.ref b12)])) _
    refine XS.dup X14.here hx rfl (hb hby at_46) rfl rfl ?_
    show Steps p.tables e below (T14.setTop (mkF m 47 #[.val (.int p0), .val (.ref b1), .unset, .unset] [(.ref b12), (.ref b12)])) _
    refine XS.iconst X14.here hx rfl (hb hby at_47) ?_
    show Steps p.tables e below (T14.setTop (mkF m 48 #[.val (.int p0), .val (.ref b1), .unset, .unset] [(.int (2 : Int32)), (.ref b12), (.ref b12)])) _
    refine XS.iconst X14.here hx rfl (hb hby at_48) ?_
    show Steps p.tables e below (T14.setTop (mkF m 49 #[.val (.int p0), .val (.ref b1), .unset, .unset] [(.int (1 : Int32)), (.int (2 : Int32)), (.ref b12), (.ref b12)])) _
    refine st15 _ ?_
    show Steps p.tables e below (T15.setTop (mkF m 50 #[.val (.int p0), .val (.ref b1), .unset, .unset] [(.ref b12)])) _
    refine XS.dup X15.here hx rfl (hb hby at_50) rfl rfl ?_
    show Steps p.tables e below (T15.setTop (mkF m 51 #[.val (.int p0), .val (.ref b1), .unset, .unset] [(.ref b12), (.ref b12)])) _
    refine XS.iconst X15.here hx rfl (hb hby at_51) ?_
    show Steps p.tables e below (T15.setTop (mkF m 52 #[.val (.int p0), .val (.ref b1), .unset, .unset] [(.int (3 : Int32)), (.ref b12), (.ref b12)])) _
    refine XS.iconst X15.here hx rfl (hb hby at_52) ?_
    show Steps p.tables e below (T15.setTop (mkF m 53 #[.val (.int p0), .val (.ref b1), .unset, .unset] [(.int (1 : Int32)), (.int (3 : Int32)), (.ref b12), (.ref b12)])) _
    refine st16 _ ?_
    show Steps p.tables e below (T16.setTop (mkF m 54 #[.val (.int p0), .val (.ref b1), .unset, .unset] [(.ref b12)])) _
    refine XS.dup X16.here hx rfl (hb hby at_54) rfl rfl ?_
    show Steps p.tables e below (T16.setTop (mkF m 55 #[.val (.int p0), .val (.ref b1), .unset, .unset] [(.ref b12), (.ref b12)])) _
    refine XS.iconst X16.here hx rfl (hb hby at_55) ?_
    show Steps p.tables e below (T16.setTop (mkF m 56 #[.val (.int p0), .val (.ref b1), .unset, .unset] [(.int (4 : Int32)), (.ref b12), (.ref b12)])) _
    refine XS.iconst X16.here hx rfl (hb hby at_56) ?_
    show Steps p.tables e below (T16.setTop (mkF m 57 #[.val (.int p0), .val (.ref b1), .unset, .unset] [(.int (1 : Int32)), (.int (4 : Int32)), (.ref b12), (.ref b12)])) _
    refine st17 _ ?_
    show Steps p.tables e below (T17.setTop (mkF m 58 #[.val (.int p0), .val (.ref b1), .unset, .unset] [(.ref b12)])) _
    refine XS.astoreN X17.here hx rfl (hb hby at_58) rfl rfl (l' := #[.val (.int p0), .val (.ref b1), .val (.ref b12), .unset]) rfl ?_
    show Steps p.tables e below (T17.setTop (mkF m 59 #[.val (.int p0), .val (.ref b1), .val (.ref b12), .unset] [])) _
    refine XS.iloadN X17.here hx rfl (hb hby at_59) rfl ?_
    show Steps p.tables e below (T17.setTop (mkF m 60 #[.val (.int p0), .val (.ref b1), .val (.ref b12), .unset] [(.int p0)])) _
    refine X17.ldcInt hx hown (mvT hZ (hw _ (List.mem_of_getElem? (i := 15) rfl))) (g := (mkF m 60 #[.val (.int p0), .val (.ref b1), .val (.ref b12), .unset] [(.int p0)])) rfl (hb hby at_60) _ ?_
    show Steps p.tables e below (T17.setTop (mkF m 62 #[.val (.int p0), .val (.ref b1), .val (.ref b12), .unset] [(.int (2147483647 : Int32)), (.int p0)])) _
    refine XS.iand X17.here hx rfl (hb hby at_62) rfl ?_
    show Steps p.tables e below (T17.setTop (mkF m 63 #[.val (.int p0), .val (.ref b1), .val (.ref b12), .unset] [(.int (p0 &&& (2147483647 : Int32)))])) _
    refine XS.iconst X17.here hx rfl (hb hby at_63) ?_
    show Steps p.tables e below (T17.setTop (mkF m 64 #[.val (.int p0), .val (.ref b1), .val (.ref b12), .unset] [(.int (5 : Int32)), (.int (p0 &&& (2147483647 : Int32)))])) _
    refine iremM X17 hx rfl (hb hby at_64) rfl (by decide) ?_
    show Steps p.tables e below (T17.setTop (mkF m 65 #[.val (.int p0), .val (.ref b1), .val (.ref b12), .unset] [(.int ((p0 &&& (2147483647 : Int32)) % (5 : Int32)))])) _
    rw [hi]
    show Steps p.tables e below (T17.setTop (mkF m 65 #[.val (.int p0), .val (.ref b1), .val (.ref b12), .unset] [(.int (1 : Int32))])) _
    refine XS.istoreN X17.here hx rfl (hb hby at_65) rfl (l' := #[.val (.int p0), .val (.ref b1), .val (.ref b12), .val (.int (1 : Int32))]) rfl ?_
    show Steps p.tables e below (T17.setTop (mkF m 66 #[.val (.int p0), .val (.ref b1), .val (.ref b12), .val (.int (1 : Int32))] [])) _
    refine XS.aloadN X17.here hx rfl (hb hby at_66) rfl rfl ?_
    show Steps p.tables e below (T17.setTop (mkF m 67 #[.val (.int p0), .val (.ref b1), .val (.ref b12), .val (.int (1 : Int32))] [(.ref b1)])) _
    refine XS.iloadN X17.here hx rfl (hb hby at_67) rfl ?_
    show Steps p.tables e below (T17.setTop (mkF m 68 #[.val (.int p0), .val (.ref b1), .val (.ref b12), .val (.int (1 : Int32))] [(.int (1 : Int32)), (.ref b1)])) _
    refine X17.aaload hx (j := (1 : Int32)) (v := (.ref w1)) (by rw [e17]; exact Ar18.1) (State.isArrayOf_alike hZ.alike Ar18.2.1) rfl Ar18.2.2 hin18 hat18 (g := (mkF m 68 #[.val (.int p0), .val (.ref b1), .val (.ref b12), .val (.int (1 : Int32))] [(.int (1 : Int32)), (.ref b1)])) rfl rfl (hb hby at_68) _ ?_
    show Steps p.tables e below (T17.setTop (mkF m 69 #[.val (.int p0), .val (.ref b1), .val (.ref b12), .val (.int (1 : Int32))] [(.ref w1)])) _
    refine st19.trans ?_
    show Steps p.tables e below (T19.setTop (mkF m 72 #[.val (.int p0), .val (.ref b1), .val (.ref b12), .val (.int (1 : Int32))] [(.int (0 : Int32))])) _
    refine XS.aloadN X19.here hx rfl (hb hby at_72) rfl rfl ?_
    show Steps p.tables e below (T19.setTop (mkF m 73 #[.val (.int p0), .val (.ref b1), .val (.ref b12), .val (.int (1 : Int32))] [(.ref b12), (.int (0 : Int32))])) _
    refine XS.iloadN X19.here hx rfl (hb hby at_73) rfl ?_
    show Steps p.tables e below (T19.setTop (mkF m 74 #[.val (.int p0), .val (.ref b1), .val (.ref b12), .val (.int (1 : Int32))] [(.int (1 : Int32)), (.ref b12), (.int (0 : Int32))])) _
    refine X19.baloadBooleans hx (j := (1 : Int32)) (v := (.int (0 : Int32))) (by rw [e19]; exact Ar20.1) (State.isArrayOf_alike hZ.alike Ar20.2.1) Ar20.2.2 hin20 hat20 (g := (mkF m 74 #[.val (.int p0), .val (.ref b1), .val (.ref b12), .val (.int (1 : Int32))] [(.int (1 : Int32)), (.ref b12), (.int (0 : Int32))])) rfl rfl (hb hby at_74) _ ?_
    show Steps p.tables e below (T19.setTop (mkF m 75 #[.val (.int p0), .val (.ref b1), .val (.ref b12), .val (.int (1 : Int32))] [(.int (0 : Int32)), (.int (0 : Int32))])) _
    refine XS.icmpNo X19.here hx rfl (hb hby at_75) rfl (teq (by decide : (0 : Int32) = (0 : Int32))).2 ?_
    show Steps p.tables e below (T19.setTop (mkF m 78 #[.val (.int p0), .val (.ref b1), .val (.ref b12), .val (.int (1 : Int32))] [])) _
    refine XS.iconst X19.here hx rfl (hb hby at_78) ?_
    show Steps p.tables e below (T19.setTop (mkF m 79 #[.val (.int p0), .val (.ref b1), .val (.ref b12), .val (.int (1 : Int32))] [(.int (1 : Int32))])) _
    refine XS.goto X19.here hx rfl (pc0 := 79) (pc' := 83) rfl (hb hby at_79) (by decide) (by decide) ?_
    show Steps p.tables e below (T19.setTop (mkF m 83 #[.val (.int p0), .val (.ref b1), .val (.ref b12), .val (.int (1 : Int32))] [(.int (1 : Int32))])) _
    exact retN X19 hx (t := .boolean) Bd.returns (by simp) (hb hby at_83) hr
  · show own_R n0 _ T19.heap _
    rw [e19]
    exact ⟨rfl, N19⟩
set_option maxRecDepth 65536 in
set_option maxHeartbeats 40000000 in
theorem rm0_2 (l : Launch) (Z : State) (a0 : Array Value) (hw : ∀ d ∈ tables_1, d.before a0 Z = true) (ws : List Jvm.Cond) (p0 : Int32) (w0 : Addr) (w1 : Addr) (w2 : Addr) (w3 : Addr) (w4 : Addr) (h0 : Heap) (n0 : Nat) (O0 : Old Z n0 h0) (hi : ((p0 &&& (2147483647 : Int32)) % (5 : Int32)) = (2 : Int32)) (S_ENQUEUED : Sta Z Z.heap "com/example/detaq/detaq/core/TaskStatus" "ENQUEUED" "Lcom/example/detaq/detaq/core/TaskStatus;" (.ref w0)) (E_w0 : Exa Z Z.heap w0 "com/example/detaq/detaq/core/TaskStatus") (S_PROCESSING : Sta Z Z.heap "com/example/detaq/detaq/core/TaskStatus" "PROCESSING" "Lcom/example/detaq/detaq/core/TaskStatus;" (.ref w1)) (E_w1 : Exa Z Z.heap w1 "com/example/detaq/detaq/core/TaskStatus") (S_SUCCEEDED : Sta Z Z.heap "com/example/detaq/detaq/core/TaskStatus" "SUCCEEDED" "Lcom/example/detaq/detaq/core/TaskStatus;" (.ref w2)) (E_w2 : Exa Z Z.heap w2 "com/example/detaq/detaq/core/TaskStatus") (S_FAILED : Sta Z Z.heap "com/example/detaq/detaq/core/TaskStatus" "FAILED" "Lcom/example/detaq/detaq/core/TaskStatus;" (.ref w3)) (E_w3 : Exa Z Z.heap w3 "com/example/detaq/detaq/core/TaskStatus") (S_CANCELED : Sta Z Z.heap "com/example/detaq/detaq/core/TaskStatus" "CANCELED" "Lcom/example/detaq/detaq/core/TaskStatus;" (.ref w4)) (E_w4 : Exa Z Z.heap w4 "com/example/detaq/detaq/core/TaskStatus") (q23 : ¬ (w2 = w3)) (q24 : ¬ (w2 = w4)) :
    MetFree l x (head1 (Jvm.Cond.code x code maxLocals ret :: ws) room_1) (fun a U => a = #[(.int p0)] ∧ Z.Warmed39 U.vm ∧ U.heap = h0) (fun _ _ _ _ _ => True) (fun _ U o U' => ∃ v L, o = .returned v ∧ own_R n0 v U'.heap L ∧ FrameEnd U o U' L room_1.cells room_1.slots) := by
  refine MetFree.of_bodySF (plainFor_of_name pn_0) hisR ?_
  intro p e s m args below meth c s₁ Bd hml0 hP hK
  obtain ⟨rfl, hZ, hh⟩ := hP
  have hx := Bd.exec
  have hby := Bd.bytes
  have hml : c.maxLocals = 4 := hml0
  have hown : s.vm.findClass "com/example/detaq/detaq/core/TaskStatusIsFinalPinLaw" = some m.cls := findClass_of_methodNamed Bd.named
  have hnm := (name_of_methodNamed Bd.named Bd.method).1
  have X0 : Stand p l e room_1 s m #[(.int p0)] below meth c s₁ [] 0 0 := Stand.of_body Bd
  have e0 : s₁.heap = h0 := by rw [← hh, Bd.state]; rfl
  have N0 := Fr.nil n0
  have pre0 : ∀ t, Steps p.tables e below (s₁.setTop (mkF m 0 #[.val (.int p0), .unset, .unset, .unset] [])) t → Steps p.tables e below (s₁.setTop (entryFrame m #[(.int p0)] maxLocals)) t := fun t k => castTop (ef_0 m p0) k
  obtain ⟨T1, h1, k1, X1, e1, E1, A1, Ov1, st1⟩ := newR X0 hx hZ hown (hw _ (List.mem_of_getElem? (i := 0) rfl)) (hw _ (List.mem_of_getElem? (i := 1) rfl)) e0 (g := (mkF m 1 #[.val (.int p0), .unset, .unset, .unset] [(.int (5 : Int32))])) rfl (hb hby at_1) rfl (by decide) (cap := 5) (by decide) (by decide) (by decide) (by decide)
  obtain ⟨b1, g1⟩ : ∃ z, z = h0.size := ⟨_, rfl⟩
  rw [← g1] at A1 st1
  have g_b1 : n0 ≤ b1 := Nat.le_trans (own_le O0) (Nat.le_of_eq g1.symm)
  have O1 := O0.ext E1
  have V_b1 : Arv Z h1 b1 k1 (.object "com/example/detaq/detaq/core/TaskStatus") (5 : Int32) [.null, .null, .null, .null, .null] .null := (Arv.new A1 (by decide)).pad (pad_rep [] .null 5)
  obtain ⟨T2, X2, e2, st2⟩ := getS2 X1 hx hZ hown (host := "") (Or.inl (hw _ (List.mem_of_getElem? (i := 2) rfl))) Via.refl e1 (S_ENQUEUED.ext O1.2) (g := (mkF m 6 #[.val (.int p0), .unset, .unset, .unset] [(.int (0 : Int32)), (.ref b1), (.ref b1)])) rfl (hb hby at_6)
  obtain ⟨cl3, Ar3, qa3, Sz3, Ng3, Hs3, Ft3⟩ := V_b1
  obtain ⟨T3, h3, X3, e3, W3, st3⟩ := stR X2 hx hZ e2 Ar3 (j := (0 : Int32)) (inb_of Sz3 ⟨by decide, by decide⟩) rfl (Sto.ofV Ar3 qa3 Ov1 (Ins.self (E_w0.ext O1.2))) (g := (mkF m 9 #[.val (.int p0), .unset, .unset, .unset] [(.ref w0), (.int (0 : Int32)), (.ref b1), (.ref b1)])) rfl rfl (hb hby at_9)
  have O3 := O1.wr W3 g_b1
  have N3 := Fr.snoc X3 N0 g_b1
  have V3 : Arv Z h3 b1 k1 (.object "com/example/detaq/detaq/core/TaskStatus") (5 : Int32) [(.ref w0), .null, .null, .null, .null] .null := Arv.set Ar3 qa3 Sz3 Ng3 Hs3 Ft3 rfl W3 0 rfl (Nat.le_of_ble_eq_true rfl)
  obtain ⟨T4, X4, e4, st4⟩ := getS2 X3 hx hZ hown (host := "") (Or.inl (hw _ (List.mem_of_getElem? (i := 6) rfl))) Via.refl e3 (S_PROCESSING.ext O3.2) (g := (mkF m 12 #[.val (.int p0), .unset, .unset, .unset] [(.int (1 : Int32)), (.ref b1), (.ref b1)])) rfl (hb hby at_12)
  obtain ⟨cl5, Ar5, qa5, Sz5, Ng5, Hs5, Ft5⟩ := V3
  obtain ⟨T5, h5, X5, e5, W5, st5⟩ := stR X4 hx hZ e4 Ar5 (j := (1 : Int32)) (inb_of Sz5 ⟨by decide, by decide⟩) rfl (Sto.ofV Ar5 qa5 Ov1 (Ins.self (E_w1.ext O3.2))) (g := (mkF m 15 #[.val (.int p0), .unset, .unset, .unset] [(.ref w1), (.int (1 : Int32)), (.ref b1), (.ref b1)])) rfl rfl (hb hby at_15)
  have O5 := O3.wr W5 g_b1
  have N5 := Fr.snoc X5 N3 g_b1
  have V5 : Arv Z h5 b1 k1 (.object "com/example/detaq/detaq/core/TaskStatus") (5 : Int32) [(.ref w0), (.ref w1), .null, .null, .null] .null := Arv.set Ar5 qa5 Sz5 Ng5 Hs5 Ft5 rfl W5 1 rfl (Nat.le_of_ble_eq_true rfl)
  obtain ⟨T6, X6, e6, st6⟩ := getS2 X5 hx hZ hown (host := "") (Or.inl (hw _ (List.mem_of_getElem? (i := 8) rfl))) Via.refl e5 (S_SUCCEEDED.ext O5.2) (g := (mkF m 18 #[.val (.int p0), .unset, .unset, .unset] [(.int (2 : Int32)), (.ref b1), (.ref b1)])) rfl (hb hby at_18)
  obtain ⟨cl7, Ar7, qa7, Sz7, Ng7, Hs7, Ft7⟩ := V5
  obtain ⟨T7, h7, X7, e7, W7, st7⟩ := stR X6 hx hZ e6 Ar7 (j := (2 : Int32)) (inb_of Sz7 ⟨by decide, by decide⟩) rfl (Sto.ofV Ar7 qa7 Ov1 (Ins.self (E_w2.ext O5.2))) (g := (mkF m 21 #[.val (.int p0), .unset, .unset, .unset] [(.ref w2), (.int (2 : Int32)), (.ref b1), (.ref b1)])) rfl rfl (hb hby at_21)
  have O7 := O5.wr W7 g_b1
  have N7 := Fr.snoc X7 N5 g_b1
  have V7 : Arv Z h7 b1 k1 (.object "com/example/detaq/detaq/core/TaskStatus") (5 : Int32) [(.ref w0), (.ref w1), (.ref w2), .null, .null] .null := Arv.set Ar7 qa7 Sz7 Ng7 Hs7 Ft7 rfl W7 2 rfl (Nat.le_of_ble_eq_true rfl)
  obtain ⟨T8, X8, e8, st8⟩ := getS2 X7 hx hZ hown (host := "") (Or.inl (hw _ (List.mem_of_getElem? (i := 10) rfl))) Via.refl e7 (S_FAILED.ext O7.2) (g := (mkF m 24 #[.val (.int p0), .unset, .unset, .unset] [(.int (3 : Int32)), (.ref b1), (.ref b1)])) rfl (hb hby at_24)
  obtain ⟨cl9, Ar9, qa9, Sz9, Ng9, Hs9, Ft9⟩ := V7
  obtain ⟨T9, h9, X9, e9, W9, st9⟩ := stR X8 hx hZ e8 Ar9 (j := (3 : Int32)) (inb_of Sz9 ⟨by decide, by decide⟩) rfl (Sto.ofV Ar9 qa9 Ov1 (Ins.self (E_w3.ext O7.2))) (g := (mkF m 27 #[.val (.int p0), .unset, .unset, .unset] [(.ref w3), (.int (3 : Int32)), (.ref b1), (.ref b1)])) rfl rfl (hb hby at_27)
  have O9 := O7.wr W9 g_b1
  have N9 := Fr.snoc X9 N7 g_b1
  have V9 : Arv Z h9 b1 k1 (.object "com/example/detaq/detaq/core/TaskStatus") (5 : Int32) [(.ref w0), (.ref w1), (.ref w2), (.ref w3), .null] .null := Arv.set Ar9 qa9 Sz9 Ng9 Hs9 Ft9 rfl W9 3 rfl (Nat.le_of_ble_eq_true rfl)
  obtain ⟨T10, X10, e10, st10⟩ := getS2 X9 hx hZ hown (host := "") (Or.inl (hw _ (List.mem_of_getElem? (i := 12) rfl))) Via.refl e9 (S_CANCELED.ext O9.2) (g := (mkF m 30 #[.val (.int p0), .unset, .unset, .unset] [(.int (4 : Int32)), (.ref b1), (.ref b1)])) rfl (hb hby at_30)
  obtain ⟨cl11, Ar11, qa11, Sz11, Ng11, Hs11, Ft11⟩ := V9
  obtain ⟨T11, h11, X11, e11, W11, st11⟩ := stR X10 hx hZ e10 Ar11 (j := (4 : Int32)) (inb_of Sz11 ⟨by decide, by decide⟩) rfl (Sto.ofV Ar11 qa11 Ov1 (Ins.self (E_w4.ext O9.2))) (g := (mkF m 33 #[.val (.int p0), .unset, .unset, .unset] [(.ref w4), (.int (4 : Int32)), (.ref b1), (.ref b1)])) rfl rfl (hb hby at_33)
  have O11 := O9.wr W11 g_b1
  have N11 := Fr.snoc X11 N9 g_b1
  have V11 : Arv Z h11 b1 k1 (.object "com/example/detaq/detaq/core/TaskStatus") (5 : Int32) [(.ref w0), (.ref w1), (.ref w2), (.ref w3), (.ref w4)] .null := Arv.set Ar11 qa11 Sz11 Ng11 Hs11 Ft11 rfl W11 4 rfl (Nat.le_of_ble_eq_true rfl)
  obtain ⟨T12, h12, k12, X12, e12, E12, A12, st12⟩ := newP X11 hx hZ (hw _ (List.mem_of_getElem? (i := 14) rfl)) e11 (g := (mkF m 36 #[.val (.int p0), .val (.ref b1), .unset, .unset] [(.int (5 : Int32))])) rfl (hb hby at_36) rfl (by decide) (cap := 5) (by decide) (by decide) (by decide) (by decide)
  obtain ⟨b12, g12⟩ : ∃ z, z = h11.size := ⟨_, rfl⟩
  rw [← g12] at A12 st12
  have g_b12 : n0 ≤ b12 := Nat.le_trans (own_le O11) (Nat.le_of_eq g12.symm)
  have O12 := O11.ext E12
  have V_b12 : Arv Z h12 b12 k12 .boolean (5 : Int32) [(.int (0 : Int32)), (.int (0 : Int32)), (.int (0 : Int32)), (.int (0 : Int32)), (.int (0 : Int32))] (.int (0 : Int32)) := (Arv.new A12 (by decide)).pad (pad_rep [] (.int (0 : Int32)) 5)
  obtain ⟨cl13, Ar13, qa13, Sz13, Ng13, Hs13, Ft13⟩ := V_b12
  obtain ⟨T13, h13, X13, e13, W13, st13⟩ := stZ X12 hx hZ e12 Ar13 (j := (0 : Int32)) (inb_of Sz13 ⟨by decide, by decide⟩) (g := (mkF m 41 #[.val (.int p0), .val (.ref b1), .unset, .unset] [(.int (0 : Int32)), (.int (0 : Int32)), (.ref b12), (.ref b12)])) rfl rfl (hb hby at_41)
  have O13 := O12.wr W13 g_b12
  have N13 := Fr.snoc X13 N11 g_b12
  have V13 : Arv Z h13 b12 k12 .boolean (5 : Int32) [(.int (0 : Int32)), (.int (0 : Int32)), (.int (0 : Int32)), (.int (0 : Int32)), (.int (0 : Int32))] (.int (0 : Int32)) := Arv.set Ar13 qa13 Sz13 Ng13 Hs13 Ft13 (fits_nar_bool _) W13 0 rfl (Nat.le_of_ble_eq_true rfl)
  obtain ⟨cl14, Ar14, qa14, Sz14, Ng14, Hs14, Ft14⟩ := V13
  obtain ⟨T14, h14, X14, e14, W14, st14⟩ := stZ X13 hx hZ e13 Ar14 (j := (1 : Int32)) (inb_of Sz14 ⟨by decide, by decide⟩) (g := (mkF m 45 #[.val (.int p0), .val (.ref b1), .unset, .unset] [(.int (0 : Int32)), (.int (1 : Int32)), (.ref b12), (.ref b12)])) rfl rfl (hb hby at_45)
  have O14 := O13.wr W14 g_b12
  have N14 := Fr.snoc X14 N13 g_b12
  have V14 : Arv Z h14 b12 k12 .boolean (5 : Int32) [(.int (0 : Int32)), (.int (0 : Int32)), (.int (0 : Int32)), (.int (0 : Int32)), (.int (0 : Int32))] (.int (0 : Int32)) := Arv.set Ar14 qa14 Sz14 Ng14 Hs14 Ft14 (fits_nar_bool _) W14 1 rfl (Nat.le_of_ble_eq_true rfl)
  obtain ⟨cl15, Ar15, qa15, Sz15, Ng15, Hs15, Ft15⟩ := V14
  obtain ⟨T15, h15, X15, e15, W15, st15⟩ := stZ X14 hx hZ e14 Ar15 (j := (2 : Int32)) (inb_of Sz15 ⟨by decide, by decide⟩) (g := (mkF m 49 #[.val (.int p0), .val (.ref b1), .unset, .unset] [(.int (1 : Int32)), (.int (2 : Int32)), (.ref b12), (.ref b12)])) rfl rfl (hb hby at_49)
  have O15 := O14.wr W15 g_b12
  have N15 := Fr.snoc X15 N14 g_b12
  have V15 : Arv Z h15 b12 k12 .boolean (5 : Int32) [(.int (0 : Int32)), (.int (0 : Int32)), (.int (1 : Int32)), (.int (0 : Int32)), (.int (0 : Int32))] (.int (0 : Int32)) := Arv.set Ar15 qa15 Sz15 Ng15 Hs15 Ft15 (fits_nar_bool _) W15 2 rfl (Nat.le_of_ble_eq_true rfl)
  obtain ⟨cl16, Ar16, qa16, Sz16, Ng16, Hs16, Ft16⟩ := V15
  obtain ⟨T16, h16, X16, e16, W16, st16⟩ := stZ X15 hx hZ e15 Ar16 (j := (3 : Int32)) (inb_of Sz16 ⟨by decide, by decide⟩) (g := (mkF m 53 #[.val (.int p0), .val (.ref b1), .unset, .unset] [(.int (1 : Int32)), (.int (3 : Int32)), (.ref b12), (.ref b12)])) rfl rfl (hb hby at_53)
  have O16 := O15.wr W16 g_b12
  have N16 := Fr.snoc X16 N15 g_b12
  have V16 : Arv Z h16 b12 k12 .boolean (5 : Int32) [(.int (0 : Int32)), (.int (0 : Int32)), (.int (1 : Int32)), (.int (1 : Int32)), (.int (0 : Int32))] (.int (0 : Int32)) := Arv.set Ar16 qa16 Sz16 Ng16 Hs16 Ft16 (fits_nar_bool _) W16 3 rfl (Nat.le_of_ble_eq_true rfl)
  obtain ⟨cl17, Ar17, qa17, Sz17, Ng17, Hs17, Ft17⟩ := V16
  obtain ⟨T17, h17, X17, e17, W17, st17⟩ := stZ X16 hx hZ e16 Ar17 (j := (4 : Int32)) (inb_of Sz17 ⟨by decide, by decide⟩) (g := (mkF m 57 #[.val (.int p0), .val (.ref b1), .unset, .unset] [(.int (1 : Int32)), (.int (4 : Int32)), (.ref b12), (.ref b12)])) rfl rfl (hb hby at_57)
  have O17 := O16.wr W17 g_b12
  have N17 := Fr.snoc X17 N16 g_b12
  have V17 : Arv Z h17 b12 k12 .boolean (5 : Int32) [(.int (0 : Int32)), (.int (0 : Int32)), (.int (1 : Int32)), (.int (1 : Int32)), (.int (1 : Int32))] (.int (0 : Int32)) := Arv.set Ar17 qa17 Sz17 Ng17 Hs17 Ft17 (fits_nar_bool _) W17 4 rfl (Nat.le_of_ble_eq_true rfl)
  have v_b1_12_x := ((((((V11.ext E12).other W13 (Nat.ne_of_lt (Nat.lt_of_lt_of_le V11.lt (Nat.le_of_eq g12.symm)))).other W14 (Nat.ne_of_lt (Nat.lt_of_lt_of_le V11.lt (Nat.le_of_eq g12.symm)))).other W15 (Nat.ne_of_lt (Nat.lt_of_lt_of_le V11.lt (Nat.le_of_eq g12.symm)))).other W16 (Nat.ne_of_lt (Nat.lt_of_lt_of_le V11.lt (Nat.le_of_eq g12.symm)))).other W17 (Nat.ne_of_lt (Nat.lt_of_lt_of_le V11.lt (Nat.le_of_eq g12.symm))))
  obtain ⟨cl18, Ar18, qa18, Sz18, Ng18, Hs18, Ft18⟩ := v_b1_12_x
  have hin18 := (inb_of (j := (2 : Int32)) Sz18 ⟨by decide, by decide⟩)
  have hat18 := Hs18.at (v := (.ref w2)) hin18 rfl
  have V18o : Arv Z h17 b1 k1 (.object "com/example/detaq/detaq/core/TaskStatus") (5 : Int32) [(.ref w0), (.ref w1), (.ref w2), (.ref w3), (.ref w4)] .null := ⟨cl18, Ar18, qa18, Sz18, Ng18, Hs18, Ft18⟩
  obtain ⟨cq19, kq19, q19a, q19b, q19c⟩ := isOf hZ e17 (E_w2.ext O17.2)
  obtain ⟨_, _, ⟨T19, L19, k19, n19⟩, -, X19, ⟨Lc19, hQ19, l19, y19, z19⟩, st19⟩ := X17.virtualBack hx (y := (⟨"com/example/detaq/detaq/core/TaskStatus", "isFinal", "()Z"⟩ : MethodName)) (z := (⟨"com/example/detaq/detaq/core/TaskStatus", "isFinal", "()Z"⟩ : MethodName)) hown (mvT hZ (hw _ (List.mem_of_getElem? (i := 16) rfl))) (mvT hZ (hw _ (List.mem_of_getElem? (i := 17) rfl))) (notFace_of_selects (args := #[]) (mvT hZ (hw _ (List.mem_of_getElem? (i := 19) rfl)))) (mvT hZ (hw _ (List.mem_of_getElem? (i := 19) rfl))) (mvT hZ (hw _ (List.mem_of_getElem? (i := 18) rfl))) (by decide) (backOf (W := 0) (rm1A l Z a0 hw [] w2 w2 w3 w4 h17 n0 O17 S_SUCCEEDED S_FAILED S_CANCELED rfl) hZ (hw _ (List.mem_of_getElem? (i := 20) rfl)) (hw _ (List.mem_of_getElem? (i := 3) rfl)) (by decide) (by decide)) q19a q19c (g := (mkF m 69 #[.val (.int p0), .val (.ref b1), .val (.ref b12), .val (.int (2 : Int32))] [(.ref w2)])) rfl (by rw [hml]; rfl) (Steps.refl _) (argsL := []) (rest := []) (lenOf pd_0 rfl) rfl (by show 2 * 0 + _ ≤ _; exact Nat.le_of_eq rfl) (hb hby at_69) (fun _ _ => ⟨rfl, e17, (by decide : 2 + 0 ≤ _), (by decide : 10 + 0 ≤ _)⟩)
  dsimp only [Pt.U, Pt.locs, Pt.cells, Pt.slots] at X19 l19 y19 z19 st19 hQ19
  subst l19 y19 z19
  obtain ⟨rfl, N19q, e19⟩ := hQ19
  have N19 := Fr.app N17 N19q
  obtain ⟨cl20, Ar20, qa20, Sz20, Ng20, Hs20, Ft20⟩ := V17
  have hin20 := (inb_of (j := (2 : Int32)) Sz20 ⟨by decide, by decide⟩)
  have hat20 := Hs20.at (v := (.int (1 : Int32))) hin20 rfl
  have V20o : Arv Z h17 b12 k12 .boolean (5 : Int32) [(.int (0 : Int32)), (.int (0 : Int32)), (.int (1 : Int32)), (.int (1 : Int32)), (.int (1 : Int32))] (.int (0 : Int32)) := ⟨cl20, Ar20, qa20, Sz20, Ng20, Hs20, Ft20⟩
  obtain ⟨fs, hr, hrun, hended, hW, hsame⟩ := X19.leave (v := some (.int (1 : Int32))) (fun h => by rw [Bd.returns] at h; cases h)
  refine ⟨_, _, pre0 _ ?_, hrun, hended, _, _, rfl, ?_, ⟨_, rfl⟩, hW, hsame.mono (by decide) (by decide)⟩
  · show Steps p.tables e below (s₁.setTop (mkF m 0 #[.val (.int p0), .unset, .unset, .unset] [])) _
    refine XS.iconst X0.here hx rfl (hb hby at_0) ?_
    show Steps p.tables e below (s₁.setTop (mkF m 1 #[.val (.int p0), .unset, .unset, .unset] [(.int (5 : Int32))])) _
    refine st1 _ ?_
    show Steps p.tables e below (T1.setTop (mkF m 4 #[.val (.int p0), .unset, .unset, .unset] [(.ref b1)])) _
    refine XS.dup X1.here hx rfl (hb hby at_4) rfl rfl ?_
    show Steps p.tables e below (T1.setTop (mkF m 5 #[.val (.int p0), .unset, .unset, .unset] [(.ref b1), (.ref b1)])) _
    refine XS.iconst X1.here hx rfl (hb hby at_5) ?_
    show Steps p.tables e below (T1.setTop (mkF m 6 #[.val (.int p0), .unset, .unset, .unset] [(.int (0 : Int32)), (.ref b1), (.ref b1)])) _
    refine st2 _ ?_
    show Steps p.tables e below (T2.setTop (mkF m 9 #[.val (.int p0), .unset, .unset, .unset] [(.ref w0), (.int (0 : Int32)), (.ref b1), (.ref b1)])) _
    refine st3 _ ?_
    show Steps p.tables e below (T3.setTop (mkF m 10 #[.val (.int p0), .unset, .unset, .unset] [(.ref b1)])) _
    refine XS.dup X3.here hx rfl (hb hby at_10) rfl rfl ?_
    show Steps p.tables e below (T3.setTop (mkF m 11 #[.val (.int p0), .unset, .unset, .unset] [(.ref b1), (.ref b1)])) _
    refine XS.iconst X3.here hx rfl (hb hby at_11) ?_
    show Steps p.tables e below (T3.setTop (mkF m 12 #[.val (.int p0), .unset, .unset, .unset] [(.int (1 : Int32)), (.ref b1), (.ref b1)])) _
    refine st4 _ ?_
    show Steps p.tables e below (T4.setTop (mkF m 15 #[.val (.int p0), .unset, .unset, .unset] [(.ref w1), (.int (1 : Int32)), (.ref b1), (.ref b1)])) _
    refine st5 _ ?_
    show Steps p.tables e below (T5.setTop (mkF m 16 #[.val (.int p0), .unset, .unset, .unset] [(.ref b1)])) _
    refine XS.dup X5.here hx rfl (hb hby at_16) rfl rfl ?_
    show Steps p.tables e below (T5.setTop (mkF m 17 #[.val (.int p0), .unset, .unset, .unset] [(.ref b1), (.ref b1)])) _
    refine XS.iconst X5.here hx rfl (hb hby at_17) ?_
    show Steps p.tables e below (T5.setTop (mkF m 18 #[.val (.int p0), .unset, .unset, .unset] [(.int (2 : Int32)), (.ref b1), (.ref b1)])) _
    refine st6 _ ?_
    show Steps p.tables e below (T6.setTop (mkF m 21 #[.val (.int p0), .unset, .unset, .unset] [(.ref w2), (.int (2 : Int32)), (.ref b1), (.ref b1)])) _
    refine st7 _ ?_
    show Steps p.tables e below (T7.setTop (mkF m 22 #[.val (.int p0), .unset, .unset, .unset] [(.ref b1)])) _
    refine XS.dup X7.here hx rfl (hb hby at_22) rfl rfl ?_
    show Steps p.tables e below (T7.setTop (mkF m 23 #[.val (.int p0), .unset, .unset, .unset] [(.ref b1), (.ref b1)])) _
    refine XS.iconst X7.here hx rfl (hb hby at_23) ?_
    show Steps p.tables e below (T7.setTop (mkF m 24 #[.val (.int p0), .unset, .unset, .unset] [(.int (3 : Int32)), (.ref b1), (.ref b1)])) _
    refine st8 _ ?_
    show Steps p.tables e below (T8.setTop (mkF m 27 #[.val (.int p0), .unset, .unset, .unset] [(.ref w3), (.int (3 : Int32)), (.ref b1), (.ref b1)])) _
    refine st9 _ ?_
    show Steps p.tables e below (T9.setTop (mkF m 28 #[.val (.int p0), .unset, .unset, .unset] [(.ref b1)])) _
    refine XS.dup X9.here hx rfl (hb hby at_28) rfl rfl ?_
    show Steps p.tables e below (T9.setTop (mkF m 29 #[.val (.int p0), .unset, .unset, .unset] [(.ref b1), (.ref b1)])) _
    refine XS.iconst X9.here hx rfl (hb hby at_29) ?_
    show Steps p.tables e below (T9.setTop (mkF m 30 #[.val (.int p0), .unset, .unset, .unset] [(.int (4 : Int32)), (.ref b1), (.ref b1)])) _
    refine st10 _ ?_
    show Steps p.tables e below (T10.setTop (mkF m 33 #[.val (.int p0), .unset, .unset, .unset] [(.ref w4), (.int (4 : Int32)), (.ref b1), (.ref b1)])) _
    refine st11 _ ?_
    show Steps p.tables e below (T11.setTop (mkF m 34 #[.val (.int p0), .unset, .unset, .unset] [(.ref b1)])) _
    refine XS.astoreN X11.here hx rfl (hb hby at_34) rfl rfl (l' := #[.val (.int p0), .val (.ref b1), .unset, .unset]) rfl ?_
    show Steps p.tables e below (T11.setTop (mkF m 35 #[.val (.int p0), .val (.ref b1), .unset, .unset] [])) _
    refine XS.iconst X11.here hx rfl (hb hby at_35) ?_
    show Steps p.tables e below (T11.setTop (mkF m 36 #[.val (.int p0), .val (.ref b1), .unset, .unset] [(.int (5 : Int32))])) _
    refine st12 _ ?_
    show Steps p.tables e below (T12.setTop (mkF m 38 #[.val (.int p0), .val (.ref b1), .unset, .unset] [(.ref b12)])) _
    refine XS.dup X12.here hx rfl (hb hby at_38) rfl rfl ?_
    show Steps p.tables e below (T12.setTop (mkF m 39 #[.val (.int p0), .val (.ref b1), .unset, .unset] [(.ref b12), (.ref b12)])) _
    refine XS.iconst X12.here hx rfl (hb hby at_39) ?_
    show Steps p.tables e below (T12.setTop (mkF m 40 #[.val (.int p0), .val (.ref b1), .unset, .unset] [(.int (0 : Int32)), (.ref b12), (.ref b12)])) _
    refine XS.iconst X12.here hx rfl (hb hby at_40) ?_
    show Steps p.tables e below (T12.setTop (mkF m 41 #[.val (.int p0), .val (.ref b1), .unset, .unset] [(.int (0 : Int32)), (.int (0 : Int32)), (.ref b12), (.ref b12)])) _
    refine st13 _ ?_
    show Steps p.tables e below (T13.setTop (mkF m 42 #[.val (.int p0), .val (.ref b1), .unset, .unset] [(.ref b12)])) _
    refine XS.dup X13.here hx rfl (hb hby at_42) rfl rfl ?_
    show Steps p.tables e below (T13.setTop (mkF m 43 #[.val (.int p0), .val (.ref b1), .unset, .unset] [(.ref b12), (.ref b12)])) _
    refine XS.iconst X13.here hx rfl (hb hby at_43) ?_
    show Steps p.tables e below (T13.setTop (mkF m 44 #[.val (.int p0), .val (.ref b1), .unset, .unset] [(.int (1 : Int32)), (.ref b12), (.ref b12)])) _
    refine XS.iconst X13.here hx rfl (hb hby at_44) ?_
    show Steps p.tables e below (T13.setTop (mkF m 45 #[.val (.int p0), .val (.ref b1), .unset, .unset] [(.int (0 : Int32)), (.int (1 : Int32)), (.ref b12), (.ref b12)])) _
    refine st14 _ ?_
    show Steps p.tables e below (T14.setTop (mkF m 46 #[.val (.int p0), .val (.ref b1), .unset, .unset] [(.ref b12)])) _
    refine XS.dup X14.here hx rfl (hb hby at_46) rfl rfl ?_
    show Steps p.tables e below (T14.setTop (mkF m 47 #[.val (.int p0), .val (.ref b1), .unset, .unset] [(.ref b12), (.ref b12)])) _
    refine XS.iconst X14.here hx rfl (hb hby at_47) ?_
    show Steps p.tables e below (T14.setTop (mkF m 48 #[.val (.int p0), .val (.ref b1), .unset, .unset] [(.int (2 : Int32)), (.ref b12), (.ref b12)])) _
    refine XS.iconst X14.here hx rfl (hb hby at_48) ?_
    show Steps p.tables e below (T14.setTop (mkF m 49 #[.val (.int p0), .val (.ref b1), .unset, .unset] [(.int (1 : Int32)), (.int (2 : Int32)), (.ref b12), (.ref b12)])) _
    refine st15 _ ?_
    show Steps p.tables e below (T15.setTop (mkF m 50 #[.val (.int p0), .val (.ref b1), .unset, .unset] [(.ref b12)])) _
    refine XS.dup X15.here hx rfl (hb hby at_50) rfl rfl ?_
    show Steps p.tables e below (T15.setTop (mkF m 51 #[.val (.int p0), .val (.ref b1), .unset, .unset] [(.ref b12), (.ref b12)])) _
    refine XS.iconst X15.here hx rfl (hb hby at_51) ?_
    show Steps p.tables e below (T15.setTop (mkF m 52 #[.val (.int p0), .val (.ref b1), .unset, .unset] [(.int (3 : Int32)), (.ref b12), (.ref b12)])) _
    refine XS.iconst X15.here hx rfl (hb hby at_52) ?_
    show Steps p.tables e below (T15.setTop (mkF m 53 #[.val (.int p0), .val (.ref b1), .unset, .unset] [(.int (1 : Int32)), (.int (3 : Int32)), (.ref b12), (.ref b12)])) _
    refine st16 _ ?_
    show Steps p.tables e below (T16.setTop (mkF m 54 #[.val (.int p0), .val (.ref b1), .unset, .unset] [(.ref b12)])) _
    refine XS.dup X16.here hx rfl (hb hby at_54) rfl rfl ?_
    show Steps p.tables e below (T16.setTop (mkF m 55 #[.val (.int p0), .val (.ref b1), .unset, .unset] [(.ref b12), (.ref b12)])) _
    refine XS.iconst X16.here hx rfl (hb hby at_55) ?_
    show Steps p.tables e below (T16.setTop (mkF m 56 #[.val (.int p0), .val (.ref b1), .unset, .unset] [(.int (4 : Int32)), (.ref b12), (.ref b12)])) _
    refine XS.iconst X16.here hx rfl (hb hby at_56) ?_
    show Steps p.tables e below (T16.setTop (mkF m 57 #[.val (.int p0), .val (.ref b1), .unset, .unset] [(.int (1 : Int32)), (.int (4 : Int32)), (.ref b12), (.ref b12)])) _
    refine st17 _ ?_
    show Steps p.tables e below (T17.setTop (mkF m 58 #[.val (.int p0), .val (.ref b1), .unset, .unset] [(.ref b12)])) _
    refine XS.astoreN X17.here hx rfl (hb hby at_58) rfl rfl (l' := #[.val (.int p0), .val (.ref b1), .val (.ref b12), .unset]) rfl ?_
    show Steps p.tables e below (T17.setTop (mkF m 59 #[.val (.int p0), .val (.ref b1), .val (.ref b12), .unset] [])) _
    refine XS.iloadN X17.here hx rfl (hb hby at_59) rfl ?_
    show Steps p.tables e below (T17.setTop (mkF m 60 #[.val (.int p0), .val (.ref b1), .val (.ref b12), .unset] [(.int p0)])) _
    refine X17.ldcInt hx hown (mvT hZ (hw _ (List.mem_of_getElem? (i := 15) rfl))) (g := (mkF m 60 #[.val (.int p0), .val (.ref b1), .val (.ref b12), .unset] [(.int p0)])) rfl (hb hby at_60) _ ?_
    show Steps p.tables e below (T17.setTop (mkF m 62 #[.val (.int p0), .val (.ref b1), .val (.ref b12), .unset] [(.int (2147483647 : Int32)), (.int p0)])) _
    refine XS.iand X17.here hx rfl (hb hby at_62) rfl ?_
    show Steps p.tables e below (T17.setTop (mkF m 63 #[.val (.int p0), .val (.ref b1), .val (.ref b12), .unset] [(.int (p0 &&& (2147483647 : Int32)))])) _
    refine XS.iconst X17.here hx rfl (hb hby at_63) ?_
    show Steps p.tables e below (T17.setTop (mkF m 64 #[.val (.int p0), .val (.ref b1), .val (.ref b12), .unset] [(.int (5 : Int32)), (.int (p0 &&& (2147483647 : Int32)))])) _
    refine iremM X17 hx rfl (hb hby at_64) rfl (by decide) ?_
    show Steps p.tables e below (T17.setTop (mkF m 65 #[.val (.int p0), .val (.ref b1), .val (.ref b12), .unset] [(.int ((p0 &&& (2147483647 : Int32)) % (5 : Int32)))])) _
    rw [hi]
    show Steps p.tables e below (T17.setTop (mkF m 65 #[.val (.int p0), .val (.ref b1), .val (.ref b12), .unset] [(.int (2 : Int32))])) _
    refine XS.istoreN X17.here hx rfl (hb hby at_65) rfl (l' := #[.val (.int p0), .val (.ref b1), .val (.ref b12), .val (.int (2 : Int32))]) rfl ?_
    show Steps p.tables e below (T17.setTop (mkF m 66 #[.val (.int p0), .val (.ref b1), .val (.ref b12), .val (.int (2 : Int32))] [])) _
    refine XS.aloadN X17.here hx rfl (hb hby at_66) rfl rfl ?_
    show Steps p.tables e below (T17.setTop (mkF m 67 #[.val (.int p0), .val (.ref b1), .val (.ref b12), .val (.int (2 : Int32))] [(.ref b1)])) _
    refine XS.iloadN X17.here hx rfl (hb hby at_67) rfl ?_
    show Steps p.tables e below (T17.setTop (mkF m 68 #[.val (.int p0), .val (.ref b1), .val (.ref b12), .val (.int (2 : Int32))] [(.int (2 : Int32)), (.ref b1)])) _
    refine X17.aaload hx (j := (2 : Int32)) (v := (.ref w2)) (by rw [e17]; exact Ar18.1) (State.isArrayOf_alike hZ.alike Ar18.2.1) rfl Ar18.2.2 hin18 hat18 (g := (mkF m 68 #[.val (.int p0), .val (.ref b1), .val (.ref b12), .val (.int (2 : Int32))] [(.int (2 : Int32)), (.ref b1)])) rfl rfl (hb hby at_68) _ ?_
    show Steps p.tables e below (T17.setTop (mkF m 69 #[.val (.int p0), .val (.ref b1), .val (.ref b12), .val (.int (2 : Int32))] [(.ref w2)])) _
    refine st19.trans ?_
    show Steps p.tables e below (T19.setTop (mkF m 72 #[.val (.int p0), .val (.ref b1), .val (.ref b12), .val (.int (2 : Int32))] [(.int (1 : Int32))])) _
    refine XS.aloadN X19.here hx rfl (hb hby at_72) rfl rfl ?_
    show Steps p.tables e below (T19.setTop (mkF m 73 #[.val (.int p0), .val (.ref b1), .val (.ref b12), .val (.int (2 : Int32))] [(.ref b12), (.int (1 : Int32))])) _
    refine XS.iloadN X19.here hx rfl (hb hby at_73) rfl ?_
    show Steps p.tables e below (T19.setTop (mkF m 74 #[.val (.int p0), .val (.ref b1), .val (.ref b12), .val (.int (2 : Int32))] [(.int (2 : Int32)), (.ref b12), (.int (1 : Int32))])) _
    refine X19.baloadBooleans hx (j := (2 : Int32)) (v := (.int (1 : Int32))) (by rw [e19]; exact Ar20.1) (State.isArrayOf_alike hZ.alike Ar20.2.1) Ar20.2.2 hin20 hat20 (g := (mkF m 74 #[.val (.int p0), .val (.ref b1), .val (.ref b12), .val (.int (2 : Int32))] [(.int (2 : Int32)), (.ref b12), (.int (1 : Int32))])) rfl rfl (hb hby at_74) _ ?_
    show Steps p.tables e below (T19.setTop (mkF m 75 #[.val (.int p0), .val (.ref b1), .val (.ref b12), .val (.int (2 : Int32))] [(.int (1 : Int32)), (.int (1 : Int32))])) _
    refine XS.icmpNo X19.here hx rfl (hb hby at_75) rfl (teq (by decide : (1 : Int32) = (1 : Int32))).2 ?_
    show Steps p.tables e below (T19.setTop (mkF m 78 #[.val (.int p0), .val (.ref b1), .val (.ref b12), .val (.int (2 : Int32))] [])) _
    refine XS.iconst X19.here hx rfl (hb hby at_78) ?_
    show Steps p.tables e below (T19.setTop (mkF m 79 #[.val (.int p0), .val (.ref b1), .val (.ref b12), .val (.int (2 : Int32))] [(.int (1 : Int32))])) _
    refine XS.goto X19.here hx rfl (pc0 := 79) (pc' := 83) rfl (hb hby at_79) (by decide) (by decide) ?_
    show Steps p.tables e below (T19.setTop (mkF m 83 #[.val (.int p0), .val (.ref b1), .val (.ref b12), .val (.int (2 : Int32))] [(.int (1 : Int32))])) _
    exact retN X19 hx (t := .boolean) Bd.returns (by simp) (hb hby at_83) hr
  · show own_R n0 _ T19.heap _
    rw [e19]
    exact ⟨rfl, N19⟩
set_option maxRecDepth 65536 in
set_option maxHeartbeats 40000000 in
theorem rm0_3 (l : Launch) (Z : State) (a0 : Array Value) (hw : ∀ d ∈ tables_1, d.before a0 Z = true) (ws : List Jvm.Cond) (p0 : Int32) (w0 : Addr) (w1 : Addr) (w2 : Addr) (w3 : Addr) (w4 : Addr) (h0 : Heap) (n0 : Nat) (O0 : Old Z n0 h0) (hi : ((p0 &&& (2147483647 : Int32)) % (5 : Int32)) = (3 : Int32)) (S_ENQUEUED : Sta Z Z.heap "com/example/detaq/detaq/core/TaskStatus" "ENQUEUED" "Lcom/example/detaq/detaq/core/TaskStatus;" (.ref w0)) (E_w0 : Exa Z Z.heap w0 "com/example/detaq/detaq/core/TaskStatus") (S_PROCESSING : Sta Z Z.heap "com/example/detaq/detaq/core/TaskStatus" "PROCESSING" "Lcom/example/detaq/detaq/core/TaskStatus;" (.ref w1)) (E_w1 : Exa Z Z.heap w1 "com/example/detaq/detaq/core/TaskStatus") (S_SUCCEEDED : Sta Z Z.heap "com/example/detaq/detaq/core/TaskStatus" "SUCCEEDED" "Lcom/example/detaq/detaq/core/TaskStatus;" (.ref w2)) (E_w2 : Exa Z Z.heap w2 "com/example/detaq/detaq/core/TaskStatus") (S_FAILED : Sta Z Z.heap "com/example/detaq/detaq/core/TaskStatus" "FAILED" "Lcom/example/detaq/detaq/core/TaskStatus;" (.ref w3)) (E_w3 : Exa Z Z.heap w3 "com/example/detaq/detaq/core/TaskStatus") (S_CANCELED : Sta Z Z.heap "com/example/detaq/detaq/core/TaskStatus" "CANCELED" "Lcom/example/detaq/detaq/core/TaskStatus;" (.ref w4)) (E_w4 : Exa Z Z.heap w4 "com/example/detaq/detaq/core/TaskStatus") (q32 : ¬ (w3 = w2)) (q34 : ¬ (w3 = w4)) :
    MetFree l x (head1 (Jvm.Cond.code x code maxLocals ret :: ws) room_1) (fun a U => a = #[(.int p0)] ∧ Z.Warmed39 U.vm ∧ U.heap = h0) (fun _ _ _ _ _ => True) (fun _ U o U' => ∃ v L, o = .returned v ∧ own_R n0 v U'.heap L ∧ FrameEnd U o U' L room_1.cells room_1.slots) := by
  refine MetFree.of_bodySF (plainFor_of_name pn_0) hisR ?_
  intro p e s m args below meth c s₁ Bd hml0 hP hK
  obtain ⟨rfl, hZ, hh⟩ := hP
  have hx := Bd.exec
  have hby := Bd.bytes
  have hml : c.maxLocals = 4 := hml0
  have hown : s.vm.findClass "com/example/detaq/detaq/core/TaskStatusIsFinalPinLaw" = some m.cls := findClass_of_methodNamed Bd.named
  have hnm := (name_of_methodNamed Bd.named Bd.method).1
  have X0 : Stand p l e room_1 s m #[(.int p0)] below meth c s₁ [] 0 0 := Stand.of_body Bd
  have e0 : s₁.heap = h0 := by rw [← hh, Bd.state]; rfl
  have N0 := Fr.nil n0
  have pre0 : ∀ t, Steps p.tables e below (s₁.setTop (mkF m 0 #[.val (.int p0), .unset, .unset, .unset] [])) t → Steps p.tables e below (s₁.setTop (entryFrame m #[(.int p0)] maxLocals)) t := fun t k => castTop (ef_0 m p0) k
  obtain ⟨T1, h1, k1, X1, e1, E1, A1, Ov1, st1⟩ := newR X0 hx hZ hown (hw _ (List.mem_of_getElem? (i := 0) rfl)) (hw _ (List.mem_of_getElem? (i := 1) rfl)) e0 (g := (mkF m 1 #[.val (.int p0), .unset, .unset, .unset] [(.int (5 : Int32))])) rfl (hb hby at_1) rfl (by decide) (cap := 5) (by decide) (by decide) (by decide) (by decide)
  obtain ⟨b1, g1⟩ : ∃ z, z = h0.size := ⟨_, rfl⟩
  rw [← g1] at A1 st1
  have g_b1 : n0 ≤ b1 := Nat.le_trans (own_le O0) (Nat.le_of_eq g1.symm)
  have O1 := O0.ext E1
  have V_b1 : Arv Z h1 b1 k1 (.object "com/example/detaq/detaq/core/TaskStatus") (5 : Int32) [.null, .null, .null, .null, .null] .null := (Arv.new A1 (by decide)).pad (pad_rep [] .null 5)
  obtain ⟨T2, X2, e2, st2⟩ := getS2 X1 hx hZ hown (host := "") (Or.inl (hw _ (List.mem_of_getElem? (i := 2) rfl))) Via.refl e1 (S_ENQUEUED.ext O1.2) (g := (mkF m 6 #[.val (.int p0), .unset, .unset, .unset] [(.int (0 : Int32)), (.ref b1), (.ref b1)])) rfl (hb hby at_6)
  obtain ⟨cl3, Ar3, qa3, Sz3, Ng3, Hs3, Ft3⟩ := V_b1
  obtain ⟨T3, h3, X3, e3, W3, st3⟩ := stR X2 hx hZ e2 Ar3 (j := (0 : Int32)) (inb_of Sz3 ⟨by decide, by decide⟩) rfl (Sto.ofV Ar3 qa3 Ov1 (Ins.self (E_w0.ext O1.2))) (g := (mkF m 9 #[.val (.int p0), .unset, .unset, .unset] [(.ref w0), (.int (0 : Int32)), (.ref b1), (.ref b1)])) rfl rfl (hb hby at_9)
  have O3 := O1.wr W3 g_b1
  have N3 := Fr.snoc X3 N0 g_b1
  have V3 : Arv Z h3 b1 k1 (.object "com/example/detaq/detaq/core/TaskStatus") (5 : Int32) [(.ref w0), .null, .null, .null, .null] .null := Arv.set Ar3 qa3 Sz3 Ng3 Hs3 Ft3 rfl W3 0 rfl (Nat.le_of_ble_eq_true rfl)
  obtain ⟨T4, X4, e4, st4⟩ := getS2 X3 hx hZ hown (host := "") (Or.inl (hw _ (List.mem_of_getElem? (i := 6) rfl))) Via.refl e3 (S_PROCESSING.ext O3.2) (g := (mkF m 12 #[.val (.int p0), .unset, .unset, .unset] [(.int (1 : Int32)), (.ref b1), (.ref b1)])) rfl (hb hby at_12)
  obtain ⟨cl5, Ar5, qa5, Sz5, Ng5, Hs5, Ft5⟩ := V3
  obtain ⟨T5, h5, X5, e5, W5, st5⟩ := stR X4 hx hZ e4 Ar5 (j := (1 : Int32)) (inb_of Sz5 ⟨by decide, by decide⟩) rfl (Sto.ofV Ar5 qa5 Ov1 (Ins.self (E_w1.ext O3.2))) (g := (mkF m 15 #[.val (.int p0), .unset, .unset, .unset] [(.ref w1), (.int (1 : Int32)), (.ref b1), (.ref b1)])) rfl rfl (hb hby at_15)
  have O5 := O3.wr W5 g_b1
  have N5 := Fr.snoc X5 N3 g_b1
  have V5 : Arv Z h5 b1 k1 (.object "com/example/detaq/detaq/core/TaskStatus") (5 : Int32) [(.ref w0), (.ref w1), .null, .null, .null] .null := Arv.set Ar5 qa5 Sz5 Ng5 Hs5 Ft5 rfl W5 1 rfl (Nat.le_of_ble_eq_true rfl)
  obtain ⟨T6, X6, e6, st6⟩ := getS2 X5 hx hZ hown (host := "") (Or.inl (hw _ (List.mem_of_getElem? (i := 8) rfl))) Via.refl e5 (S_SUCCEEDED.ext O5.2) (g := (mkF m 18 #[.val (.int p0), .unset, .unset, .unset] [(.int (2 : Int32)), (.ref b1), (.ref b1)])) rfl (hb hby at_18)
  obtain ⟨cl7, Ar7, qa7, Sz7, Ng7, Hs7, Ft7⟩ := V5
  obtain ⟨T7, h7, X7, e7, W7, st7⟩ := stR X6 hx hZ e6 Ar7 (j := (2 : Int32)) (inb_of Sz7 ⟨by decide, by decide⟩) rfl (Sto.ofV Ar7 qa7 Ov1 (Ins.self (E_w2.ext O5.2))) (g := (mkF m 21 #[.val (.int p0), .unset, .unset, .unset] [(.ref w2), (.int (2 : Int32)), (.ref b1), (.ref b1)])) rfl rfl (hb hby at_21)
  have O7 := O5.wr W7 g_b1
  have N7 := Fr.snoc X7 N5 g_b1
  have V7 : Arv Z h7 b1 k1 (.object "com/example/detaq/detaq/core/TaskStatus") (5 : Int32) [(.ref w0), (.ref w1), (.ref w2), .null, .null] .null := Arv.set Ar7 qa7 Sz7 Ng7 Hs7 Ft7 rfl W7 2 rfl (Nat.le_of_ble_eq_true rfl)
  obtain ⟨T8, X8, e8, st8⟩ := getS2 X7 hx hZ hown (host := "") (Or.inl (hw _ (List.mem_of_getElem? (i := 10) rfl))) Via.refl e7 (S_FAILED.ext O7.2) (g := (mkF m 24 #[.val (.int p0), .unset, .unset, .unset] [(.int (3 : Int32)), (.ref b1), (.ref b1)])) rfl (hb hby at_24)
  obtain ⟨cl9, Ar9, qa9, Sz9, Ng9, Hs9, Ft9⟩ := V7
  obtain ⟨T9, h9, X9, e9, W9, st9⟩ := stR X8 hx hZ e8 Ar9 (j := (3 : Int32)) (inb_of Sz9 ⟨by decide, by decide⟩) rfl (Sto.ofV Ar9 qa9 Ov1 (Ins.self (E_w3.ext O7.2))) (g := (mkF m 27 #[.val (.int p0), .unset, .unset, .unset] [(.ref w3), (.int (3 : Int32)), (.ref b1), (.ref b1)])) rfl rfl (hb hby at_27)
  have O9 := O7.wr W9 g_b1
  have N9 := Fr.snoc X9 N7 g_b1
  have V9 : Arv Z h9 b1 k1 (.object "com/example/detaq/detaq/core/TaskStatus") (5 : Int32) [(.ref w0), (.ref w1), (.ref w2), (.ref w3), .null] .null := Arv.set Ar9 qa9 Sz9 Ng9 Hs9 Ft9 rfl W9 3 rfl (Nat.le_of_ble_eq_true rfl)
  obtain ⟨T10, X10, e10, st10⟩ := getS2 X9 hx hZ hown (host := "") (Or.inl (hw _ (List.mem_of_getElem? (i := 12) rfl))) Via.refl e9 (S_CANCELED.ext O9.2) (g := (mkF m 30 #[.val (.int p0), .unset, .unset, .unset] [(.int (4 : Int32)), (.ref b1), (.ref b1)])) rfl (hb hby at_30)
  obtain ⟨cl11, Ar11, qa11, Sz11, Ng11, Hs11, Ft11⟩ := V9
  obtain ⟨T11, h11, X11, e11, W11, st11⟩ := stR X10 hx hZ e10 Ar11 (j := (4 : Int32)) (inb_of Sz11 ⟨by decide, by decide⟩) rfl (Sto.ofV Ar11 qa11 Ov1 (Ins.self (E_w4.ext O9.2))) (g := (mkF m 33 #[.val (.int p0), .unset, .unset, .unset] [(.ref w4), (.int (4 : Int32)), (.ref b1), (.ref b1)])) rfl rfl (hb hby at_33)
  have O11 := O9.wr W11 g_b1
  have N11 := Fr.snoc X11 N9 g_b1
  have V11 : Arv Z h11 b1 k1 (.object "com/example/detaq/detaq/core/TaskStatus") (5 : Int32) [(.ref w0), (.ref w1), (.ref w2), (.ref w3), (.ref w4)] .null := Arv.set Ar11 qa11 Sz11 Ng11 Hs11 Ft11 rfl W11 4 rfl (Nat.le_of_ble_eq_true rfl)
  obtain ⟨T12, h12, k12, X12, e12, E12, A12, st12⟩ := newP X11 hx hZ (hw _ (List.mem_of_getElem? (i := 14) rfl)) e11 (g := (mkF m 36 #[.val (.int p0), .val (.ref b1), .unset, .unset] [(.int (5 : Int32))])) rfl (hb hby at_36) rfl (by decide) (cap := 5) (by decide) (by decide) (by decide) (by decide)
  obtain ⟨b12, g12⟩ : ∃ z, z = h11.size := ⟨_, rfl⟩
  rw [← g12] at A12 st12
  have g_b12 : n0 ≤ b12 := Nat.le_trans (own_le O11) (Nat.le_of_eq g12.symm)
  have O12 := O11.ext E12
  have V_b12 : Arv Z h12 b12 k12 .boolean (5 : Int32) [(.int (0 : Int32)), (.int (0 : Int32)), (.int (0 : Int32)), (.int (0 : Int32)), (.int (0 : Int32))] (.int (0 : Int32)) := (Arv.new A12 (by decide)).pad (pad_rep [] (.int (0 : Int32)) 5)
  obtain ⟨cl13, Ar13, qa13, Sz13, Ng13, Hs13, Ft13⟩ := V_b12
  obtain ⟨T13, h13, X13, e13, W13, st13⟩ := stZ X12 hx hZ e12 Ar13 (j := (0 : Int32)) (inb_of Sz13 ⟨by decide, by decide⟩) (g := (mkF m 41 #[.val (.int p0), .val (.ref b1), .unset, .unset] [(.int (0 : Int32)), (.int (0 : Int32)), (.ref b12), (.ref b12)])) rfl rfl (hb hby at_41)
  have O13 := O12.wr W13 g_b12
  have N13 := Fr.snoc X13 N11 g_b12
  have V13 : Arv Z h13 b12 k12 .boolean (5 : Int32) [(.int (0 : Int32)), (.int (0 : Int32)), (.int (0 : Int32)), (.int (0 : Int32)), (.int (0 : Int32))] (.int (0 : Int32)) := Arv.set Ar13 qa13 Sz13 Ng13 Hs13 Ft13 (fits_nar_bool _) W13 0 rfl (Nat.le_of_ble_eq_true rfl)
  obtain ⟨cl14, Ar14, qa14, Sz14, Ng14, Hs14, Ft14⟩ := V13
  obtain ⟨T14, h14, X14, e14, W14, st14⟩ := stZ X13 hx hZ e13 Ar14 (j := (1 : Int32)) (inb_of Sz14 ⟨by decide, by decide⟩) (g := (mkF m 45 #[.val (.int p0), .val (.ref b1), .unset, .unset] [(.int (0 : Int32)), (.int (1 : Int32)), (.ref b12), (.ref b12)])) rfl rfl (hb hby at_45)
  have O14 := O13.wr W14 g_b12
  have N14 := Fr.snoc X14 N13 g_b12
  have V14 : Arv Z h14 b12 k12 .boolean (5 : Int32) [(.int (0 : Int32)), (.int (0 : Int32)), (.int (0 : Int32)), (.int (0 : Int32)), (.int (0 : Int32))] (.int (0 : Int32)) := Arv.set Ar14 qa14 Sz14 Ng14 Hs14 Ft14 (fits_nar_bool _) W14 1 rfl (Nat.le_of_ble_eq_true rfl)
  obtain ⟨cl15, Ar15, qa15, Sz15, Ng15, Hs15, Ft15⟩ := V14
  obtain ⟨T15, h15, X15, e15, W15, st15⟩ := stZ X14 hx hZ e14 Ar15 (j := (2 : Int32)) (inb_of Sz15 ⟨by decide, by decide⟩) (g := (mkF m 49 #[.val (.int p0), .val (.ref b1), .unset, .unset] [(.int (1 : Int32)), (.int (2 : Int32)), (.ref b12), (.ref b12)])) rfl rfl (hb hby at_49)
  have O15 := O14.wr W15 g_b12
  have N15 := Fr.snoc X15 N14 g_b12
  have V15 : Arv Z h15 b12 k12 .boolean (5 : Int32) [(.int (0 : Int32)), (.int (0 : Int32)), (.int (1 : Int32)), (.int (0 : Int32)), (.int (0 : Int32))] (.int (0 : Int32)) := Arv.set Ar15 qa15 Sz15 Ng15 Hs15 Ft15 (fits_nar_bool _) W15 2 rfl (Nat.le_of_ble_eq_true rfl)
  obtain ⟨cl16, Ar16, qa16, Sz16, Ng16, Hs16, Ft16⟩ := V15
  obtain ⟨T16, h16, X16, e16, W16, st16⟩ := stZ X15 hx hZ e15 Ar16 (j := (3 : Int32)) (inb_of Sz16 ⟨by decide, by decide⟩) (g := (mkF m 53 #[.val (.int p0), .val (.ref b1), .unset, .unset] [(.int (1 : Int32)), (.int (3 : Int32)), (.ref b12), (.ref b12)])) rfl rfl (hb hby at_53)
  have O16 := O15.wr W16 g_b12
  have N16 := Fr.snoc X16 N15 g_b12
  have V16 : Arv Z h16 b12 k12 .boolean (5 : Int32) [(.int (0 : Int32)), (.int (0 : Int32)), (.int (1 : Int32)), (.int (1 : Int32)), (.int (0 : Int32))] (.int (0 : Int32)) := Arv.set Ar16 qa16 Sz16 Ng16 Hs16 Ft16 (fits_nar_bool _) W16 3 rfl (Nat.le_of_ble_eq_true rfl)
  obtain ⟨cl17, Ar17, qa17, Sz17, Ng17, Hs17, Ft17⟩ := V16
  obtain ⟨T17, h17, X17, e17, W17, st17⟩ := stZ X16 hx hZ e16 Ar17 (j := (4 : Int32)) (inb_of Sz17 ⟨by decide, by decide⟩) (g := (mkF m 57 #[.val (.int p0), .val (.ref b1), .unset, .unset] [(.int (1 : Int32)), (.int (4 : Int32)), (.ref b12), (.ref b12)])) rfl rfl (hb hby at_57)
  have O17 := O16.wr W17 g_b12
  have N17 := Fr.snoc X17 N16 g_b12
  have V17 : Arv Z h17 b12 k12 .boolean (5 : Int32) [(.int (0 : Int32)), (.int (0 : Int32)), (.int (1 : Int32)), (.int (1 : Int32)), (.int (1 : Int32))] (.int (0 : Int32)) := Arv.set Ar17 qa17 Sz17 Ng17 Hs17 Ft17 (fits_nar_bool _) W17 4 rfl (Nat.le_of_ble_eq_true rfl)
  have v_b1_12_x := ((((((V11.ext E12).other W13 (Nat.ne_of_lt (Nat.lt_of_lt_of_le V11.lt (Nat.le_of_eq g12.symm)))).other W14 (Nat.ne_of_lt (Nat.lt_of_lt_of_le V11.lt (Nat.le_of_eq g12.symm)))).other W15 (Nat.ne_of_lt (Nat.lt_of_lt_of_le V11.lt (Nat.le_of_eq g12.symm)))).other W16 (Nat.ne_of_lt (Nat.lt_of_lt_of_le V11.lt (Nat.le_of_eq g12.symm)))).other W17 (Nat.ne_of_lt (Nat.lt_of_lt_of_le V11.lt (Nat.le_of_eq g12.symm))))
  obtain ⟨cl18, Ar18, qa18, Sz18, Ng18, Hs18, Ft18⟩ := v_b1_12_x
  have hin18 := (inb_of (j := (3 : Int32)) Sz18 ⟨by decide, by decide⟩)
  have hat18 := Hs18.at (v := (.ref w3)) hin18 rfl
  have V18o : Arv Z h17 b1 k1 (.object "com/example/detaq/detaq/core/TaskStatus") (5 : Int32) [(.ref w0), (.ref w1), (.ref w2), (.ref w3), (.ref w4)] .null := ⟨cl18, Ar18, qa18, Sz18, Ng18, Hs18, Ft18⟩
  obtain ⟨cq19, kq19, q19a, q19b, q19c⟩ := isOf hZ e17 (E_w3.ext O17.2)
  obtain ⟨_, _, ⟨T19, L19, k19, n19⟩, -, X19, ⟨Lc19, hQ19, l19, y19, z19⟩, st19⟩ := X17.virtualBack hx (y := (⟨"com/example/detaq/detaq/core/TaskStatus", "isFinal", "()Z"⟩ : MethodName)) (z := (⟨"com/example/detaq/detaq/core/TaskStatus", "isFinal", "()Z"⟩ : MethodName)) hown (mvT hZ (hw _ (List.mem_of_getElem? (i := 16) rfl))) (mvT hZ (hw _ (List.mem_of_getElem? (i := 17) rfl))) (notFace_of_selects (args := #[]) (mvT hZ (hw _ (List.mem_of_getElem? (i := 19) rfl)))) (mvT hZ (hw _ (List.mem_of_getElem? (i := 19) rfl))) (mvT hZ (hw _ (List.mem_of_getElem? (i := 18) rfl))) (by decide) (backOf (W := 0) (rm1B l Z a0 hw [] w3 w2 w3 w4 h17 n0 O17 S_SUCCEEDED S_FAILED S_CANCELED q32 rfl) hZ (hw _ (List.mem_of_getElem? (i := 20) rfl)) (hw _ (List.mem_of_getElem? (i := 3) rfl)) (by decide) (by decide)) q19a q19c (g := (mkF m 69 #[.val (.int p0), .val (.ref b1), .val (.ref b12), .val (.int (3 : Int32))] [(.ref w3)])) rfl (by rw [hml]; rfl) (Steps.refl _) (argsL := []) (rest := []) (lenOf pd_0 rfl) rfl (by show 2 * 0 + _ ≤ _; exact Nat.le_of_eq rfl) (hb hby at_69) (fun _ _ => ⟨rfl, e17, (by decide : 2 + 0 ≤ _), (by decide : 10 + 0 ≤ _)⟩)
  dsimp only [Pt.U, Pt.locs, Pt.cells, Pt.slots] at X19 l19 y19 z19 st19 hQ19
  subst l19 y19 z19
  obtain ⟨rfl, N19q, e19⟩ := hQ19
  have N19 := Fr.app N17 N19q
  obtain ⟨cl20, Ar20, qa20, Sz20, Ng20, Hs20, Ft20⟩ := V17
  have hin20 := (inb_of (j := (3 : Int32)) Sz20 ⟨by decide, by decide⟩)
  have hat20 := Hs20.at (v := (.int (1 : Int32))) hin20 rfl
  have V20o : Arv Z h17 b12 k12 .boolean (5 : Int32) [(.int (0 : Int32)), (.int (0 : Int32)), (.int (1 : Int32)), (.int (1 : Int32)), (.int (1 : Int32))] (.int (0 : Int32)) := ⟨cl20, Ar20, qa20, Sz20, Ng20, Hs20, Ft20⟩
  obtain ⟨fs, hr, hrun, hended, hW, hsame⟩ := X19.leave (v := some (.int (1 : Int32))) (fun h => by rw [Bd.returns] at h; cases h)
  refine ⟨_, _, pre0 _ ?_, hrun, hended, _, _, rfl, ?_, ⟨_, rfl⟩, hW, hsame.mono (by decide) (by decide)⟩
  · show Steps p.tables e below (s₁.setTop (mkF m 0 #[.val (.int p0), .unset, .unset, .unset] [])) _
    refine XS.iconst X0.here hx rfl (hb hby at_0) ?_
    show Steps p.tables e below (s₁.setTop (mkF m 1 #[.val (.int p0), .unset, .unset, .unset] [(.int (5 : Int32))])) _
    refine st1 _ ?_
    show Steps p.tables e below (T1.setTop (mkF m 4 #[.val (.int p0), .unset, .unset, .unset] [(.ref b1)])) _
    refine XS.dup X1.here hx rfl (hb hby at_4) rfl rfl ?_
    show Steps p.tables e below (T1.setTop (mkF m 5 #[.val (.int p0), .unset, .unset, .unset] [(.ref b1), (.ref b1)])) _
    refine XS.iconst X1.here hx rfl (hb hby at_5) ?_
    show Steps p.tables e below (T1.setTop (mkF m 6 #[.val (.int p0), .unset, .unset, .unset] [(.int (0 : Int32)), (.ref b1), (.ref b1)])) _
    refine st2 _ ?_
    show Steps p.tables e below (T2.setTop (mkF m 9 #[.val (.int p0), .unset, .unset, .unset] [(.ref w0), (.int (0 : Int32)), (.ref b1), (.ref b1)])) _
    refine st3 _ ?_
    show Steps p.tables e below (T3.setTop (mkF m 10 #[.val (.int p0), .unset, .unset, .unset] [(.ref b1)])) _
    refine XS.dup X3.here hx rfl (hb hby at_10) rfl rfl ?_
    show Steps p.tables e below (T3.setTop (mkF m 11 #[.val (.int p0), .unset, .unset, .unset] [(.ref b1), (.ref b1)])) _
    refine XS.iconst X3.here hx rfl (hb hby at_11) ?_
    show Steps p.tables e below (T3.setTop (mkF m 12 #[.val (.int p0), .unset, .unset, .unset] [(.int (1 : Int32)), (.ref b1), (.ref b1)])) _
    refine st4 _ ?_
    show Steps p.tables e below (T4.setTop (mkF m 15 #[.val (.int p0), .unset, .unset, .unset] [(.ref w1), (.int (1 : Int32)), (.ref b1), (.ref b1)])) _
    refine st5 _ ?_
    show Steps p.tables e below (T5.setTop (mkF m 16 #[.val (.int p0), .unset, .unset, .unset] [(.ref b1)])) _
    refine XS.dup X5.here hx rfl (hb hby at_16) rfl rfl ?_
    show Steps p.tables e below (T5.setTop (mkF m 17 #[.val (.int p0), .unset, .unset, .unset] [(.ref b1), (.ref b1)])) _
    refine XS.iconst X5.here hx rfl (hb hby at_17) ?_
    show Steps p.tables e below (T5.setTop (mkF m 18 #[.val (.int p0), .unset, .unset, .unset] [(.int (2 : Int32)), (.ref b1), (.ref b1)])) _
    refine st6 _ ?_
    show Steps p.tables e below (T6.setTop (mkF m 21 #[.val (.int p0), .unset, .unset, .unset] [(.ref w2), (.int (2 : Int32)), (.ref b1), (.ref b1)])) _
    refine st7 _ ?_
    show Steps p.tables e below (T7.setTop (mkF m 22 #[.val (.int p0), .unset, .unset, .unset] [(.ref b1)])) _
    refine XS.dup X7.here hx rfl (hb hby at_22) rfl rfl ?_
    show Steps p.tables e below (T7.setTop (mkF m 23 #[.val (.int p0), .unset, .unset, .unset] [(.ref b1), (.ref b1)])) _
    refine XS.iconst X7.here hx rfl (hb hby at_23) ?_
    show Steps p.tables e below (T7.setTop (mkF m 24 #[.val (.int p0), .unset, .unset, .unset] [(.int (3 : Int32)), (.ref b1), (.ref b1)])) _
    refine st8 _ ?_
    show Steps p.tables e below (T8.setTop (mkF m 27 #[.val (.int p0), .unset, .unset, .unset] [(.ref w3), (.int (3 : Int32)), (.ref b1), (.ref b1)])) _
    refine st9 _ ?_
    show Steps p.tables e below (T9.setTop (mkF m 28 #[.val (.int p0), .unset, .unset, .unset] [(.ref b1)])) _
    refine XS.dup X9.here hx rfl (hb hby at_28) rfl rfl ?_
    show Steps p.tables e below (T9.setTop (mkF m 29 #[.val (.int p0), .unset, .unset, .unset] [(.ref b1), (.ref b1)])) _
    refine XS.iconst X9.here hx rfl (hb hby at_29) ?_
    show Steps p.tables e below (T9.setTop (mkF m 30 #[.val (.int p0), .unset, .unset, .unset] [(.int (4 : Int32)), (.ref b1), (.ref b1)])) _
    refine st10 _ ?_
    show Steps p.tables e below (T10.setTop (mkF m 33 #[.val (.int p0), .unset, .unset, .unset] [(.ref w4), (.int (4 : Int32)), (.ref b1), (.ref b1)])) _
    refine st11 _ ?_
    show Steps p.tables e below (T11.setTop (mkF m 34 #[.val (.int p0), .unset, .unset, .unset] [(.ref b1)])) _
    refine XS.astoreN X11.here hx rfl (hb hby at_34) rfl rfl (l' := #[.val (.int p0), .val (.ref b1), .unset, .unset]) rfl ?_
    show Steps p.tables e below (T11.setTop (mkF m 35 #[.val (.int p0), .val (.ref b1), .unset, .unset] [])) _
    refine XS.iconst X11.here hx rfl (hb hby at_35) ?_
    show Steps p.tables e below (T11.setTop (mkF m 36 #[.val (.int p0), .val (.ref b1), .unset, .unset] [(.int (5 : Int32))])) _
    refine st12 _ ?_
    show Steps p.tables e below (T12.setTop (mkF m 38 #[.val (.int p0), .val (.ref b1), .unset, .unset] [(.ref b12)])) _
    refine XS.dup X12.here hx rfl (hb hby at_38) rfl rfl ?_
    show Steps p.tables e below (T12.setTop (mkF m 39 #[.val (.int p0), .val (.ref b1), .unset, .unset] [(.ref b12), (.ref b12)])) _
    refine XS.iconst X12.here hx rfl (hb hby at_39) ?_
    show Steps p.tables e below (T12.setTop (mkF m 40 #[.val (.int p0), .val (.ref b1), .unset, .unset] [(.int (0 : Int32)), (.ref b12), (.ref b12)])) _
    refine XS.iconst X12.here hx rfl (hb hby at_40) ?_
    show Steps p.tables e below (T12.setTop (mkF m 41 #[.val (.int p0), .val (.ref b1), .unset, .unset] [(.int (0 : Int32)), (.int (0 : Int32)), (.ref b12), (.ref b12)])) _
    refine st13 _ ?_
    show Steps p.tables e below (T13.setTop (mkF m 42 #[.val (.int p0), .val (.ref b1), .unset, .unset] [(.ref b12)])) _
    refine XS.dup X13.here hx rfl (hb hby at_42) rfl rfl ?_
    show Steps p.tables e below (T13.setTop (mkF m 43 #[.val (.int p0), .val (.ref b1), .unset, .unset] [(.ref b12), (.ref b12)])) _
    refine XS.iconst X13.here hx rfl (hb hby at_43) ?_
    show Steps p.tables e below (T13.setTop (mkF m 44 #[.val (.int p0), .val (.ref b1), .unset, .unset] [(.int (1 : Int32)), (.ref b12), (.ref b12)])) _
    refine XS.iconst X13.here hx rfl (hb hby at_44) ?_
    show Steps p.tables e below (T13.setTop (mkF m 45 #[.val (.int p0), .val (.ref b1), .unset, .unset] [(.int (0 : Int32)), (.int (1 : Int32)), (.ref b12), (.ref b12)])) _
    refine st14 _ ?_
    show Steps p.tables e below (T14.setTop (mkF m 46 #[.val (.int p0), .val (.ref b1), .unset, .unset] [(.ref b12)])) _
    refine XS.dup X14.here hx rfl (hb hby at_46) rfl rfl ?_
    show Steps p.tables e below (T14.setTop (mkF m 47 #[.val (.int p0), .val (.ref b1), .unset, .unset] [(.ref b12), (.ref b12)])) _
    refine XS.iconst X14.here hx rfl (hb hby at_47) ?_
    show Steps p.tables e below (T14.setTop (mkF m 48 #[.val (.int p0), .val (.ref b1), .unset, .unset] [(.int (2 : Int32)), (.ref b12), (.ref b12)])) _
    refine XS.iconst X14.here hx rfl (hb hby at_48) ?_
    show Steps p.tables e below (T14.setTop (mkF m 49 #[.val (.int p0), .val (.ref b1), .unset, .unset] [(.int (1 : Int32)), (.int (2 : Int32)), (.ref b12), (.ref b12)])) _
    refine st15 _ ?_
    show Steps p.tables e below (T15.setTop (mkF m 50 #[.val (.int p0), .val (.ref b1), .unset, .unset] [(.ref b12)])) _
    refine XS.dup X15.here hx rfl (hb hby at_50) rfl rfl ?_
    show Steps p.tables e below (T15.setTop (mkF m 51 #[.val (.int p0), .val (.ref b1), .unset, .unset] [(.ref b12), (.ref b12)])) _
    refine XS.iconst X15.here hx rfl (hb hby at_51) ?_
    show Steps p.tables e below (T15.setTop (mkF m 52 #[.val (.int p0), .val (.ref b1), .unset, .unset] [(.int (3 : Int32)), (.ref b12), (.ref b12)])) _
    refine XS.iconst X15.here hx rfl (hb hby at_52) ?_
    show Steps p.tables e below (T15.setTop (mkF m 53 #[.val (.int p0), .val (.ref b1), .unset, .unset] [(.int (1 : Int32)), (.int (3 : Int32)), (.ref b12), (.ref b12)])) _
    refine st16 _ ?_
    show Steps p.tables e below (T16.setTop (mkF m 54 #[.val (.int p0), .val (.ref b1), .unset, .unset] [(.ref b12)])) _
    refine XS.dup X16.here hx rfl (hb hby at_54) rfl rfl ?_
    show Steps p.tables e below (T16.setTop (mkF m 55 #[.val (.int p0), .val (.ref b1), .unset, .unset] [(.ref b12), (.ref b12)])) _
    refine XS.iconst X16.here hx rfl (hb hby at_55) ?_
    show Steps p.tables e below (T16.setTop (mkF m 56 #[.val (.int p0), .val (.ref b1), .unset, .unset] [(.int (4 : Int32)), (.ref b12), (.ref b12)])) _
    refine XS.iconst X16.here hx rfl (hb hby at_56) ?_
    show Steps p.tables e below (T16.setTop (mkF m 57 #[.val (.int p0), .val (.ref b1), .unset, .unset] [(.int (1 : Int32)), (.int (4 : Int32)), (.ref b12), (.ref b12)])) _
    refine st17 _ ?_
    show Steps p.tables e below (T17.setTop (mkF m 58 #[.val (.int p0), .val (.ref b1), .unset, .unset] [(.ref b12)])) _
    refine XS.astoreN X17.here hx rfl (hb hby at_58) rfl rfl (l' := #[.val (.int p0), .val (.ref b1), .val (.ref b12), .unset]) rfl ?_
    show Steps p.tables e below (T17.setTop (mkF m 59 #[.val (.int p0), .val (.ref b1), .val (.ref b12), .unset] [])) _
    refine XS.iloadN X17.here hx rfl (hb hby at_59) rfl ?_
    show Steps p.tables e below (T17.setTop (mkF m 60 #[.val (.int p0), .val (.ref b1), .val (.ref b12), .unset] [(.int p0)])) _
    refine X17.ldcInt hx hown (mvT hZ (hw _ (List.mem_of_getElem? (i := 15) rfl))) (g := (mkF m 60 #[.val (.int p0), .val (.ref b1), .val (.ref b12), .unset] [(.int p0)])) rfl (hb hby at_60) _ ?_
    show Steps p.tables e below (T17.setTop (mkF m 62 #[.val (.int p0), .val (.ref b1), .val (.ref b12), .unset] [(.int (2147483647 : Int32)), (.int p0)])) _
    refine XS.iand X17.here hx rfl (hb hby at_62) rfl ?_
    show Steps p.tables e below (T17.setTop (mkF m 63 #[.val (.int p0), .val (.ref b1), .val (.ref b12), .unset] [(.int (p0 &&& (2147483647 : Int32)))])) _
    refine XS.iconst X17.here hx rfl (hb hby at_63) ?_
    show Steps p.tables e below (T17.setTop (mkF m 64 #[.val (.int p0), .val (.ref b1), .val (.ref b12), .unset] [(.int (5 : Int32)), (.int (p0 &&& (2147483647 : Int32)))])) _
    refine iremM X17 hx rfl (hb hby at_64) rfl (by decide) ?_
    show Steps p.tables e below (T17.setTop (mkF m 65 #[.val (.int p0), .val (.ref b1), .val (.ref b12), .unset] [(.int ((p0 &&& (2147483647 : Int32)) % (5 : Int32)))])) _
    rw [hi]
    show Steps p.tables e below (T17.setTop (mkF m 65 #[.val (.int p0), .val (.ref b1), .val (.ref b12), .unset] [(.int (3 : Int32))])) _
    refine XS.istoreN X17.here hx rfl (hb hby at_65) rfl (l' := #[.val (.int p0), .val (.ref b1), .val (.ref b12), .val (.int (3 : Int32))]) rfl ?_
    show Steps p.tables e below (T17.setTop (mkF m 66 #[.val (.int p0), .val (.ref b1), .val (.ref b12), .val (.int (3 : Int32))] [])) _
    refine XS.aloadN X17.here hx rfl (hb hby at_66) rfl rfl ?_
    show Steps p.tables e below (T17.setTop (mkF m 67 #[.val (.int p0), .val (.ref b1), .val (.ref b12), .val (.int (3 : Int32))] [(.ref b1)])) _
    refine XS.iloadN X17.here hx rfl (hb hby at_67) rfl ?_
    show Steps p.tables e below (T17.setTop (mkF m 68 #[.val (.int p0), .val (.ref b1), .val (.ref b12), .val (.int (3 : Int32))] [(.int (3 : Int32)), (.ref b1)])) _
    refine X17.aaload hx (j := (3 : Int32)) (v := (.ref w3)) (by rw [e17]; exact Ar18.1) (State.isArrayOf_alike hZ.alike Ar18.2.1) rfl Ar18.2.2 hin18 hat18 (g := (mkF m 68 #[.val (.int p0), .val (.ref b1), .val (.ref b12), .val (.int (3 : Int32))] [(.int (3 : Int32)), (.ref b1)])) rfl rfl (hb hby at_68) _ ?_
    show Steps p.tables e below (T17.setTop (mkF m 69 #[.val (.int p0), .val (.ref b1), .val (.ref b12), .val (.int (3 : Int32))] [(.ref w3)])) _
    refine st19.trans ?_
    show Steps p.tables e below (T19.setTop (mkF m 72 #[.val (.int p0), .val (.ref b1), .val (.ref b12), .val (.int (3 : Int32))] [(.int (1 : Int32))])) _
    refine XS.aloadN X19.here hx rfl (hb hby at_72) rfl rfl ?_
    show Steps p.tables e below (T19.setTop (mkF m 73 #[.val (.int p0), .val (.ref b1), .val (.ref b12), .val (.int (3 : Int32))] [(.ref b12), (.int (1 : Int32))])) _
    refine XS.iloadN X19.here hx rfl (hb hby at_73) rfl ?_
    show Steps p.tables e below (T19.setTop (mkF m 74 #[.val (.int p0), .val (.ref b1), .val (.ref b12), .val (.int (3 : Int32))] [(.int (3 : Int32)), (.ref b12), (.int (1 : Int32))])) _
    refine X19.baloadBooleans hx (j := (3 : Int32)) (v := (.int (1 : Int32))) (by rw [e19]; exact Ar20.1) (State.isArrayOf_alike hZ.alike Ar20.2.1) Ar20.2.2 hin20 hat20 (g := (mkF m 74 #[.val (.int p0), .val (.ref b1), .val (.ref b12), .val (.int (3 : Int32))] [(.int (3 : Int32)), (.ref b12), (.int (1 : Int32))])) rfl rfl (hb hby at_74) _ ?_
    show Steps p.tables e below (T19.setTop (mkF m 75 #[.val (.int p0), .val (.ref b1), .val (.ref b12), .val (.int (3 : Int32))] [(.int (1 : Int32)), (.int (1 : Int32))])) _
    refine XS.icmpNo X19.here hx rfl (hb hby at_75) rfl (teq (by decide : (1 : Int32) = (1 : Int32))).2 ?_
    show Steps p.tables e below (T19.setTop (mkF m 78 #[.val (.int p0), .val (.ref b1), .val (.ref b12), .val (.int (3 : Int32))] [])) _
    refine XS.iconst X19.here hx rfl (hb hby at_78) ?_
    show Steps p.tables e below (T19.setTop (mkF m 79 #[.val (.int p0), .val (.ref b1), .val (.ref b12), .val (.int (3 : Int32))] [(.int (1 : Int32))])) _
    refine XS.goto X19.here hx rfl (pc0 := 79) (pc' := 83) rfl (hb hby at_79) (by decide) (by decide) ?_
    show Steps p.tables e below (T19.setTop (mkF m 83 #[.val (.int p0), .val (.ref b1), .val (.ref b12), .val (.int (3 : Int32))] [(.int (1 : Int32))])) _
    exact retN X19 hx (t := .boolean) Bd.returns (by simp) (hb hby at_83) hr
  · show own_R n0 _ T19.heap _
    rw [e19]
    exact ⟨rfl, N19⟩
set_option maxRecDepth 65536 in
set_option maxHeartbeats 40000000 in
theorem rm0_4 (l : Launch) (Z : State) (a0 : Array Value) (hw : ∀ d ∈ tables_1, d.before a0 Z = true) (ws : List Jvm.Cond) (p0 : Int32) (w0 : Addr) (w1 : Addr) (w2 : Addr) (w3 : Addr) (w4 : Addr) (h0 : Heap) (n0 : Nat) (O0 : Old Z n0 h0) (hi : ((p0 &&& (2147483647 : Int32)) % (5 : Int32)) = (4 : Int32)) (S_ENQUEUED : Sta Z Z.heap "com/example/detaq/detaq/core/TaskStatus" "ENQUEUED" "Lcom/example/detaq/detaq/core/TaskStatus;" (.ref w0)) (E_w0 : Exa Z Z.heap w0 "com/example/detaq/detaq/core/TaskStatus") (S_PROCESSING : Sta Z Z.heap "com/example/detaq/detaq/core/TaskStatus" "PROCESSING" "Lcom/example/detaq/detaq/core/TaskStatus;" (.ref w1)) (E_w1 : Exa Z Z.heap w1 "com/example/detaq/detaq/core/TaskStatus") (S_SUCCEEDED : Sta Z Z.heap "com/example/detaq/detaq/core/TaskStatus" "SUCCEEDED" "Lcom/example/detaq/detaq/core/TaskStatus;" (.ref w2)) (E_w2 : Exa Z Z.heap w2 "com/example/detaq/detaq/core/TaskStatus") (S_FAILED : Sta Z Z.heap "com/example/detaq/detaq/core/TaskStatus" "FAILED" "Lcom/example/detaq/detaq/core/TaskStatus;" (.ref w3)) (E_w3 : Exa Z Z.heap w3 "com/example/detaq/detaq/core/TaskStatus") (S_CANCELED : Sta Z Z.heap "com/example/detaq/detaq/core/TaskStatus" "CANCELED" "Lcom/example/detaq/detaq/core/TaskStatus;" (.ref w4)) (E_w4 : Exa Z Z.heap w4 "com/example/detaq/detaq/core/TaskStatus") (q42 : ¬ (w4 = w2)) (q43 : ¬ (w4 = w3)) :
    MetFree l x (head1 (Jvm.Cond.code x code maxLocals ret :: ws) room_1) (fun a U => a = #[(.int p0)] ∧ Z.Warmed39 U.vm ∧ U.heap = h0) (fun _ _ _ _ _ => True) (fun _ U o U' => ∃ v L, o = .returned v ∧ own_R n0 v U'.heap L ∧ FrameEnd U o U' L room_1.cells room_1.slots) := by
  refine MetFree.of_bodySF (plainFor_of_name pn_0) hisR ?_
  intro p e s m args below meth c s₁ Bd hml0 hP hK
  obtain ⟨rfl, hZ, hh⟩ := hP
  have hx := Bd.exec
  have hby := Bd.bytes
  have hml : c.maxLocals = 4 := hml0
  have hown : s.vm.findClass "com/example/detaq/detaq/core/TaskStatusIsFinalPinLaw" = some m.cls := findClass_of_methodNamed Bd.named
  have hnm := (name_of_methodNamed Bd.named Bd.method).1
  have X0 : Stand p l e room_1 s m #[(.int p0)] below meth c s₁ [] 0 0 := Stand.of_body Bd
  have e0 : s₁.heap = h0 := by rw [← hh, Bd.state]; rfl
  have N0 := Fr.nil n0
  have pre0 : ∀ t, Steps p.tables e below (s₁.setTop (mkF m 0 #[.val (.int p0), .unset, .unset, .unset] [])) t → Steps p.tables e below (s₁.setTop (entryFrame m #[(.int p0)] maxLocals)) t := fun t k => castTop (ef_0 m p0) k
  obtain ⟨T1, h1, k1, X1, e1, E1, A1, Ov1, st1⟩ := newR X0 hx hZ hown (hw _ (List.mem_of_getElem? (i := 0) rfl)) (hw _ (List.mem_of_getElem? (i := 1) rfl)) e0 (g := (mkF m 1 #[.val (.int p0), .unset, .unset, .unset] [(.int (5 : Int32))])) rfl (hb hby at_1) rfl (by decide) (cap := 5) (by decide) (by decide) (by decide) (by decide)
  obtain ⟨b1, g1⟩ : ∃ z, z = h0.size := ⟨_, rfl⟩
  rw [← g1] at A1 st1
  have g_b1 : n0 ≤ b1 := Nat.le_trans (own_le O0) (Nat.le_of_eq g1.symm)
  have O1 := O0.ext E1
  have V_b1 : Arv Z h1 b1 k1 (.object "com/example/detaq/detaq/core/TaskStatus") (5 : Int32) [.null, .null, .null, .null, .null] .null := (Arv.new A1 (by decide)).pad (pad_rep [] .null 5)
  obtain ⟨T2, X2, e2, st2⟩ := getS2 X1 hx hZ hown (host := "") (Or.inl (hw _ (List.mem_of_getElem? (i := 2) rfl))) Via.refl e1 (S_ENQUEUED.ext O1.2) (g := (mkF m 6 #[.val (.int p0), .unset, .unset, .unset] [(.int (0 : Int32)), (.ref b1), (.ref b1)])) rfl (hb hby at_6)
  obtain ⟨cl3, Ar3, qa3, Sz3, Ng3, Hs3, Ft3⟩ := V_b1
  obtain ⟨T3, h3, X3, e3, W3, st3⟩ := stR X2 hx hZ e2 Ar3 (j := (0 : Int32)) (inb_of Sz3 ⟨by decide, by decide⟩) rfl (Sto.ofV Ar3 qa3 Ov1 (Ins.self (E_w0.ext O1.2))) (g := (mkF m 9 #[.val (.int p0), .unset, .unset, .unset] [(.ref w0), (.int (0 : Int32)), (.ref b1), (.ref b1)])) rfl rfl (hb hby at_9)
  have O3 := O1.wr W3 g_b1
  have N3 := Fr.snoc X3 N0 g_b1
  have V3 : Arv Z h3 b1 k1 (.object "com/example/detaq/detaq/core/TaskStatus") (5 : Int32) [(.ref w0), .null, .null, .null, .null] .null := Arv.set Ar3 qa3 Sz3 Ng3 Hs3 Ft3 rfl W3 0 rfl (Nat.le_of_ble_eq_true rfl)
  obtain ⟨T4, X4, e4, st4⟩ := getS2 X3 hx hZ hown (host := "") (Or.inl (hw _ (List.mem_of_getElem? (i := 6) rfl))) Via.refl e3 (S_PROCESSING.ext O3.2) (g := (mkF m 12 #[.val (.int p0), .unset, .unset, .unset] [(.int (1 : Int32)), (.ref b1), (.ref b1)])) rfl (hb hby at_12)
  obtain ⟨cl5, Ar5, qa5, Sz5, Ng5, Hs5, Ft5⟩ := V3
  obtain ⟨T5, h5, X5, e5, W5, st5⟩ := stR X4 hx hZ e4 Ar5 (j := (1 : Int32)) (inb_of Sz5 ⟨by decide, by decide⟩) rfl (Sto.ofV Ar5 qa5 Ov1 (Ins.self (E_w1.ext O3.2))) (g := (mkF m 15 #[.val (.int p0), .unset, .unset, .unset] [(.ref w1), (.int (1 : Int32)), (.ref b1), (.ref b1)])) rfl rfl (hb hby at_15)
  have O5 := O3.wr W5 g_b1
  have N5 := Fr.snoc X5 N3 g_b1
  have V5 : Arv Z h5 b1 k1 (.object "com/example/detaq/detaq/core/TaskStatus") (5 : Int32) [(.ref w0), (.ref w1), .null, .null, .null] .null := Arv.set Ar5 qa5 Sz5 Ng5 Hs5 Ft5 rfl W5 1 rfl (Nat.le_of_ble_eq_true rfl)
  obtain ⟨T6, X6, e6, st6⟩ := getS2 X5 hx hZ hown (host := "") (Or.inl (hw _ (List.mem_of_getElem? (i := 8) rfl))) Via.refl e5 (S_SUCCEEDED.ext O5.2) (g := (mkF m 18 #[.val (.int p0), .unset, .unset, .unset] [(.int (2 : Int32)), (.ref b1), (.ref b1)])) rfl (hb hby at_18)
  obtain ⟨cl7, Ar7, qa7, Sz7, Ng7, Hs7, Ft7⟩ := V5
  obtain ⟨T7, h7, X7, e7, W7, st7⟩ := stR X6 hx hZ e6 Ar7 (j := (2 : Int32)) (inb_of Sz7 ⟨by decide, by decide⟩) rfl (Sto.ofV Ar7 qa7 Ov1 (Ins.self (E_w2.ext O5.2))) (g := (mkF m 21 #[.val (.int p0), .unset, .unset, .unset] [(.ref w2), (.int (2 : Int32)), (.ref b1), (.ref b1)])) rfl rfl (hb hby at_21)
  have O7 := O5.wr W7 g_b1
  have N7 := Fr.snoc X7 N5 g_b1
  have V7 : Arv Z h7 b1 k1 (.object "com/example/detaq/detaq/core/TaskStatus") (5 : Int32) [(.ref w0), (.ref w1), (.ref w2), .null, .null] .null := Arv.set Ar7 qa7 Sz7 Ng7 Hs7 Ft7 rfl W7 2 rfl (Nat.le_of_ble_eq_true rfl)
  obtain ⟨T8, X8, e8, st8⟩ := getS2 X7 hx hZ hown (host := "") (Or.inl (hw _ (List.mem_of_getElem? (i := 10) rfl))) Via.refl e7 (S_FAILED.ext O7.2) (g := (mkF m 24 #[.val (.int p0), .unset, .unset, .unset] [(.int (3 : Int32)), (.ref b1), (.ref b1)])) rfl (hb hby at_24)
  obtain ⟨cl9, Ar9, qa9, Sz9, Ng9, Hs9, Ft9⟩ := V7
  obtain ⟨T9, h9, X9, e9, W9, st9⟩ := stR X8 hx hZ e8 Ar9 (j := (3 : Int32)) (inb_of Sz9 ⟨by decide, by decide⟩) rfl (Sto.ofV Ar9 qa9 Ov1 (Ins.self (E_w3.ext O7.2))) (g := (mkF m 27 #[.val (.int p0), .unset, .unset, .unset] [(.ref w3), (.int (3 : Int32)), (.ref b1), (.ref b1)])) rfl rfl (hb hby at_27)
  have O9 := O7.wr W9 g_b1
  have N9 := Fr.snoc X9 N7 g_b1
  have V9 : Arv Z h9 b1 k1 (.object "com/example/detaq/detaq/core/TaskStatus") (5 : Int32) [(.ref w0), (.ref w1), (.ref w2), (.ref w3), .null] .null := Arv.set Ar9 qa9 Sz9 Ng9 Hs9 Ft9 rfl W9 3 rfl (Nat.le_of_ble_eq_true rfl)
  obtain ⟨T10, X10, e10, st10⟩ := getS2 X9 hx hZ hown (host := "") (Or.inl (hw _ (List.mem_of_getElem? (i := 12) rfl))) Via.refl e9 (S_CANCELED.ext O9.2) (g := (mkF m 30 #[.val (.int p0), .unset, .unset, .unset] [(.int (4 : Int32)), (.ref b1), (.ref b1)])) rfl (hb hby at_30)
  obtain ⟨cl11, Ar11, qa11, Sz11, Ng11, Hs11, Ft11⟩ := V9
  obtain ⟨T11, h11, X11, e11, W11, st11⟩ := stR X10 hx hZ e10 Ar11 (j := (4 : Int32)) (inb_of Sz11 ⟨by decide, by decide⟩) rfl (Sto.ofV Ar11 qa11 Ov1 (Ins.self (E_w4.ext O9.2))) (g := (mkF m 33 #[.val (.int p0), .unset, .unset, .unset] [(.ref w4), (.int (4 : Int32)), (.ref b1), (.ref b1)])) rfl rfl (hb hby at_33)
  have O11 := O9.wr W11 g_b1
  have N11 := Fr.snoc X11 N9 g_b1
  have V11 : Arv Z h11 b1 k1 (.object "com/example/detaq/detaq/core/TaskStatus") (5 : Int32) [(.ref w0), (.ref w1), (.ref w2), (.ref w3), (.ref w4)] .null := Arv.set Ar11 qa11 Sz11 Ng11 Hs11 Ft11 rfl W11 4 rfl (Nat.le_of_ble_eq_true rfl)
  obtain ⟨T12, h12, k12, X12, e12, E12, A12, st12⟩ := newP X11 hx hZ (hw _ (List.mem_of_getElem? (i := 14) rfl)) e11 (g := (mkF m 36 #[.val (.int p0), .val (.ref b1), .unset, .unset] [(.int (5 : Int32))])) rfl (hb hby at_36) rfl (by decide) (cap := 5) (by decide) (by decide) (by decide) (by decide)
  obtain ⟨b12, g12⟩ : ∃ z, z = h11.size := ⟨_, rfl⟩
  rw [← g12] at A12 st12
  have g_b12 : n0 ≤ b12 := Nat.le_trans (own_le O11) (Nat.le_of_eq g12.symm)
  have O12 := O11.ext E12
  have V_b12 : Arv Z h12 b12 k12 .boolean (5 : Int32) [(.int (0 : Int32)), (.int (0 : Int32)), (.int (0 : Int32)), (.int (0 : Int32)), (.int (0 : Int32))] (.int (0 : Int32)) := (Arv.new A12 (by decide)).pad (pad_rep [] (.int (0 : Int32)) 5)
  obtain ⟨cl13, Ar13, qa13, Sz13, Ng13, Hs13, Ft13⟩ := V_b12
  obtain ⟨T13, h13, X13, e13, W13, st13⟩ := stZ X12 hx hZ e12 Ar13 (j := (0 : Int32)) (inb_of Sz13 ⟨by decide, by decide⟩) (g := (mkF m 41 #[.val (.int p0), .val (.ref b1), .unset, .unset] [(.int (0 : Int32)), (.int (0 : Int32)), (.ref b12), (.ref b12)])) rfl rfl (hb hby at_41)
  have O13 := O12.wr W13 g_b12
  have N13 := Fr.snoc X13 N11 g_b12
  have V13 : Arv Z h13 b12 k12 .boolean (5 : Int32) [(.int (0 : Int32)), (.int (0 : Int32)), (.int (0 : Int32)), (.int (0 : Int32)), (.int (0 : Int32))] (.int (0 : Int32)) := Arv.set Ar13 qa13 Sz13 Ng13 Hs13 Ft13 (fits_nar_bool _) W13 0 rfl (Nat.le_of_ble_eq_true rfl)
  obtain ⟨cl14, Ar14, qa14, Sz14, Ng14, Hs14, Ft14⟩ := V13
  obtain ⟨T14, h14, X14, e14, W14, st14⟩ := stZ X13 hx hZ e13 Ar14 (j := (1 : Int32)) (inb_of Sz14 ⟨by decide, by decide⟩) (g := (mkF m 45 #[.val (.int p0), .val (.ref b1), .unset, .unset] [(.int (0 : Int32)), (.int (1 : Int32)), (.ref b12), (.ref b12)])) rfl rfl (hb hby at_45)
  have O14 := O13.wr W14 g_b12
  have N14 := Fr.snoc X14 N13 g_b12
  have V14 : Arv Z h14 b12 k12 .boolean (5 : Int32) [(.int (0 : Int32)), (.int (0 : Int32)), (.int (0 : Int32)), (.int (0 : Int32)), (.int (0 : Int32))] (.int (0 : Int32)) := Arv.set Ar14 qa14 Sz14 Ng14 Hs14 Ft14 (fits_nar_bool _) W14 1 rfl (Nat.le_of_ble_eq_true rfl)
  obtain ⟨cl15, Ar15, qa15, Sz15, Ng15, Hs15, Ft15⟩ := V14
  obtain ⟨T15, h15, X15, e15, W15, st15⟩ := stZ X14 hx hZ e14 Ar15 (j := (2 : Int32)) (inb_of Sz15 ⟨by decide, by decide⟩) (g := (mkF m 49 #[.val (.int p0), .val (.ref b1), .unset, .unset] [(.int (1 : Int32)), (.int (2 : Int32)), (.ref b12), (.ref b12)])) rfl rfl (hb hby at_49)
  have O15 := O14.wr W15 g_b12
  have N15 := Fr.snoc X15 N14 g_b12
  have V15 : Arv Z h15 b12 k12 .boolean (5 : Int32) [(.int (0 : Int32)), (.int (0 : Int32)), (.int (1 : Int32)), (.int (0 : Int32)), (.int (0 : Int32))] (.int (0 : Int32)) := Arv.set Ar15 qa15 Sz15 Ng15 Hs15 Ft15 (fits_nar_bool _) W15 2 rfl (Nat.le_of_ble_eq_true rfl)
  obtain ⟨cl16, Ar16, qa16, Sz16, Ng16, Hs16, Ft16⟩ := V15
  obtain ⟨T16, h16, X16, e16, W16, st16⟩ := stZ X15 hx hZ e15 Ar16 (j := (3 : Int32)) (inb_of Sz16 ⟨by decide, by decide⟩) (g := (mkF m 53 #[.val (.int p0), .val (.ref b1), .unset, .unset] [(.int (1 : Int32)), (.int (3 : Int32)), (.ref b12), (.ref b12)])) rfl rfl (hb hby at_53)
  have O16 := O15.wr W16 g_b12
  have N16 := Fr.snoc X16 N15 g_b12
  have V16 : Arv Z h16 b12 k12 .boolean (5 : Int32) [(.int (0 : Int32)), (.int (0 : Int32)), (.int (1 : Int32)), (.int (1 : Int32)), (.int (0 : Int32))] (.int (0 : Int32)) := Arv.set Ar16 qa16 Sz16 Ng16 Hs16 Ft16 (fits_nar_bool _) W16 3 rfl (Nat.le_of_ble_eq_true rfl)
  obtain ⟨cl17, Ar17, qa17, Sz17, Ng17, Hs17, Ft17⟩ := V16
  obtain ⟨T17, h17, X17, e17, W17, st17⟩ := stZ X16 hx hZ e16 Ar17 (j := (4 : Int32)) (inb_of Sz17 ⟨by decide, by decide⟩) (g := (mkF m 57 #[.val (.int p0), .val (.ref b1), .unset, .unset] [(.int (1 : Int32)), (.int (4 : Int32)), (.ref b12), (.ref b12)])) rfl rfl (hb hby at_57)
  have O17 := O16.wr W17 g_b12
  have N17 := Fr.snoc X17 N16 g_b12
  have V17 : Arv Z h17 b12 k12 .boolean (5 : Int32) [(.int (0 : Int32)), (.int (0 : Int32)), (.int (1 : Int32)), (.int (1 : Int32)), (.int (1 : Int32))] (.int (0 : Int32)) := Arv.set Ar17 qa17 Sz17 Ng17 Hs17 Ft17 (fits_nar_bool _) W17 4 rfl (Nat.le_of_ble_eq_true rfl)
  have v_b1_12_x := ((((((V11.ext E12).other W13 (Nat.ne_of_lt (Nat.lt_of_lt_of_le V11.lt (Nat.le_of_eq g12.symm)))).other W14 (Nat.ne_of_lt (Nat.lt_of_lt_of_le V11.lt (Nat.le_of_eq g12.symm)))).other W15 (Nat.ne_of_lt (Nat.lt_of_lt_of_le V11.lt (Nat.le_of_eq g12.symm)))).other W16 (Nat.ne_of_lt (Nat.lt_of_lt_of_le V11.lt (Nat.le_of_eq g12.symm)))).other W17 (Nat.ne_of_lt (Nat.lt_of_lt_of_le V11.lt (Nat.le_of_eq g12.symm))))
  obtain ⟨cl18, Ar18, qa18, Sz18, Ng18, Hs18, Ft18⟩ := v_b1_12_x
  have hin18 := (inb_of (j := (4 : Int32)) Sz18 ⟨by decide, by decide⟩)
  have hat18 := Hs18.at (v := (.ref w4)) hin18 rfl
  have V18o : Arv Z h17 b1 k1 (.object "com/example/detaq/detaq/core/TaskStatus") (5 : Int32) [(.ref w0), (.ref w1), (.ref w2), (.ref w3), (.ref w4)] .null := ⟨cl18, Ar18, qa18, Sz18, Ng18, Hs18, Ft18⟩
  obtain ⟨cq19, kq19, q19a, q19b, q19c⟩ := isOf hZ e17 (E_w4.ext O17.2)
  obtain ⟨_, _, ⟨T19, L19, k19, n19⟩, -, X19, ⟨Lc19, hQ19, l19, y19, z19⟩, st19⟩ := X17.virtualBack hx (y := (⟨"com/example/detaq/detaq/core/TaskStatus", "isFinal", "()Z"⟩ : MethodName)) (z := (⟨"com/example/detaq/detaq/core/TaskStatus", "isFinal", "()Z"⟩ : MethodName)) hown (mvT hZ (hw _ (List.mem_of_getElem? (i := 16) rfl))) (mvT hZ (hw _ (List.mem_of_getElem? (i := 17) rfl))) (notFace_of_selects (args := #[]) (mvT hZ (hw _ (List.mem_of_getElem? (i := 19) rfl)))) (mvT hZ (hw _ (List.mem_of_getElem? (i := 19) rfl))) (mvT hZ (hw _ (List.mem_of_getElem? (i := 18) rfl))) (by decide) (backOf (W := 0) (rm1C l Z a0 hw [] w4 w2 w3 w4 h17 n0 O17 S_SUCCEEDED S_FAILED S_CANCELED q42 q43 rfl) hZ (hw _ (List.mem_of_getElem? (i := 20) rfl)) (hw _ (List.mem_of_getElem? (i := 3) rfl)) (by decide) (by decide)) q19a q19c (g := (mkF m 69 #[.val (.int p0), .val (.ref b1), .val (.ref b12), .val (.int (4 : Int32))] [(.ref w4)])) rfl (by rw [hml]; rfl) (Steps.refl _) (argsL := []) (rest := []) (lenOf pd_0 rfl) rfl (by show 2 * 0 + _ ≤ _; exact Nat.le_of_eq rfl) (hb hby at_69) (fun _ _ => ⟨rfl, e17, (by decide : 2 + 0 ≤ _), (by decide : 10 + 0 ≤ _)⟩)
  dsimp only [Pt.U, Pt.locs, Pt.cells, Pt.slots] at X19 l19 y19 z19 st19 hQ19
  subst l19 y19 z19
  obtain ⟨rfl, N19q, e19⟩ := hQ19
  have N19 := Fr.app N17 N19q
  obtain ⟨cl20, Ar20, qa20, Sz20, Ng20, Hs20, Ft20⟩ := V17
  have hin20 := (inb_of (j := (4 : Int32)) Sz20 ⟨by decide, by decide⟩)
  have hat20 := Hs20.at (v := (.int (1 : Int32))) hin20 rfl
  have V20o : Arv Z h17 b12 k12 .boolean (5 : Int32) [(.int (0 : Int32)), (.int (0 : Int32)), (.int (1 : Int32)), (.int (1 : Int32)), (.int (1 : Int32))] (.int (0 : Int32)) := ⟨cl20, Ar20, qa20, Sz20, Ng20, Hs20, Ft20⟩
  obtain ⟨fs, hr, hrun, hended, hW, hsame⟩ := X19.leave (v := some (.int (1 : Int32))) (fun h => by rw [Bd.returns] at h; cases h)
  refine ⟨_, _, pre0 _ ?_, hrun, hended, _, _, rfl, ?_, ⟨_, rfl⟩, hW, hsame.mono (by decide) (by decide)⟩
  · show Steps p.tables e below (s₁.setTop (mkF m 0 #[.val (.int p0), .unset, .unset, .unset] [])) _
    refine XS.iconst X0.here hx rfl (hb hby at_0) ?_
    show Steps p.tables e below (s₁.setTop (mkF m 1 #[.val (.int p0), .unset, .unset, .unset] [(.int (5 : Int32))])) _
    refine st1 _ ?_
    show Steps p.tables e below (T1.setTop (mkF m 4 #[.val (.int p0), .unset, .unset, .unset] [(.ref b1)])) _
    refine XS.dup X1.here hx rfl (hb hby at_4) rfl rfl ?_
    show Steps p.tables e below (T1.setTop (mkF m 5 #[.val (.int p0), .unset, .unset, .unset] [(.ref b1), (.ref b1)])) _
    refine XS.iconst X1.here hx rfl (hb hby at_5) ?_
    show Steps p.tables e below (T1.setTop (mkF m 6 #[.val (.int p0), .unset, .unset, .unset] [(.int (0 : Int32)), (.ref b1), (.ref b1)])) _
    refine st2 _ ?_
    show Steps p.tables e below (T2.setTop (mkF m 9 #[.val (.int p0), .unset, .unset, .unset] [(.ref w0), (.int (0 : Int32)), (.ref b1), (.ref b1)])) _
    refine st3 _ ?_
    show Steps p.tables e below (T3.setTop (mkF m 10 #[.val (.int p0), .unset, .unset, .unset] [(.ref b1)])) _
    refine XS.dup X3.here hx rfl (hb hby at_10) rfl rfl ?_
    show Steps p.tables e below (T3.setTop (mkF m 11 #[.val (.int p0), .unset, .unset, .unset] [(.ref b1), (.ref b1)])) _
    refine XS.iconst X3.here hx rfl (hb hby at_11) ?_
    show Steps p.tables e below (T3.setTop (mkF m 12 #[.val (.int p0), .unset, .unset, .unset] [(.int (1 : Int32)), (.ref b1), (.ref b1)])) _
    refine st4 _ ?_
    show Steps p.tables e below (T4.setTop (mkF m 15 #[.val (.int p0), .unset, .unset, .unset] [(.ref w1), (.int (1 : Int32)), (.ref b1), (.ref b1)])) _
    refine st5 _ ?_
    show Steps p.tables e below (T5.setTop (mkF m 16 #[.val (.int p0), .unset, .unset, .unset] [(.ref b1)])) _
    refine XS.dup X5.here hx rfl (hb hby at_16) rfl rfl ?_
    show Steps p.tables e below (T5.setTop (mkF m 17 #[.val (.int p0), .unset, .unset, .unset] [(.ref b1), (.ref b1)])) _
    refine XS.iconst X5.here hx rfl (hb hby at_17) ?_
    show Steps p.tables e below (T5.setTop (mkF m 18 #[.val (.int p0), .unset, .unset, .unset] [(.int (2 : Int32)), (.ref b1), (.ref b1)])) _
    refine st6 _ ?_
    show Steps p.tables e below (T6.setTop (mkF m 21 #[.val (.int p0), .unset, .unset, .unset] [(.ref w2), (.int (2 : Int32)), (.ref b1), (.ref b1)])) _
    refine st7 _ ?_
    show Steps p.tables e below (T7.setTop (mkF m 22 #[.val (.int p0), .unset, .unset, .unset] [(.ref b1)])) _
    refine XS.dup X7.here hx rfl (hb hby at_22) rfl rfl ?_
    show Steps p.tables e below (T7.setTop (mkF m 23 #[.val (.int p0), .unset, .unset, .unset] [(.ref b1), (.ref b1)])) _
    refine XS.iconst X7.here hx rfl (hb hby at_23) ?_
    show Steps p.tables e below (T7.setTop (mkF m 24 #[.val (.int p0), .unset, .unset, .unset] [(.int (3 : Int32)), (.ref b1), (.ref b1)])) _
    refine st8 _ ?_
    show Steps p.tables e below (T8.setTop (mkF m 27 #[.val (.int p0), .unset, .unset, .unset] [(.ref w3), (.int (3 : Int32)), (.ref b1), (.ref b1)])) _
    refine st9 _ ?_
    show Steps p.tables e below (T9.setTop (mkF m 28 #[.val (.int p0), .unset, .unset, .unset] [(.ref b1)])) _
    refine XS.dup X9.here hx rfl (hb hby at_28) rfl rfl ?_
    show Steps p.tables e below (T9.setTop (mkF m 29 #[.val (.int p0), .unset, .unset, .unset] [(.ref b1), (.ref b1)])) _
    refine XS.iconst X9.here hx rfl (hb hby at_29) ?_
    show Steps p.tables e below (T9.setTop (mkF m 30 #[.val (.int p0), .unset, .unset, .unset] [(.int (4 : Int32)), (.ref b1), (.ref b1)])) _
    refine st10 _ ?_
    show Steps p.tables e below (T10.setTop (mkF m 33 #[.val (.int p0), .unset, .unset, .unset] [(.ref w4), (.int (4 : Int32)), (.ref b1), (.ref b1)])) _
    refine st11 _ ?_
    show Steps p.tables e below (T11.setTop (mkF m 34 #[.val (.int p0), .unset, .unset, .unset] [(.ref b1)])) _
    refine XS.astoreN X11.here hx rfl (hb hby at_34) rfl rfl (l' := #[.val (.int p0), .val (.ref b1), .unset, .unset]) rfl ?_
    show Steps p.tables e below (T11.setTop (mkF m 35 #[.val (.int p0), .val (.ref b1), .unset, .unset] [])) _
    refine XS.iconst X11.here hx rfl (hb hby at_35) ?_
    show Steps p.tables e below (T11.setTop (mkF m 36 #[.val (.int p0), .val (.ref b1), .unset, .unset] [(.int (5 : Int32))])) _
    refine st12 _ ?_
    show Steps p.tables e below (T12.setTop (mkF m 38 #[.val (.int p0), .val (.ref b1), .unset, .unset] [(.ref b12)])) _
    refine XS.dup X12.here hx rfl (hb hby at_38) rfl rfl ?_
    show Steps p.tables e below (T12.setTop (mkF m 39 #[.val (.int p0), .val (.ref b1), .unset, .unset] [(.ref b12), (.ref b12)])) _
    refine XS.iconst X12.here hx rfl (hb hby at_39) ?_
    show Steps p.tables e below (T12.setTop (mkF m 40 #[.val (.int p0), .val (.ref b1), .unset, .unset] [(.int (0 : Int32)), (.ref b12), (.ref b12)])) _
    refine XS.iconst X12.here hx rfl (hb hby at_40) ?_
    show Steps p.tables e below (T12.setTop (mkF m 41 #[.val (.int p0), .val (.ref b1), .unset, .unset] [(.int (0 : Int32)), (.int (0 : Int32)), (.ref b12), (.ref b12)])) _
    refine st13 _ ?_
    show Steps p.tables e below (T13.setTop (mkF m 42 #[.val (.int p0), .val (.ref b1), .unset, .unset] [(.ref b12)])) _
    refine XS.dup X13.here hx rfl (hb hby at_42) rfl rfl ?_
    show Steps p.tables e below (T13.setTop (mkF m 43 #[.val (.int p0), .val (.ref b1), .unset, .unset] [(.ref b12), (.ref b12)])) _
    refine XS.iconst X13.here hx rfl (hb hby at_43) ?_
    show Steps p.tables e below (T13.setTop (mkF m 44 #[.val (.int p0), .val (.ref b1), .unset, .unset] [(.int (1 : Int32)), (.ref b12), (.ref b12)])) _
    refine XS.iconst X13.here hx rfl (hb hby at_44) ?_
    show Steps p.tables e below (T13.setTop (mkF m 45 #[.val (.int p0), .val (.ref b1), .unset, .unset] [(.int (0 : Int32)), (.int (1 : Int32)), (.ref b12), (.ref b12)])) _
    refine st14 _ ?_
    show Steps p.tables e below (T14.setTop (mkF m 46 #[.val (.int p0), .val (.ref b1), .unset, .unset] [(.ref b12)])) _
    refine XS.dup X14.here hx rfl (hb hby at_46) rfl rfl ?_
    show Steps p.tables e below (T14.setTop (mkF m 47 #[.val (.int p0), .val (.ref b1), .unset, .unset] [(.ref b12), (.ref b12)])) _
    refine XS.iconst X14.here hx rfl (hb hby at_47) ?_
    show Steps p.tables e below (T14.setTop (mkF m 48 #[.val (.int p0), .val (.ref b1), .unset, .unset] [(.int (2 : Int32)), (.ref b12), (.ref b12)])) _
    refine XS.iconst X14.here hx rfl (hb hby at_48) ?_
    show Steps p.tables e below (T14.setTop (mkF m 49 #[.val (.int p0), .val (.ref b1), .unset, .unset] [(.int (1 : Int32)), (.int (2 : Int32)), (.ref b12), (.ref b12)])) _
    refine st15 _ ?_
    show Steps p.tables e below (T15.setTop (mkF m 50 #[.val (.int p0), .val (.ref b1), .unset, .unset] [(.ref b12)])) _
    refine XS.dup X15.here hx rfl (hb hby at_50) rfl rfl ?_
    show Steps p.tables e below (T15.setTop (mkF m 51 #[.val (.int p0), .val (.ref b1), .unset, .unset] [(.ref b12), (.ref b12)])) _
    refine XS.iconst X15.here hx rfl (hb hby at_51) ?_
    show Steps p.tables e below (T15.setTop (mkF m 52 #[.val (.int p0), .val (.ref b1), .unset, .unset] [(.int (3 : Int32)), (.ref b12), (.ref b12)])) _
    refine XS.iconst X15.here hx rfl (hb hby at_52) ?_
    show Steps p.tables e below (T15.setTop (mkF m 53 #[.val (.int p0), .val (.ref b1), .unset, .unset] [(.int (1 : Int32)), (.int (3 : Int32)), (.ref b12), (.ref b12)])) _
    refine st16 _ ?_
    show Steps p.tables e below (T16.setTop (mkF m 54 #[.val (.int p0), .val (.ref b1), .unset, .unset] [(.ref b12)])) _
    refine XS.dup X16.here hx rfl (hb hby at_54) rfl rfl ?_
    show Steps p.tables e below (T16.setTop (mkF m 55 #[.val (.int p0), .val (.ref b1), .unset, .unset] [(.ref b12), (.ref b12)])) _
    refine XS.iconst X16.here hx rfl (hb hby at_55) ?_
    show Steps p.tables e below (T16.setTop (mkF m 56 #[.val (.int p0), .val (.ref b1), .unset, .unset] [(.int (4 : Int32)), (.ref b12), (.ref b12)])) _
    refine XS.iconst X16.here hx rfl (hb hby at_56) ?_
    show Steps p.tables e below (T16.setTop (mkF m 57 #[.val (.int p0), .val (.ref b1), .unset, .unset] [(.int (1 : Int32)), (.int (4 : Int32)), (.ref b12), (.ref b12)])) _
    refine st17 _ ?_
    show Steps p.tables e below (T17.setTop (mkF m 58 #[.val (.int p0), .val (.ref b1), .unset, .unset] [(.ref b12)])) _
    refine XS.astoreN X17.here hx rfl (hb hby at_58) rfl rfl (l' := #[.val (.int p0), .val (.ref b1), .val (.ref b12), .unset]) rfl ?_
    show Steps p.tables e below (T17.setTop (mkF m 59 #[.val (.int p0), .val (.ref b1), .val (.ref b12), .unset] [])) _
    refine XS.iloadN X17.here hx rfl (hb hby at_59) rfl ?_
    show Steps p.tables e below (T17.setTop (mkF m 60 #[.val (.int p0), .val (.ref b1), .val (.ref b12), .unset] [(.int p0)])) _
    refine X17.ldcInt hx hown (mvT hZ (hw _ (List.mem_of_getElem? (i := 15) rfl))) (g := (mkF m 60 #[.val (.int p0), .val (.ref b1), .val (.ref b12), .unset] [(.int p0)])) rfl (hb hby at_60) _ ?_
    show Steps p.tables e below (T17.setTop (mkF m 62 #[.val (.int p0), .val (.ref b1), .val (.ref b12), .unset] [(.int (2147483647 : Int32)), (.int p0)])) _
    refine XS.iand X17.here hx rfl (hb hby at_62) rfl ?_
    show Steps p.tables e below (T17.setTop (mkF m 63 #[.val (.int p0), .val (.ref b1), .val (.ref b12), .unset] [(.int (p0 &&& (2147483647 : Int32)))])) _
    refine XS.iconst X17.here hx rfl (hb hby at_63) ?_
    show Steps p.tables e below (T17.setTop (mkF m 64 #[.val (.int p0), .val (.ref b1), .val (.ref b12), .unset] [(.int (5 : Int32)), (.int (p0 &&& (2147483647 : Int32)))])) _
    refine iremM X17 hx rfl (hb hby at_64) rfl (by decide) ?_
    show Steps p.tables e below (T17.setTop (mkF m 65 #[.val (.int p0), .val (.ref b1), .val (.ref b12), .unset] [(.int ((p0 &&& (2147483647 : Int32)) % (5 : Int32)))])) _
    rw [hi]
    show Steps p.tables e below (T17.setTop (mkF m 65 #[.val (.int p0), .val (.ref b1), .val (.ref b12), .unset] [(.int (4 : Int32))])) _
    refine XS.istoreN X17.here hx rfl (hb hby at_65) rfl (l' := #[.val (.int p0), .val (.ref b1), .val (.ref b12), .val (.int (4 : Int32))]) rfl ?_
    show Steps p.tables e below (T17.setTop (mkF m 66 #[.val (.int p0), .val (.ref b1), .val (.ref b12), .val (.int (4 : Int32))] [])) _
    refine XS.aloadN X17.here hx rfl (hb hby at_66) rfl rfl ?_
    show Steps p.tables e below (T17.setTop (mkF m 67 #[.val (.int p0), .val (.ref b1), .val (.ref b12), .val (.int (4 : Int32))] [(.ref b1)])) _
    refine XS.iloadN X17.here hx rfl (hb hby at_67) rfl ?_
    show Steps p.tables e below (T17.setTop (mkF m 68 #[.val (.int p0), .val (.ref b1), .val (.ref b12), .val (.int (4 : Int32))] [(.int (4 : Int32)), (.ref b1)])) _
    refine X17.aaload hx (j := (4 : Int32)) (v := (.ref w4)) (by rw [e17]; exact Ar18.1) (State.isArrayOf_alike hZ.alike Ar18.2.1) rfl Ar18.2.2 hin18 hat18 (g := (mkF m 68 #[.val (.int p0), .val (.ref b1), .val (.ref b12), .val (.int (4 : Int32))] [(.int (4 : Int32)), (.ref b1)])) rfl rfl (hb hby at_68) _ ?_
    show Steps p.tables e below (T17.setTop (mkF m 69 #[.val (.int p0), .val (.ref b1), .val (.ref b12), .val (.int (4 : Int32))] [(.ref w4)])) _
    refine st19.trans ?_
    show Steps p.tables e below (T19.setTop (mkF m 72 #[.val (.int p0), .val (.ref b1), .val (.ref b12), .val (.int (4 : Int32))] [(.int (1 : Int32))])) _
    refine XS.aloadN X19.here hx rfl (hb hby at_72) rfl rfl ?_
    show Steps p.tables e below (T19.setTop (mkF m 73 #[.val (.int p0), .val (.ref b1), .val (.ref b12), .val (.int (4 : Int32))] [(.ref b12), (.int (1 : Int32))])) _
    refine XS.iloadN X19.here hx rfl (hb hby at_73) rfl ?_
    show Steps p.tables e below (T19.setTop (mkF m 74 #[.val (.int p0), .val (.ref b1), .val (.ref b12), .val (.int (4 : Int32))] [(.int (4 : Int32)), (.ref b12), (.int (1 : Int32))])) _
    refine X19.baloadBooleans hx (j := (4 : Int32)) (v := (.int (1 : Int32))) (by rw [e19]; exact Ar20.1) (State.isArrayOf_alike hZ.alike Ar20.2.1) Ar20.2.2 hin20 hat20 (g := (mkF m 74 #[.val (.int p0), .val (.ref b1), .val (.ref b12), .val (.int (4 : Int32))] [(.int (4 : Int32)), (.ref b12), (.int (1 : Int32))])) rfl rfl (hb hby at_74) _ ?_
    show Steps p.tables e below (T19.setTop (mkF m 75 #[.val (.int p0), .val (.ref b1), .val (.ref b12), .val (.int (4 : Int32))] [(.int (1 : Int32)), (.int (1 : Int32))])) _
    refine XS.icmpNo X19.here hx rfl (hb hby at_75) rfl (teq (by decide : (1 : Int32) = (1 : Int32))).2 ?_
    show Steps p.tables e below (T19.setTop (mkF m 78 #[.val (.int p0), .val (.ref b1), .val (.ref b12), .val (.int (4 : Int32))] [])) _
    refine XS.iconst X19.here hx rfl (hb hby at_78) ?_
    show Steps p.tables e below (T19.setTop (mkF m 79 #[.val (.int p0), .val (.ref b1), .val (.ref b12), .val (.int (4 : Int32))] [(.int (1 : Int32))])) _
    refine XS.goto X19.here hx rfl (pc0 := 79) (pc' := 83) rfl (hb hby at_79) (by decide) (by decide) ?_
    show Steps p.tables e below (T19.setTop (mkF m 83 #[.val (.int p0), .val (.ref b1), .val (.ref b12), .val (.int (4 : Int32))] [(.int (1 : Int32))])) _
    exact retN X19 hx (t := .boolean) Bd.returns (by simp) (hb hby at_83) hr
  · show own_R n0 _ T19.heap _
    rw [e19]
    exact ⟨rfl, N19⟩
set_option maxRecDepth 65536 in
set_option maxHeartbeats 40000000 in
theorem comes_1 {Post : Tables → Env → Array Value → State → Outcome → State → Prop} (hpost : ∀ tb e args s v u, (limb_1_1.after args s (.returned v) u = true ∧ limb_1_2.after args s (.returned v) u = true ∧ True) → FrameEnd s (.returned v) u (Jvm.fieldLocs frame_1_writes args s ++ Jvm.arrayLocs frame_1_arrays args s ++ Jvm.staticLocs frame_1_statics s) 16 128 → Post tb e args s (.returned v) u) :
    ArmFor flags0 classFile x code maxLocals ret World_1 tables_1 room_1 Calls_1 rest_1 Pre_1 Post := by
  intro l hfl _ _ p e ha hc hk s m args below hf hA hF happ hP
  obtain ⟨hcalls, hrest, hpre⟩ := hP
  obtain ⟨-, -, -, hnamed, -, -, -, hat⟩ := (Spec.applies_iff hf).mp happ
  obtain ⟨hg, hn⟩ := and_e (Cond.before_iff.mp (show (Jvm.Cond.and given_1 narrow_1).before args s = true from hpre))
  obtain ⟨gc, gr0⟩ := and_e hg
  obtain ⟨w0, rfl⟩ : ∃ w0 : Value, args = #[w0] := by
    have hs : args.size = 1 := by simpa [Cond.value, given_1] using gc
    obtain ⟨L⟩ := args
    match L, hs with
    | [w0], _ => exact ⟨w0, rfl⟩
  have hw := fun d (hd : d ∈ tables_1) => atoms_spec (ws := Jvm.Cond.code x code maxLocals ret :: tables_1) hat d (List.mem_cons_of_mem _ hd)
  have hfit : Fit s := fun {y c} hc i hi => by
    obtain ⟨ha, rfl⟩ := Array.getElem?_eq_some_iff.mp hc
    have q := List.all_eq_true.mp ((Array.all_eq_true_iff_forall_mem.mp hF) _ (Array.getElem_mem ha)) i (List.mem_range.mpr hi)
    simpa [Array.getElem?_eq_getElem hi] using q
  obtain ⟨i0, ei0⟩ := is_v gr0
  obtain rfl : w0 = (.int i0) := Option.some.inj ei0
  obtain ⟨cj0, cr0⟩ := and_e hn
  obtain ⟨w_ENQUEUED, ev_ENQUEUED⟩ := exa_v cj0
  have S_ENQUEUED := Sta.start ev_ENQUEUED (Or.inr ⟨(hw _ (List.mem_of_getElem? (i := 3) rfl)), (hw _ (List.mem_of_getElem? (i := 4) rfl))⟩)
  have E_ENQUEUED := Exa.start ev_ENQUEUED cj0
  obtain ⟨cj1, cr1⟩ := and_e cr0
  obtain ⟨w_PROCESSING, ev_PROCESSING⟩ := exa_v cj1
  have S_PROCESSING := Sta.start ev_PROCESSING (Or.inr ⟨(hw _ (List.mem_of_getElem? (i := 3) rfl)), (hw _ (List.mem_of_getElem? (i := 7) rfl))⟩)
  have E_PROCESSING := Exa.start ev_PROCESSING cj1
  obtain ⟨cj2, cr2⟩ := and_e cr1
  obtain ⟨w_SUCCEEDED, ev_SUCCEEDED⟩ := exa_v cj2
  have S_SUCCEEDED := Sta.start ev_SUCCEEDED (Or.inr ⟨(hw _ (List.mem_of_getElem? (i := 3) rfl)), (hw _ (List.mem_of_getElem? (i := 9) rfl))⟩)
  have E_SUCCEEDED := Exa.start ev_SUCCEEDED cj2
  obtain ⟨cj3, cr3⟩ := and_e cr2
  obtain ⟨w_FAILED, ev_FAILED⟩ := exa_v cj3
  have S_FAILED := Sta.start ev_FAILED (Or.inr ⟨(hw _ (List.mem_of_getElem? (i := 3) rfl)), (hw _ (List.mem_of_getElem? (i := 11) rfl))⟩)
  have E_FAILED := Exa.start ev_FAILED cj3
  obtain ⟨cj4, cr4⟩ := and_e cr3
  obtain ⟨w_CANCELED, ev_CANCELED⟩ := exa_v cj4
  have S_CANCELED := Sta.start ev_CANCELED (Or.inr ⟨(hw _ (List.mem_of_getElem? (i := 3) rfl)), (hw _ (List.mem_of_getElem? (i := 13) rfl))⟩)
  have E_CANCELED := Exa.start ev_CANCELED cj4
  obtain ⟨cj5, cr5⟩ := and_e cr4
  have o_ENQUEUED := cj5
  obtain ⟨cj6, cr6⟩ := and_e cr5
  have o_SUCCEEDED := cj6
  obtain ⟨cj7, cr7⟩ := and_e cr6
  have o_FAILED := cj7
  obtain ⟨cj8, cr8⟩ := and_e cr7
  have o_CANCELED := cj8
  have o_PROCESSING := cr8
  have key : MetFree l x (head1 (Jvm.Cond.code x code maxLocals ret :: tables_1) room_1) (fun a U => a = #[(.int i0)] ∧ s.Warmed39 U.vm ∧ U.heap = s.heap) (fun _ _ _ _ _ => True) (fun _ U o U' => ∃ v L, o = .returned v ∧ own_R s.heap.size v U'.heap L ∧ FrameEnd U o U' L room_1.cells room_1.slots) := by
    rcases own_mod5 i0 with hi | hi | hi | hi | hi
    · exact rm0_0 l s _ hw tables_1 i0 w_ENQUEUED w_PROCESSING w_SUCCEEDED w_FAILED w_CANCELED s.heap s.heap.size (Old.start s) hi S_ENQUEUED E_ENQUEUED S_PROCESSING E_PROCESSING S_SUCCEEDED E_SUCCEEDED S_FAILED E_FAILED S_CANCELED E_CANCELED (own_ne ev_ENQUEUED ev_SUCCEEDED o_ENQUEUED o_SUCCEEDED (by decide)) (own_ne ev_ENQUEUED ev_FAILED o_ENQUEUED o_FAILED (by decide)) (own_ne ev_ENQUEUED ev_CANCELED o_ENQUEUED o_CANCELED (by decide))
    · exact rm0_1 l s _ hw tables_1 i0 w_ENQUEUED w_PROCESSING w_SUCCEEDED w_FAILED w_CANCELED s.heap s.heap.size (Old.start s) hi S_ENQUEUED E_ENQUEUED S_PROCESSING E_PROCESSING S_SUCCEEDED E_SUCCEEDED S_FAILED E_FAILED S_CANCELED E_CANCELED (own_ne ev_PROCESSING ev_SUCCEEDED o_PROCESSING o_SUCCEEDED (by decide)) (own_ne ev_PROCESSING ev_FAILED o_PROCESSING o_FAILED (by decide)) (own_ne ev_PROCESSING ev_CANCELED o_PROCESSING o_CANCELED (by decide))
    · exact rm0_2 l s _ hw tables_1 i0 w_ENQUEUED w_PROCESSING w_SUCCEEDED w_FAILED w_CANCELED s.heap s.heap.size (Old.start s) hi S_ENQUEUED E_ENQUEUED S_PROCESSING E_PROCESSING S_SUCCEEDED E_SUCCEEDED S_FAILED E_FAILED S_CANCELED E_CANCELED (own_ne ev_SUCCEEDED ev_FAILED o_SUCCEEDED o_FAILED (by decide)) (own_ne ev_SUCCEEDED ev_CANCELED o_SUCCEEDED o_CANCELED (by decide))
    · exact rm0_3 l s _ hw tables_1 i0 w_ENQUEUED w_PROCESSING w_SUCCEEDED w_FAILED w_CANCELED s.heap s.heap.size (Old.start s) hi S_ENQUEUED E_ENQUEUED S_PROCESSING E_PROCESSING S_SUCCEEDED E_SUCCEEDED S_FAILED E_FAILED S_CANCELED E_CANCELED (own_ne ev_FAILED ev_SUCCEEDED o_FAILED o_SUCCEEDED (by decide)) (own_ne ev_FAILED ev_CANCELED o_FAILED o_CANCELED (by decide))
    · exact rm0_4 l s _ hw tables_1 i0 w_ENQUEUED w_PROCESSING w_SUCCEEDED w_FAILED w_CANCELED s.heap s.heap.size (Old.start s) hi S_ENQUEUED E_ENQUEUED S_PROCESSING E_PROCESSING S_SUCCEEDED E_SUCCEEDED S_FAILED E_FAILED S_CANCELED E_CANCELED (own_ne ev_CANCELED ev_SUCCEEDED o_CANCELED o_SUCCEEDED (by decide)) (own_ne ev_CANCELED ev_FAILED o_CANCELED o_FAILED (by decide))
  obtain ⟨n, o, h1, h2, h3, _, L, rfl, ⟨rfl, N⟩, hq⟩ := key p e ha hc hk s m _ below hf ((Spec.applies_iff_loose hf).mp happ).1 ⟨rfl, State.Warmed39.refl s, rfl⟩ trivial
  refine ⟨n, _, h1, h2, h3, hpost _ _ _ _ _ _ ⟨Cond.after_iff.mpr rfl, Cond.after_iff.mpr (eq_i res_at (Term.int_eval (1)) rfl), trivial⟩ ⟨hq.1, hq.2.1, (hq.2.2.sift fun y hy => Or.inr (N y hy)).mono (by decide) (by decide)⟩⟩
theorem main_1_1 : Claimed_1_1 := comes_1 fun _ _ _ _ _ _ h hF => ⟨h.1, hF⟩
theorem main_1_2 : Claimed_1_2 := comes_1 fun _ _ _ _ _ _ h hF => ⟨h.2.1, hF⟩
end Jvm.Pilot.@@N@@
namespace Jvm.Pilot.@@N@@
open Jvm Jvm.ClassFile Sem Op Lib Jvm.Free Jvm.Stand Jvm.Pilot.@@N@@.Jvm.D
/-! MADE BY PROGRAM (witnessworld.py) out of the Statement's table words and the real class files: 15 classes; the members and pool entries that the words name. The judged class is class 1, her method 1. -/
namespace start1
open Jvm.ClassFile
def u (s : String) : CpInfo := .utf8 (stringToUtf16 s)
/-- a pool by its gaps: so many unusable entries, then the entry; so many at the end -/
def gap : Nat → List CpInfo → List CpInfo
  | 0, r => r
  | n + 1, r => .unusable :: gap n r
def poolList (es : List (Nat × CpInfo)) (last : Nat) : List CpInfo := es.foldr (fun e r => gap e.1 (e.2 :: r)) (gap last [])
def pool (es : List (Nat × CpInfo)) (last : Nat) : Array CpInfo := ⟨poolList es last⟩
def fileOf (pool : Array CpInfo) (this : Nat) (attrs : Array Attribute := #[]) (ms : Array MethodInfo := #[]) (fl : Nat := 33) (sup : Nat := 0) (ifs : Array Nat := #[]) (fds : Array FieldInfo := #[]) : ClassFile where
  minorVersion := 0
  majorVersion := 65
  constantPool := pool
  accessFlags := fl
  thisClass := this
  superClass := sup
  interfaces := ifs
  fields := fds
  methods := ms
  attributes := attrs
def plain (name : String) (sup : Option ClassId) : Class where
  name := name
  kind := .ordinary
  loader := none
  accessFlags := 33
  super := sup
  interfaces := #[]
  cf := none
  fields := #[]
  methods := #[]
  instanceTypes := #[]
  staticTypes := #[]
  resolved := #[]
  callSites := []
  init := .initialized
  statics := none
  mirror := none

def pool0 : Array CpInfo := pool [(5, u "<init>"), (0, u "()V"), (1, .class_ 10), (1, u "java/lang/Object")] 113

def k0m0 : Method := { name := "<init>", desc := "()V", sig := { parameters := [], returnType := none }, accessFlags := 1, code := none }
/-- java/lang/Object -/
def k0 : Class := { plain "java/lang/Object" none with
  accessFlags := 33
  interfaces := #[]
  cf := some (fileOf pool0 8 #[] #[{ accessFlags := 1, nameIndex := 5, descriptorIndex := 6, attributes := #[] }] 33 0 #[] #[])
  fields := #[]
  methods := #[k0m0]
  instanceTypes := #[]
  staticTypes := #[]
  resolved := Array.replicate 124 none
  statics := none }

def pool1 : Array CpInfo := pool [(2, .class_ 4), (1, u "java/lang/Object"), (0, u "<init>"), (0, u "()V"), (0, .class_ 8), (0, u "com/example/detaq/detaq/core/TaskStatus"), (0, .fieldref 7 10), (0, .nameAndType 11 12), (0, u "ENQUEUED"), (0, u "Lcom/example/detaq/detaq/core/TaskStatus;"), (0, .fieldref 7 14), (0, .nameAndType 15 12), (0, u "PROCESSING"), (0, .fieldref 7 17), (0, .nameAndType 18 12), (0, u "SUCCEEDED"), (0, .fieldref 7 20), (0, .nameAndType 21 12), (0, u "FAILED"), (0, .fieldref 7 23), (0, .nameAndType 24 12), (0, u "CANCELED"), (0, .integer 2147483647), (0, .methodref 7 27), (0, .nameAndType 28 29), (0, u "isFinal"), (0, u "()Z"), (0, .class_ 31), (0, u "com/example/detaq/detaq/core/TaskStatusIsFinalPinLaw"), (2, u "law"), (0, u "(I)Z")] 7

def k1m0 : Method := { name := "<init>", desc := "()V", sig := { parameters := [], returnType := none }, accessFlags := 2, code := none }
def k1c1 : Code := { maxStack := 4, maxLocals := 4, code := code, exceptionTable := #[], attributes := #[] }
def k1m1 : Method := { name := "law", desc := "(I)Z", sig := { parameters := [.int], returnType := some .boolean }, accessFlags := 9, code := some k1c1 }
/-- com/example/detaq/detaq/core/TaskStatusIsFinalPinLaw -/
def k1 : Class := { plain "com/example/detaq/detaq/core/TaskStatusIsFinalPinLaw" (some 0) with
  accessFlags := 49
  interfaces := #[]
  cf := some (fileOf pool1 30 #[] #[{ accessFlags := 2, nameIndex := 5, descriptorIndex := 6, attributes := #[] }, { accessFlags := 9, nameIndex := 34, descriptorIndex := 35, attributes := #[] }] 49 2 #[] #[])
  fields := #[]
  methods := #[k1m0, k1m1]
  instanceTypes := #[]
  staticTypes := #[]
  resolved := Array.replicate 43 none
  statics := none }

def pool2 : Array CpInfo := pool [(1, .class_ 2), (0, u "java/lang/constant/Constable"), (0, .class_ 4), (0, u "java/lang/Object")] 6

/-- java/lang/constant/Constable -/
def k2 : Class := { plain "java/lang/constant/Constable" (some 0) with
  accessFlags := 1537
  interfaces := #[]
  cf := some (fileOf pool2 1 #[] #[] 1537 3 #[] #[])
  fields := #[]
  methods := #[]
  instanceTypes := #[]
  staticTypes := #[]
  resolved := Array.replicate 11 none
  statics := none }

def pool3 : Array CpInfo := pool [(1, .class_ 2), (0, u "java/lang/Comparable"), (0, .class_ 4), (0, u "java/lang/Object")] 7

/-- java/lang/Comparable -/
def k3 : Class := { plain "java/lang/Comparable" (some 0) with
  accessFlags := 1537
  interfaces := #[]
  cf := some (fileOf pool3 1 #[] #[] 1537 3 #[] #[])
  fields := #[]
  methods := #[]
  instanceTypes := #[]
  staticTypes := #[]
  resolved := Array.replicate 12 none
  statics := none }

def pool4 : Array CpInfo := pool [(1, .class_ 2), (0, u "java/io/Serializable"), (0, .class_ 4), (0, u "java/lang/Object")] 2

/-- java/io/Serializable -/
def k4 : Class := { plain "java/io/Serializable" (some 0) with
  accessFlags := 1537
  interfaces := #[]
  cf := some (fileOf pool4 1 #[] #[] 1537 3 #[] #[])
  fields := #[]
  methods := #[]
  instanceTypes := #[]
  staticTypes := #[]
  resolved := Array.replicate 7 none
  statics := none }

def pool5 : Array CpInfo := pool [(2, .class_ 4), (1, u "java/lang/Enum"), (0, u "name"), (0, u "Ljava/lang/String;"), (2, u "ordinal"), (0, u "I"), (1, .class_ 14), (1, u "java/lang/Object"), (4, u "hash"), (86, .class_ 108), (1, u "java/lang/Enum$EnumDesc"), (2, .class_ 112), (0, u "java/lang/constant/Constable"), (0, .class_ 114), (0, u "java/lang/Comparable"), (0, .class_ 116), (0, u "java/io/Serializable")] 87

/-- java/lang/Enum -/
def k5 : Class := { plain "java/lang/Enum" (some 0) with
  accessFlags := 1057
  interfaces := #[2, 3, 4]
  cf := some (fileOf pool5 2 #[.nestMembers #[106]] #[] 1057 12 #[111, 113, 115] #[{ accessFlags := 18, nameIndex := 5, descriptorIndex := 6, attributes := #[] }, { accessFlags := 18, nameIndex := 9, descriptorIndex := 10, attributes := #[] }, { accessFlags := 2, nameIndex := 19, descriptorIndex := 10, attributes := #[] }])
  fields := #[{ name := "name", type := (.object "java/lang/String"), accessFlags := 18, slot := 0, constantValue := 0 }, { name := "ordinal", type := .int, accessFlags := 18, slot := 1, constantValue := 0 }, { name := "hash", type := .int, accessFlags := 2, slot := 2, constantValue := 0 }]
  methods := #[]
  instanceTypes := #[(.object "java/lang/String"), .int, .int]
  staticTypes := #[]
  resolved := Array.replicate 204 none
  statics := none }

def pool6 : Array CpInfo := pool [(1, .class_ 2), (0, u "com/example/detaq/detaq/core/TaskStatus"), (2, u "ENQUEUED"), (0, u "Lcom/example/detaq/detaq/core/TaskStatus;"), (2, u "PROCESSING"), (0, .fieldref 1 11), (0, .nameAndType 12 6), (0, u "SUCCEEDED"), (0, .fieldref 1 14), (0, .nameAndType 15 6), (0, u "FAILED"), (0, .fieldref 1 17), (0, .nameAndType 18 6), (0, u "CANCELED"), (2, u "$VALUES"), (0, u "[Lcom/example/detaq/detaq/core/TaskStatus;"), (6, .class_ 31), (1, u "java/lang/Enum"), (24, u "wireName"), (0, u "Ljava/lang/String;"), (77, u "isFinal"), (0, u "()Z")] 40

def k6c0 : Code := { maxStack := 2, maxLocals := 1, code := prog_24_method_4_code, exceptionTable := #[], attributes := #[] }
def k6m0 : Method := { name := "isFinal", desc := "()Z", sig := { parameters := [], returnType := some .boolean }, accessFlags := 1, code := some k6c0 }
/-- com/example/detaq/detaq/core/TaskStatus -/
def k6 : Class := { plain "com/example/detaq/detaq/core/TaskStatus" (some 5) with
  accessFlags := 16433
  interfaces := #[]
  cf := some (fileOf pool6 1 #[] #[{ accessFlags := 1, nameIndex := 135, descriptorIndex := 136, attributes := #[] }] 16433 29 #[] #[{ accessFlags := 16409, nameIndex := 5, descriptorIndex := 6, attributes := #[] }, { accessFlags := 16409, nameIndex := 9, descriptorIndex := 6, attributes := #[] }, { accessFlags := 16409, nameIndex := 12, descriptorIndex := 6, attributes := #[] }, { accessFlags := 16409, nameIndex := 15, descriptorIndex := 6, attributes := #[] }, { accessFlags := 16409, nameIndex := 18, descriptorIndex := 6, attributes := #[] }, { accessFlags := 18, nameIndex := 56, descriptorIndex := 57, attributes := #[] }, { accessFlags := 4122, nameIndex := 21, descriptorIndex := 22, attributes := #[] }])
  fields := #[{ name := "ENQUEUED", type := (.object "com/example/detaq/detaq/core/TaskStatus"), accessFlags := 16409, slot := 0, constantValue := 0 }, { name := "PROCESSING", type := (.object "com/example/detaq/detaq/core/TaskStatus"), accessFlags := 16409, slot := 1, constantValue := 0 }, { name := "SUCCEEDED", type := (.object "com/example/detaq/detaq/core/TaskStatus"), accessFlags := 16409, slot := 2, constantValue := 0 }, { name := "FAILED", type := (.object "com/example/detaq/detaq/core/TaskStatus"), accessFlags := 16409, slot := 3, constantValue := 0 }, { name := "CANCELED", type := (.object "com/example/detaq/detaq/core/TaskStatus"), accessFlags := 16409, slot := 4, constantValue := 0 }, { name := "wireName", type := (.object "java/lang/String"), accessFlags := 18, slot := 3, constantValue := 0 }, { name := "$VALUES", type := (.array (.object "com/example/detaq/detaq/core/TaskStatus")), accessFlags := 4122, slot := 5, constantValue := 0 }]
  methods := #[k6m0]
  instanceTypes := #[(.object "java/lang/String"), .int, .int, (.object "java/lang/String")]
  staticTypes := #[(.object "com/example/detaq/detaq/core/TaskStatus"), (.object "com/example/detaq/detaq/core/TaskStatus"), (.object "com/example/detaq/detaq/core/TaskStatus"), (.object "com/example/detaq/detaq/core/TaskStatus"), (.object "com/example/detaq/detaq/core/TaskStatus"), (.array (.object "com/example/detaq/detaq/core/TaskStatus"))]
  resolved := Array.replicate 177 none
  statics := some 0 }

def pool7 : Array CpInfo := pool [(1, u "java/lang/Cloneable"), (0, .class_ 1), (0, u "java/lang/Object"), (0, .class_ 3)] 3

/-- java/lang/Cloneable -/
def k7 : Class := { plain "java/lang/Cloneable" (some 0) with
  accessFlags := 1537
  interfaces := #[]
  cf := some (fileOf pool7 2 #[] #[] 1537 4 #[] #[])
  fields := #[]
  methods := #[]
  instanceTypes := #[]
  staticTypes := #[]
  resolved := Array.replicate 8 none
  statics := none }

/-- the primitive boolean -/
def k8 : Class := { plain "boolean" none with kind := .primitive 'Z', accessFlags := 0x411 }
/-- [Z -/
def k9 : Class := { plain "[Z" (some 0) with kind := .array 8 .boolean, interfaces := #[7, 4], accessFlags := 1041 }

/-- the primitive byte -/
def k10 : Class := { plain "byte" none with kind := .primitive 'B', accessFlags := 0x411 }
/-- [B -/
def k11 : Class := { plain "[B" (some 0) with kind := .array 10 .byte, interfaces := #[7, 4], accessFlags := 1041 }

/-- the primitive int -/
def k12 : Class := { plain "int" none with kind := .primitive 'I', accessFlags := 0x411 }
/-- [I -/
def k13 : Class := { plain "[I" (some 0) with kind := .array 12 .int, interfaces := #[7, 4], accessFlags := 1041 }

/-- [Lcom/example/detaq/detaq/core/TaskStatus; -/
def k14 : Class := { plain "[Lcom/example/detaq/detaq/core/TaskStatus;" (some 0) with kind := .array 6 (.object "com/example/detaq/detaq/core/TaskStatus"), interfaces := #[7, 4], accessFlags := 1041 }

def heap : Heap := #[{ cls := 6, slots := #[.ref 1, .ref 2, .ref 3, .ref 4, .ref 5, .null], vm := .statics 6 },
  { cls := 6, slots := #[.null, .int 0, .int 0, .null], vm := .none },
  { cls := 6, slots := #[.null, .int 1, .int 0, .null], vm := .none },
  { cls := 6, slots := #[.null, .int 2, .int 0, .null], vm := .none },
  { cls := 6, slots := #[.null, .int 3, .int 0, .null], vm := .none },
  { cls := 6, slots := #[.null, .int 4, .int 0, .null], vm := .none }]
def classes : Array Class := #[k0, k1, k2, k3, k4, k5, k6, k7, k8, k9, k10, k11, k12, k13, k14]
def interned : List (Array UInt16 × Addr) := []
def slotsUsed : Nat := 26
def theMethod : MethodId := ⟨1, 1⟩
def args0 : Array Value := #[.int 5]
def aboutOver (below : List Frame) : State where
  vm := { classes := classes, interned := interned.toArray }
  heap := heap
  slotsUsed := slotsUsed
  threads := #[{ frames := .invoking theMethod args0 :: below }]
def below0 : List Frame := [.native { method := ⟨0, 0⟩, args := #[] }]
def about1 : State := aboutOver below0
def p0 : Program := .bare "" "" ""
def e0 : Env := launch0.env 0 0 0
theorem w_frames : about1.frames = Frame.invoking theMethod args0 :: below0 := rfl
set_option maxRecDepth 65536 in
theorem w_args : argsFit about1.vm theMethod args0 = true := by decide +kernel
set_option maxRecDepth 65536 in
theorem w_heap : heapFits about1 = true := by decide +kernel
set_option maxRecDepth 65536 in
theorem w_runnable : about1.curStatus? = some .runnable := by decide +kernel
set_option maxRecDepth 65536 in
theorem w_alone : about1.alone = true := by decide +kernel
set_option maxRecDepth 65536 in
theorem w_named : about1.methodNamed? x = some theMethod := by decide +kernel
set_option maxRecDepth 65536 in
theorem w_hears : about1.hears theMethod below0 = true := by decide +kernel
set_option maxRecDepth 65536 in
theorem w_ripe : about1.ripe theMethod args0 below0 = true := by decide +kernel
theorem w_running : about1.status = .running := rfl
set_option maxRecDepth 65536 in
theorem w_room : about1.hasRoom e0.platform room_1 = true :=
  launch0.hasRoom_least _ room_1 (by decide +kernel) (by decide +kernel) (by decide +kernel) (by decide +kernel) (by decide +kernel) (by decide +kernel)
theorem allAtoms_all (ts : List Jvm.Cond) (a : Array Jvm.Value) (st : Jvm.State) : (allAtoms ts).before a st = ts.all (fun c => c.before a st) := by
  induction ts with
  | nil => rfl
  | cons c t ih =>
    show (Jvm.Cond.and c (allAtoms t)).before a st = _
    rw [Jvm.Cond.before_and, ih, List.all_cons]
def words1 : List Jvm.Cond := Jvm.Cond.code x code maxLocals ret :: tables_1
/-- a 'code' word, met by the world's own term for the bytes: nothing is compared byte by byte -/
theorem code_word {y : MethodName} {bytes : ByteArray} {mx : Nat} {rt : Option FieldType} {a : Array Value} {s : State} {m : MethodId} {meth : Method} {c : Code} (h1 : s.methodNamed? y = some m) (h2 : s.vm.method? m = some meth) (h3 : meth.code = some c) (h4 : c.code = bytes)
    (h5 : (c.maxLocals == mx && c.exceptionTable.isEmpty && decide (c.maxStack ≤ mostOperands) && decide (meth.sig.returnType = rt) && !meth.locks && decide (parseMethodDescriptor y.desc = some meth.sig)) = true) : (Jvm.Cond.code y bytes mx rt).before a s = true := by
  simp only [Bool.and_eq_true, beq_iff_eq, Bool.not_eq_true', decide_eq_true_eq] at h5
  obtain ⟨⟨⟨⟨⟨g1, g2⟩, g3⟩, g4⟩, g5⟩, g6⟩ := h5
  simp [Cond.before, Cond.holds, Cond.value, h1, h2, h3, h4, g1, g2, g3, g4, g5, g6]
def isCode : Jvm.Cond → Bool
  | .code _ _ _ _ => true
  | _ => false
theorem all_split {L : List Jvm.Cond} {P : Jvm.Cond → Bool} (h1 : L.all (fun c => isCode c || P c) = true) (h2 : ∀ c ∈ L.filter isCode, P c = true) : L.all P = true := by
  refine List.all_eq_true.mpr fun c hc => ?_
  have h := List.all_eq_true.mp h1 c hc
  rcases Bool.eq_false_or_eq_true (isCode c) with hi | hi
  · exact h2 c (List.mem_filter.mpr ⟨hc, hi⟩)
  · simpa [hi] using h
set_option maxRecDepth 65536 in
theorem w_c0 : (Jvm.Cond.code x code maxLocals ret).before args0 about1 = true := code_word (m := ⟨1, 1⟩) (meth := k1m1) (c := k1c1) (by decide +kernel) rfl rfl rfl (by decide +kernel)
set_option maxRecDepth 65536 in
theorem w_c1 : (Jvm.Cond.code ({ cls := "com/example/detaq/detaq/core/TaskStatus", name := "isFinal", desc := "()Z" } : Jvm.MethodName) prog_24_method_4_code (1 : Nat) (Option.some Jvm.ClassFile.FieldType.boolean)).before args0 about1 = true := code_word (m := ⟨6, 0⟩) (meth := k6m0) (c := k6c0) (by decide +kernel) rfl rfl rfl (by decide +kernel)
def codes1 : List Jvm.Cond := [Jvm.Cond.code x code maxLocals ret, Jvm.Cond.code ({ cls := "com/example/detaq/detaq/core/TaskStatus", name := "isFinal", desc := "()Z" } : Jvm.MethodName) prog_24_method_4_code (1 : Nat) (Option.some Jvm.ClassFile.FieldType.boolean)]
set_option maxRecDepth 65536 in
theorem codes_eq : words1.filter isCode = codes1 := rfl
theorem w_codes : ∀ c ∈ words1.filter isCode, c.before args0 about1 = true := by
  rw [codes_eq]
  intro c hc
  simp only [codes1, List.mem_cons, List.not_mem_nil, or_false] at hc
  rcases hc with rfl | rfl
  · exact w_c0
  · exact w_c1
set_option maxRecDepth 65536 in
theorem w_t1 : (words1.take 24).all (fun c => isCode c || c.before args0 about1) = true := by decide +kernel
set_option maxRecDepth 65536 in
theorem w_t2 : (words1.drop 24).all (fun c => isCode c || c.before args0 about1) = true := by decide +kernel
theorem w_tables : (allAtoms (Jvm.Cond.code x code maxLocals ret :: tables_1)).before args0 about1 = true := by
  rw [allAtoms_all]
  show words1.all (fun c => c.before args0 about1) = true
  refine all_split ?_ w_codes
  rw [← List.take_append_drop 24 words1, List.all_append, w_t1, w_t2]
  rfl
set_option maxRecDepth 65536 in
theorem w_case : (Jvm.Cond.and given_1 narrow_1).before args0 about1 = true := by decide +kernel
theorem w_applies : (headSpec (Jvm.Cond.code x code maxLocals ret :: tables_1) room_1).applies x e0.platform about1 = true :=
  (Spec.applies_iff w_frames).mpr ⟨w_running, w_runnable, w_alone, w_named, w_hears, w_ripe, w_room, w_tables⟩
theorem atStart : AtStart classFile x code maxLocals ret World_1 tables_1 room_1 Calls_1 rest_1 Pre_1 launch0 p0 e0 about1 theMethod args0 below0 :=
  ⟨lists_1, trivial, launch0.admits_env _ _ _, launch0.least_env, fairChoices_fair.cas, fairChoices_fair.clock, w_frames, w_args, w_heap, w_applies, trivial, trivial, w_case⟩
end start1
theorem witness_1 : WitnessClaimed_1 := ⟨start1.p0, start1.e0, start1.about1, start1.theMethod, start1.args0, start1.below0, start1.atStart⟩
end Jvm.Pilot.@@N@@
