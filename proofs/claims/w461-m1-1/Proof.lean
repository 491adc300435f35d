import JvmDerived
import JvmDerived.Pilot.@@N@@Statement
import JvmDerived.Pilot.@@N@@Code
set_option linter.unusedVariables false
set_option linter.unusedSimpArgs false
namespace Jvm.RoadKit
open Sem ClassFile Op Lib Jvm.Stand Jvm.Free Jvm.LawKit
section New
variable {p : Program} {l : Launch} {e : Env} {R : Room} {s : State} {m : MethodId} {args : Array Value} {below : List Frame} {meth : Method} {c : Code} {T : State} {locs : List Loc} {cells slots : Nat}
theorem retI (X : Stand p l e R s m args below meth c T locs cells slots) (hx : p.tables.exec = Jvm.exec) {pc : Nat} {Ls : Array Slot} {z : Int32} {rest : List Value} (hret : meth.sig.returnType = some .int) (hd : decode c.code pc = .ok (.ireturn, 1)) {fs : List Frame}
    (hl : ∀ (f : JFrame) (acts : List Action), f.method = m → f.locked = none → f.entered = [] → (doReturn e (T.setTop f) acts (some (.int z))).1 = T.setFrames fs) : Steps p.tables e below (T.setTop (mkF m pc Ls (.int z :: rest))) (T.setFrames fs) := by
  have hm' : T.vm.method? m = some meth := X.method'
  have hn : narrow .int (.int z) = .int z := rfl
  show Steps p.tables e below (T.setTop { method := m, pc := pc, locals := Ls, stack := _ :: rest, locked := none }) _
  jvm_step X.here [X.here.top, hx, hd, hm', hret, hn]
  first | (intro acts; rw [hl _ acts rfl rfl rfl]) | rw [hl _ _ rfl rfl rfl]
  exact Steps.refl _
end New
end Jvm.RoadKit
namespace Jvm.Pilot.@@N@@
open Jvm Jvm.ClassFile Sem Op Lib Jvm.Free Jvm.Stand Jvm.LawKit Jvm.RoadKit Bundle Jvm.Pilot.@@N@@.Jvm.D
abbrev own_L : String := "com/example/dispensd/dispensd/Mechanism$Level"
abbrev own_LD : String := "Lcom/example/dispensd/dispensd/Mechanism$Level;"
def own_Q (r : Value) (h0 : Heap) (n0 : Nat) (v : Option Value) (h : Heap) (L : List Loc) : Prop := v = some r ∧ Fr n0 L ∧ h = h0
def own_R (n0 : Nat) (v : Option Value) (h : Heap) (L : List Loc) : Prop := v = some (.int (1 : Int32)) ∧ Fr n0 L
theorem own_ne {args : Array Value} {s : State} {t u : Term} {K n d : String} {a b : Addr} {i j : Int32} (ht : t.eval args s none [] s = some (.ref a)) (hu : u.eval args s none [] s = some (.ref b))
    (h1 : (Jvm.Cond.eq (Term.field t K n d) (Term.int i)).value args s none s [] = some true) (h2 : (Jvm.Cond.eq (Term.field u K n d) (Term.int j)).value args s none s [] = some true) (hij : i ≠ j) : ¬ a = b := by
  intro e
  subst e
  obtain ⟨v, e1, e2⟩ := Cond.eq_worth h1
  obtain ⟨v', e3, e4⟩ := Cond.eq_worth h2
  rw [fld_at ht] at e1
  rw [fld_at hu] at e3
  have q1 : v = .int i := Option.some.inj (e2.symm.trans (Term.int_eval i))
  have q2 : v' = .int j := Option.some.inj (e4.symm.trans (Term.int_eval j))
  have q3 : v = v' := Option.some.inj (e1.symm.trans e3)
  rw [q1, q2] at q3
  exact hij (by injection q3)
theorem d1_0 : decode prog_7_method_4_code 0 = .ok (.iload_n 0, 1) := by decide +kernel
theorem d1_1 : decode prog_7_method_4_code 1 = .ok (.ifCond .eq 10, 3) := by decide +kernel
theorem d1_4 : decode prog_7_method_4_code 4 = .ok (.getstatic 10, 3) := by decide +kernel
theorem d1_7 : decode prog_7_method_4_code 7 = .ok (.astore_n 2, 1) := by decide +kernel
theorem d1_8 : decode prog_7_method_4_code 8 = .ok (.goto 18, 3) := by decide +kernel
theorem d1_26 : decode prog_7_method_4_code 26 = .ok (.aload_n 2, 1) := by decide +kernel
theorem d1_27 : decode prog_7_method_4_code 27 = .ok (.areturn, 1) := by decide +kernel
theorem pn_1 : plainName "com/example/dispensd/dispensd/Mechanism$Level" = true := by first | (simp [plainName, overriddenIn]; done) | decide +kernel
theorem ef_1 (m : MethodId) (x0 : Int32) (x1 : Int32) : entryFrame m #[(.int x0), (.int x1)] 3 = mkF m 0 #[.val (.int x0), .val (.int x1), .unset] [] := by first | (simp [entryFrame, mkF, argsToLocals, Value.category]; done) | rfl
set_option maxRecDepth 65536 in
set_option maxHeartbeats 40000000 in
theorem rm1E (l : Launch) (Z : State) (a0 : Array Value) (hw : ∀ d ∈ tables_1, d.before a0 Z = true) (ws : List Jvm.Cond) (p1 : Int32) (p2 : Int32) (w3 : Addr) (h0 : Heap) (n0 : Nat) (Z0 : n0 ≤ h0.size) (S_EMPTY : Sta Z h0 "com/example/dispensd/dispensd/Mechanism$Level" "EMPTY" "Lcom/example/dispensd/dispensd/Mechanism$Level;" (.ref w3)) (hc1 : ¬ (p1 = (0 : Int32))) :
    MetFree l (⟨"com/example/dispensd/dispensd/Mechanism$Level", "of", "(ZZ)Lcom/example/dispensd/dispensd/Mechanism$Level;"⟩ : MethodName) (head1 (Jvm.Cond.code (⟨"com/example/dispensd/dispensd/Mechanism$Level", "of", "(ZZ)Lcom/example/dispensd/dispensd/Mechanism$Level;"⟩ : MethodName) prog_7_method_4_code 3 (some (.object "com/example/dispensd/dispensd/Mechanism$Level")) :: ws) ({ frames := 0, cells := 0, slots := 0, locals := 0 } : Room)) (fun a U => a = #[(.int p1), (.int p2)] ∧ Z.Warmed39 U.vm ∧ U.heap = h0) (fun _ _ _ _ _ => True) (fun _ U o U' => ∃ v L, o = .returned v ∧ own_Q (.ref w3) h0 n0 v U'.heap L ∧ FrameEnd U o U' L ({ frames := 0, cells := 0, slots := 0, locals := 0 } : Room).cells ({ frames := 0, cells := 0, slots := 0, locals := 0 } : Room).slots) := by
  refine MetFree.of_bodySF (plainFor_of_name pn_1) hisR ?_
  intro p e s m args below meth c s₁ Bd hml0 hP hK
  obtain ⟨rfl, hZ, hh⟩ := hP
  have hx := Bd.exec
  have hby := Bd.bytes
  have hml : c.maxLocals = 3 := hml0
  have hown : s.vm.findClass "com/example/dispensd/dispensd/Mechanism$Level" = some m.cls := findClass_of_methodNamed Bd.named
  have hnm := (name_of_methodNamed Bd.named Bd.method).1
  have X0 : Stand p l e ({ frames := 0, cells := 0, slots := 0, locals := 0 } : Room) s m #[(.int p1), (.int p2)] below meth c s₁ [] 0 0 := Stand.of_body Bd
  have e0 : s₁.heap = h0 := by rw [← hh, Bd.state]; rfl
  have N0 := Fr.nil n0
  have pre0 : ∀ t, Steps p.tables e below (s₁.setTop (mkF m 0 #[.val (.int p1), .val (.int p2), .unset] [])) t → Steps p.tables e below (s₁.setTop (entryFrame m #[(.int p1), (.int p2)] 3)) t := fun t k => castTop (ef_1 m p1 p2) k
  obtain ⟨T4, X4, e4, st4⟩ := getS2 X0 hx hZ hown (host := "") (Or.inl (hw _ (List.mem_of_getElem? (i := 9) rfl))) Via.refl e0 S_EMPTY (g := (mkF m 4 #[.val (.int p1), .val (.int p2), .unset] [])) rfl (hb hby d1_4)
  obtain ⟨fs, hr, hrun, hended, hW, hsame⟩ := X4.leave (v := some (.ref w3)) (fun h => by rw [Bd.returns] at h; cases h)
  refine ⟨_, _, pre0 _ ?_, hrun, hended, _, _, rfl, ?_, ⟨_, rfl⟩, hW, hsame.mono (by decide) (by decide)⟩
  · show Steps p.tables e below (s₁.setTop (mkF m 0 #[.val (.int p1), .val (.int p2), .unset] [])) _
    refine XS.iloadN X0.here hx rfl (hb hby d1_0) rfl ?_
    show Steps p.tables e below (s₁.setTop (mkF m 1 #[.val (.int p1), .val (.int p2), .unset] [(.int p1)])) _
    refine XS.ifNo X0.here hx rfl (hb hby d1_1) rfl ((if0 _ _).trans (feq hc1).1) ?_
    show Steps p.tables e below (s₁.setTop (mkF m 4 #[.val (.int p1), .val (.int p2), .unset] [])) _
    refine st4 _ ?_
    show Steps p.tables e below (T4.setTop (mkF m 7 #[.val (.int p1), .val (.int p2), .unset] [(.ref w3)])) _
    refine XS.astoreN X4.here hx rfl (hb hby d1_7) rfl rfl (l' := #[.val (.int p1), .val (.int p2), .val (.ref w3)]) rfl ?_
    show Steps p.tables e below (T4.setTop (mkF m 8 #[.val (.int p1), .val (.int p2), .val (.ref w3)] [])) _
    refine XS.goto X4.here hx rfl (pc0 := 8) (pc' := 26) rfl (hb hby d1_8) (by decide) (by decide) ?_
    show Steps p.tables e below (T4.setTop (mkF m 26 #[.val (.int p1), .val (.int p2), .val (.ref w3)] [])) _
    refine XS.aloadN X4.here hx rfl (hb hby d1_26) rfl rfl ?_
    show Steps p.tables e below (T4.setTop (mkF m 27 #[.val (.int p1), .val (.int p2), .val (.ref w3)] [(.ref w3)])) _
    jvm_step X4.here [X4.here.top, hx, (hb hby d1_27), X4.method', Bd.returns, Value.isRef, FieldType.isReference]
    first | (intro acts; rw [hr _ acts rfl rfl rfl]) | rw [hr _ _ rfl rfl rfl]
    exact Steps.refl _
  · show own_Q (.ref w3) h0 n0 _ T4.heap _
    rw [e4]
    exact ⟨rfl, N0, rfl⟩
theorem d1_11 : decode prog_7_method_4_code 11 = .ok (.iload_n 1, 1) := by decide +kernel
theorem d1_12 : decode prog_7_method_4_code 12 = .ok (.ifCond .eq 10, 3) := by decide +kernel
theorem d1_15 : decode prog_7_method_4_code 15 = .ok (.getstatic 7, 3) := by decide +kernel
theorem d1_18 : decode prog_7_method_4_code 18 = .ok (.astore_n 2, 1) := by decide +kernel
theorem d1_19 : decode prog_7_method_4_code 19 = .ok (.goto 7, 3) := by decide +kernel
set_option maxRecDepth 65536 in
set_option maxHeartbeats 40000000 in
theorem rm1L (l : Launch) (Z : State) (a0 : Array Value) (hw : ∀ d ∈ tables_1, d.before a0 Z = true) (ws : List Jvm.Cond) (p1 : Int32) (p2 : Int32) (w3 : Addr) (h0 : Heap) (n0 : Nat) (Z0 : n0 ≤ h0.size) (S_LOW : Sta Z h0 "com/example/dispensd/dispensd/Mechanism$Level" "LOW" "Lcom/example/dispensd/dispensd/Mechanism$Level;" (.ref w3)) (hc1 : p1 = (0 : Int32)) (hc12 : ¬ (p2 = (0 : Int32))) :
    MetFree l (⟨"com/example/dispensd/dispensd/Mechanism$Level", "of", "(ZZ)Lcom/example/dispensd/dispensd/Mechanism$Level;"⟩ : MethodName) (head1 (Jvm.Cond.code (⟨"com/example/dispensd/dispensd/Mechanism$Level", "of", "(ZZ)Lcom/example/dispensd/dispensd/Mechanism$Level;"⟩ : MethodName) prog_7_method_4_code 3 (some (.object "com/example/dispensd/dispensd/Mechanism$Level")) :: ws) ({ frames := 0, cells := 0, slots := 0, locals := 0 } : Room)) (fun a U => a = #[(.int p1), (.int p2)] ∧ Z.Warmed39 U.vm ∧ U.heap = h0) (fun _ _ _ _ _ => True) (fun _ U o U' => ∃ v L, o = .returned v ∧ own_Q (.ref w3) h0 n0 v U'.heap L ∧ FrameEnd U o U' L ({ frames := 0, cells := 0, slots := 0, locals := 0 } : Room).cells ({ frames := 0, cells := 0, slots := 0, locals := 0 } : Room).slots) := by
  refine MetFree.of_bodySF (plainFor_of_name pn_1) hisR ?_
  intro p e s m args below meth c s₁ Bd hml0 hP hK
  obtain ⟨rfl, hZ, hh⟩ := hP
  have hx := Bd.exec
  have hby := Bd.bytes
  have hml : c.maxLocals = 3 := hml0
  have hown : s.vm.findClass "com/example/dispensd/dispensd/Mechanism$Level" = some m.cls := findClass_of_methodNamed Bd.named
  have hnm := (name_of_methodNamed Bd.named Bd.method).1
  have X0 : Stand p l e ({ frames := 0, cells := 0, slots := 0, locals := 0 } : Room) s m #[(.int p1), (.int p2)] below meth c s₁ [] 0 0 := Stand.of_body Bd
  have e0 : s₁.heap = h0 := by rw [← hh, Bd.state]; rfl
  have N0 := Fr.nil n0
  have pre0 : ∀ t, Steps p.tables e below (s₁.setTop (mkF m 0 #[.val (.int p1), .val (.int p2), .unset] [])) t → Steps p.tables e below (s₁.setTop (entryFrame m #[(.int p1), (.int p2)] 3)) t := fun t k => castTop (ef_1 m p1 p2) k
  obtain ⟨T4, X4, e4, st4⟩ := getS2 X0 hx hZ hown (host := "") (Or.inl (hw _ (List.mem_of_getElem? (i := 10) rfl))) Via.refl e0 S_LOW (g := (mkF m 15 #[.val (.int p1), .val (.int p2), .unset] [])) rfl (hb hby d1_15)
  obtain ⟨fs, hr, hrun, hended, hW, hsame⟩ := X4.leave (v := some (.ref w3)) (fun h => by rw [Bd.returns] at h; cases h)
  refine ⟨_, _, pre0 _ ?_, hrun, hended, _, _, rfl, ?_, ⟨_, rfl⟩, hW, hsame.mono (by decide) (by decide)⟩
  · show Steps p.tables e below (s₁.setTop (mkF m 0 #[.val (.int p1), .val (.int p2), .unset] [])) _
    refine XS.iloadN X0.here hx rfl (hb hby d1_0) rfl ?_
    show Steps p.tables e below (s₁.setTop (mkF m 1 #[.val (.int p1), .val (.int p2), .unset] [(.int p1)])) _
    refine XS.ifYes X0.here hx rfl (pc0 := 1) (pc' := 11) rfl (hb hby d1_1) rfl ((if0 _ _).trans (teq hc1).1) (by decide) (by decide) ?_
    show Steps p.tables e below (s₁.setTop (mkF m 11 #[.val (.int p1), .val (.int p2), .unset] [])) _
    refine XS.iloadN X0.here hx rfl (hb hby d1_11) rfl ?_
    show Steps p.tables e below (s₁.setTop (mkF m 12 #[.val (.int p1), .val (.int p2), .unset] [(.int p2)])) _
    refine XS.ifNo X0.here hx rfl (hb hby d1_12) rfl ((if0 _ _).trans (feq hc12).1) ?_
    show Steps p.tables e below (s₁.setTop (mkF m 15 #[.val (.int p1), .val (.int p2), .unset] [])) _
    refine st4 _ ?_
    show Steps p.tables e below (T4.setTop (mkF m 18 #[.val (.int p1), .val (.int p2), .unset] [(.ref w3)])) _
    refine XS.astoreN X4.here hx rfl (hb hby d1_18) rfl rfl (l' := #[.val (.int p1), .val (.int p2), .val (.ref w3)]) rfl ?_
    show Steps p.tables e below (T4.setTop (mkF m 19 #[.val (.int p1), .val (.int p2), .val (.ref w3)] [])) _
    refine XS.goto X4.here hx rfl (pc0 := 19) (pc' := 26) rfl (hb hby d1_19) (by decide) (by decide) ?_
    show Steps p.tables e below (T4.setTop (mkF m 26 #[.val (.int p1), .val (.int p2), .val (.ref w3)] [])) _
    refine XS.aloadN X4.here hx rfl (hb hby d1_26) rfl rfl ?_
    show Steps p.tables e below (T4.setTop (mkF m 27 #[.val (.int p1), .val (.int p2), .val (.ref w3)] [(.ref w3)])) _
    jvm_step X4.here [X4.here.top, hx, (hb hby d1_27), X4.method', Bd.returns, Value.isRef, FieldType.isReference]
    first | (intro acts; rw [hr _ acts rfl rfl rfl]) | rw [hr _ _ rfl rfl rfl]
    exact Steps.refl _
  · show own_Q (.ref w3) h0 n0 _ T4.heap _
    rw [e4]
    exact ⟨rfl, N0, rfl⟩
theorem d1_22 : decode prog_7_method_4_code 22 = .ok (.getstatic 3, 3) := by decide +kernel
theorem d1_25 : decode prog_7_method_4_code 25 = .ok (.astore_n 2, 1) := by decide +kernel
set_option maxRecDepth 65536 in
set_option maxHeartbeats 40000000 in
theorem rm1S (l : Launch) (Z : State) (a0 : Array Value) (hw : ∀ d ∈ tables_1, d.before a0 Z = true) (ws : List Jvm.Cond) (p1 : Int32) (p2 : Int32) (w3 : Addr) (h0 : Heap) (n0 : Nat) (Z0 : n0 ≤ h0.size) (S_STOCKED : Sta Z h0 "com/example/dispensd/dispensd/Mechanism$Level" "STOCKED" "Lcom/example/dispensd/dispensd/Mechanism$Level;" (.ref w3)) (hc1 : p1 = (0 : Int32)) (hc12 : p2 = (0 : Int32)) :
    MetFree l (⟨"com/example/dispensd/dispensd/Mechanism$Level", "of", "(ZZ)Lcom/example/dispensd/dispensd/Mechanism$Level;"⟩ : MethodName) (head1 (Jvm.Cond.code (⟨"com/example/dispensd/dispensd/Mechanism$Level", "of", "(ZZ)Lcom/example/dispensd/dispensd/Mechanism$Level;"⟩ : MethodName) prog_7_method_4_code 3 (some (.object "com/example/dispensd/dispensd/Mechanism$Level")) :: ws) ({ frames := 0, cells := 0, slots := 0, locals := 0 } : Room)) (fun a U => a = #[(.int p1), (.int p2)] ∧ Z.Warmed39 U.vm ∧ U.heap = h0) (fun _ _ _ _ _ => True) (fun _ U o U' => ∃ v L, o = .returned v ∧ own_Q (.ref w3) h0 n0 v U'.heap L ∧ FrameEnd U o U' L ({ frames := 0, cells := 0, slots := 0, locals := 0 } : Room).cells ({ frames := 0, cells := 0, slots := 0, locals := 0 } : Room).slots) := by
  refine MetFree.of_bodySF (plainFor_of_name pn_1) hisR ?_
  intro p e s m args below meth c s₁ Bd hml0 hP hK
  obtain ⟨rfl, hZ, hh⟩ := hP
  have hx := Bd.exec
  have hby := Bd.bytes
  have hml : c.maxLocals = 3 := hml0
  have hown : s.vm.findClass "com/example/dispensd/dispensd/Mechanism$Level" = some m.cls := findClass_of_methodNamed Bd.named
  have hnm := (name_of_methodNamed Bd.named Bd.method).1
  have X0 : Stand p l e ({ frames := 0, cells := 0, slots := 0, locals := 0 } : Room) s m #[(.int p1), (.int p2)] below meth c s₁ [] 0 0 := Stand.of_body Bd
  have e0 : s₁.heap = h0 := by rw [← hh, Bd.state]; rfl
  have N0 := Fr.nil n0
  have pre0 : ∀ t, Steps p.tables e below (s₁.setTop (mkF m 0 #[.val (.int p1), .val (.int p2), .unset] [])) t → Steps p.tables e below (s₁.setTop (entryFrame m #[(.int p1), (.int p2)] 3)) t := fun t k => castTop (ef_1 m p1 p2) k
  obtain ⟨T4, X4, e4, st4⟩ := getS2 X0 hx hZ hown (host := "") (Or.inl (hw _ (List.mem_of_getElem? (i := 4) rfl))) Via.refl e0 S_STOCKED (g := (mkF m 22 #[.val (.int p1), .val (.int p2), .unset] [])) rfl (hb hby d1_22)
  obtain ⟨fs, hr, hrun, hended, hW, hsame⟩ := X4.leave (v := some (.ref w3)) (fun h => by rw [Bd.returns] at h; cases h)
  refine ⟨_, _, pre0 _ ?_, hrun, hended, _, _, rfl, ?_, ⟨_, rfl⟩, hW, hsame.mono (by decide) (by decide)⟩
  · show Steps p.tables e below (s₁.setTop (mkF m 0 #[.val (.int p1), .val (.int p2), .unset] [])) _
    refine XS.iloadN X0.here hx rfl (hb hby d1_0) rfl ?_
    show Steps p.tables e below (s₁.setTop (mkF m 1 #[.val (.int p1), .val (.int p2), .unset] [(.int p1)])) _
    refine XS.ifYes X0.here hx rfl (pc0 := 1) (pc' := 11) rfl (hb hby d1_1) rfl ((if0 _ _).trans (teq hc1).1) (by decide) (by decide) ?_
    show Steps p.tables e below (s₁.setTop (mkF m 11 #[.val (.int p1), .val (.int p2), .unset] [])) _
    refine XS.iloadN X0.here hx rfl (hb hby d1_11) rfl ?_
    show Steps p.tables e below (s₁.setTop (mkF m 12 #[.val (.int p1), .val (.int p2), .unset] [(.int p2)])) _
    refine XS.ifYes X0.here hx rfl (pc0 := 12) (pc' := 22) rfl (hb hby d1_12) rfl ((if0 _ _).trans (teq hc12).1) (by decide) (by decide) ?_
    show Steps p.tables e below (s₁.setTop (mkF m 22 #[.val (.int p1), .val (.int p2), .unset] [])) _
    refine st4 _ ?_
    show Steps p.tables e below (T4.setTop (mkF m 25 #[.val (.int p1), .val (.int p2), .unset] [(.ref w3)])) _
    refine XS.astoreN X4.here hx rfl (hb hby d1_25) rfl rfl (l' := #[.val (.int p1), .val (.int p2), .val (.ref w3)]) rfl ?_
    show Steps p.tables e below (T4.setTop (mkF m 26 #[.val (.int p1), .val (.int p2), .val (.ref w3)] [])) _
    refine XS.aloadN X4.here hx rfl (hb hby d1_26) rfl rfl ?_
    show Steps p.tables e below (T4.setTop (mkF m 27 #[.val (.int p1), .val (.int p2), .val (.ref w3)] [(.ref w3)])) _
    jvm_step X4.here [X4.here.top, hx, (hb hby d1_27), X4.method', Bd.returns, Value.isRef, FieldType.isReference]
    first | (intro acts; rw [hr _ acts rfl rfl rfl]) | rw [hr _ _ rfl rfl rfl]
    exact Steps.refl _
  · show own_Q (.ref w3) h0 n0 _ T4.heap _
    rw [e4]
    exact ⟨rfl, N0, rfl⟩
theorem pn_0 : plainName "com/example/dispensd/dispensd/LevelOfPinLaw" = true := by first | (simp [plainName, overriddenIn]; done) | decide +kernel
theorem pd_0_0 : parseMethodDescriptor "(ZZ)Lcom/example/dispensd/dispensd/Mechanism$Level;" = some ⟨[.boolean, .boolean], some (.object "com/example/dispensd/dispensd/Mechanism$Level")⟩ := by decide +kernel
theorem ef_0 (m : MethodId) (x0 : Int32) : entryFrame m #[(.int x0)] maxLocals = mkF m 0 #[.val (.int x0), .unset, .unset, .unset, .unset, .unset, .unset, .unset] [] := by first | (simp [entryFrame, mkF, argsToLocals, Value.category, maxLocals]; done) | rfl
set_option maxRecDepth 65536 in
set_option maxHeartbeats 40000000 in
theorem rm0A (l : Launch) (Z : State) (a0 : Array Value) (hw : ∀ d ∈ tables_1, d.before a0 Z = true) (ws : List Jvm.Cond) (p1 : Int32) (w3 : Addr) (w5 : Addr) (h0 : Heap) (n0 : Nat) (Z0 : n0 ≤ h0.size) (S_EMPTY : Sta Z h0 "com/example/dispensd/dispensd/Mechanism$Level" "EMPTY" "Lcom/example/dispensd/dispensd/Mechanism$Level;" (.ref w3)) (S_STOCKED : Sta Z h0 "com/example/dispensd/dispensd/Mechanism$Level" "STOCKED" "Lcom/example/dispensd/dispensd/Mechanism$Level;" (.ref w5)) (hc3 : ¬ ((p1 &&& (1 : Int32)) = (0 : Int32))) (hc15 : ¬ ((p1 &&& (2 : Int32)) = (0 : Int32))) (ha34 : w3 = w3) (ha48 : ¬ (w3 = w5)) :
    MetFree l x (head1 (Jvm.Cond.code x code maxLocals ret :: ws) room_1) (fun a U => a = #[(.int p1)] ∧ Z.Warmed39 U.vm ∧ U.heap = h0) (fun _ _ _ _ _ => True) (fun _ U o U' => ∃ v L, o = .returned v ∧ own_R n0 v U'.heap L ∧ FrameEnd U o U' L room_1.cells room_1.slots) := by
  refine MetFree.of_bodySF (plainFor_of_name pn_0) hisR ?_
  intro p e s m args below meth c s₁ Bd hml0 hP hK
  obtain ⟨rfl, hZ, hh⟩ := hP
  have hx := Bd.exec
  have hby := Bd.bytes
  have hml : c.maxLocals = 8 := hml0
  have hown : s.vm.findClass "com/example/dispensd/dispensd/LevelOfPinLaw" = some m.cls := findClass_of_methodNamed Bd.named
  have hnm := (name_of_methodNamed Bd.named Bd.method).1
  have X0 : Stand p l e room_1 s m #[(.int p1)] below meth c s₁ [] 0 0 := Stand.of_body Bd
  have e0 : s₁.heap = h0 := by rw [← hh, Bd.state]; rfl
  have N0 := Fr.nil n0
  have pre0 : ∀ t, Steps p.tables e below (s₁.setTop (mkF m 0 #[.val (.int p1), .unset, .unset, .unset, .unset, .unset, .unset, .unset] [])) t → Steps p.tables e below (s₁.setTop (entryFrame m #[(.int p1)] maxLocals)) t := fun t k => castTop (ef_0 m p1) k
  obtain ⟨_, _, ⟨T2, L2, k2, n2⟩, -, X2, ⟨Lc2, hQ2, l2, y2, z2⟩, st2⟩ := Jvm.LawKit.callS X0 hx (y := (⟨"com/example/dispensd/dispensd/Mechanism$Level", "of", "(ZZ)Lcom/example/dispensd/dispensd/Mechanism$Level;"⟩ : MethodName)) hown (mvT hZ (hw _ (List.mem_of_getElem? (i := 0) rfl))) (mvT hZ (hw _ (List.mem_of_getElem? (i := 1) rfl))) (mvT hZ (hw _ (List.mem_of_getElem? (i := 2) rfl))) (mvT hZ (hw _ (List.mem_of_getElem? (i := 3) rfl))) (by decide) (backOf (W := 0) (rm1E l Z a0 hw [] (1 : Int32) (1 : Int32) w3 h0 n0 Z0 S_EMPTY (by decide)) hZ (hw _ (List.mem_of_getElem? (i := 3) rfl)) (hw _ (List.mem_of_getElem? (i := 2) rfl)) (by decide) (by decide)) (g := (mkF m 26 #[.val (.int p1), .val (.int (1 : Int32)), .val (.int (1 : Int32)), .unset, .unset, .unset, .unset, .unset] [(.int (1 : Int32)), (.int (1 : Int32))])) rfl (by rw [hml]; rfl) (argsL := [(.int (1 : Int32)), (.int (1 : Int32))]) (rest := []) (lenOf pd_0_0 rfl) rfl (by show 2 * 0 + _ ≤ _; exact Nat.le_of_eq rfl) (hb hby at_26) (fun _ _ => ⟨rfl, e0, (by decide : 0 + 0 ≤ _), (by decide : 0 + 0 ≤ _)⟩)
  dsimp only [Pt.U, Pt.locs, Pt.cells, Pt.slots] at X2 l2 y2 z2 st2 hQ2
  subst l2 y2 z2
  obtain ⟨rfl, N2q, e2⟩ := hQ2      -- what it returned, that it wrote nothing old, and the rest of your Q1
  have N2 := Fr.app N0 N2q
  obtain ⟨T4, X4, e4, st4⟩ := getS2 X2 hx hZ hown (host := "") (Or.inl (hw _ (List.mem_of_getElem? (i := 6) rfl))) Via.refl e2 S_EMPTY (g := (mkF m 31 #[.val (.int p1), .val (.int (1 : Int32)), .val (.int (1 : Int32)), .val (.ref w3), .unset, .unset, .unset, .unset] [(.ref w3)])) rfl (hb hby at_31)
  obtain ⟨T6, X6, e6, st6⟩ := getS2 X4 hx hZ hown (host := "") (Or.inl (hw _ (List.mem_of_getElem? (i := 8) rfl))) Via.refl e4 S_STOCKED (g := (mkF m 45 #[.val (.int p1), .val (.int (1 : Int32)), .val (.int (1 : Int32)), .val (.ref w3), .val (.int (1 : Int32)), .unset, .unset, .unset] [(.ref w3)])) rfl (hb hby at_45)
  obtain ⟨fs, hr, hrun, hended, hW, hsame⟩ := X6.leave (v := some (.int (1 : Int32))) (fun h => by rw [Bd.returns] at h; cases h)
  refine ⟨_, _, pre0 _ ?_, hrun, hended, _, _, rfl, ?_, ⟨_, rfl⟩, hW, hsame.mono (by decide) (by decide)⟩
  · show Steps p.tables e below (s₁.setTop (mkF m 0 #[.val (.int p1), .unset, .unset, .unset, .unset, .unset, .unset, .unset] [])) _
    refine XS.iloadN X0.here hx rfl (hb hby at_0) rfl ?_
    show Steps p.tables e below (s₁.setTop (mkF m 1 #[.val (.int p1), .unset, .unset, .unset, .unset, .unset, .unset, .unset] [(.int p1)])) _
    refine XS.iconst X0.here hx rfl (hb hby at_1) ?_
    show Steps p.tables e below (s₁.setTop (mkF m 2 #[.val (.int p1), .unset, .unset, .unset, .unset, .unset, .unset, .unset] [(.int (1 : Int32)), (.int p1)])) _
    refine XS.iand X0.here hx rfl (hb hby at_2) rfl ?_
    show Steps p.tables e below (s₁.setTop (mkF m 3 #[.val (.int p1), .unset, .unset, .unset, .unset, .unset, .unset, .unset] [(.int (p1 &&& (1 : Int32)))])) _
    refine XS.ifNo X0.here hx rfl (hb hby at_3) rfl ((if0 _ _).trans (feq hc3).1) ?_
    show Steps p.tables e below (s₁.setTop (mkF m 6 #[.val (.int p1), .unset, .unset, .unset, .unset, .unset, .unset, .unset] [])) _
    refine XS.iconst X0.here hx rfl (hb hby at_6) ?_
    show Steps p.tables e below (s₁.setTop (mkF m 7 #[.val (.int p1), .unset, .unset, .unset, .unset, .unset, .unset, .unset] [(.int (1 : Int32))])) _
    refine XS.goto X0.here hx rfl (pc0 := 7) (pc' := 11) rfl (hb hby at_7) (by decide) (by decide) ?_
    show Steps p.tables e below (s₁.setTop (mkF m 11 #[.val (.int p1), .unset, .unset, .unset, .unset, .unset, .unset, .unset] [(.int (1 : Int32))])) _
    refine XS.istoreN X0.here hx rfl (hb hby at_11) rfl (l' := #[.val (.int p1), .val (.int (1 : Int32)), .unset, .unset, .unset, .unset, .unset, .unset]) rfl ?_
    show Steps p.tables e below (s₁.setTop (mkF m 12 #[.val (.int p1), .val (.int (1 : Int32)), .unset, .unset, .unset, .unset, .unset, .unset] [])) _
    refine XS.iloadN X0.here hx rfl (hb hby at_12) rfl ?_
    show Steps p.tables e below (s₁.setTop (mkF m 13 #[.val (.int p1), .val (.int (1 : Int32)), .unset, .unset, .unset, .unset, .unset, .unset] [(.int p1)])) _
    refine XS.iconst X0.here hx rfl (hb hby at_13) ?_
    show Steps p.tables e below (s₁.setTop (mkF m 14 #[.val (.int p1), .val (.int (1 : Int32)), .unset, .unset, .unset, .unset, .unset, .unset] [(.int (2 : Int32)), (.int p1)])) _
    refine XS.iand X0.here hx rfl (hb hby at_14) rfl ?_
    show Steps p.tables e below (s₁.setTop (mkF m 15 #[.val (.int p1), .val (.int (1 : Int32)), .unset, .unset, .unset, .unset, .unset, .unset] [(.int (p1 &&& (2 : Int32)))])) _
    refine XS.ifNo X0.here hx rfl (hb hby at_15) rfl ((if0 _ _).trans (feq hc15).1) ?_
    show Steps p.tables e below (s₁.setTop (mkF m 18 #[.val (.int p1), .val (.int (1 : Int32)), .unset, .unset, .unset, .unset, .unset, .unset] [])) _
    refine XS.iconst X0.here hx rfl (hb hby at_18) ?_
    show Steps p.tables e below (s₁.setTop (mkF m 19 #[.val (.int p1), .val (.int (1 : Int32)), .unset, .unset, .unset, .unset, .unset, .unset] [(.int (1 : Int32))])) _
    refine XS.goto X0.here hx rfl (pc0 := 19) (pc' := 23) rfl (hb hby at_19) (by decide) (by decide) ?_
    show Steps p.tables e below (s₁.setTop (mkF m 23 #[.val (.int p1), .val (.int (1 : Int32)), .unset, .unset, .unset, .unset, .unset, .unset] [(.int (1 : Int32))])) _
    refine XS.istoreN X0.here hx rfl (hb hby at_23) rfl (l' := #[.val (.int p1), .val (.int (1 : Int32)), .val (.int (1 : Int32)), .unset, .unset, .unset, .unset, .unset]) rfl ?_
    show Steps p.tables e below (s₁.setTop (mkF m 24 #[.val (.int p1), .val (.int (1 : Int32)), .val (.int (1 : Int32)), .unset, .unset, .unset, .unset, .unset] [])) _
    refine XS.iloadN X0.here hx rfl (hb hby at_24) rfl ?_
    show Steps p.tables e below (s₁.setTop (mkF m 25 #[.val (.int p1), .val (.int (1 : Int32)), .val (.int (1 : Int32)), .unset, .unset, .unset, .unset, .unset] [(.int (1 : Int32))])) _
    refine XS.iloadN X0.here hx rfl (hb hby at_25) rfl ?_
    show Steps p.tables e below (s₁.setTop (mkF m 26 #[.val (.int p1), .val (.int (1 : Int32)), .val (.int (1 : Int32)), .unset, .unset, .unset, .unset, .unset] [(.int (1 : Int32)), (.int (1 : Int32))])) _
    refine st2 _ ?_
    show Steps p.tables e below (T2.setTop (mkF m 29 #[.val (.int p1), .val (.int (1 : Int32)), .val (.int (1 : Int32)), .unset, .unset, .unset, .unset, .unset] [(.ref w3)])) _
    refine XS.astoreN X2.here hx rfl (hb hby at_29) rfl rfl (l' := #[.val (.int p1), .val (.int (1 : Int32)), .val (.int (1 : Int32)), .val (.ref w3), .unset, .unset, .unset, .unset]) rfl ?_
    show Steps p.tables e below (T2.setTop (mkF m 30 #[.val (.int p1), .val (.int (1 : Int32)), .val (.int (1 : Int32)), .val (.ref w3), .unset, .unset, .unset, .unset] [])) _
    refine XS.aloadN X2.here hx rfl (hb hby at_30) rfl rfl ?_
    show Steps p.tables e below (T2.setTop (mkF m 31 #[.val (.int p1), .val (.int (1 : Int32)), .val (.int (1 : Int32)), .val (.ref w3), .unset, .unset, .unset, .unset] [(.ref w3)])) _
    refine st4 _ ?_
    show Steps p.tables e below (T4.setTop (mkF m 34 #[.val (.int p1), .val (.int (1 : Int32)), .val (.int (1 : Int32)), .val (.ref w3), .unset, .unset, .unset, .unset] [(.ref w3), (.ref w3)])) _
    refine Jvm.RoadKit.acmp (g := (mkF m 34 #[.val (.int p1), .val (.int (1 : Int32)), .val (.int (1 : Int32)), .val (.ref w3), .unset, .unset, .unset, .unset] [(.ref w3), (.ref w3)])) X4 hx rfl rfl rfl (pc0 := 34) (pc' := 37) (same := true) rfl (hb hby at_34) rfl (decide_eq_true (congrArg Value.ref ha34)) (by decide) (by decide) ?_
    show Steps p.tables e below (T4.setTop (mkF m 37 #[.val (.int p1), .val (.int (1 : Int32)), .val (.int (1 : Int32)), .val (.ref w3), .unset, .unset, .unset, .unset] [])) _
    refine XS.iconst X4.here hx rfl (hb hby at_37) ?_
    show Steps p.tables e below (T4.setTop (mkF m 38 #[.val (.int p1), .val (.int (1 : Int32)), .val (.int (1 : Int32)), .val (.ref w3), .unset, .unset, .unset, .unset] [(.int (1 : Int32))])) _
    refine XS.goto X4.here hx rfl (pc0 := 38) (pc' := 42) rfl (hb hby at_38) (by decide) (by decide) ?_
    show Steps p.tables e below (T4.setTop (mkF m 42 #[.val (.int p1), .val (.int (1 : Int32)), .val (.int (1 : Int32)), .val (.ref w3), .unset, .unset, .unset, .unset] [(.int (1 : Int32))])) _
    refine XS.istore X4.here hx rfl (hb hby at_42) rfl (l' := #[.val (.int p1), .val (.int (1 : Int32)), .val (.int (1 : Int32)), .val (.ref w3), .val (.int (1 : Int32)), .unset, .unset, .unset]) rfl ?_
    show Steps p.tables e below (T4.setTop (mkF m 44 #[.val (.int p1), .val (.int (1 : Int32)), .val (.int (1 : Int32)), .val (.ref w3), .val (.int (1 : Int32)), .unset, .unset, .unset] [])) _
    refine XS.aloadN X4.here hx rfl (hb hby at_44) rfl rfl ?_
    show Steps p.tables e below (T4.setTop (mkF m 45 #[.val (.int p1), .val (.int (1 : Int32)), .val (.int (1 : Int32)), .val (.ref w3), .val (.int (1 : Int32)), .unset, .unset, .unset] [(.ref w3)])) _
    refine st6 _ ?_
    show Steps p.tables e below (T6.setTop (mkF m 48 #[.val (.int p1), .val (.int (1 : Int32)), .val (.int (1 : Int32)), .val (.ref w3), .val (.int (1 : Int32)), .unset, .unset, .unset] [(.ref w5), (.ref w3)])) _
    refine Jvm.RoadKit.acmp (g := (mkF m 48 #[.val (.int p1), .val (.int (1 : Int32)), .val (.int (1 : Int32)), .val (.ref w3), .val (.int (1 : Int32)), .unset, .unset, .unset] [(.ref w5), (.ref w3)])) X6 hx rfl rfl rfl (pc0 := 48) (pc' := 51) (same := false) rfl (hb hby at_48) rfl (decide_eq_false fun q => ha48 (Value.ref.inj q)) (by decide) (by decide) ?_
    show Steps p.tables e below (T6.setTop (mkF m 51 #[.val (.int p1), .val (.int (1 : Int32)), .val (.int (1 : Int32)), .val (.ref w3), .val (.int (1 : Int32)), .unset, .unset, .unset] [])) _
    refine XS.iconst X6.here hx rfl (hb hby at_51) ?_
    show Steps p.tables e below (T6.setTop (mkF m 52 #[.val (.int p1), .val (.int (1 : Int32)), .val (.int (1 : Int32)), .val (.ref w3), .val (.int (1 : Int32)), .unset, .unset, .unset] [(.int (1 : Int32))])) _
    refine XS.goto X6.here hx rfl (pc0 := 52) (pc' := 56) rfl (hb hby at_52) (by decide) (by decide) ?_
    show Steps p.tables e below (T6.setTop (mkF m 56 #[.val (.int p1), .val (.int (1 : Int32)), .val (.int (1 : Int32)), .val (.ref w3), .val (.int (1 : Int32)), .unset, .unset, .unset] [(.int (1 : Int32))])) _
    refine XS.istore X6.here hx rfl (hb hby at_56) rfl (l' := #[.val (.int p1), .val (.int (1 : Int32)), .val (.int (1 : Int32)), .val (.ref w3), .val (.int (1 : Int32)), .val (.int (1 : Int32)), .unset, .unset]) rfl ?_
    show Steps p.tables e below (T6.setTop (mkF m 58 #[.val (.int p1), .val (.int (1 : Int32)), .val (.int (1 : Int32)), .val (.ref w3), .val (.int (1 : Int32)), .val (.int (1 : Int32)), .unset, .unset] [])) _
    refine XS.iload X6.here hx rfl (hb hby at_58) rfl ?_
    show Steps p.tables e below (T6.setTop (mkF m 60 #[.val (.int p1), .val (.int (1 : Int32)), .val (.int (1 : Int32)), .val (.ref w3), .val (.int (1 : Int32)), .val (.int (1 : Int32)), .unset, .unset] [(.int (1 : Int32))])) _
    refine XS.iloadN X6.here hx rfl (hb hby at_60) rfl ?_
    show Steps p.tables e below (T6.setTop (mkF m 61 #[.val (.int p1), .val (.int (1 : Int32)), .val (.int (1 : Int32)), .val (.ref w3), .val (.int (1 : Int32)), .val (.int (1 : Int32)), .unset, .unset] [(.int (1 : Int32)), (.int (1 : Int32))])) _
    refine XS.icmpNo X6.here hx rfl (hb hby at_61) rfl (teq (rfl : (1 : Int32) = (1 : Int32))).2 ?_
    show Steps p.tables e below (T6.setTop (mkF m 64 #[.val (.int p1), .val (.int (1 : Int32)), .val (.int (1 : Int32)), .val (.ref w3), .val (.int (1 : Int32)), .val (.int (1 : Int32)), .unset, .unset] [])) _
    refine XS.iconst X6.here hx rfl (hb hby at_64) ?_
    show Steps p.tables e below (T6.setTop (mkF m 65 #[.val (.int p1), .val (.int (1 : Int32)), .val (.int (1 : Int32)), .val (.ref w3), .val (.int (1 : Int32)), .val (.int (1 : Int32)), .unset, .unset] [(.int (1 : Int32))])) _
    refine XS.goto X6.here hx rfl (pc0 := 65) (pc' := 69) rfl (hb hby at_65) (by decide) (by decide) ?_
    show Steps p.tables e below (T6.setTop (mkF m 69 #[.val (.int p1), .val (.int (1 : Int32)), .val (.int (1 : Int32)), .val (.ref w3), .val (.int (1 : Int32)), .val (.int (1 : Int32)), .unset, .unset] [(.int (1 : Int32))])) _
    refine XS.istore X6.here hx rfl (hb hby at_69) rfl (l' := #[.val (.int p1), .val (.int (1 : Int32)), .val (.int (1 : Int32)), .val (.ref w3), .val (.int (1 : Int32)), .val (.int (1 : Int32)), .val (.int (1 : Int32)), .unset]) rfl ?_
    show Steps p.tables e below (T6.setTop (mkF m 71 #[.val (.int p1), .val (.int (1 : Int32)), .val (.int (1 : Int32)), .val (.ref w3), .val (.int (1 : Int32)), .val (.int (1 : Int32)), .val (.int (1 : Int32)), .unset] [])) _
    refine XS.iload X6.here hx rfl (hb hby at_71) rfl ?_
    show Steps p.tables e below (T6.setTop (mkF m 73 #[.val (.int p1), .val (.int (1 : Int32)), .val (.int (1 : Int32)), .val (.ref w3), .val (.int (1 : Int32)), .val (.int (1 : Int32)), .val (.int (1 : Int32)), .unset] [(.int (1 : Int32))])) _
    refine XS.iloadN X6.here hx rfl (hb hby at_73) rfl ?_
    show Steps p.tables e below (T6.setTop (mkF m 74 #[.val (.int p1), .val (.int (1 : Int32)), .val (.int (1 : Int32)), .val (.ref w3), .val (.int (1 : Int32)), .val (.int (1 : Int32)), .val (.int (1 : Int32)), .unset] [(.int (1 : Int32)), (.int (1 : Int32))])) _
    refine XS.ifYes X6.here hx rfl (pc0 := 74) (pc' := 81) rfl (hb hby at_74) rfl ((if0 _ _).trans (feq (by decide : ¬ ((1 : Int32) = (0 : Int32)))).2) (by decide) (by decide) ?_
    show Steps p.tables e below (T6.setTop (mkF m 81 #[.val (.int p1), .val (.int (1 : Int32)), .val (.int (1 : Int32)), .val (.ref w3), .val (.int (1 : Int32)), .val (.int (1 : Int32)), .val (.int (1 : Int32)), .unset] [(.int (1 : Int32))])) _
    refine XS.iconst X6.here hx rfl (hb hby at_81) ?_
    show Steps p.tables e below (T6.setTop (mkF m 82 #[.val (.int p1), .val (.int (1 : Int32)), .val (.int (1 : Int32)), .val (.ref w3), .val (.int (1 : Int32)), .val (.int (1 : Int32)), .val (.int (1 : Int32)), .unset] [(.int (1 : Int32)), (.int (1 : Int32))])) _
    refine XS.goto X6.here hx rfl (pc0 := 82) (pc' := 86) rfl (hb hby at_82) (by decide) (by decide) ?_
    show Steps p.tables e below (T6.setTop (mkF m 86 #[.val (.int p1), .val (.int (1 : Int32)), .val (.int (1 : Int32)), .val (.ref w3), .val (.int (1 : Int32)), .val (.int (1 : Int32)), .val (.int (1 : Int32)), .unset] [(.int (1 : Int32)), (.int (1 : Int32))])) _
    refine XS.icmpNo X6.here hx rfl (hb hby at_86) rfl (teq (rfl : (1 : Int32) = (1 : Int32))).2 ?_
    show Steps p.tables e below (T6.setTop (mkF m 89 #[.val (.int p1), .val (.int (1 : Int32)), .val (.int (1 : Int32)), .val (.ref w3), .val (.int (1 : Int32)), .val (.int (1 : Int32)), .val (.int (1 : Int32)), .unset] [])) _
    refine XS.iconst X6.here hx rfl (hb hby at_89) ?_
    show Steps p.tables e below (T6.setTop (mkF m 90 #[.val (.int p1), .val (.int (1 : Int32)), .val (.int (1 : Int32)), .val (.ref w3), .val (.int (1 : Int32)), .val (.int (1 : Int32)), .val (.int (1 : Int32)), .unset] [(.int (1 : Int32))])) _
    refine XS.goto X6.here hx rfl (pc0 := 90) (pc' := 94) rfl (hb hby at_90) (by decide) (by decide) ?_
    show Steps p.tables e below (T6.setTop (mkF m 94 #[.val (.int p1), .val (.int (1 : Int32)), .val (.int (1 : Int32)), .val (.ref w3), .val (.int (1 : Int32)), .val (.int (1 : Int32)), .val (.int (1 : Int32)), .unset] [(.int (1 : Int32))])) _
    refine XS.istore X6.here hx rfl (hb hby at_94) rfl (l' := #[.val (.int p1), .val (.int (1 : Int32)), .val (.int (1 : Int32)), .val (.ref w3), .val (.int (1 : Int32)), .val (.int (1 : Int32)), .val (.int (1 : Int32)), .val (.int (1 : Int32))]) rfl ?_
    show Steps p.tables e below (T6.setTop (mkF m 96 #[.val (.int p1), .val (.int (1 : Int32)), .val (.int (1 : Int32)), .val (.ref w3), .val (.int (1 : Int32)), .val (.int (1 : Int32)), .val (.int (1 : Int32)), .val (.int (1 : Int32))] [])) _
    refine XS.iload X6.here hx rfl (hb hby at_96) rfl ?_
    show Steps p.tables e below (T6.setTop (mkF m 98 #[.val (.int p1), .val (.int (1 : Int32)), .val (.int (1 : Int32)), .val (.ref w3), .val (.int (1 : Int32)), .val (.int (1 : Int32)), .val (.int (1 : Int32)), .val (.int (1 : Int32))] [(.int (1 : Int32))])) _
    refine XS.ifNo X6.here hx rfl (hb hby at_98) rfl ((if0 _ _).trans (feq (by decide : ¬ ((1 : Int32) = (0 : Int32)))).1) ?_
    show Steps p.tables e below (T6.setTop (mkF m 101 #[.val (.int p1), .val (.int (1 : Int32)), .val (.int (1 : Int32)), .val (.ref w3), .val (.int (1 : Int32)), .val (.int (1 : Int32)), .val (.int (1 : Int32)), .val (.int (1 : Int32))] [])) _
    refine XS.iload X6.here hx rfl (hb hby at_101) rfl ?_
    show Steps p.tables e below (T6.setTop (mkF m 103 #[.val (.int p1), .val (.int (1 : Int32)), .val (.int (1 : Int32)), .val (.ref w3), .val (.int (1 : Int32)), .val (.int (1 : Int32)), .val (.int (1 : Int32)), .val (.int (1 : Int32))] [(.int (1 : Int32))])) _
    refine XS.ifNo X6.here hx rfl (hb hby at_103) rfl ((if0 _ _).trans (feq (by decide : ¬ ((1 : Int32) = (0 : Int32)))).1) ?_
    show Steps p.tables e below (T6.setTop (mkF m 106 #[.val (.int p1), .val (.int (1 : Int32)), .val (.int (1 : Int32)), .val (.ref w3), .val (.int (1 : Int32)), .val (.int (1 : Int32)), .val (.int (1 : Int32)), .val (.int (1 : Int32))] [])) _
    refine XS.iconst X6.here hx rfl (hb hby at_106) ?_
    show Steps p.tables e below (T6.setTop (mkF m 107 #[.val (.int p1), .val (.int (1 : Int32)), .val (.int (1 : Int32)), .val (.ref w3), .val (.int (1 : Int32)), .val (.int (1 : Int32)), .val (.int (1 : Int32)), .val (.int (1 : Int32))] [(.int (1 : Int32))])) _
    refine XS.goto X6.here hx rfl (pc0 := 107) (pc' := 111) rfl (hb hby at_107) (by decide) (by decide) ?_
    show Steps p.tables e below (T6.setTop (mkF m 111 #[.val (.int p1), .val (.int (1 : Int32)), .val (.int (1 : Int32)), .val (.ref w3), .val (.int (1 : Int32)), .val (.int (1 : Int32)), .val (.int (1 : Int32)), .val (.int (1 : Int32))] [(.int (1 : Int32))])) _
    exact retN X6 hx (t := .boolean) Bd.returns (by simp) (hb hby at_111) hr
  · show own_R n0 _ T6.heap _
    rw [e6]
    exact ⟨rfl, N2⟩
set_option maxRecDepth 65536 in
set_option maxHeartbeats 40000000 in
theorem rm0B (l : Launch) (Z : State) (a0 : Array Value) (hw : ∀ d ∈ tables_1, d.before a0 Z = true) (ws : List Jvm.Cond) (p1 : Int32) (w3 : Addr) (w5 : Addr) (h0 : Heap) (n0 : Nat) (Z0 : n0 ≤ h0.size) (S_EMPTY : Sta Z h0 "com/example/dispensd/dispensd/Mechanism$Level" "EMPTY" "Lcom/example/dispensd/dispensd/Mechanism$Level;" (.ref w3)) (S_STOCKED : Sta Z h0 "com/example/dispensd/dispensd/Mechanism$Level" "STOCKED" "Lcom/example/dispensd/dispensd/Mechanism$Level;" (.ref w5)) (hc3 : ¬ ((p1 &&& (1 : Int32)) = (0 : Int32))) (hc15 : (p1 &&& (2 : Int32)) = (0 : Int32)) (ha34 : w3 = w3) (ha48 : ¬ (w3 = w5)) :
    MetFree l x (head1 (Jvm.Cond.code x code maxLocals ret :: ws) room_1) (fun a U => a = #[(.int p1)] ∧ Z.Warmed39 U.vm ∧ U.heap = h0) (fun _ _ _ _ _ => True) (fun _ U o U' => ∃ v L, o = .returned v ∧ own_R n0 v U'.heap L ∧ FrameEnd U o U' L room_1.cells room_1.slots) := by
  refine MetFree.of_bodySF (plainFor_of_name pn_0) hisR ?_
  intro p e s m args below meth c s₁ Bd hml0 hP hK
  obtain ⟨rfl, hZ, hh⟩ := hP
  have hx := Bd.exec
  have hby := Bd.bytes
  have hml : c.maxLocals = 8 := hml0
  have hown : s.vm.findClass "com/example/dispensd/dispensd/LevelOfPinLaw" = some m.cls := findClass_of_methodNamed Bd.named
  have hnm := (name_of_methodNamed Bd.named Bd.method).1
  have X0 : Stand p l e room_1 s m #[(.int p1)] below meth c s₁ [] 0 0 := Stand.of_body Bd
  have e0 : s₁.heap = h0 := by rw [← hh, Bd.state]; rfl
  have N0 := Fr.nil n0
  have pre0 : ∀ t, Steps p.tables e below (s₁.setTop (mkF m 0 #[.val (.int p1), .unset, .unset, .unset, .unset, .unset, .unset, .unset] [])) t → Steps p.tables e below (s₁.setTop (entryFrame m #[(.int p1)] maxLocals)) t := fun t k => castTop (ef_0 m p1) k
  obtain ⟨_, _, ⟨T2, L2, k2, n2⟩, -, X2, ⟨Lc2, hQ2, l2, y2, z2⟩, st2⟩ := Jvm.LawKit.callS X0 hx (y := (⟨"com/example/dispensd/dispensd/Mechanism$Level", "of", "(ZZ)Lcom/example/dispensd/dispensd/Mechanism$Level;"⟩ : MethodName)) hown (mvT hZ (hw _ (List.mem_of_getElem? (i := 0) rfl))) (mvT hZ (hw _ (List.mem_of_getElem? (i := 1) rfl))) (mvT hZ (hw _ (List.mem_of_getElem? (i := 2) rfl))) (mvT hZ (hw _ (List.mem_of_getElem? (i := 3) rfl))) (by decide) (backOf (W := 0) (rm1E l Z a0 hw [] (1 : Int32) (0 : Int32) w3 h0 n0 Z0 S_EMPTY (by decide)) hZ (hw _ (List.mem_of_getElem? (i := 3) rfl)) (hw _ (List.mem_of_getElem? (i := 2) rfl)) (by decide) (by decide)) (g := (mkF m 26 #[.val (.int p1), .val (.int (1 : Int32)), .val (.int (0 : Int32)), .unset, .unset, .unset, .unset, .unset] [(.int (0 : Int32)), (.int (1 : Int32))])) rfl (by rw [hml]; rfl) (argsL := [(.int (1 : Int32)), (.int (0 : Int32))]) (rest := []) (lenOf pd_0_0 rfl) rfl (by show 2 * 0 + _ ≤ _; exact Nat.le_of_eq rfl) (hb hby at_26) (fun _ _ => ⟨rfl, e0, (by decide : 0 + 0 ≤ _), (by decide : 0 + 0 ≤ _)⟩)
  dsimp only [Pt.U, Pt.locs, Pt.cells, Pt.slots] at X2 l2 y2 z2 st2 hQ2
  subst l2 y2 z2
  obtain ⟨rfl, N2q, e2⟩ := hQ2      -- what it returned, that it wrote nothing old, and the rest of your Q1
  have N2 := Fr.app N0 N2q
  obtain ⟨T4, X4, e4, st4⟩ := getS2 X2 hx hZ hown (host := "") (Or.inl (hw _ (List.mem_of_getElem? (i := 6) rfl))) Via.refl e2 S_EMPTY (g := (mkF m 31 #[.val (.int p1), .val (.int (1 : Int32)), .val (.int (0 : Int32)), .val (.ref w3), .unset, .unset, .unset, .unset] [(.ref w3)])) rfl (hb hby at_31)
  obtain ⟨T6, X6, e6, st6⟩ := getS2 X4 hx hZ hown (host := "") (Or.inl (hw _ (List.mem_of_getElem? (i := 8) rfl))) Via.refl e4 S_STOCKED (g := (mkF m 45 #[.val (.int p1), .val (.int (1 : Int32)), .val (.int (0 : Int32)), .val (.ref w3), .val (.int (1 : Int32)), .unset, .unset, .unset] [(.ref w3)])) rfl (hb hby at_45)
  obtain ⟨fs, hr, hrun, hended, hW, hsame⟩ := X6.leave (v := some (.int (1 : Int32))) (fun h => by rw [Bd.returns] at h; cases h)
  refine ⟨_, _, pre0 _ ?_, hrun, hended, _, _, rfl, ?_, ⟨_, rfl⟩, hW, hsame.mono (by decide) (by decide)⟩
  · show Steps p.tables e below (s₁.setTop (mkF m 0 #[.val (.int p1), .unset, .unset, .unset, .unset, .unset, .unset, .unset] [])) _
    refine XS.iloadN X0.here hx rfl (hb hby at_0) rfl ?_
    show Steps p.tables e below (s₁.setTop (mkF m 1 #[.val (.int p1), .unset, .unset, .unset, .unset, .unset, .unset, .unset] [(.int p1)])) _
    refine XS.iconst X0.here hx rfl (hb hby at_1) ?_
    show Steps p.tables e below (s₁.setTop (mkF m 2 #[.val (.int p1), .unset, .unset, .unset, .unset, .unset, .unset, .unset] [(.int (1 : Int32)), (.int p1)])) _
    refine XS.iand X0.here hx rfl (hb hby at_2) rfl ?_
    show Steps p.tables e below (s₁.setTop (mkF m 3 #[.val (.int p1), .unset, .unset, .unset, .unset, .unset, .unset, .unset] [(.int (p1 &&& (1 : Int32)))])) _
    refine XS.ifNo X0.here hx rfl (hb hby at_3) rfl ((if0 _ _).trans (feq hc3).1) ?_
    show Steps p.tables e below (s₁.setTop (mkF m 6 #[.val (.int p1), .unset, .unset, .unset, .unset, .unset, .unset, .unset] [])) _
    refine XS.iconst X0.here hx rfl (hb hby at_6) ?_
    show Steps p.tables e below (s₁.setTop (mkF m 7 #[.val (.int p1), .unset, .unset, .unset, .unset, .unset, .unset, .unset] [(.int (1 : Int32))])) _
    refine XS.goto X0.here hx rfl (pc0 := 7) (pc' := 11) rfl (hb hby at_7) (by decide) (by decide) ?_
    show Steps p.tables e below (s₁.setTop (mkF m 11 #[.val (.int p1), .unset, .unset, .unset, .unset, .unset, .unset, .unset] [(.int (1 : Int32))])) _
    refine XS.istoreN X0.here hx rfl (hb hby at_11) rfl (l' := #[.val (.int p1), .val (.int (1 : Int32)), .unset, .unset, .unset, .unset, .unset, .unset]) rfl ?_
    show Steps p.tables e below (s₁.setTop (mkF m 12 #[.val (.int p1), .val (.int (1 : Int32)), .unset, .unset, .unset, .unset, .unset, .unset] [])) _
    refine XS.iloadN X0.here hx rfl (hb hby at_12) rfl ?_
    show Steps p.tables e below (s₁.setTop (mkF m 13 #[.val (.int p1), .val (.int (1 : Int32)), .unset, .unset, .unset, .unset, .unset, .unset] [(.int p1)])) _
    refine XS.iconst X0.here hx rfl (hb hby at_13) ?_
    show Steps p.tables e below (s₁.setTop (mkF m 14 #[.val (.int p1), .val (.int (1 : Int32)), .unset, .unset, .unset, .unset, .unset, .unset] [(.int (2 : Int32)), (.int p1)])) _
    refine XS.iand X0.here hx rfl (hb hby at_14) rfl ?_
    show Steps p.tables e below (s₁.setTop (mkF m 15 #[.val (.int p1), .val (.int (1 : Int32)), .unset, .unset, .unset, .unset, .unset, .unset] [(.int (p1 &&& (2 : Int32)))])) _
    refine XS.ifYes X0.here hx rfl (pc0 := 15) (pc' := 22) rfl (hb hby at_15) rfl ((if0 _ _).trans (teq hc15).1) (by decide) (by decide) ?_
    show Steps p.tables e below (s₁.setTop (mkF m 22 #[.val (.int p1), .val (.int (1 : Int32)), .unset, .unset, .unset, .unset, .unset, .unset] [])) _
    refine XS.iconst X0.here hx rfl (hb hby at_22) ?_
    show Steps p.tables e below (s₁.setTop (mkF m 23 #[.val (.int p1), .val (.int (1 : Int32)), .unset, .unset, .unset, .unset, .unset, .unset] [(.int (0 : Int32))])) _
    refine XS.istoreN X0.here hx rfl (hb hby at_23) rfl (l' := #[.val (.int p1), .val (.int (1 : Int32)), .val (.int (0 : Int32)), .unset, .unset, .unset, .unset, .unset]) rfl ?_
    show Steps p.tables e below (s₁.setTop (mkF m 24 #[.val (.int p1), .val (.int (1 : Int32)), .val (.int (0 : Int32)), .unset, .unset, .unset, .unset, .unset] [])) _
    refine XS.iloadN X0.here hx rfl (hb hby at_24) rfl ?_
    show Steps p.tables e below (s₁.setTop (mkF m 25 #[.val (.int p1), .val (.int (1 : Int32)), .val (.int (0 : Int32)), .unset, .unset, .unset, .unset, .unset] [(.int (1 : Int32))])) _
    refine XS.iloadN X0.here hx rfl (hb hby at_25) rfl ?_
    show Steps p.tables e below (s₁.setTop (mkF m 26 #[.val (.int p1), .val (.int (1 : Int32)), .val (.int (0 : Int32)), .unset, .unset, .unset, .unset, .unset] [(.int (0 : Int32)), (.int (1 : Int32))])) _
    refine st2 _ ?_
    show Steps p.tables e below (T2.setTop (mkF m 29 #[.val (.int p1), .val (.int (1 : Int32)), .val (.int (0 : Int32)), .unset, .unset, .unset, .unset, .unset] [(.ref w3)])) _
    refine XS.astoreN X2.here hx rfl (hb hby at_29) rfl rfl (l' := #[.val (.int p1), .val (.int (1 : Int32)), .val (.int (0 : Int32)), .val (.ref w3), .unset, .unset, .unset, .unset]) rfl ?_
    show Steps p.tables e below (T2.setTop (mkF m 30 #[.val (.int p1), .val (.int (1 : Int32)), .val (.int (0 : Int32)), .val (.ref w3), .unset, .unset, .unset, .unset] [])) _
    refine XS.aloadN X2.here hx rfl (hb hby at_30) rfl rfl ?_
    show Steps p.tables e below (T2.setTop (mkF m 31 #[.val (.int p1), .val (.int (1 : Int32)), .val (.int (0 : Int32)), .val (.ref w3), .unset, .unset, .unset, .unset] [(.ref w3)])) _
    refine st4 _ ?_
    show Steps p.tables e below (T4.setTop (mkF m 34 #[.val (.int p1), .val (.int (1 : Int32)), .val (.int (0 : Int32)), .val (.ref w3), .unset, .unset, .unset, .unset] [(.ref w3), (.ref w3)])) _
    refine Jvm.RoadKit.acmp (g := (mkF m 34 #[.val (.int p1), .val (.int (1 : Int32)), .val (.int (0 : Int32)), .val (.ref w3), .unset, .unset, .unset, .unset] [(.ref w3), (.ref w3)])) X4 hx rfl rfl rfl (pc0 := 34) (pc' := 37) (same := true) rfl (hb hby at_34) rfl (decide_eq_true (congrArg Value.ref ha34)) (by decide) (by decide) ?_
    show Steps p.tables e below (T4.setTop (mkF m 37 #[.val (.int p1), .val (.int (1 : Int32)), .val (.int (0 : Int32)), .val (.ref w3), .unset, .unset, .unset, .unset] [])) _
    refine XS.iconst X4.here hx rfl (hb hby at_37) ?_
    show Steps p.tables e below (T4.setTop (mkF m 38 #[.val (.int p1), .val (.int (1 : Int32)), .val (.int (0 : Int32)), .val (.ref w3), .unset, .unset, .unset, .unset] [(.int (1 : Int32))])) _
    refine XS.goto X4.here hx rfl (pc0 := 38) (pc' := 42) rfl (hb hby at_38) (by decide) (by decide) ?_
    show Steps p.tables e below (T4.setTop (mkF m 42 #[.val (.int p1), .val (.int (1 : Int32)), .val (.int (0 : Int32)), .val (.ref w3), .unset, .unset, .unset, .unset] [(.int (1 : Int32))])) _
    refine XS.istore X4.here hx rfl (hb hby at_42) rfl (l' := #[.val (.int p1), .val (.int (1 : Int32)), .val (.int (0 : Int32)), .val (.ref w3), .val (.int (1 : Int32)), .unset, .unset, .unset]) rfl ?_
    show Steps p.tables e below (T4.setTop (mkF m 44 #[.val (.int p1), .val (.int (1 : Int32)), .val (.int (0 : Int32)), .val (.ref w3), .val (.int (1 : Int32)), .unset, .unset, .unset] [])) _
    refine XS.aloadN X4.here hx rfl (hb hby at_44) rfl rfl ?_
    show Steps p.tables e below (T4.setTop (mkF m 45 #[.val (.int p1), .val (.int (1 : Int32)), .val (.int (0 : Int32)), .val (.ref w3), .val (.int (1 : Int32)), .unset, .unset, .unset] [(.ref w3)])) _
    refine st6 _ ?_
    show Steps p.tables e below (T6.setTop (mkF m 48 #[.val (.int p1), .val (.int (1 : Int32)), .val (.int (0 : Int32)), .val (.ref w3), .val (.int (1 : Int32)), .unset, .unset, .unset] [(.ref w5), (.ref w3)])) _
    refine Jvm.RoadKit.acmp (g := (mkF m 48 #[.val (.int p1), .val (.int (1 : Int32)), .val (.int (0 : Int32)), .val (.ref w3), .val (.int (1 : Int32)), .unset, .unset, .unset] [(.ref w5), (.ref w3)])) X6 hx rfl rfl rfl (pc0 := 48) (pc' := 51) (same := false) rfl (hb hby at_48) rfl (decide_eq_false fun q => ha48 (Value.ref.inj q)) (by decide) (by decide) ?_
    show Steps p.tables e below (T6.setTop (mkF m 51 #[.val (.int p1), .val (.int (1 : Int32)), .val (.int (0 : Int32)), .val (.ref w3), .val (.int (1 : Int32)), .unset, .unset, .unset] [])) _
    refine XS.iconst X6.here hx rfl (hb hby at_51) ?_
    show Steps p.tables e below (T6.setTop (mkF m 52 #[.val (.int p1), .val (.int (1 : Int32)), .val (.int (0 : Int32)), .val (.ref w3), .val (.int (1 : Int32)), .unset, .unset, .unset] [(.int (1 : Int32))])) _
    refine XS.goto X6.here hx rfl (pc0 := 52) (pc' := 56) rfl (hb hby at_52) (by decide) (by decide) ?_
    show Steps p.tables e below (T6.setTop (mkF m 56 #[.val (.int p1), .val (.int (1 : Int32)), .val (.int (0 : Int32)), .val (.ref w3), .val (.int (1 : Int32)), .unset, .unset, .unset] [(.int (1 : Int32))])) _
    refine XS.istore X6.here hx rfl (hb hby at_56) rfl (l' := #[.val (.int p1), .val (.int (1 : Int32)), .val (.int (0 : Int32)), .val (.ref w3), .val (.int (1 : Int32)), .val (.int (1 : Int32)), .unset, .unset]) rfl ?_
    show Steps p.tables e below (T6.setTop (mkF m 58 #[.val (.int p1), .val (.int (1 : Int32)), .val (.int (0 : Int32)), .val (.ref w3), .val (.int (1 : Int32)), .val (.int (1 : Int32)), .unset, .unset] [])) _
    refine XS.iload X6.here hx rfl (hb hby at_58) rfl ?_
    show Steps p.tables e below (T6.setTop (mkF m 60 #[.val (.int p1), .val (.int (1 : Int32)), .val (.int (0 : Int32)), .val (.ref w3), .val (.int (1 : Int32)), .val (.int (1 : Int32)), .unset, .unset] [(.int (1 : Int32))])) _
    refine XS.iloadN X6.here hx rfl (hb hby at_60) rfl ?_
    show Steps p.tables e below (T6.setTop (mkF m 61 #[.val (.int p1), .val (.int (1 : Int32)), .val (.int (0 : Int32)), .val (.ref w3), .val (.int (1 : Int32)), .val (.int (1 : Int32)), .unset, .unset] [(.int (1 : Int32)), (.int (1 : Int32))])) _
    refine XS.icmpNo X6.here hx rfl (hb hby at_61) rfl (teq (rfl : (1 : Int32) = (1 : Int32))).2 ?_
    show Steps p.tables e below (T6.setTop (mkF m 64 #[.val (.int p1), .val (.int (1 : Int32)), .val (.int (0 : Int32)), .val (.ref w3), .val (.int (1 : Int32)), .val (.int (1 : Int32)), .unset, .unset] [])) _
    refine XS.iconst X6.here hx rfl (hb hby at_64) ?_
    show Steps p.tables e below (T6.setTop (mkF m 65 #[.val (.int p1), .val (.int (1 : Int32)), .val (.int (0 : Int32)), .val (.ref w3), .val (.int (1 : Int32)), .val (.int (1 : Int32)), .unset, .unset] [(.int (1 : Int32))])) _
    refine XS.goto X6.here hx rfl (pc0 := 65) (pc' := 69) rfl (hb hby at_65) (by decide) (by decide) ?_
    show Steps p.tables e below (T6.setTop (mkF m 69 #[.val (.int p1), .val (.int (1 : Int32)), .val (.int (0 : Int32)), .val (.ref w3), .val (.int (1 : Int32)), .val (.int (1 : Int32)), .unset, .unset] [(.int (1 : Int32))])) _
    refine XS.istore X6.here hx rfl (hb hby at_69) rfl (l' := #[.val (.int p1), .val (.int (1 : Int32)), .val (.int (0 : Int32)), .val (.ref w3), .val (.int (1 : Int32)), .val (.int (1 : Int32)), .val (.int (1 : Int32)), .unset]) rfl ?_
    show Steps p.tables e below (T6.setTop (mkF m 71 #[.val (.int p1), .val (.int (1 : Int32)), .val (.int (0 : Int32)), .val (.ref w3), .val (.int (1 : Int32)), .val (.int (1 : Int32)), .val (.int (1 : Int32)), .unset] [])) _
    refine XS.iload X6.here hx rfl (hb hby at_71) rfl ?_
    show Steps p.tables e below (T6.setTop (mkF m 73 #[.val (.int p1), .val (.int (1 : Int32)), .val (.int (0 : Int32)), .val (.ref w3), .val (.int (1 : Int32)), .val (.int (1 : Int32)), .val (.int (1 : Int32)), .unset] [(.int (1 : Int32))])) _
    refine XS.iloadN X6.here hx rfl (hb hby at_73) rfl ?_
    show Steps p.tables e below (T6.setTop (mkF m 74 #[.val (.int p1), .val (.int (1 : Int32)), .val (.int (0 : Int32)), .val (.ref w3), .val (.int (1 : Int32)), .val (.int (1 : Int32)), .val (.int (1 : Int32)), .unset] [(.int (1 : Int32)), (.int (1 : Int32))])) _
    refine XS.ifYes X6.here hx rfl (pc0 := 74) (pc' := 81) rfl (hb hby at_74) rfl ((if0 _ _).trans (feq (by decide : ¬ ((1 : Int32) = (0 : Int32)))).2) (by decide) (by decide) ?_
    show Steps p.tables e below (T6.setTop (mkF m 81 #[.val (.int p1), .val (.int (1 : Int32)), .val (.int (0 : Int32)), .val (.ref w3), .val (.int (1 : Int32)), .val (.int (1 : Int32)), .val (.int (1 : Int32)), .unset] [(.int (1 : Int32))])) _
    refine XS.iconst X6.here hx rfl (hb hby at_81) ?_
    show Steps p.tables e below (T6.setTop (mkF m 82 #[.val (.int p1), .val (.int (1 : Int32)), .val (.int (0 : Int32)), .val (.ref w3), .val (.int (1 : Int32)), .val (.int (1 : Int32)), .val (.int (1 : Int32)), .unset] [(.int (1 : Int32)), (.int (1 : Int32))])) _
    refine XS.goto X6.here hx rfl (pc0 := 82) (pc' := 86) rfl (hb hby at_82) (by decide) (by decide) ?_
    show Steps p.tables e below (T6.setTop (mkF m 86 #[.val (.int p1), .val (.int (1 : Int32)), .val (.int (0 : Int32)), .val (.ref w3), .val (.int (1 : Int32)), .val (.int (1 : Int32)), .val (.int (1 : Int32)), .unset] [(.int (1 : Int32)), (.int (1 : Int32))])) _
    refine XS.icmpNo X6.here hx rfl (hb hby at_86) rfl (teq (rfl : (1 : Int32) = (1 : Int32))).2 ?_
    show Steps p.tables e below (T6.setTop (mkF m 89 #[.val (.int p1), .val (.int (1 : Int32)), .val (.int (0 : Int32)), .val (.ref w3), .val (.int (1 : Int32)), .val (.int (1 : Int32)), .val (.int (1 : Int32)), .unset] [])) _
    refine XS.iconst X6.here hx rfl (hb hby at_89) ?_
    show Steps p.tables e below (T6.setTop (mkF m 90 #[.val (.int p1), .val (.int (1 : Int32)), .val (.int (0 : Int32)), .val (.ref w3), .val (.int (1 : Int32)), .val (.int (1 : Int32)), .val (.int (1 : Int32)), .unset] [(.int (1 : Int32))])) _
    refine XS.goto X6.here hx rfl (pc0 := 90) (pc' := 94) rfl (hb hby at_90) (by decide) (by decide) ?_
    show Steps p.tables e below (T6.setTop (mkF m 94 #[.val (.int p1), .val (.int (1 : Int32)), .val (.int (0 : Int32)), .val (.ref w3), .val (.int (1 : Int32)), .val (.int (1 : Int32)), .val (.int (1 : Int32)), .unset] [(.int (1 : Int32))])) _
    refine XS.istore X6.here hx rfl (hb hby at_94) rfl (l' := #[.val (.int p1), .val (.int (1 : Int32)), .val (.int (0 : Int32)), .val (.ref w3), .val (.int (1 : Int32)), .val (.int (1 : Int32)), .val (.int (1 : Int32)), .val (.int (1 : Int32))]) rfl ?_
    show Steps p.tables e below (T6.setTop (mkF m 96 #[.val (.int p1), .val (.int (1 : Int32)), .val (.int (0 : Int32)), .val (.ref w3), .val (.int (1 : Int32)), .val (.int (1 : Int32)), .val (.int (1 : Int32)), .val (.int (1 : Int32))] [])) _
    refine XS.iload X6.here hx rfl (hb hby at_96) rfl ?_
    show Steps p.tables e below (T6.setTop (mkF m 98 #[.val (.int p1), .val (.int (1 : Int32)), .val (.int (0 : Int32)), .val (.ref w3), .val (.int (1 : Int32)), .val (.int (1 : Int32)), .val (.int (1 : Int32)), .val (.int (1 : Int32))] [(.int (1 : Int32))])) _
    refine XS.ifNo X6.here hx rfl (hb hby at_98) rfl ((if0 _ _).trans (feq (by decide : ¬ ((1 : Int32) = (0 : Int32)))).1) ?_
    show Steps p.tables e below (T6.setTop (mkF m 101 #[.val (.int p1), .val (.int (1 : Int32)), .val (.int (0 : Int32)), .val (.ref w3), .val (.int (1 : Int32)), .val (.int (1 : Int32)), .val (.int (1 : Int32)), .val (.int (1 : Int32))] [])) _
    refine XS.iload X6.here hx rfl (hb hby at_101) rfl ?_
    show Steps p.tables e below (T6.setTop (mkF m 103 #[.val (.int p1), .val (.int (1 : Int32)), .val (.int (0 : Int32)), .val (.ref w3), .val (.int (1 : Int32)), .val (.int (1 : Int32)), .val (.int (1 : Int32)), .val (.int (1 : Int32))] [(.int (1 : Int32))])) _
    refine XS.ifNo X6.here hx rfl (hb hby at_103) rfl ((if0 _ _).trans (feq (by decide : ¬ ((1 : Int32) = (0 : Int32)))).1) ?_
    show Steps p.tables e below (T6.setTop (mkF m 106 #[.val (.int p1), .val (.int (1 : Int32)), .val (.int (0 : Int32)), .val (.ref w3), .val (.int (1 : Int32)), .val (.int (1 : Int32)), .val (.int (1 : Int32)), .val (.int (1 : Int32))] [])) _
    refine XS.iconst X6.here hx rfl (hb hby at_106) ?_
    show Steps p.tables e below (T6.setTop (mkF m 107 #[.val (.int p1), .val (.int (1 : Int32)), .val (.int (0 : Int32)), .val (.ref w3), .val (.int (1 : Int32)), .val (.int (1 : Int32)), .val (.int (1 : Int32)), .val (.int (1 : Int32))] [(.int (1 : Int32))])) _
    refine XS.goto X6.here hx rfl (pc0 := 107) (pc' := 111) rfl (hb hby at_107) (by decide) (by decide) ?_
    show Steps p.tables e below (T6.setTop (mkF m 111 #[.val (.int p1), .val (.int (1 : Int32)), .val (.int (0 : Int32)), .val (.ref w3), .val (.int (1 : Int32)), .val (.int (1 : Int32)), .val (.int (1 : Int32)), .val (.int (1 : Int32))] [(.int (1 : Int32))])) _
    exact retN X6 hx (t := .boolean) Bd.returns (by simp) (hb hby at_111) hr
  · show own_R n0 _ T6.heap _
    rw [e6]
    exact ⟨rfl, N2⟩
set_option maxRecDepth 65536 in
set_option maxHeartbeats 40000000 in
theorem rm0C (l : Launch) (Z : State) (a0 : Array Value) (hw : ∀ d ∈ tables_1, d.before a0 Z = true) (ws : List Jvm.Cond) (p1 : Int32) (w3 : Addr) (w5 : Addr) (w7 : Addr) (h0 : Heap) (n0 : Nat) (Z0 : n0 ≤ h0.size) (S_LOW : Sta Z h0 own_L "LOW" own_LD (.ref w7)) (S_EMPTY : Sta Z h0 "com/example/dispensd/dispensd/Mechanism$Level" "EMPTY" "Lcom/example/dispensd/dispensd/Mechanism$Level;" (.ref w3)) (S_STOCKED : Sta Z h0 "com/example/dispensd/dispensd/Mechanism$Level" "STOCKED" "Lcom/example/dispensd/dispensd/Mechanism$Level;" (.ref w5)) (hc3 : (p1 &&& (1 : Int32)) = (0 : Int32)) (hc15 : ¬ ((p1 &&& (2 : Int32)) = (0 : Int32))) (ha34 : ¬ (w7 = w3)) (ha48 : ¬ (w7 = w5)) :
    MetFree l x (head1 (Jvm.Cond.code x code maxLocals ret :: ws) room_1) (fun a U => a = #[(.int p1)] ∧ Z.Warmed39 U.vm ∧ U.heap = h0) (fun _ _ _ _ _ => True) (fun _ U o U' => ∃ v L, o = .returned v ∧ own_R n0 v U'.heap L ∧ FrameEnd U o U' L room_1.cells room_1.slots) := by
  refine MetFree.of_bodySF (plainFor_of_name pn_0) hisR ?_
  intro p e s m args below meth c s₁ Bd hml0 hP hK
  obtain ⟨rfl, hZ, hh⟩ := hP
  have hx := Bd.exec
  have hby := Bd.bytes
  have hml : c.maxLocals = 8 := hml0
  have hown : s.vm.findClass "com/example/dispensd/dispensd/LevelOfPinLaw" = some m.cls := findClass_of_methodNamed Bd.named
  have hnm := (name_of_methodNamed Bd.named Bd.method).1
  have X0 : Stand p l e room_1 s m #[(.int p1)] below meth c s₁ [] 0 0 := Stand.of_body Bd
  have e0 : s₁.heap = h0 := by rw [← hh, Bd.state]; rfl
  have N0 := Fr.nil n0
  have pre0 : ∀ t, Steps p.tables e below (s₁.setTop (mkF m 0 #[.val (.int p1), .unset, .unset, .unset, .unset, .unset, .unset, .unset] [])) t → Steps p.tables e below (s₁.setTop (entryFrame m #[(.int p1)] maxLocals)) t := fun t k => castTop (ef_0 m p1) k
  obtain ⟨_, _, ⟨T2, L2, k2, n2⟩, -, X2, ⟨Lc2, hQ2, l2, y2, z2⟩, st2⟩ := Jvm.LawKit.callS X0 hx (y := (⟨"com/example/dispensd/dispensd/Mechanism$Level", "of", "(ZZ)Lcom/example/dispensd/dispensd/Mechanism$Level;"⟩ : MethodName)) hown (mvT hZ (hw _ (List.mem_of_getElem? (i := 0) rfl))) (mvT hZ (hw _ (List.mem_of_getElem? (i := 1) rfl))) (mvT hZ (hw _ (List.mem_of_getElem? (i := 2) rfl))) (mvT hZ (hw _ (List.mem_of_getElem? (i := 3) rfl))) (by decide) (backOf (W := 0) (rm1L l Z a0 hw [] (0 : Int32) (1 : Int32) w7 h0 n0 Z0 S_LOW rfl (by decide)) hZ (hw _ (List.mem_of_getElem? (i := 3) rfl)) (hw _ (List.mem_of_getElem? (i := 2) rfl)) (by decide) (by decide)) (g := (mkF m 26 #[.val (.int p1), .val (.int (0 : Int32)), .val (.int (1 : Int32)), .unset, .unset, .unset, .unset, .unset] [(.int (1 : Int32)), (.int (0 : Int32))])) rfl (by rw [hml]; rfl) (argsL := [(.int (0 : Int32)), (.int (1 : Int32))]) (rest := []) (lenOf pd_0_0 rfl) rfl (by show 2 * 0 + _ ≤ _; exact Nat.le_of_eq rfl) (hb hby at_26) (fun _ _ => ⟨rfl, e0, (by decide : 0 + 0 ≤ _), (by decide : 0 + 0 ≤ _)⟩)
  dsimp only [Pt.U, Pt.locs, Pt.cells, Pt.slots] at X2 l2 y2 z2 st2 hQ2
  subst l2 y2 z2
  obtain ⟨rfl, N2q, e2⟩ := hQ2      -- what it returned, that it wrote nothing old, and the rest of your Q1
  have N2 := Fr.app N0 N2q
  obtain ⟨T4, X4, e4, st4⟩ := getS2 X2 hx hZ hown (host := "") (Or.inl (hw _ (List.mem_of_getElem? (i := 6) rfl))) Via.refl e2 S_EMPTY (g := (mkF m 31 #[.val (.int p1), .val (.int (0 : Int32)), .val (.int (1 : Int32)), .val (.ref w7), .unset, .unset, .unset, .unset] [(.ref w7)])) rfl (hb hby at_31)
  obtain ⟨T6, X6, e6, st6⟩ := getS2 X4 hx hZ hown (host := "") (Or.inl (hw _ (List.mem_of_getElem? (i := 8) rfl))) Via.refl e4 S_STOCKED (g := (mkF m 45 #[.val (.int p1), .val (.int (0 : Int32)), .val (.int (1 : Int32)), .val (.ref w7), .val (.int (0 : Int32)), .unset, .unset, .unset] [(.ref w7)])) rfl (hb hby at_45)
  obtain ⟨fs, hr, hrun, hended, hW, hsame⟩ := X6.leave (v := some (.int (1 : Int32))) (fun h => by rw [Bd.returns] at h; cases h)
  refine ⟨_, _, pre0 _ ?_, hrun, hended, _, _, rfl, ?_, ⟨_, rfl⟩, hW, hsame.mono (by decide) (by decide)⟩
  · show Steps p.tables e below (s₁.setTop (mkF m 0 #[.val (.int p1), .unset, .unset, .unset, .unset, .unset, .unset, .unset] [])) _
    refine XS.iloadN X0.here hx rfl (hb hby at_0) rfl ?_
    show Steps p.tables e below (s₁.setTop (mkF m 1 #[.val (.int p1), .unset, .unset, .unset, .unset, .unset, .unset, .unset] [(.int p1)])) _
    refine XS.iconst X0.here hx rfl (hb hby at_1) ?_
    show Steps p.tables e below (s₁.setTop (mkF m 2 #[.val (.int p1), .unset, .unset, .unset, .unset, .unset, .unset, .unset] [(.int (1 : Int32)), (.int p1)])) _
    refine XS.iand X0.here hx rfl (hb hby at_2) rfl ?_
    show Steps p.tables e below (s₁.setTop (mkF m 3 #[.val (.int p1), .unset, .unset, .unset, .unset, .unset, .unset, .unset] [(.int (p1 &&& (1 : Int32)))])) _
    refine XS.ifYes X0.here hx rfl (pc0 := 3) (pc' := 10) rfl (hb hby at_3) rfl ((if0 _ _).trans (teq hc3).1) (by decide) (by decide) ?_
    show Steps p.tables e below (s₁.setTop (mkF m 10 #[.val (.int p1), .unset, .unset, .unset, .unset, .unset, .unset, .unset] [])) _
    refine XS.iconst X0.here hx rfl (hb hby at_10) ?_
    show Steps p.tables e below (s₁.setTop (mkF m 11 #[.val (.int p1), .unset, .unset, .unset, .unset, .unset, .unset, .unset] [(.int (0 : Int32))])) _
    refine XS.istoreN X0.here hx rfl (hb hby at_11) rfl (l' := #[.val (.int p1), .val (.int (0 : Int32)), .unset, .unset, .unset, .unset, .unset, .unset]) rfl ?_
    show Steps p.tables e below (s₁.setTop (mkF m 12 #[.val (.int p1), .val (.int (0 : Int32)), .unset, .unset, .unset, .unset, .unset, .unset] [])) _
    refine XS.iloadN X0.here hx rfl (hb hby at_12) rfl ?_
    show Steps p.tables e below (s₁.setTop (mkF m 13 #[.val (.int p1), .val (.int (0 : Int32)), .unset, .unset, .unset, .unset, .unset, .unset] [(.int p1)])) _
    refine XS.iconst X0.here hx rfl (hb hby at_13) ?_
    show Steps p.tables e below (s₁.setTop (mkF m 14 #[.val (.int p1), .val (.int (0 : Int32)), .unset, .unset, .unset, .unset, .unset, .unset] [(.int (2 : Int32)), (.int p1)])) _
    refine XS.iand X0.here hx rfl (hb hby at_14) rfl ?_
    show Steps p.tables e below (s₁.setTop (mkF m 15 #[.val (.int p1), .val (.int (0 : Int32)), .unset, .unset, .unset, .unset, .unset, .unset] [(.int (p1 &&& (2 : Int32)))])) _
    refine XS.ifNo X0.here hx rfl (hb hby at_15) rfl ((if0 _ _).trans (feq hc15).1) ?_
    show Steps p.tables e below (s₁.setTop (mkF m 18 #[.val (.int p1), .val (.int (0 : Int32)), .unset, .unset, .unset, .unset, .unset, .unset] [])) _
    refine XS.iconst X0.here hx rfl (hb hby at_18) ?_
    show Steps p.tables e below (s₁.setTop (mkF m 19 #[.val (.int p1), .val (.int (0 : Int32)), .unset, .unset, .unset, .unset, .unset, .unset] [(.int (1 : Int32))])) _
    refine XS.goto X0.here hx rfl (pc0 := 19) (pc' := 23) rfl (hb hby at_19) (by decide) (by decide) ?_
    show Steps p.tables e below (s₁.setTop (mkF m 23 #[.val (.int p1), .val (.int (0 : Int32)), .unset, .unset, .unset, .unset, .unset, .unset] [(.int (1 : Int32))])) _
    refine XS.istoreN X0.here hx rfl (hb hby at_23) rfl (l' := #[.val (.int p1), .val (.int (0 : Int32)), .val (.int (1 : Int32)), .unset, .unset, .unset, .unset, .unset]) rfl ?_
    show Steps p.tables e below (s₁.setTop (mkF m 24 #[.val (.int p1), .val (.int (0 : Int32)), .val (.int (1 : Int32)), .unset, .unset, .unset, .unset, .unset] [])) _
    refine XS.iloadN X0.here hx rfl (hb hby at_24) rfl ?_
    show Steps p.tables e below (s₁.setTop (mkF m 25 #[.val (.int p1), .val (.int (0 : Int32)), .val (.int (1 : Int32)), .unset, .unset, .unset, .unset, .unset] [(.int (0 : Int32))])) _
    refine XS.iloadN X0.here hx rfl (hb hby at_25) rfl ?_
    show Steps p.tables e below (s₁.setTop (mkF m 26 #[.val (.int p1), .val (.int (0 : Int32)), .val (.int (1 : Int32)), .unset, .unset, .unset, .unset, .unset] [(.int (1 : Int32)), (.int (0 : Int32))])) _
    refine st2 _ ?_
    show Steps p.tables e below (T2.setTop (mkF m 29 #[.val (.int p1), .val (.int (0 : Int32)), .val (.int (1 : Int32)), .unset, .unset, .unset, .unset, .unset] [(.ref w7)])) _
    refine XS.astoreN X2.here hx rfl (hb hby at_29) rfl rfl (l' := #[.val (.int p1), .val (.int (0 : Int32)), .val (.int (1 : Int32)), .val (.ref w7), .unset, .unset, .unset, .unset]) rfl ?_
    show Steps p.tables e below (T2.setTop (mkF m 30 #[.val (.int p1), .val (.int (0 : Int32)), .val (.int (1 : Int32)), .val (.ref w7), .unset, .unset, .unset, .unset] [])) _
    refine XS.aloadN X2.here hx rfl (hb hby at_30) rfl rfl ?_
    show Steps p.tables e below (T2.setTop (mkF m 31 #[.val (.int p1), .val (.int (0 : Int32)), .val (.int (1 : Int32)), .val (.ref w7), .unset, .unset, .unset, .unset] [(.ref w7)])) _
    refine st4 _ ?_
    show Steps p.tables e below (T4.setTop (mkF m 34 #[.val (.int p1), .val (.int (0 : Int32)), .val (.int (1 : Int32)), .val (.ref w7), .unset, .unset, .unset, .unset] [(.ref w3), (.ref w7)])) _
    refine Jvm.RoadKit.acmp (g := (mkF m 34 #[.val (.int p1), .val (.int (0 : Int32)), .val (.int (1 : Int32)), .val (.ref w7), .unset, .unset, .unset, .unset] [(.ref w3), (.ref w7)])) X4 hx rfl rfl rfl (pc0 := 34) (pc' := 41) (same := false) rfl (hb hby at_34) rfl (decide_eq_false fun q => ha34 (Value.ref.inj q)) (by decide) (by decide) ?_
    show Steps p.tables e below (T4.setTop (mkF m 41 #[.val (.int p1), .val (.int (0 : Int32)), .val (.int (1 : Int32)), .val (.ref w7), .unset, .unset, .unset, .unset] [])) _
    refine XS.iconst X4.here hx rfl (hb hby at_41) ?_
    show Steps p.tables e below (T4.setTop (mkF m 42 #[.val (.int p1), .val (.int (0 : Int32)), .val (.int (1 : Int32)), .val (.ref w7), .unset, .unset, .unset, .unset] [(.int (0 : Int32))])) _
    refine XS.istore X4.here hx rfl (hb hby at_42) rfl (l' := #[.val (.int p1), .val (.int (0 : Int32)), .val (.int (1 : Int32)), .val (.ref w7), .val (.int (0 : Int32)), .unset, .unset, .unset]) rfl ?_
    show Steps p.tables e below (T4.setTop (mkF m 44 #[.val (.int p1), .val (.int (0 : Int32)), .val (.int (1 : Int32)), .val (.ref w7), .val (.int (0 : Int32)), .unset, .unset, .unset] [])) _
    refine XS.aloadN X4.here hx rfl (hb hby at_44) rfl rfl ?_
    show Steps p.tables e below (T4.setTop (mkF m 45 #[.val (.int p1), .val (.int (0 : Int32)), .val (.int (1 : Int32)), .val (.ref w7), .val (.int (0 : Int32)), .unset, .unset, .unset] [(.ref w7)])) _
    refine st6 _ ?_
    show Steps p.tables e below (T6.setTop (mkF m 48 #[.val (.int p1), .val (.int (0 : Int32)), .val (.int (1 : Int32)), .val (.ref w7), .val (.int (0 : Int32)), .unset, .unset, .unset] [(.ref w5), (.ref w7)])) _
    refine Jvm.RoadKit.acmp (g := (mkF m 48 #[.val (.int p1), .val (.int (0 : Int32)), .val (.int (1 : Int32)), .val (.ref w7), .val (.int (0 : Int32)), .unset, .unset, .unset] [(.ref w5), (.ref w7)])) X6 hx rfl rfl rfl (pc0 := 48) (pc' := 51) (same := false) rfl (hb hby at_48) rfl (decide_eq_false fun q => ha48 (Value.ref.inj q)) (by decide) (by decide) ?_
    show Steps p.tables e below (T6.setTop (mkF m 51 #[.val (.int p1), .val (.int (0 : Int32)), .val (.int (1 : Int32)), .val (.ref w7), .val (.int (0 : Int32)), .unset, .unset, .unset] [])) _
    refine XS.iconst X6.here hx rfl (hb hby at_51) ?_
    show Steps p.tables e below (T6.setTop (mkF m 52 #[.val (.int p1), .val (.int (0 : Int32)), .val (.int (1 : Int32)), .val (.ref w7), .val (.int (0 : Int32)), .unset, .unset, .unset] [(.int (1 : Int32))])) _
    refine XS.goto X6.here hx rfl (pc0 := 52) (pc' := 56) rfl (hb hby at_52) (by decide) (by decide) ?_
    show Steps p.tables e below (T6.setTop (mkF m 56 #[.val (.int p1), .val (.int (0 : Int32)), .val (.int (1 : Int32)), .val (.ref w7), .val (.int (0 : Int32)), .unset, .unset, .unset] [(.int (1 : Int32))])) _
    refine XS.istore X6.here hx rfl (hb hby at_56) rfl (l' := #[.val (.int p1), .val (.int (0 : Int32)), .val (.int (1 : Int32)), .val (.ref w7), .val (.int (0 : Int32)), .val (.int (1 : Int32)), .unset, .unset]) rfl ?_
    show Steps p.tables e below (T6.setTop (mkF m 58 #[.val (.int p1), .val (.int (0 : Int32)), .val (.int (1 : Int32)), .val (.ref w7), .val (.int (0 : Int32)), .val (.int (1 : Int32)), .unset, .unset] [])) _
    refine XS.iload X6.here hx rfl (hb hby at_58) rfl ?_
    show Steps p.tables e below (T6.setTop (mkF m 60 #[.val (.int p1), .val (.int (0 : Int32)), .val (.int (1 : Int32)), .val (.ref w7), .val (.int (0 : Int32)), .val (.int (1 : Int32)), .unset, .unset] [(.int (0 : Int32))])) _
    refine XS.iloadN X6.here hx rfl (hb hby at_60) rfl ?_
    show Steps p.tables e below (T6.setTop (mkF m 61 #[.val (.int p1), .val (.int (0 : Int32)), .val (.int (1 : Int32)), .val (.ref w7), .val (.int (0 : Int32)), .val (.int (1 : Int32)), .unset, .unset] [(.int (0 : Int32)), (.int (0 : Int32))])) _
    refine XS.icmpNo X6.here hx rfl (hb hby at_61) rfl (teq (rfl : (0 : Int32) = (0 : Int32))).2 ?_
    show Steps p.tables e below (T6.setTop (mkF m 64 #[.val (.int p1), .val (.int (0 : Int32)), .val (.int (1 : Int32)), .val (.ref w7), .val (.int (0 : Int32)), .val (.int (1 : Int32)), .unset, .unset] [])) _
    refine XS.iconst X6.here hx rfl (hb hby at_64) ?_
    show Steps p.tables e below (T6.setTop (mkF m 65 #[.val (.int p1), .val (.int (0 : Int32)), .val (.int (1 : Int32)), .val (.ref w7), .val (.int (0 : Int32)), .val (.int (1 : Int32)), .unset, .unset] [(.int (1 : Int32))])) _
    refine XS.goto X6.here hx rfl (pc0 := 65) (pc' := 69) rfl (hb hby at_65) (by decide) (by decide) ?_
    show Steps p.tables e below (T6.setTop (mkF m 69 #[.val (.int p1), .val (.int (0 : Int32)), .val (.int (1 : Int32)), .val (.ref w7), .val (.int (0 : Int32)), .val (.int (1 : Int32)), .unset, .unset] [(.int (1 : Int32))])) _
    refine XS.istore X6.here hx rfl (hb hby at_69) rfl (l' := #[.val (.int p1), .val (.int (0 : Int32)), .val (.int (1 : Int32)), .val (.ref w7), .val (.int (0 : Int32)), .val (.int (1 : Int32)), .val (.int (1 : Int32)), .unset]) rfl ?_
    show Steps p.tables e below (T6.setTop (mkF m 71 #[.val (.int p1), .val (.int (0 : Int32)), .val (.int (1 : Int32)), .val (.ref w7), .val (.int (0 : Int32)), .val (.int (1 : Int32)), .val (.int (1 : Int32)), .unset] [])) _
    refine XS.iload X6.here hx rfl (hb hby at_71) rfl ?_
    show Steps p.tables e below (T6.setTop (mkF m 73 #[.val (.int p1), .val (.int (0 : Int32)), .val (.int (1 : Int32)), .val (.ref w7), .val (.int (0 : Int32)), .val (.int (1 : Int32)), .val (.int (1 : Int32)), .unset] [(.int (1 : Int32))])) _
    refine XS.iloadN X6.here hx rfl (hb hby at_73) rfl ?_
    show Steps p.tables e below (T6.setTop (mkF m 74 #[.val (.int p1), .val (.int (0 : Int32)), .val (.int (1 : Int32)), .val (.ref w7), .val (.int (0 : Int32)), .val (.int (1 : Int32)), .val (.int (1 : Int32)), .unset] [(.int (0 : Int32)), (.int (1 : Int32))])) _
    refine XS.ifNo X6.here hx rfl (hb hby at_74) rfl ((if0 _ _).trans (teq (rfl : (0 : Int32) = (0 : Int32))).2) ?_
    show Steps p.tables e below (T6.setTop (mkF m 77 #[.val (.int p1), .val (.int (0 : Int32)), .val (.int (1 : Int32)), .val (.ref w7), .val (.int (0 : Int32)), .val (.int (1 : Int32)), .val (.int (1 : Int32)), .unset] [(.int (1 : Int32))])) _
    refine XS.iloadN X6.here hx rfl (hb hby at_77) rfl ?_
    show Steps p.tables e below (T6.setTop (mkF m 78 #[.val (.int p1), .val (.int (0 : Int32)), .val (.int (1 : Int32)), .val (.ref w7), .val (.int (0 : Int32)), .val (.int (1 : Int32)), .val (.int (1 : Int32)), .unset] [(.int (1 : Int32)), (.int (1 : Int32))])) _
    refine XS.ifNo X6.here hx rfl (hb hby at_78) rfl ((if0 _ _).trans (feq (by decide : ¬ ((1 : Int32) = (0 : Int32)))).1) ?_
    show Steps p.tables e below (T6.setTop (mkF m 81 #[.val (.int p1), .val (.int (0 : Int32)), .val (.int (1 : Int32)), .val (.ref w7), .val (.int (0 : Int32)), .val (.int (1 : Int32)), .val (.int (1 : Int32)), .unset] [(.int (1 : Int32))])) _
    refine XS.iconst X6.here hx rfl (hb hby at_81) ?_
    show Steps p.tables e below (T6.setTop (mkF m 82 #[.val (.int p1), .val (.int (0 : Int32)), .val (.int (1 : Int32)), .val (.ref w7), .val (.int (0 : Int32)), .val (.int (1 : Int32)), .val (.int (1 : Int32)), .unset] [(.int (1 : Int32)), (.int (1 : Int32))])) _
    refine XS.goto X6.here hx rfl (pc0 := 82) (pc' := 86) rfl (hb hby at_82) (by decide) (by decide) ?_
    show Steps p.tables e below (T6.setTop (mkF m 86 #[.val (.int p1), .val (.int (0 : Int32)), .val (.int (1 : Int32)), .val (.ref w7), .val (.int (0 : Int32)), .val (.int (1 : Int32)), .val (.int (1 : Int32)), .unset] [(.int (1 : Int32)), (.int (1 : Int32))])) _
    refine XS.icmpNo X6.here hx rfl (hb hby at_86) rfl (teq (rfl : (1 : Int32) = (1 : Int32))).2 ?_
    show Steps p.tables e below (T6.setTop (mkF m 89 #[.val (.int p1), .val (.int (0 : Int32)), .val (.int (1 : Int32)), .val (.ref w7), .val (.int (0 : Int32)), .val (.int (1 : Int32)), .val (.int (1 : Int32)), .unset] [])) _
    refine XS.iconst X6.here hx rfl (hb hby at_89) ?_
    show Steps p.tables e below (T6.setTop (mkF m 90 #[.val (.int p1), .val (.int (0 : Int32)), .val (.int (1 : Int32)), .val (.ref w7), .val (.int (0 : Int32)), .val (.int (1 : Int32)), .val (.int (1 : Int32)), .unset] [(.int (1 : Int32))])) _
    refine XS.goto X6.here hx rfl (pc0 := 90) (pc' := 94) rfl (hb hby at_90) (by decide) (by decide) ?_
    show Steps p.tables e below (T6.setTop (mkF m 94 #[.val (.int p1), .val (.int (0 : Int32)), .val (.int (1 : Int32)), .val (.ref w7), .val (.int (0 : Int32)), .val (.int (1 : Int32)), .val (.int (1 : Int32)), .unset] [(.int (1 : Int32))])) _
    refine XS.istore X6.here hx rfl (hb hby at_94) rfl (l' := #[.val (.int p1), .val (.int (0 : Int32)), .val (.int (1 : Int32)), .val (.ref w7), .val (.int (0 : Int32)), .val (.int (1 : Int32)), .val (.int (1 : Int32)), .val (.int (1 : Int32))]) rfl ?_
    show Steps p.tables e below (T6.setTop (mkF m 96 #[.val (.int p1), .val (.int (0 : Int32)), .val (.int (1 : Int32)), .val (.ref w7), .val (.int (0 : Int32)), .val (.int (1 : Int32)), .val (.int (1 : Int32)), .val (.int (1 : Int32))] [])) _
    refine XS.iload X6.here hx rfl (hb hby at_96) rfl ?_
    show Steps p.tables e below (T6.setTop (mkF m 98 #[.val (.int p1), .val (.int (0 : Int32)), .val (.int (1 : Int32)), .val (.ref w7), .val (.int (0 : Int32)), .val (.int (1 : Int32)), .val (.int (1 : Int32)), .val (.int (1 : Int32))] [(.int (1 : Int32))])) _
    refine XS.ifNo X6.here hx rfl (hb hby at_98) rfl ((if0 _ _).trans (feq (by decide : ¬ ((1 : Int32) = (0 : Int32)))).1) ?_
    show Steps p.tables e below (T6.setTop (mkF m 101 #[.val (.int p1), .val (.int (0 : Int32)), .val (.int (1 : Int32)), .val (.ref w7), .val (.int (0 : Int32)), .val (.int (1 : Int32)), .val (.int (1 : Int32)), .val (.int (1 : Int32))] [])) _
    refine XS.iload X6.here hx rfl (hb hby at_101) rfl ?_
    show Steps p.tables e below (T6.setTop (mkF m 103 #[.val (.int p1), .val (.int (0 : Int32)), .val (.int (1 : Int32)), .val (.ref w7), .val (.int (0 : Int32)), .val (.int (1 : Int32)), .val (.int (1 : Int32)), .val (.int (1 : Int32))] [(.int (1 : Int32))])) _
    refine XS.ifNo X6.here hx rfl (hb hby at_103) rfl ((if0 _ _).trans (feq (by decide : ¬ ((1 : Int32) = (0 : Int32)))).1) ?_
    show Steps p.tables e below (T6.setTop (mkF m 106 #[.val (.int p1), .val (.int (0 : Int32)), .val (.int (1 : Int32)), .val (.ref w7), .val (.int (0 : Int32)), .val (.int (1 : Int32)), .val (.int (1 : Int32)), .val (.int (1 : Int32))] [])) _
    refine XS.iconst X6.here hx rfl (hb hby at_106) ?_
    show Steps p.tables e below (T6.setTop (mkF m 107 #[.val (.int p1), .val (.int (0 : Int32)), .val (.int (1 : Int32)), .val (.ref w7), .val (.int (0 : Int32)), .val (.int (1 : Int32)), .val (.int (1 : Int32)), .val (.int (1 : Int32))] [(.int (1 : Int32))])) _
    refine XS.goto X6.here hx rfl (pc0 := 107) (pc' := 111) rfl (hb hby at_107) (by decide) (by decide) ?_
    show Steps p.tables e below (T6.setTop (mkF m 111 #[.val (.int p1), .val (.int (0 : Int32)), .val (.int (1 : Int32)), .val (.ref w7), .val (.int (0 : Int32)), .val (.int (1 : Int32)), .val (.int (1 : Int32)), .val (.int (1 : Int32))] [(.int (1 : Int32))])) _
    exact retN X6 hx (t := .boolean) Bd.returns (by simp) (hb hby at_111) hr
  · show own_R n0 _ T6.heap _
    rw [e6]
    exact ⟨rfl, N2⟩
set_option maxRecDepth 65536 in
set_option maxHeartbeats 40000000 in
theorem rm0D (l : Launch) (Z : State) (a0 : Array Value) (hw : ∀ d ∈ tables_1, d.before a0 Z = true) (ws : List Jvm.Cond) (p1 : Int32) (w3 : Addr) (w5 : Addr) (h0 : Heap) (n0 : Nat) (Z0 : n0 ≤ h0.size) (S_EMPTY : Sta Z h0 "com/example/dispensd/dispensd/Mechanism$Level" "EMPTY" "Lcom/example/dispensd/dispensd/Mechanism$Level;" (.ref w3)) (S_STOCKED : Sta Z h0 "com/example/dispensd/dispensd/Mechanism$Level" "STOCKED" "Lcom/example/dispensd/dispensd/Mechanism$Level;" (.ref w5)) (hc3 : (p1 &&& (1 : Int32)) = (0 : Int32)) (hc15 : (p1 &&& (2 : Int32)) = (0 : Int32)) (ha34 : ¬ (w5 = w3)) (ha48 : w5 = w5) :
    MetFree l x (head1 (Jvm.Cond.code x code maxLocals ret :: ws) room_1) (fun a U => a = #[(.int p1)] ∧ Z.Warmed39 U.vm ∧ U.heap = h0) (fun _ _ _ _ _ => True) (fun _ U o U' => ∃ v L, o = .returned v ∧ own_R n0 v U'.heap L ∧ FrameEnd U o U' L room_1.cells room_1.slots) := by
  refine MetFree.of_bodySF (plainFor_of_name pn_0) hisR ?_
  intro p e s m args below meth c s₁ Bd hml0 hP hK
  obtain ⟨rfl, hZ, hh⟩ := hP
  have hx := Bd.exec
  have hby := Bd.bytes
  have hml : c.maxLocals = 8 := hml0
  have hown : s.vm.findClass "com/example/dispensd/dispensd/LevelOfPinLaw" = some m.cls := findClass_of_methodNamed Bd.named
  have hnm := (name_of_methodNamed Bd.named Bd.method).1
  have X0 : Stand p l e room_1 s m #[(.int p1)] below meth c s₁ [] 0 0 := Stand.of_body Bd
  have e0 : s₁.heap = h0 := by rw [← hh, Bd.state]; rfl
  have N0 := Fr.nil n0
  have pre0 : ∀ t, Steps p.tables e below (s₁.setTop (mkF m 0 #[.val (.int p1), .unset, .unset, .unset, .unset, .unset, .unset, .unset] [])) t → Steps p.tables e below (s₁.setTop (entryFrame m #[(.int p1)] maxLocals)) t := fun t k => castTop (ef_0 m p1) k
  obtain ⟨_, _, ⟨T2, L2, k2, n2⟩, -, X2, ⟨Lc2, hQ2, l2, y2, z2⟩, st2⟩ := Jvm.LawKit.callS X0 hx (y := (⟨"com/example/dispensd/dispensd/Mechanism$Level", "of", "(ZZ)Lcom/example/dispensd/dispensd/Mechanism$Level;"⟩ : MethodName)) hown (mvT hZ (hw _ (List.mem_of_getElem? (i := 0) rfl))) (mvT hZ (hw _ (List.mem_of_getElem? (i := 1) rfl))) (mvT hZ (hw _ (List.mem_of_getElem? (i := 2) rfl))) (mvT hZ (hw _ (List.mem_of_getElem? (i := 3) rfl))) (by decide) (backOf (W := 0) (rm1S l Z a0 hw [] (0 : Int32) (0 : Int32) w5 h0 n0 Z0 S_STOCKED rfl rfl) hZ (hw _ (List.mem_of_getElem? (i := 3) rfl)) (hw _ (List.mem_of_getElem? (i := 2) rfl)) (by decide) (by decide)) (g := (mkF m 26 #[.val (.int p1), .val (.int (0 : Int32)), .val (.int (0 : Int32)), .unset, .unset, .unset, .unset, .unset] [(.int (0 : Int32)), (.int (0 : Int32))])) rfl (by rw [hml]; rfl) (argsL := [(.int (0 : Int32)), (.int (0 : Int32))]) (rest := []) (lenOf pd_0_0 rfl) rfl (by show 2 * 0 + _ ≤ _; exact Nat.le_of_eq rfl) (hb hby at_26) (fun _ _ => ⟨rfl, e0, (by decide : 0 + 0 ≤ _), (by decide : 0 + 0 ≤ _)⟩)
  dsimp only [Pt.U, Pt.locs, Pt.cells, Pt.slots] at X2 l2 y2 z2 st2 hQ2
  subst l2 y2 z2
  obtain ⟨rfl, N2q, e2⟩ := hQ2      -- what it returned, that it wrote nothing old, and the rest of your Q1
  have N2 := Fr.app N0 N2q
  obtain ⟨T4, X4, e4, st4⟩ := getS2 X2 hx hZ hown (host := "") (Or.inl (hw _ (List.mem_of_getElem? (i := 6) rfl))) Via.refl e2 S_EMPTY (g := (mkF m 31 #[.val (.int p1), .val (.int (0 : Int32)), .val (.int (0 : Int32)), .val (.ref w5), .unset, .unset, .unset, .unset] [(.ref w5)])) rfl (hb hby at_31)
  obtain ⟨T6, X6, e6, st6⟩ := getS2 X4 hx hZ hown (host := "") (Or.inl (hw _ (List.mem_of_getElem? (i := 8) rfl))) Via.refl e4 S_STOCKED (g := (mkF m 45 #[.val (.int p1), .val (.int (0 : Int32)), .val (.int (0 : Int32)), .val (.ref w5), .val (.int (0 : Int32)), .unset, .unset, .unset] [(.ref w5)])) rfl (hb hby at_45)
  obtain ⟨fs, hr, hrun, hended, hW, hsame⟩ := X6.leave (v := some (.int (1 : Int32))) (fun h => by rw [Bd.returns] at h; cases h)
  refine ⟨_, _, pre0 _ ?_, hrun, hended, _, _, rfl, ?_, ⟨_, rfl⟩, hW, hsame.mono (by decide) (by decide)⟩
  · show Steps p.tables e below (s₁.setTop (mkF m 0 #[.val (.int p1), .unset, .unset, .unset, .unset, .unset, .unset, .unset] [])) _
    refine XS.iloadN X0.here hx rfl (hb hby at_0) rfl ?_
    show Steps p.tables e below (s₁.setTop (mkF m 1 #[.val (.int p1), .unset, .unset, .unset, .unset, .unset, .unset, .unset] [(.int p1)])) _
    refine XS.iconst X0.here hx rfl (hb hby at_1) ?_
    show Steps p.tables e below (s₁.setTop (mkF m 2 #[.val (.int p1), .unset, .unset, .unset, .unset, .unset, .unset, .unset] [(.int (1 : Int32)), (.int p1)])) _
    refine XS.iand X0.here hx rfl (hb hby at_2) rfl ?_
    show Steps p.tables e below (s₁.setTop (mkF m 3 #[.val (.int p1), .unset, .unset, .unset, .unset, .unset, .unset, .unset] [(.int (p1 &&& (1 : Int32)))])) _
    refine XS.ifYes X0.here hx rfl (pc0 := 3) (pc' := 10) rfl (hb hby at_3) rfl ((if0 _ _).trans (teq hc3).1) (by decide) (by decide) ?_
    show Steps p.tables e below (s₁.setTop (mkF m 10 #[.val (.int p1), .unset, .unset, .unset, .unset, .unset, .unset, .unset] [])) _
    refine XS.iconst X0.here hx rfl (hb hby at_10) ?_
    show Steps p.tables e below (s₁.setTop (mkF m 11 #[.val (.int p1), .unset, .unset, .unset, .unset, .unset, .unset, .unset] [(.int (0 : Int32))])) _
    refine XS.istoreN X0.here hx rfl (hb hby at_11) rfl (l' := #[.val (.int p1), .val (.int (0 : Int32)), .unset, .unset, .unset, .unset, .unset, .unset]) rfl ?_
    show Steps p.tables e below (s₁.setTop (mkF m 12 #[.val (.int p1), .val (.int (0 : Int32)), .unset, .unset, .unset, .unset, .unset, .unset] [])) _
    refine XS.iloadN X0.here hx rfl (hb hby at_12) rfl ?_
    show Steps p.tables e below (s₁.setTop (mkF m 13 #[.val (.int p1), .val (.int (0 : Int32)), .unset, .unset, .unset, .unset, .unset, .unset] [(.int p1)])) _
    refine XS.iconst X0.here hx rfl (hb hby at_13) ?_
    show Steps p.tables e below (s₁.setTop (mkF m 14 #[.val (.int p1), .val (.int (0 : Int32)), .unset, .unset, .unset, .unset, .unset, .unset] [(.int (2 : Int32)), (.int p1)])) _
    refine XS.iand X0.here hx rfl (hb hby at_14) rfl ?_
    show Steps p.tables e below (s₁.setTop (mkF m 15 #[.val (.int p1), .val (.int (0 : Int32)), .unset, .unset, .unset, .unset, .unset, .unset] [(.int (p1 &&& (2 : Int32)))])) _
    refine XS.ifYes X0.here hx rfl (pc0 := 15) (pc' := 22) rfl (hb hby at_15) rfl ((if0 _ _).trans (teq hc15).1) (by decide) (by decide) ?_
    show Steps p.tables e below (s₁.setTop (mkF m 22 #[.val (.int p1), .val (.int (0 : Int32)), .unset, .unset, .unset, .unset, .unset, .unset] [])) _
    refine XS.iconst X0.here hx rfl (hb hby at_22) ?_
    show Steps p.tables e below (s₁.setTop (mkF m 23 #[.val (.int p1), .val (.int (0 : Int32)), .unset, .unset, .unset, .unset, .unset, .unset] [(.int (0 : Int32))])) _
    refine XS.istoreN X0.here hx rfl (hb hby at_23) rfl (l' := #[.val (.int p1), .val (.int (0 : Int32)), .val (.int (0 : Int32)), .unset, .unset, .unset, .unset, .unset]) rfl ?_
    show Steps p.tables e below (s₁.setTop (mkF m 24 #[.val (.int p1), .val (.int (0 : Int32)), .val (.int (0 : Int32)), .unset, .unset, .unset, .unset, .unset] [])) _
    refine XS.iloadN X0.here hx rfl (hb hby at_24) rfl ?_
    show Steps p.tables e below (s₁.setTop (mkF m 25 #[.val (.int p1), .val (.int (0 : Int32)), .val (.int (0 : Int32)), .unset, .unset, .unset, .unset, .unset] [(.int (0 : Int32))])) _
    refine XS.iloadN X0.here hx rfl (hb hby at_25) rfl ?_
    show Steps p.tables e below (s₁.setTop (mkF m 26 #[.val (.int p1), .val (.int (0 : Int32)), .val (.int (0 : Int32)), .unset, .unset, .unset, .unset, .unset] [(.int (0 : Int32)), (.int (0 : Int32))])) _
    refine st2 _ ?_
    show Steps p.tables e below (T2.setTop (mkF m 29 #[.val (.int p1), .val (.int (0 : Int32)), .val (.int (0 : Int32)), .unset, .unset, .unset, .unset, .unset] [(.ref w5)])) _
    refine XS.astoreN X2.here hx rfl (hb hby at_29) rfl rfl (l' := #[.val (.int p1), .val (.int (0 : Int32)), .val (.int (0 : Int32)), .val (.ref w5), .unset, .unset, .unset, .unset]) rfl ?_
    show Steps p.tables e below (T2.setTop (mkF m 30 #[.val (.int p1), .val (.int (0 : Int32)), .val (.int (0 : Int32)), .val (.ref w5), .unset, .unset, .unset, .unset] [])) _
    refine XS.aloadN X2.here hx rfl (hb hby at_30) rfl rfl ?_
    show Steps p.tables e below (T2.setTop (mkF m 31 #[.val (.int p1), .val (.int (0 : Int32)), .val (.int (0 : Int32)), .val (.ref w5), .unset, .unset, .unset, .unset] [(.ref w5)])) _
    refine st4 _ ?_
    show Steps p.tables e below (T4.setTop (mkF m 34 #[.val (.int p1), .val (.int (0 : Int32)), .val (.int (0 : Int32)), .val (.ref w5), .unset, .unset, .unset, .unset] [(.ref w3), (.ref w5)])) _
    refine Jvm.RoadKit.acmp (g := (mkF m 34 #[.val (.int p1), .val (.int (0 : Int32)), .val (.int (0 : Int32)), .val (.ref w5), .unset, .unset, .unset, .unset] [(.ref w3), (.ref w5)])) X4 hx rfl rfl rfl (pc0 := 34) (pc' := 41) (same := false) rfl (hb hby at_34) rfl (decide_eq_false fun q => ha34 (Value.ref.inj q)) (by decide) (by decide) ?_
    show Steps p.tables e below (T4.setTop (mkF m 41 #[.val (.int p1), .val (.int (0 : Int32)), .val (.int (0 : Int32)), .val (.ref w5), .unset, .unset, .unset, .unset] [])) _
    refine XS.iconst X4.here hx rfl (hb hby at_41) ?_
    show Steps p.tables e below (T4.setTop (mkF m 42 #[.val (.int p1), .val (.int (0 : Int32)), .val (.int (0 : Int32)), .val (.ref w5), .unset, .unset, .unset, .unset] [(.int (0 : Int32))])) _
    refine XS.istore X4.here hx rfl (hb hby at_42) rfl (l' := #[.val (.int p1), .val (.int (0 : Int32)), .val (.int (0 : Int32)), .val (.ref w5), .val (.int (0 : Int32)), .unset, .unset, .unset]) rfl ?_
    show Steps p.tables e below (T4.setTop (mkF m 44 #[.val (.int p1), .val (.int (0 : Int32)), .val (.int (0 : Int32)), .val (.ref w5), .val (.int (0 : Int32)), .unset, .unset, .unset] [])) _
    refine XS.aloadN X4.here hx rfl (hb hby at_44) rfl rfl ?_
    show Steps p.tables e below (T4.setTop (mkF m 45 #[.val (.int p1), .val (.int (0 : Int32)), .val (.int (0 : Int32)), .val (.ref w5), .val (.int (0 : Int32)), .unset, .unset, .unset] [(.ref w5)])) _
    refine st6 _ ?_
    show Steps p.tables e below (T6.setTop (mkF m 48 #[.val (.int p1), .val (.int (0 : Int32)), .val (.int (0 : Int32)), .val (.ref w5), .val (.int (0 : Int32)), .unset, .unset, .unset] [(.ref w5), (.ref w5)])) _
    refine Jvm.RoadKit.acmp (g := (mkF m 48 #[.val (.int p1), .val (.int (0 : Int32)), .val (.int (0 : Int32)), .val (.ref w5), .val (.int (0 : Int32)), .unset, .unset, .unset] [(.ref w5), (.ref w5)])) X6 hx rfl rfl rfl (pc0 := 48) (pc' := 55) (same := true) rfl (hb hby at_48) rfl (decide_eq_true (congrArg Value.ref ha48)) (by decide) (by decide) ?_
    show Steps p.tables e below (T6.setTop (mkF m 55 #[.val (.int p1), .val (.int (0 : Int32)), .val (.int (0 : Int32)), .val (.ref w5), .val (.int (0 : Int32)), .unset, .unset, .unset] [])) _
    refine XS.iconst X6.here hx rfl (hb hby at_55) ?_
    show Steps p.tables e below (T6.setTop (mkF m 56 #[.val (.int p1), .val (.int (0 : Int32)), .val (.int (0 : Int32)), .val (.ref w5), .val (.int (0 : Int32)), .unset, .unset, .unset] [(.int (0 : Int32))])) _
    refine XS.istore X6.here hx rfl (hb hby at_56) rfl (l' := #[.val (.int p1), .val (.int (0 : Int32)), .val (.int (0 : Int32)), .val (.ref w5), .val (.int (0 : Int32)), .val (.int (0 : Int32)), .unset, .unset]) rfl ?_
    show Steps p.tables e below (T6.setTop (mkF m 58 #[.val (.int p1), .val (.int (0 : Int32)), .val (.int (0 : Int32)), .val (.ref w5), .val (.int (0 : Int32)), .val (.int (0 : Int32)), .unset, .unset] [])) _
    refine XS.iload X6.here hx rfl (hb hby at_58) rfl ?_
    show Steps p.tables e below (T6.setTop (mkF m 60 #[.val (.int p1), .val (.int (0 : Int32)), .val (.int (0 : Int32)), .val (.ref w5), .val (.int (0 : Int32)), .val (.int (0 : Int32)), .unset, .unset] [(.int (0 : Int32))])) _
    refine XS.iloadN X6.here hx rfl (hb hby at_60) rfl ?_
    show Steps p.tables e below (T6.setTop (mkF m 61 #[.val (.int p1), .val (.int (0 : Int32)), .val (.int (0 : Int32)), .val (.ref w5), .val (.int (0 : Int32)), .val (.int (0 : Int32)), .unset, .unset] [(.int (0 : Int32)), (.int (0 : Int32))])) _
    refine XS.icmpNo X6.here hx rfl (hb hby at_61) rfl (teq (rfl : (0 : Int32) = (0 : Int32))).2 ?_
    show Steps p.tables e below (T6.setTop (mkF m 64 #[.val (.int p1), .val (.int (0 : Int32)), .val (.int (0 : Int32)), .val (.ref w5), .val (.int (0 : Int32)), .val (.int (0 : Int32)), .unset, .unset] [])) _
    refine XS.iconst X6.here hx rfl (hb hby at_64) ?_
    show Steps p.tables e below (T6.setTop (mkF m 65 #[.val (.int p1), .val (.int (0 : Int32)), .val (.int (0 : Int32)), .val (.ref w5), .val (.int (0 : Int32)), .val (.int (0 : Int32)), .unset, .unset] [(.int (1 : Int32))])) _
    refine XS.goto X6.here hx rfl (pc0 := 65) (pc' := 69) rfl (hb hby at_65) (by decide) (by decide) ?_
    show Steps p.tables e below (T6.setTop (mkF m 69 #[.val (.int p1), .val (.int (0 : Int32)), .val (.int (0 : Int32)), .val (.ref w5), .val (.int (0 : Int32)), .val (.int (0 : Int32)), .unset, .unset] [(.int (1 : Int32))])) _
    refine XS.istore X6.here hx rfl (hb hby at_69) rfl (l' := #[.val (.int p1), .val (.int (0 : Int32)), .val (.int (0 : Int32)), .val (.ref w5), .val (.int (0 : Int32)), .val (.int (0 : Int32)), .val (.int (1 : Int32)), .unset]) rfl ?_
    show Steps p.tables e below (T6.setTop (mkF m 71 #[.val (.int p1), .val (.int (0 : Int32)), .val (.int (0 : Int32)), .val (.ref w5), .val (.int (0 : Int32)), .val (.int (0 : Int32)), .val (.int (1 : Int32)), .unset] [])) _
    refine XS.iload X6.here hx rfl (hb hby at_71) rfl ?_
    show Steps p.tables e below (T6.setTop (mkF m 73 #[.val (.int p1), .val (.int (0 : Int32)), .val (.int (0 : Int32)), .val (.ref w5), .val (.int (0 : Int32)), .val (.int (0 : Int32)), .val (.int (1 : Int32)), .unset] [(.int (0 : Int32))])) _
    refine XS.iloadN X6.here hx rfl (hb hby at_73) rfl ?_
    show Steps p.tables e below (T6.setTop (mkF m 74 #[.val (.int p1), .val (.int (0 : Int32)), .val (.int (0 : Int32)), .val (.ref w5), .val (.int (0 : Int32)), .val (.int (0 : Int32)), .val (.int (1 : Int32)), .unset] [(.int (0 : Int32)), (.int (0 : Int32))])) _
    refine XS.ifNo X6.here hx rfl (hb hby at_74) rfl ((if0 _ _).trans (teq (rfl : (0 : Int32) = (0 : Int32))).2) ?_
    show Steps p.tables e below (T6.setTop (mkF m 77 #[.val (.int p1), .val (.int (0 : Int32)), .val (.int (0 : Int32)), .val (.ref w5), .val (.int (0 : Int32)), .val (.int (0 : Int32)), .val (.int (1 : Int32)), .unset] [(.int (0 : Int32))])) _
    refine XS.iloadN X6.here hx rfl (hb hby at_77) rfl ?_
    show Steps p.tables e below (T6.setTop (mkF m 78 #[.val (.int p1), .val (.int (0 : Int32)), .val (.int (0 : Int32)), .val (.ref w5), .val (.int (0 : Int32)), .val (.int (0 : Int32)), .val (.int (1 : Int32)), .unset] [(.int (0 : Int32)), (.int (0 : Int32))])) _
    refine XS.ifYes X6.here hx rfl (pc0 := 78) (pc' := 85) rfl (hb hby at_78) rfl ((if0 _ _).trans (teq (rfl : (0 : Int32) = (0 : Int32))).1) (by decide) (by decide) ?_
    show Steps p.tables e below (T6.setTop (mkF m 85 #[.val (.int p1), .val (.int (0 : Int32)), .val (.int (0 : Int32)), .val (.ref w5), .val (.int (0 : Int32)), .val (.int (0 : Int32)), .val (.int (1 : Int32)), .unset] [(.int (0 : Int32))])) _
    refine XS.iconst X6.here hx rfl (hb hby at_85) ?_
    show Steps p.tables e below (T6.setTop (mkF m 86 #[.val (.int p1), .val (.int (0 : Int32)), .val (.int (0 : Int32)), .val (.ref w5), .val (.int (0 : Int32)), .val (.int (0 : Int32)), .val (.int (1 : Int32)), .unset] [(.int (0 : Int32)), (.int (0 : Int32))])) _
    refine XS.icmpNo X6.here hx rfl (hb hby at_86) rfl (teq (rfl : (0 : Int32) = (0 : Int32))).2 ?_
    show Steps p.tables e below (T6.setTop (mkF m 89 #[.val (.int p1), .val (.int (0 : Int32)), .val (.int (0 : Int32)), .val (.ref w5), .val (.int (0 : Int32)), .val (.int (0 : Int32)), .val (.int (1 : Int32)), .unset] [])) _
    refine XS.iconst X6.here hx rfl (hb hby at_89) ?_
    show Steps p.tables e below (T6.setTop (mkF m 90 #[.val (.int p1), .val (.int (0 : Int32)), .val (.int (0 : Int32)), .val (.ref w5), .val (.int (0 : Int32)), .val (.int (0 : Int32)), .val (.int (1 : Int32)), .unset] [(.int (1 : Int32))])) _
    refine XS.goto X6.here hx rfl (pc0 := 90) (pc' := 94) rfl (hb hby at_90) (by decide) (by decide) ?_
    show Steps p.tables e below (T6.setTop (mkF m 94 #[.val (.int p1), .val (.int (0 : Int32)), .val (.int (0 : Int32)), .val (.ref w5), .val (.int (0 : Int32)), .val (.int (0 : Int32)), .val (.int (1 : Int32)), .unset] [(.int (1 : Int32))])) _
    refine XS.istore X6.here hx rfl (hb hby at_94) rfl (l' := #[.val (.int p1), .val (.int (0 : Int32)), .val (.int (0 : Int32)), .val (.ref w5), .val (.int (0 : Int32)), .val (.int (0 : Int32)), .val (.int (1 : Int32)), .val (.int (1 : Int32))]) rfl ?_
    show Steps p.tables e below (T6.setTop (mkF m 96 #[.val (.int p1), .val (.int (0 : Int32)), .val (.int (0 : Int32)), .val (.ref w5), .val (.int (0 : Int32)), .val (.int (0 : Int32)), .val (.int (1 : Int32)), .val (.int (1 : Int32))] [])) _
    refine XS.iload X6.here hx rfl (hb hby at_96) rfl ?_
    show Steps p.tables e below (T6.setTop (mkF m 98 #[.val (.int p1), .val (.int (0 : Int32)), .val (.int (0 : Int32)), .val (.ref w5), .val (.int (0 : Int32)), .val (.int (0 : Int32)), .val (.int (1 : Int32)), .val (.int (1 : Int32))] [(.int (1 : Int32))])) _
    refine XS.ifNo X6.here hx rfl (hb hby at_98) rfl ((if0 _ _).trans (feq (by decide : ¬ ((1 : Int32) = (0 : Int32)))).1) ?_
    show Steps p.tables e below (T6.setTop (mkF m 101 #[.val (.int p1), .val (.int (0 : Int32)), .val (.int (0 : Int32)), .val (.ref w5), .val (.int (0 : Int32)), .val (.int (0 : Int32)), .val (.int (1 : Int32)), .val (.int (1 : Int32))] [])) _
    refine XS.iload X6.here hx rfl (hb hby at_101) rfl ?_
    show Steps p.tables e below (T6.setTop (mkF m 103 #[.val (.int p1), .val (.int (0 : Int32)), .val (.int (0 : Int32)), .val (.ref w5), .val (.int (0 : Int32)), .val (.int (0 : Int32)), .val (.int (1 : Int32)), .val (.int (1 : Int32))] [(.int (1 : Int32))])) _
    refine XS.ifNo X6.here hx rfl (hb hby at_103) rfl ((if0 _ _).trans (feq (by decide : ¬ ((1 : Int32) = (0 : Int32)))).1) ?_
    show Steps p.tables e below (T6.setTop (mkF m 106 #[.val (.int p1), .val (.int (0 : Int32)), .val (.int (0 : Int32)), .val (.ref w5), .val (.int (0 : Int32)), .val (.int (0 : Int32)), .val (.int (1 : Int32)), .val (.int (1 : Int32))] [])) _
    refine XS.iconst X6.here hx rfl (hb hby at_106) ?_
    show Steps p.tables e below (T6.setTop (mkF m 107 #[.val (.int p1), .val (.int (0 : Int32)), .val (.int (0 : Int32)), .val (.ref w5), .val (.int (0 : Int32)), .val (.int (0 : Int32)), .val (.int (1 : Int32)), .val (.int (1 : Int32))] [(.int (1 : Int32))])) _
    refine XS.goto X6.here hx rfl (pc0 := 107) (pc' := 111) rfl (hb hby at_107) (by decide) (by decide) ?_
    show Steps p.tables e below (T6.setTop (mkF m 111 #[.val (.int p1), .val (.int (0 : Int32)), .val (.int (0 : Int32)), .val (.ref w5), .val (.int (0 : Int32)), .val (.int (0 : Int32)), .val (.int (1 : Int32)), .val (.int (1 : Int32))] [(.int (1 : Int32))])) _
    exact retN X6 hx (t := .boolean) Bd.returns (by simp) (hb hby at_111) hr
  · show own_R n0 _ T6.heap _
    rw [e6]
    exact ⟨rfl, N2⟩
theorem rm0 (l : Launch) (Z : State) (a0 : Array Value) (hw : ∀ d ∈ tables_1, d.before a0 Z = true) (ws : List Jvm.Cond) (p1 : Int32) (w3 : Addr) (w5 : Addr) (w7 : Addr) (h0 : Heap) (n0 : Nat) (Z0 : n0 ≤ h0.size) (S_LOW : Sta Z h0 own_L "LOW" own_LD (.ref w7)) (S_EMPTY : Sta Z h0 own_L "EMPTY" own_LD (.ref w3)) (S_STOCKED : Sta Z h0 own_L "STOCKED" own_LD (.ref w5)) (q1 : ¬ (w3 = w5)) (q2 : ¬ (w7 = w3)) (q3 : ¬ (w7 = w5)) :
    MetFree l x (head1 (Jvm.Cond.code x code maxLocals ret :: ws) room_1) (fun a U => a = #[(.int p1)] ∧ Z.Warmed39 U.vm ∧ U.heap = h0) (fun _ _ _ _ _ => True) (fun _ U o U' => ∃ v L, o = .returned v ∧ own_R n0 v U'.heap L ∧ FrameEnd U o U' L room_1.cells room_1.slots) := by
  by_cases c3 : (p1 &&& (1 : Int32)) = (0 : Int32)
  · by_cases c15 : (p1 &&& (2 : Int32)) = (0 : Int32)
    · exact rm0D l Z a0 hw ws p1 w3 w5 h0 n0 Z0 S_EMPTY S_STOCKED c3 c15 (fun q => q1 q.symm) rfl
    · exact rm0C l Z a0 hw ws p1 w3 w5 w7 h0 n0 Z0 S_LOW S_EMPTY S_STOCKED c3 c15 q2 q3
  · by_cases c15 : (p1 &&& (2 : Int32)) = (0 : Int32)
    · exact rm0B l Z a0 hw ws p1 w3 w5 h0 n0 Z0 S_EMPTY S_STOCKED c3 c15 rfl q1
    · exact rm0A l Z a0 hw ws p1 w3 w5 h0 n0 Z0 S_EMPTY S_STOCKED c3 c15 rfl q1
set_option maxRecDepth 65536 in
set_option maxHeartbeats 40000000 in
theorem comes_1 {Post : Tables → Env → Array Value → State → Outcome → State → Prop} (hpost : ∀ tb e args s v u, (limb_1_1.after args s (.returned v) u = true ∧ limb_1_2.after args s (.returned v) u = true ∧ True) → FrameEnd s (.returned v) u (Jvm.fieldLocs frame_1_writes args s ++ Jvm.arrayLocs frame_1_arrays args s ++ Jvm.staticLocs frame_1_statics s) 0 0 → Post tb e args s (.returned v) u) :
    ArmFor flags0 classFile x code maxLocals ret World_1 tables_1 room_1 Calls_1 rest_1 Pre_1 Post := by
  intro l hfl _ _ p e ha hc hk s m args below hf hA hF happ hP
  obtain ⟨hcalls, hrest, hpre⟩ := hP
  obtain ⟨-, -, -, hnamed, -, -, -, hat⟩ := (Spec.applies_iff hf).mp happ
  obtain ⟨hg, hn⟩ := and_e (Cond.before_iff.mp (show (Jvm.Cond.and given_1 narrow_1).before args s = true from hpre))
  obtain ⟨g7, g8⟩ := and_e hg
  obtain ⟨w0, rfl⟩ : ∃ w0 : Value, args = #[w0] := by
    have hs : args.size = 1 := by simpa [Cond.value, given_1] using g7
    obtain ⟨L⟩ := args
    match L, hs with
    | [w0], _ => exact ⟨w0, rfl⟩
  have hw := fun d (hd : d ∈ tables_1) => atoms_spec (ws := Jvm.Cond.code x code maxLocals ret :: tables_1) hat d (List.mem_cons_of_mem _ hd)
  have hfit : Fit s := fun {y c} hc i hi => by
    obtain ⟨ha, rfl⟩ := Array.getElem?_eq_some_iff.mp hc
    have q := List.all_eq_true.mp ((Array.all_eq_true_iff_forall_mem.mp hF) _ (Array.getElem_mem ha)) i (List.mem_range.mpr hi)
    simpa [Array.getElem?_eq_getElem hi] using q
  obtain ⟨i0, ei0⟩ := is_v g8
  obtain rfl : w0 = (.int i0) := Option.some.inj ei0
  obtain ⟨cj0, cr0⟩ := and_e hn
  obtain ⟨w_STOCKED, ev_STOCKED⟩ := exa_v cj0
  have S_STOCKED := Sta.start ev_STOCKED (Or.inr ⟨(hw _ (List.mem_of_getElem? (i := 2) rfl)), (hw _ (List.mem_of_getElem? (i := 5) rfl))⟩)
  have E_STOCKED := Exa.start ev_STOCKED cj0
  obtain ⟨cj1, cr1⟩ := and_e cr0
  obtain ⟨w_EMPTY, ev_EMPTY⟩ := exa_v cj1
  have S_EMPTY := Sta.start ev_EMPTY (Or.inr ⟨(hw _ (List.mem_of_getElem? (i := 2) rfl)), (hw _ (List.mem_of_getElem? (i := 7) rfl))⟩)
  have E_EMPTY := Exa.start ev_EMPTY cj1
  obtain ⟨cj2, cr2⟩ := and_e cr1
  have o_STOCKED := cj2
  obtain ⟨cj3, cr3⟩ := and_e cr2
  have o_EMPTY := cj3
  obtain ⟨cj4, cr4⟩ := and_e cr3
  obtain ⟨w_LOW, ev_LOW⟩ := exa_v cj4
  have S_LOW := Sta.start ev_LOW (Or.inr ⟨(hw _ (List.mem_of_getElem? (i := 2) rfl)), (hw _ (List.mem_of_getElem? (i := 11) rfl))⟩)
  have E_LOW := Exa.start ev_LOW cj4
  have o_LOW := cr4
  obtain ⟨n, o, h1, h2, h3, _, L, rfl, ⟨rfl, N⟩, hq⟩ := rm0 l s _ hw tables_1 i0 w_EMPTY w_STOCKED w_LOW s.heap s.heap.size (Nat.le_refl _) S_LOW S_EMPTY S_STOCKED (own_ne ev_EMPTY ev_STOCKED o_EMPTY o_STOCKED (by decide)) (own_ne ev_LOW ev_EMPTY o_LOW o_EMPTY (by decide)) (own_ne ev_LOW ev_STOCKED o_LOW o_STOCKED (by decide)) p e ha hc hk s m _ below hf ((Spec.applies_iff_loose hf).mp happ).1 ⟨rfl, State.Warmed39.refl s, rfl⟩ trivial
  refine ⟨n, _, h1, h2, h3, hpost _ _ _ _ _ _ ⟨Cond.after_iff.mpr rfl, Cond.after_iff.mpr (eq_i res_at (Term.int_eval (1)) rfl), trivial⟩ ⟨hq.1, hq.2.1, (hq.2.2.sift fun y hy => Or.inr (N y hy)).mono (by decide) (by decide)⟩⟩
theorem main_1_1 : Claimed_1_1 := comes_1 fun _ _ _ _ _ _ h hF => ⟨h.1, hF⟩
theorem main_1_2 : Claimed_1_2 := comes_1 fun _ _ _ _ _ _ h hF => ⟨h.2.1, hF⟩
end Jvm.Pilot.@@N@@
namespace Jvm.Pilot.@@N@@
open Jvm Jvm.ClassFile Sem Op Lib Jvm.Free Jvm.Stand Jvm.Pilot.@@N@@.Jvm.D
/-! MADE BY PROGRAM (witnessworld.py) out of the Statement's table words and the real class files: 12 classes; the members and pool entries that the words name. The judged class is class 1, her method 1. -/
namespace start1
open Jvm.ClassFile
def u (s : String) : CpInfo := .utf8 (stringToUtf16 s)
/-- a pool by its gaps: so many unusable entries, then the entry; so many at the end -/
def gap : Nat → List CpInfo → List CpInfo
  | 0, r => r
  | n + 1, r => .unusable :: gap n r
def poolList (es : List (Nat × CpInfo)) (last : Nat) : List CpInfo := es.foldr (fun e r => gap e.1 (e.2 :: r)) (gap last [])
def pool (es : List (Nat × CpInfo)) (last : Nat) : Array CpInfo := ⟨poolList es last⟩
def fileOf (pool : Array CpInfo) (this : Nat) (attrs : Array Attribute := #[]) (ms : Array MethodInfo := #[]) (fl : Nat := 33) (sup : Nat := 0) (ifs : Array Nat := #[]) (fds : Array FieldInfo := #[]) : ClassFile where
  minorVersion := 0
  majorVersion := 65
  constantPool := pool
  accessFlags := fl
  thisClass := this
  superClass := sup
  interfaces := ifs
  fields := fds
  methods := ms
  attributes := attrs
def plain (name : String) (sup : Option ClassId) : Class where
  name := name
  kind := .ordinary
  loader := none
  accessFlags := 33
  super := sup
  interfaces := #[]
  cf := none
  fields := #[]
  methods := #[]
  instanceTypes := #[]
  staticTypes := #[]
  resolved := #[]
  callSites := []
  init := .initialized
  statics := none
  mirror := none

def pool0 : Array CpInfo := pool [(5, u "<init>"), (0, u "()V"), (1, .class_ 10), (1, u "java/lang/Object")] 113

def k0m0 : Method := { name := "<init>", desc := "()V", sig := { parameters := [], returnType := none }, accessFlags := 1, code := none }
/-- java/lang/Object -/
def k0 : Class := { plain "java/lang/Object" none with
  accessFlags := 33
  interfaces := #[]
  cf := some (fileOf pool0 8 #[] #[{ accessFlags := 1, nameIndex := 5, descriptorIndex := 6, attributes := #[] }] 33 0 #[] #[])
  fields := #[]
  methods := #[k0m0]
  instanceTypes := #[]
  staticTypes := #[]
  resolved := Array.replicate 124 none
  statics := none }

def pool1 : Array CpInfo := pool [(2, .class_ 4), (1, u "java/lang/Object"), (0, u "<init>"), (0, u "()V"), (0, .methodref 8 9), (0, .class_ 10), (0, .nameAndType 11 12), (0, u "com/example/dispensd/dispensd/Mechanism$Level"), (0, u "of"), (0, u "(ZZ)Lcom/example/dispensd/dispensd/Mechanism$Level;"), (0, .fieldref 8 14), (0, .nameAndType 15 16), (0, u "EMPTY"), (0, u "Lcom/example/dispensd/dispensd/Mechanism$Level;"), (0, .fieldref 8 18), (0, .nameAndType 19 16), (0, u "STOCKED"), (0, .class_ 21), (0, u "com/example/dispensd/dispensd/LevelOfPinLaw"), (2, u "law"), (0, u "(I)Z")] 7

def k1m0 : Method := { name := "<init>", desc := "()V", sig := { parameters := [], returnType := none }, accessFlags := 1, code := none }
def k1c1 : Code := { maxStack := 2, maxLocals := 8, code := code, exceptionTable := #[], attributes := #[] }
def k1m1 : Method := { name := "law", desc := "(I)Z", sig := { parameters := [.int], returnType := some .boolean }, accessFlags := 9, code := some k1c1 }
/-- com/example/dispensd/dispensd/LevelOfPinLaw -/
def k1 : Class := { plain "com/example/dispensd/dispensd/LevelOfPinLaw" (some 0) with
  accessFlags := 49
  interfaces := #[]
  cf := some (fileOf pool1 20 #[] #[{ accessFlags := 1, nameIndex := 5, descriptorIndex := 6, attributes := #[] }, { accessFlags := 9, nameIndex := 24, descriptorIndex := 25, attributes := #[] }] 49 2 #[] #[])
  fields := #[]
  methods := #[k1m0, k1m1]
  instanceTypes := #[]
  staticTypes := #[]
  resolved := Array.replicate 33 none
  statics := none }

def pool2 : Array CpInfo := pool [(1, .class_ 2), (0, u "java/lang/constant/Constable"), (0, .class_ 4), (0, u "java/lang/Object")] 6

/-- java/lang/constant/Constable -/
def k2 : Class := { plain "java/lang/constant/Constable" (some 0) with
  accessFlags := 1537
  interfaces := #[]
  cf := some (fileOf pool2 1 #[] #[] 1537 3 #[] #[])
  fields := #[]
  methods := #[]
  instanceTypes := #[]
  staticTypes := #[]
  resolved := Array.replicate 11 none
  statics := none }

def pool3 : Array CpInfo := pool [(1, .class_ 2), (0, u "java/lang/Comparable"), (0, .class_ 4), (0, u "java/lang/Object")] 7

/-- java/lang/Comparable -/
def k3 : Class := { plain "java/lang/Comparable" (some 0) with
  accessFlags := 1537
  interfaces := #[]
  cf := some (fileOf pool3 1 #[] #[] 1537 3 #[] #[])
  fields := #[]
  methods := #[]
  instanceTypes := #[]
  staticTypes := #[]
  resolved := Array.replicate 12 none
  statics := none }

def pool4 : Array CpInfo := pool [(1, .class_ 2), (0, u "java/io/Serializable"), (0, .class_ 4), (0, u "java/lang/Object")] 2

/-- java/io/Serializable -/
def k4 : Class := { plain "java/io/Serializable" (some 0) with
  accessFlags := 1537
  interfaces := #[]
  cf := some (fileOf pool4 1 #[] #[] 1537 3 #[] #[])
  fields := #[]
  methods := #[]
  instanceTypes := #[]
  staticTypes := #[]
  resolved := Array.replicate 7 none
  statics := none }

def pool5 : Array CpInfo := pool [(2, .class_ 4), (1, u "java/lang/Enum"), (0, u "name"), (0, u "Ljava/lang/String;"), (2, u "ordinal"), (0, u "I"), (1, .class_ 14), (1, u "java/lang/Object"), (4, u "hash"), (86, .class_ 108), (1, u "java/lang/Enum$EnumDesc"), (2, .class_ 112), (0, u "java/lang/constant/Constable"), (0, .class_ 114), (0, u "java/lang/Comparable"), (0, .class_ 116), (0, u "java/io/Serializable")] 87

/-- java/lang/Enum -/
def k5 : Class := { plain "java/lang/Enum" (some 0) with
  accessFlags := 1057
  interfaces := #[2, 3, 4]
  cf := some (fileOf pool5 2 #[.nestMembers #[106]] #[] 1057 12 #[111, 113, 115] #[{ accessFlags := 18, nameIndex := 5, descriptorIndex := 6, attributes := #[] }, { accessFlags := 18, nameIndex := 9, descriptorIndex := 10, attributes := #[] }, { accessFlags := 2, nameIndex := 19, descriptorIndex := 10, attributes := #[] }])
  fields := #[{ name := "name", type := (.object "java/lang/String"), accessFlags := 18, slot := 0, constantValue := 0 }, { name := "ordinal", type := .int, accessFlags := 18, slot := 1, constantValue := 0 }, { name := "hash", type := .int, accessFlags := 2, slot := 2, constantValue := 0 }]
  methods := #[]
  instanceTypes := #[(.object "java/lang/String"), .int, .int]
  staticTypes := #[]
  resolved := Array.replicate 204 none
  statics := none }

def pool6 : Array CpInfo := pool [(1, .class_ 2), (0, u "com/example/dispensd/dispensd/Mechanism$Level"), (0, .fieldref 1 4), (0, .nameAndType 5 6), (0, u "STOCKED"), (0, u "Lcom/example/dispensd/dispensd/Mechanism$Level;"), (0, .fieldref 1 8), (0, .nameAndType 9 6), (0, u "LOW"), (0, .fieldref 1 11), (0, .nameAndType 12 6), (0, u "EMPTY"), (2, u "$VALUES"), (0, u "[Lcom/example/dispensd/dispensd/Mechanism$Level;"), (6, .class_ 25), (1, u "java/lang/Enum"), (21, u "of"), (0, u "(ZZ)Lcom/example/dispensd/dispensd/Mechanism$Level;"), (6, .class_ 56), (0, u "com/example/dispensd/dispensd/Mechanism")] 2

def k6c0 : Code := { maxStack := 1, maxLocals := 3, code := prog_7_method_4_code, exceptionTable := #[], attributes := #[] }
def k6m0 : Method := { name := "of", desc := "(ZZ)Lcom/example/dispensd/dispensd/Mechanism$Level;", sig := { parameters := [.boolean, .boolean], returnType := some (.object "com/example/dispensd/dispensd/Mechanism$Level") }, accessFlags := 8, code := some k6c0 }
/-- com/example/dispensd/dispensd/Mechanism$Level -/
def k6 : Class := { plain "com/example/dispensd/dispensd/Mechanism$Level" (some 5) with
  accessFlags := 16433
  interfaces := #[]
  cf := some (fileOf pool6 1 #[.nestHost 55] #[{ accessFlags := 8, nameIndex := 47, descriptorIndex := 48, attributes := #[] }] 16433 23 #[] #[{ accessFlags := 16409, nameIndex := 5, descriptorIndex := 6, attributes := #[] }, { accessFlags := 16409, nameIndex := 9, descriptorIndex := 6, attributes := #[] }, { accessFlags := 16409, nameIndex := 12, descriptorIndex := 6, attributes := #[] }, { accessFlags := 4122, nameIndex := 15, descriptorIndex := 16, attributes := #[] }])
  fields := #[{ name := "STOCKED", type := (.object "com/example/dispensd/dispensd/Mechanism$Level"), accessFlags := 16409, slot := 0, constantValue := 0 }, { name := "LOW", type := (.object "com/example/dispensd/dispensd/Mechanism$Level"), accessFlags := 16409, slot := 1, constantValue := 0 }, { name := "EMPTY", type := (.object "com/example/dispensd/dispensd/Mechanism$Level"), accessFlags := 16409, slot := 2, constantValue := 0 }, { name := "$VALUES", type := (.array (.object "com/example/dispensd/dispensd/Mechanism$Level")), accessFlags := 4122, slot := 3, constantValue := 0 }]
  methods := #[k6m0]
  instanceTypes := #[(.object "java/lang/String"), .int, .int]
  staticTypes := #[(.object "com/example/dispensd/dispensd/Mechanism$Level"), (.object "com/example/dispensd/dispensd/Mechanism$Level"), (.object "com/example/dispensd/dispensd/Mechanism$Level"), (.array (.object "com/example/dispensd/dispensd/Mechanism$Level"))]
  resolved := Array.replicate 59 none
  statics := some 0 }

def pool7 : Array CpInfo := pool [(1, u "java/lang/Cloneable"), (0, .class_ 1), (0, u "java/lang/Object"), (0, .class_ 3)] 3

/-- java/lang/Cloneable -/
def k7 : Class := { plain "java/lang/Cloneable" (some 0) with
  accessFlags := 1537
  interfaces := #[]
  cf := some (fileOf pool7 2 #[] #[] 1537 4 #[] #[])
  fields := #[]
  methods := #[]
  instanceTypes := #[]
  staticTypes := #[]
  resolved := Array.replicate 8 none
  statics := none }

/-- the primitive byte -/
def k8 : Class := { plain "byte" none with kind := .primitive 'B', accessFlags := 0x411 }
/-- [B -/
def k9 : Class := { plain "[B" (some 0) with kind := .array 8 .byte, interfaces := #[7, 4], accessFlags := 1041 }

/-- the primitive int -/
def k10 : Class := { plain "int" none with kind := .primitive 'I', accessFlags := 0x411 }
/-- [I -/
def k11 : Class := { plain "[I" (some 0) with kind := .array 10 .int, interfaces := #[7, 4], accessFlags := 1041 }

def heap : Heap := #[{ cls := 6, slots := #[.ref 1, .ref 2, .ref 3, .null], vm := .statics 6 },
  { cls := 6, slots := #[.null, .int 0, .int 0], vm := .none },
  { cls := 6, slots := #[.null, .int 1, .int 0], vm := .none },
  { cls := 6, slots := #[.null, .int 2, .int 0], vm := .none }]
def classes : Array Class := #[k0, k1, k2, k3, k4, k5, k6, k7, k8, k9, k10, k11]
def interned : List (Array UInt16 × Addr) := []
def slotsUsed : Nat := 13
def theMethod : MethodId := ⟨1, 1⟩
def args0 : Array Value := #[.int 5]
def aboutOver (below : List Frame) : State where
  vm := { classes := classes, interned := interned.toArray }
  heap := heap
  slotsUsed := slotsUsed
  threads := #[{ frames := .invoking theMethod args0 :: below }]
def below0 : List Frame := [.native { method := ⟨0, 0⟩, args := #[] }]
def about1 : State := aboutOver below0
def p0 : Program := .bare "" "" ""
def e0 : Env := launch0.env 0 0 0
theorem w_frames : about1.frames = Frame.invoking theMethod args0 :: below0 := rfl
set_option maxRecDepth 65536 in
theorem w_args : argsFit about1.vm theMethod args0 = true := by decide +kernel
set_option maxRecDepth 65536 in
theorem w_heap : heapFits about1 = true := by decide +kernel
set_option maxRecDepth 65536 in
theorem w_runnable : about1.curStatus? = some .runnable := by decide +kernel
set_option maxRecDepth 65536 in
theorem w_alone : about1.alone = true := by decide +kernel
set_option maxRecDepth 65536 in
theorem w_named : about1.methodNamed? x = some theMethod := by decide +kernel
set_option maxRecDepth 65536 in
theorem w_hears : about1.hears theMethod below0 = true := by decide +kernel
set_option maxRecDepth 65536 in
theorem w_ripe : about1.ripe theMethod args0 below0 = true := by decide +kernel
theorem w_running : about1.status = .running := rfl
set_option maxRecDepth 65536 in
theorem w_room : about1.hasRoom e0.platform room_1 = true :=
  launch0.hasRoom_least _ room_1 (by decide +kernel) (by decide +kernel) (by decide +kernel) (by decide +kernel) (by decide +kernel) (by decide +kernel)
theorem allAtoms_all (ts : List Jvm.Cond) (a : Array Jvm.Value) (st : Jvm.State) : (allAtoms ts).before a st = ts.all (fun c => c.before a st) := by
  induction ts with
  | nil => rfl
  | cons c t ih =>
    show (Jvm.Cond.and c (allAtoms t)).before a st = _
    rw [Jvm.Cond.before_and, ih, List.all_cons]
def words1 : List Jvm.Cond := Jvm.Cond.code x code maxLocals ret :: tables_1
/-- a 'code' word, met by the world's own term for the bytes: nothing is compared byte by byte -/
theorem code_word {y : MethodName} {bytes : ByteArray} {mx : Nat} {rt : Option FieldType} {a : Array Value} {s : State} {m : MethodId} {meth : Method} {c : Code} (h1 : s.methodNamed? y = some m) (h2 : s.vm.method? m = some meth) (h3 : meth.code = some c) (h4 : c.code = bytes)
    (h5 : (c.maxLocals == mx && c.exceptionTable.isEmpty && decide (c.maxStack ≤ mostOperands) && decide (meth.sig.returnType = rt) && !meth.locks && decide (parseMethodDescriptor y.desc = some meth.sig)) = true) : (Jvm.Cond.code y bytes mx rt).before a s = true := by
  simp only [Bool.and_eq_true, beq_iff_eq, Bool.not_eq_true', decide_eq_true_eq] at h5
  obtain ⟨⟨⟨⟨⟨g1, g2⟩, g3⟩, g4⟩, g5⟩, g6⟩ := h5
  simp [Cond.before, Cond.holds, Cond.value, h1, h2, h3, h4, g1, g2, g3, g4, g5, g6]
def isCode : Jvm.Cond → Bool
  | .code _ _ _ _ => true
  | _ => false
theorem all_split {L : List Jvm.Cond} {P : Jvm.Cond → Bool} (h1 : L.all (fun c => isCode c || P c) = true) (h2 : ∀ c ∈ L.filter isCode, P c = true) : L.all P = true := by
  refine List.all_eq_true.mpr fun c hc => ?_
  have h := List.all_eq_true.mp h1 c hc
  rcases Bool.eq_false_or_eq_true (isCode c) with hi | hi
  · exact h2 c (List.mem_filter.mpr ⟨hc, hi⟩)
  · simpa [hi] using h
set_option maxRecDepth 65536 in
theorem w_c0 : (Jvm.Cond.code x code maxLocals ret).before args0 about1 = true := code_word (m := ⟨1, 1⟩) (meth := k1m1) (c := k1c1) (by decide +kernel) rfl rfl rfl (by decide +kernel)
set_option maxRecDepth 65536 in
theorem w_c1 : (Jvm.Cond.code ({ cls := "com/example/dispensd/dispensd/Mechanism$Level", name := "of", desc := "(ZZ)Lcom/example/dispensd/dispensd/Mechanism$Level;" } : Jvm.MethodName) prog_7_method_4_code (3 : Nat) (Option.some (Jvm.ClassFile.FieldType.object "com/example/dispensd/dispensd/Mechanism$Level"))).before args0 about1 = true := code_word (m := ⟨6, 0⟩) (meth := k6m0) (c := k6c0) (by decide +kernel) rfl rfl rfl (by decide +kernel)
def codes1 : List Jvm.Cond := [Jvm.Cond.code x code maxLocals ret, Jvm.Cond.code ({ cls := "com/example/dispensd/dispensd/Mechanism$Level", name := "of", desc := "(ZZ)Lcom/example/dispensd/dispensd/Mechanism$Level;" } : Jvm.MethodName) prog_7_method_4_code (3 : Nat) (Option.some (Jvm.ClassFile.FieldType.object "com/example/dispensd/dispensd/Mechanism$Level"))]
set_option maxRecDepth 65536 in
theorem codes_eq : words1.filter isCode = codes1 := rfl
theorem w_codes : ∀ c ∈ words1.filter isCode, c.before args0 about1 = true := by
  rw [codes_eq]
  intro c hc
  simp only [codes1, List.mem_cons, List.not_mem_nil, or_false] at hc
  rcases hc with rfl | rfl
  · exact w_c0
  · exact w_c1
set_option maxRecDepth 65536 in
theorem w_t1 : words1.all (fun c => isCode c || c.before args0 about1) = true := by decide +kernel
theorem w_tables : (allAtoms (Jvm.Cond.code x code maxLocals ret :: tables_1)).before args0 about1 = true := by
  rw [allAtoms_all]
  show words1.all (fun c => c.before args0 about1) = true
  refine all_split ?_ w_codes
  rw [w_t1]
set_option maxRecDepth 65536 in
theorem w_case : (Jvm.Cond.and given_1 narrow_1).before args0 about1 = true := by decide +kernel
theorem w_applies : (headSpec (Jvm.Cond.code x code maxLocals ret :: tables_1) room_1).applies x e0.platform about1 = true :=
  (Spec.applies_iff w_frames).mpr ⟨w_running, w_runnable, w_alone, w_named, w_hears, w_ripe, w_room, w_tables⟩
theorem atStart : AtStart classFile x code maxLocals ret World_1 tables_1 room_1 Calls_1 rest_1 Pre_1 launch0 p0 e0 about1 theMethod args0 below0 :=
  ⟨lists_1, trivial, launch0.admits_env _ _ _, launch0.least_env, fairChoices_fair.cas, fairChoices_fair.clock, w_frames, w_args, w_heap, w_applies, trivial, trivial, w_case⟩
end start1
theorem witness_1 : WitnessClaimed_1 := ⟨start1.p0, start1.e0, start1.about1, start1.theMethod, start1.args0, start1.below0, start1.atStart⟩
end Jvm.Pilot.@@N@@
