import JvmDerived
import JvmDerived.Pilot.@@N@@Statement
import JvmDerived.Pilot.@@N@@Code
set_option linter.unusedVariables false
set_option linter.unusedSimpArgs false
namespace Jvm.RoadKit
open Sem ClassFile Op Lib Jvm.Stand Jvm.Free Jvm.LawKit
section New
variable {p : Program} {l : Launch} {e : Env} {R : Room} {s : State} {m : MethodId} {args : Array Value} {below : List Frame} {meth : Method} {c : Code} {T : State} {locs : List Loc} {cells slots : Nat}
theorem retI (X : Stand p l e R s m args below meth c T locs cells slots) (hx : p.tables.exec = Jvm.exec) {pc : Nat} {Ls : Array Slot} {z : Int32} {rest : List Value} (hret : meth.sig.returnType = some .int) (hd : decode c.code pc = .ok (.ireturn, 1)) {fs : List Frame}
    (hl : ∀ (f : JFrame) (acts : List Action), f.method = m → f.locked = none → f.entered = [] → (doReturn e (T.setTop f) acts (some (.int z))).1 = T.setFrames fs) : Steps p.tables e below (T.setTop (mkF m pc Ls (.int z :: rest))) (T.setFrames fs) := by
  have hm' : T.vm.method? m = some meth := X.method'
  have hn : narrow .int (.int z) = .int z := rfl
  show Steps p.tables e below (T.setTop { method := m, pc := pc, locals := Ls, stack := _ :: rest, locked := none }) _
  jvm_step X.here [X.here.top, hx, hd, hm', hret, hn]
  first | (intro acts; rw [hl _ acts rfl rfl rfl]) | rw [hl _ _ rfl rfl rfl]
  exact Steps.refl _
end New
end Jvm.RoadKit
namespace Jvm.Pilot.@@N@@
open Jvm Jvm.ClassFile Sem Op Lib Jvm.Free Jvm.Stand Jvm.LawKit Jvm.RoadKit Bundle Jvm.Pilot.@@N@@.Jvm.D
theorem own_le {Z : State} {n0 : Nat} {h : Heap} (O : Old Z n0 h) : n0 ≤ h.size := O.1 ▸ O.2.1
def own_Q (r : Value) (h0 : Heap) (n0 : Nat) (v : Option Value) (h : Heap) (L : List Loc) : Prop := v = some r ∧ Fr n0 L ∧ h = h0
def own_Qn (h0 : Heap) (n0 : Nat) (v : Option Value) (h : Heap) (L : List Loc) : Prop := v = none ∧ Fr n0 L ∧ h = h0
def own_R (n0 : Nat) (v : Option Value) (h : Heap) (L : List Loc) : Prop := v = some (.int (1 : Int32)) ∧ Fr n0 L
theorem own_ne {args : Array Value} {s : State} {t u : Term} {K n d : String} {a b : Addr} {i j : Int32} (ht : t.eval args s none [] s = some (.ref a)) (hu : u.eval args s none [] s = some (.ref b))
    (h1 : (Jvm.Cond.eq (Term.field t K n d) (Term.int i)).value args s none s [] = some true) (h2 : (Jvm.Cond.eq (Term.field u K n d) (Term.int j)).value args s none s [] = some true) (hij : i ≠ j) : ¬ a = b := by
  intro e
  subst e
  obtain ⟨v, e1, e2⟩ := Cond.eq_worth h1
  obtain ⟨v', e3, e4⟩ := Cond.eq_worth h2
  rw [fld_at ht] at e1
  rw [fld_at hu] at e3
  have q1 : v = .int i := Option.some.inj (e2.symm.trans (Term.int_eval i))
  have q2 : v' = .int j := Option.some.inj (e4.symm.trans (Term.int_eval j))
  have q3 : v = v' := Option.some.inj (e1.symm.trans e3)
  rw [q1, q2] at q3
  exact hij (by injection q3)
abbrev own_N : String := "com/example/kvasir/kvasir/tableau/Node"
def own_put : List (Int32 × Int32) → Int32 → Int32 → List (Int32 × Int32)
  | [], c, q => [(c, q)]
  | (x, y) :: r, c, q => if x = c then (x, q) :: r else (x, y) :: own_put r c q
def own_get : List (Int32 × Int32) → Int32 → Int32
  | [], _ => (-1 : Int32)
  | (x, y) :: r, q => if x = q then y else own_get r q
def own_flat : List (Int32 × Int32) → List Value
  | [] => []
  | (x, y) :: r => .int x :: .int y :: own_flat r
def own_two : List (Int32 × Int32) → Int32
  | [] => (0 : Int32)
  | [_] => (2 : Int32)
  | [_, _] => (4 : Int32)
  | _ => (6 : Int32)
def own_nn : List (Int32 × Int32) → Prop
  | [] => True
  | (_, y) :: r => ¬ y < (0 : Int32) ∧ own_nn r
theorem own_get_put (A : List (Int32 × Int32)) (c v q : Int32) : own_get (own_put A c v) q = if c = q then v else own_get A q := by
  induction A with
  | nil => simp [own_put, own_get]
  | cons a r ih =>
    obtain ⟨x, y⟩ := a
    by_cases h : x = c
    · subst h
      by_cases h2 : x = q <;> simp [own_put, own_get, h2]
    · by_cases h2 : x = q
      · subst h2
        have h3 : ¬ c = x := fun z => h z.symm
        simp [own_put, own_get, h, h3]
      · simp [own_put, own_get, h, h2, ih]
theorem own_len_put (A : List (Int32 × Int32)) (c v : Int32) : (own_put A c v).length ≤ A.length + 1 := by
  induction A with
  | nil => simp [own_put]
  | cons a r ih =>
    obtain ⟨x, y⟩ := a
    by_cases h : x = c <;> simp [own_put, h] <;> omega
theorem own_nn_put (A : List (Int32 × Int32)) (c v : Int32) (hA : own_nn A) (hv : ¬ v < (0 : Int32)) : own_nn (own_put A c v) := by
  induction A with
  | nil => exact ⟨hv, trivial⟩
  | cons a r ih =>
    obtain ⟨x, y⟩ := a
    by_cases h : x = c
    · simp only [own_put, h, if_true]; exact ⟨hv, hA.2⟩
    · simp only [own_put, h, if_false]; exact ⟨hA.1, ih hA.2⟩
theorem own_mask_nn (p : Int32) : ¬ (p &&& (2147483647 : Int32)) < (0 : Int32) := by
  have e1 := c_mask p 2147483647 31 (by decide) (by decide)
  rw [Int32.lt_iff_toInt_lt, e1]
  have := Int.emod_nonneg p.toInt (show ((2 ^ 31 : Nat) : Int) ≠ 0 by decide)
  have e2 : (0 : Int32).toInt = 0 := by decide
  omega
/-- the agenda of the node at o -/
def own_Ag (Z : State) (h : Heap) (o : Addr) (n0 : Nat) (A : List (Int32 × Int32)) : Prop := Exa Z h o own_N ∧ n0 ≤ o ∧ ∃ (b : Addr) (k : ClassId), Fld Z h o own_N "agendaPlaces" "[I" (.ref b) ∧ Arv Z h b k .int (own_two A) (own_flat A) (.int (0 : Int32)) ∧ n0 ≤ b ∧ o ≠ b
def own_QA (Z : State) (o : Addr) (A : List (Int32 × Int32)) (n0 : Nat) (v : Option Value) (h : Heap) (L : List Loc) : Prop := v = none ∧ Fr n0 L ∧ Old Z n0 h ∧ own_Ag Z h o n0 A
def own_QC (Z : State) (o : Addr) (h0 : Heap) (n0 : Nat) (v : Option Value) (h : Heap) (L : List Loc) : Prop := v = none ∧ Fr n0 L ∧ Old Z n0 h ∧ own_Ag Z h o n0 []
def own_QY (Z : State) (z : Int32) (vs : List Value) (h0 : Heap) (n0 : Nat) (v : Option Value) (h : Heap) (L : List Loc) : Prop := ∃ (b : Addr) (k : ClassId), v = some (.ref b) ∧ Fr n0 L ∧ Keep h0 h [] ∧ h0.size ≤ b ∧ Arv Z h b k .int z vs (.int (0 : Int32))
theorem d2_0 : decode prog_32_method_3_code 0 = .ok (.aload_n 0, 1) := by decide +kernel
theorem d2_1 : decode prog_32_method_3_code 1 = .ok (.invokespecial 13, 3) := by decide +kernel
theorem d2_4 : decode prog_32_method_3_code 4 = .ok (.aload_n 0, 1) := by decide +kernel
theorem d2_5 : decode prog_32_method_3_code 5 = .ok (.bipush 8, 2) := by decide +kernel
theorem d2_7 : decode prog_32_method_3_code 7 = .ok (.newarray .int, 2) := by decide +kernel
theorem d2_9 : decode prog_32_method_3_code 9 = .ok (.putfield 18, 3) := by decide +kernel
theorem d2_12 : decode prog_32_method_3_code 12 = .ok (.aload_n 0, 1) := by decide +kernel
theorem d2_13 : decode prog_32_method_3_code 13 = .ok (.bipush 8, 2) := by decide +kernel
theorem d2_15 : decode prog_32_method_3_code 15 = .ok (.anewarray 2, 3) := by decide +kernel
theorem d2_18 : decode prog_32_method_3_code 18 = .ok (.putfield 22, 3) := by decide +kernel
theorem d2_21 : decode prog_32_method_3_code 21 = .ok (.aload_n 0, 1) := by decide +kernel
theorem d2_22 : decode prog_32_method_3_code 22 = .ok (.iconst 2, 1) := by decide +kernel
theorem d2_23 : decode prog_32_method_3_code 23 = .ok (.newarray .int, 2) := by decide +kernel
theorem d2_25 : decode prog_32_method_3_code 25 = .ok (.putfield 26, 3) := by decide +kernel
theorem d2_28 : decode prog_32_method_3_code 28 = .ok (.aload_n 0, 1) := by decide +kernel
theorem d2_29 : decode prog_32_method_3_code 29 = .ok (.iconst 2, 1) := by decide +kernel
theorem d2_30 : decode prog_32_method_3_code 30 = .ok (.anewarray 8, 3) := by decide +kernel
theorem d2_33 : decode prog_32_method_3_code 33 = .ok (.putfield 29, 3) := by decide +kernel
theorem d2_36 : decode prog_32_method_3_code 36 = .ok (.aload_n 0, 1) := by decide +kernel
theorem d2_37 : decode prog_32_method_3_code 37 = .ok (.iconst 2, 1) := by decide +kernel
theorem d2_38 : decode prog_32_method_3_code 38 = .ok (.anewarray 2, 3) := by decide +kernel
theorem d2_41 : decode prog_32_method_3_code 41 = .ok (.putfield 33, 3) := by decide +kernel
theorem d2_44 : decode prog_32_method_3_code 44 = .ok (.aload_n 0, 1) := by decide +kernel
theorem d2_45 : decode prog_32_method_3_code 45 = .ok (.iconst 0, 1) := by decide +kernel
theorem d2_46 : decode prog_32_method_3_code 46 = .ok (.anewarray 8, 3) := by decide +kernel
theorem d2_49 : decode prog_32_method_3_code 49 = .ok (.putfield 36, 3) := by decide +kernel
theorem d2_52 : decode prog_32_method_3_code 52 = .ok (.aload_n 0, 1) := by decide +kernel
theorem d2_53 : decode prog_32_method_3_code 53 = .ok (.iconst 0, 1) := by decide +kernel
theorem d2_54 : decode prog_32_method_3_code 54 = .ok (.anewarray 2, 3) := by decide +kernel
theorem d2_57 : decode prog_32_method_3_code 57 = .ok (.putfield 39, 3) := by decide +kernel
theorem d2_60 : decode prog_32_method_3_code 60 = .ok (.aload_n 0, 1) := by decide +kernel
theorem d2_61 : decode prog_32_method_3_code 61 = .ok (.iconst 0, 1) := by decide +kernel
theorem d2_62 : decode prog_32_method_3_code 62 = .ok (.anewarray 42, 3) := by decide +kernel
theorem d2_65 : decode prog_32_method_3_code 65 = .ok (.putfield 44, 3) := by decide +kernel
theorem d2_68 : decode prog_32_method_3_code 68 = .ok (.aload_n 0, 1) := by decide +kernel
theorem d2_69 : decode prog_32_method_3_code 69 = .ok (.iconst 0, 1) := by decide +kernel
theorem d2_70 : decode prog_32_method_3_code 70 = .ok (.anewarray 2, 3) := by decide +kernel
theorem d2_73 : decode prog_32_method_3_code 73 = .ok (.putfield 48, 3) := by decide +kernel
theorem d2_76 : decode prog_32_method_3_code 76 = .ok (.aload_n 0, 1) := by decide +kernel
theorem d2_77 : decode prog_32_method_3_code 77 = .ok (.iconst 0, 1) := by decide +kernel
theorem d2_78 : decode prog_32_method_3_code 78 = .ok (.newarray .int, 2) := by decide +kernel
theorem d2_80 : decode prog_32_method_3_code 80 = .ok (.putfield 51, 3) := by decide +kernel
theorem d2_83 : decode prog_32_method_3_code 83 = .ok (.aload_n 0, 1) := by decide +kernel
theorem d2_84 : decode prog_32_method_3_code 84 = .ok (.aload_n 1, 1) := by decide +kernel
theorem d2_85 : decode prog_32_method_3_code 85 = .ok (.putfield 54, 3) := by decide +kernel
theorem d2_88 : decode prog_32_method_3_code 88 = .ok (.aload_n 0, 1) := by decide +kernel
theorem d2_89 : decode prog_32_method_3_code 89 = .ok (.iload_n 2, 1) := by decide +kernel
theorem d2_90 : decode prog_32_method_3_code 90 = .ok (.putfield 58, 3) := by decide +kernel
theorem d2_93 : decode prog_32_method_3_code 93 = .ok (.aload_n 0, 1) := by decide +kernel
theorem d2_94 : decode prog_32_method_3_code 94 = .ok (.iload 4, 2) := by decide +kernel
theorem d2_96 : decode prog_32_method_3_code 96 = .ok (.putfield 62, 3) := by decide +kernel
theorem d2_99 : decode prog_32_method_3_code 99 = .ok (.aload_n 0, 1) := by decide +kernel
theorem d2_100 : decode prog_32_method_3_code 100 = .ok (.lload 5, 2) := by decide +kernel
theorem d2_102 : decode prog_32_method_3_code 102 = .ok (.putfield 66, 3) := by decide +kernel
theorem d2_105 : decode prog_32_method_3_code 105 = .ok (.aload_n 0, 1) := by decide +kernel
theorem d2_106 : decode prog_32_method_3_code 106 = .ok (.iload 7, 2) := by decide +kernel
theorem d2_108 : decode prog_32_method_3_code 108 = .ok (.putfield 70, 3) := by decide +kernel
theorem d2_111 : decode prog_32_method_3_code 111 = .ok (.aload_n 0, 1) := by decide +kernel
theorem d2_112 : decode prog_32_method_3_code 112 = .ok (.aload 8, 2) := by decide +kernel
theorem d2_114 : decode prog_32_method_3_code 114 = .ok (.putfield 73, 3) := by decide +kernel
theorem d2_117 : decode prog_32_method_3_code 117 = .ok (.aload_n 0, 1) := by decide +kernel
theorem d2_118 : decode prog_32_method_3_code 118 = .ok (.iload_n 3, 1) := by decide +kernel
theorem d2_119 : decode prog_32_method_3_code 119 = .ok (.bipush 63, 2) := by decide +kernel
theorem d2_121 : decode prog_32_method_3_code 121 = .ok (.iadd, 1) := by decide +kernel
theorem d2_122 : decode prog_32_method_3_code 122 = .ok (.bipush 6, 2) := by decide +kernel
theorem d2_124 : decode prog_32_method_3_code 124 = .ok (.iushr, 1) := by decide +kernel
theorem d2_125 : decode prog_32_method_3_code 125 = .ok (.newarray .long, 2) := by decide +kernel
theorem d2_127 : decode prog_32_method_3_code 127 = .ok (.putfield 76, 3) := by decide +kernel
theorem d2_130 : decode prog_32_method_3_code 130 = .ok (.return_, 1) := by decide +kernel
theorem ef_2_vnvvvvvv (m : MethodId) (x0 : Addr) (x2 : Int32) (x3 : Int32) (x4 : Int32) (x5 : Int64) (x6 : Int32) (x7 : Addr) : entryFrame m #[(.ref x0), .null, (.int x2), (.int x3), (.int x4), (.long x5), (.int x6), (.ref x7)] 9 = mkF m 0 #[.val (.ref x0), .val .null, .val (.int x2), .val (.int x3), .val (.int x4), .val (.long x5), .second, .val (.int x6), .val (.ref x7)] [] := by first | (simp [entryFrame, mkF, argsToLocals, Value.category]; done) | rfl
theorem pn_2 : plainName "com/example/kvasir/kvasir/tableau/Node" = true := by first | (simp [plainName, overriddenIn]; done) | decide +kernel
set_option maxRecDepth 65536 in
set_option maxHeartbeats 40000000 in
theorem rmC2 (l : Launch) (Z : State) (a0 : Array Value) (hw : ∀ d ∈ tables_1, d.before a0 Z = true) (ws : List Jvm.Cond) (o0 : Addr) (wE : Addr) (h0 : Heap) (n0 : Nat) (O0 : Old Z n0 h0) (E_o0 : Exa Z h0 o0 "com/example/kvasir/kvasir/tableau/Node") (U_o0 : Unt h0 o0) (g_o0 : n0 ≤ o0) :
    MetFree l (⟨"com/example/kvasir/kvasir/tableau/Node", "<init>", "(Lcom/example/kvasir/kvasir/tableau/Node;IIZJILcom/example/kvasir/kvasir/tableau/DependencySet;)V"⟩ : MethodName) (head1 (Jvm.Cond.code (⟨"com/example/kvasir/kvasir/tableau/Node", "<init>", "(Lcom/example/kvasir/kvasir/tableau/Node;IIZJILcom/example/kvasir/kvasir/tableau/DependencySet;)V"⟩ : MethodName) prog_32_method_3_code 9 none :: ws) ({ frames := 1, cells := 11, slots := 23, locals := 12 } : Room)) (fun a U => a = #[(.ref o0), .null, (.int (0 : Int32)), (.int (64 : Int32)), (.int (0 : Int32)), (.long (1 : Int64)), (.int (-1 : Int32)), (.ref wE)] ∧ Z.Warmed39 U.vm ∧ U.heap = h0) (fun _ _ _ _ _ => True) (fun _ U o U' => ∃ v L, o = .returned v ∧ own_QC Z o0 h0 n0 v U'.heap L ∧ FrameEnd U o U' L ({ frames := 1, cells := 11, slots := 23, locals := 12 } : Room).cells ({ frames := 1, cells := 11, slots := 23, locals := 12 } : Room).slots) := by
  refine MetFree.of_bodySF (plainFor_of_name pn_2) hisR ?_
  intro p e s m args below meth c s₁ Bd hml0 hP hK
  obtain ⟨rfl, hZ, hh⟩ := hP
  have hx := Bd.exec
  have hby := Bd.bytes
  have hml : c.maxLocals = 9 := hml0
  have hown : s.vm.findClass "com/example/kvasir/kvasir/tableau/Node" = some m.cls := findClass_of_methodNamed Bd.named
  have hnm := (name_of_methodNamed Bd.named Bd.method).1
  have X0 : Stand p l e ({ frames := 1, cells := 11, slots := 23, locals := 12 } : Room) s m #[(.ref o0), .null, (.int (0 : Int32)), (.int (64 : Int32)), (.int (0 : Int32)), (.long (1 : Int64)), (.int (-1 : Int32)), (.ref wE)] below meth c s₁ [] 0 0 := Stand.of_body Bd
  have e0 : s₁.heap = h0 := by rw [← hh, Bd.state]; rfl
  have N0 := Fr.nil n0
  have pre0 : ∀ t, Steps p.tables e below (s₁.setTop (mkF m 0 #[.val (.ref o0), .val .null, .val (.int (0 : Int32)), .val (.int (64 : Int32)), .val (.int (0 : Int32)), .val (.long (1 : Int64)), .second, .val (.int (-1 : Int32)), .val (.ref wE)] [])) t → Steps p.tables e below (s₁.setTop (entryFrame m #[(.ref o0), .null, (.int (0 : Int32)), (.int (64 : Int32)), (.int (0 : Int32)), (.long (1 : Int64)), (.int (-1 : Int32)), (.ref wE)] 9)) t := fun t k => castTop (ef_2_vnvvvvvv m o0 (0 : Int32) (64 : Int32) (0 : Int32) (1 : Int64) (-1 : Int32) wE) k
  obtain ⟨T1, X1, e1, st1⟩ := initO X0 hx hZ hown (hw _ (List.mem_of_getElem? (i := 13) rfl)) (hw _ (List.mem_of_getElem? (i := 14) rfl)) (hw _ (List.mem_of_getElem? (i := 15) rfl)) e0 (g := (mkF m 1 #[.val (.ref o0), .val .null, .val (.int (0 : Int32)), .val (.int (64 : Int32)), .val (.int (0 : Int32)), .val (.long (1 : Int64)), .second, .val (.int (-1 : Int32)), .val (.ref wE)] [(.ref o0)])) rfl (by rw [hml]; rfl) rfl (hb hby d2_1) (by decide) (W := 0) (by show 2 * 0 + _ ≤ _; exact Nat.le_of_eq rfl) (by decide)
  obtain ⟨T2, h2, k2, X2, e2, E2, A2, st2⟩ := newP X1 hx hZ (hw _ (List.mem_of_getElem? (i := 16) rfl)) e1 (g := (mkF m 7 #[.val (.ref o0), .val .null, .val (.int (0 : Int32)), .val (.int (64 : Int32)), .val (.int (0 : Int32)), .val (.long (1 : Int64)), .second, .val (.int (-1 : Int32)), .val (.ref wE)] [(.int (8 : Int32)), (.ref o0)])) rfl (hb hby d2_7) rfl (by decide) (cap := 8) (by decide) (by decide) (by decide) (by decide)
  obtain ⟨b2, g2⟩ : ∃ z, z = h0.size := ⟨_, rfl⟩
  rw [← g2] at A2 st2
  have g_b2 : n0 ≤ b2 := Nat.le_trans (own_le O0) (Nat.le_of_eq g2.symm)
  have O2 := O0.ext E2
  have V_b2 : Arv Z h2 b2 k2 .int (8 : Int32) [(.int (0 : Int32)), (.int (0 : Int32)), (.int (0 : Int32)), (.int (0 : Int32)), (.int (0 : Int32)), (.int (0 : Int32)), (.int (0 : Int32)), (.int (0 : Int32))] (.int (0 : Int32)) := (Arv.new A2 (by decide)).pad (pad_rep [] (.int (0 : Int32)) 8)
  obtain ⟨uo3, Fo3⟩ := fld_laid (E_o0.ext E2) (Unt.known (Unt.ext E2 U_o0)) (hw _ (List.mem_of_getElem? (i := 2) rfl)) (Or.inl (hw _ (List.mem_of_getElem? (i := 18) rfl)))
  obtain ⟨T3, h3, X3, e3, W3, st3⟩ := putF X2 hx hZ hown (host := "") (Or.inl (hw _ (List.mem_of_getElem? (i := 17) rfl))) Via.refl e2 Fo3 (E_o0.ext E2) (Or.inl (hw _ (List.mem_of_getElem? (i := 18) rfl))) (hw _ (List.mem_of_getElem? (i := 2) rfl)) (ty := (.array .int)) (by decide) rfl rfl (g := (mkF m 9 #[.val (.ref o0), .val .null, .val (.int (0 : Int32)), .val (.int (64 : Int32)), .val (.int (0 : Int32)), .val (.long (1 : Int64)), .second, .val (.int (-1 : Int32)), .val (.ref wE)] [(.ref b2), (.ref o0)])) rfl rfl (hb hby d2_9)
  have O3 := O2.wr W3 g_o0
  have Fw3 := Fo3.same W3
  have N3 := Fr.snoc X3 N0 g_o0
  obtain ⟨T4, h4, k4, X4, e4, E4, A4, Ov4, st4⟩ := newR X3 hx hZ hown (hw _ (List.mem_of_getElem? (i := 19) rfl)) (hw _ (List.mem_of_getElem? (i := 20) rfl)) e3 (g := (mkF m 15 #[.val (.ref o0), .val .null, .val (.int (0 : Int32)), .val (.int (64 : Int32)), .val (.int (0 : Int32)), .val (.long (1 : Int64)), .second, .val (.int (-1 : Int32)), .val (.ref wE)] [(.int (8 : Int32)), (.ref o0)])) rfl (hb hby d2_15) rfl (by decide) (cap := 8) (by decide) (by decide) (by decide) (by decide)
  obtain ⟨b4, g4⟩ : ∃ z, z = h3.size := ⟨_, rfl⟩
  rw [← g4] at A4 st4
  have g_b4 : n0 ≤ b4 := Nat.le_trans (own_le O3) (Nat.le_of_eq g4.symm)
  have O4 := O3.ext E4
  have V_b4 : Arv Z h4 b4 k4 (.object "com/example/kvasir/kvasir/tableau/DependencySet") (8 : Int32) [.null, .null, .null, .null, .null, .null, .null, .null] .null := (Arv.new A4 (by decide)).pad (pad_rep [] .null 8)
  obtain ⟨uo5, Fo5⟩ := fld_laid (((E_o0.ext E2).wr W3).ext E4) (Unt.known (Unt.ext E4 (Unt.wr W3 (Unt.ext E2 U_o0)))) (hw _ (List.mem_of_getElem? (i := 2) rfl)) (Or.inl (hw _ (List.mem_of_getElem? (i := 22) rfl)))
  obtain ⟨T5, h5, X5, e5, W5, st5⟩ := putF X4 hx hZ hown (host := "") (Or.inl (hw _ (List.mem_of_getElem? (i := 21) rfl))) Via.refl e4 Fo5 (((E_o0.ext E2).wr W3).ext E4) (Or.inl (hw _ (List.mem_of_getElem? (i := 22) rfl))) (hw _ (List.mem_of_getElem? (i := 2) rfl)) (ty := (.array (.object "com/example/kvasir/kvasir/tableau/DependencySet"))) (by decide) rfl rfl (g := (mkF m 18 #[.val (.ref o0), .val .null, .val (.int (0 : Int32)), .val (.int (64 : Int32)), .val (.int (0 : Int32)), .val (.long (1 : Int64)), .second, .val (.int (-1 : Int32)), .val (.ref wE)] [(.ref b4), (.ref o0)])) rfl rfl (hb hby d2_18)
  have O5 := O4.wr W5 g_o0
  have Fw5 := Fo5.same W5
  have N5 := Fr.snoc X5 N3 g_o0
  obtain ⟨T6, h6, k6, X6, e6, E6, A6, st6⟩ := newP X5 hx hZ (hw _ (List.mem_of_getElem? (i := 16) rfl)) e5 (g := (mkF m 23 #[.val (.ref o0), .val .null, .val (.int (0 : Int32)), .val (.int (64 : Int32)), .val (.int (0 : Int32)), .val (.long (1 : Int64)), .second, .val (.int (-1 : Int32)), .val (.ref wE)] [(.int (2 : Int32)), (.ref o0)])) rfl (hb hby d2_23) rfl (by decide) (cap := 2) (by decide) (by decide) (by decide) (by decide)
  obtain ⟨b6, g6⟩ : ∃ z, z = h5.size := ⟨_, rfl⟩
  rw [← g6] at A6 st6
  have g_b6 : n0 ≤ b6 := Nat.le_trans (own_le O5) (Nat.le_of_eq g6.symm)
  have O6 := O5.ext E6
  have V_b6 : Arv Z h6 b6 k6 .int (2 : Int32) [(.int (0 : Int32)), (.int (0 : Int32))] (.int (0 : Int32)) := (Arv.new A6 (by decide)).pad (pad_rep [] (.int (0 : Int32)) 2)
  have u_o0_5_x := (Unt.ext E6 (Unt.wr W5 (Unt.ext E4 (Unt.wr W3 (Unt.ext E2 U_o0)))))
  obtain ⟨uo7, Fo7⟩ := fld_laid (((((E_o0.ext E2).wr W3).ext E4).wr W5).ext E6) (Unt.known u_o0_5_x) (hw _ (List.mem_of_getElem? (i := 2) rfl)) (Or.inl (hw _ (List.mem_of_getElem? (i := 24) rfl)))
  obtain ⟨T7, h7, X7, e7, W7, st7⟩ := putF X6 hx hZ hown (host := "") (Or.inl (hw _ (List.mem_of_getElem? (i := 23) rfl))) Via.refl e6 Fo7 (((((E_o0.ext E2).wr W3).ext E4).wr W5).ext E6) (Or.inl (hw _ (List.mem_of_getElem? (i := 24) rfl))) (hw _ (List.mem_of_getElem? (i := 2) rfl)) (ty := (.array .int)) (by decide) rfl rfl (g := (mkF m 25 #[.val (.ref o0), .val .null, .val (.int (0 : Int32)), .val (.int (64 : Int32)), .val (.int (0 : Int32)), .val (.long (1 : Int64)), .second, .val (.int (-1 : Int32)), .val (.ref wE)] [(.ref b6), (.ref o0)])) rfl rfl (hb hby d2_25)
  have O7 := O6.wr W7 g_o0
  have Fw7 := Fo7.same W7
  have N7 := Fr.snoc X7 N5 g_o0
  obtain ⟨T8, h8, k8, X8, e8, E8, A8, Ov8, st8⟩ := newR X7 hx hZ hown (hw _ (List.mem_of_getElem? (i := 25) rfl)) (hw _ (List.mem_of_getElem? (i := 26) rfl)) e7 (g := (mkF m 30 #[.val (.ref o0), .val .null, .val (.int (0 : Int32)), .val (.int (64 : Int32)), .val (.int (0 : Int32)), .val (.long (1 : Int64)), .second, .val (.int (-1 : Int32)), .val (.ref wE)] [(.int (2 : Int32)), (.ref o0)])) rfl (hb hby d2_30) rfl (by decide) (cap := 2) (by decide) (by decide) (by decide) (by decide)
  obtain ⟨b8, g8⟩ : ∃ z, z = h7.size := ⟨_, rfl⟩
  rw [← g8] at A8 st8
  have g_b8 : n0 ≤ b8 := Nat.le_trans (own_le O7) (Nat.le_of_eq g8.symm)
  have O8 := O7.ext E8
  have V_b8 : Arv Z h8 b8 k8 (.object "com/example/kvasir/kvasir/tableau/Node") (2 : Int32) [.null, .null] .null := (Arv.new A8 (by decide)).pad (pad_rep [] .null 2)
  have e_o0_7_x := (((((((E_o0.ext E2).wr W3).ext E4).wr W5).ext E6).wr W7).ext E8)
  obtain ⟨uo9, Fo9⟩ := fld_laid e_o0_7_x (Unt.known (Unt.ext E8 (Unt.wr W7 u_o0_5_x))) (hw _ (List.mem_of_getElem? (i := 2) rfl)) (Or.inl (hw _ (List.mem_of_getElem? (i := 28) rfl)))
  obtain ⟨T9, h9, X9, e9, W9, st9⟩ := putF X8 hx hZ hown (host := "") (Or.inl (hw _ (List.mem_of_getElem? (i := 27) rfl))) Via.refl e8 Fo9 e_o0_7_x (Or.inl (hw _ (List.mem_of_getElem? (i := 28) rfl))) (hw _ (List.mem_of_getElem? (i := 2) rfl)) (ty := (.array (.object "com/example/kvasir/kvasir/tableau/Node"))) (by decide) rfl rfl (g := (mkF m 33 #[.val (.ref o0), .val .null, .val (.int (0 : Int32)), .val (.int (64 : Int32)), .val (.int (0 : Int32)), .val (.long (1 : Int64)), .second, .val (.int (-1 : Int32)), .val (.ref wE)] [(.ref b8), (.ref o0)])) rfl rfl (hb hby d2_33)
  have O9 := O8.wr W9 g_o0
  have Fw9 := Fo9.same W9
  have N9 := Fr.snoc X9 N7 g_o0
  obtain ⟨T10, h10, k10, X10, e10, E10, A10, Ov10, st10⟩ := newR X9 hx hZ hown (hw _ (List.mem_of_getElem? (i := 19) rfl)) (hw _ (List.mem_of_getElem? (i := 20) rfl)) e9 (g := (mkF m 38 #[.val (.ref o0), .val .null, .val (.int (0 : Int32)), .val (.int (64 : Int32)), .val (.int (0 : Int32)), .val (.long (1 : Int64)), .second, .val (.int (-1 : Int32)), .val (.ref wE)] [(.int (2 : Int32)), (.ref o0)])) rfl (hb hby d2_38) rfl (by decide) (cap := 2) (by decide) (by decide) (by decide) (by decide)
  obtain ⟨b10, g10⟩ : ∃ z, z = h9.size := ⟨_, rfl⟩
  rw [← g10] at A10 st10
  have g_b10 : n0 ≤ b10 := Nat.le_trans (own_le O9) (Nat.le_of_eq g10.symm)
  have O10 := O9.ext E10
  have V_b10 : Arv Z h10 b10 k10 (.object "com/example/kvasir/kvasir/tableau/DependencySet") (2 : Int32) [.null, .null] .null := (Arv.new A10 (by decide)).pad (pad_rep [] .null 2)
  obtain ⟨uo11, Fo11⟩ := fld_laid ((e_o0_7_x.wr W9).ext E10) (Unt.known (Unt.ext E10 (Unt.wr W9 (Unt.ext E8 (Unt.wr W7 u_o0_5_x))))) (hw _ (List.mem_of_getElem? (i := 2) rfl)) (Or.inl (hw _ (List.mem_of_getElem? (i := 30) rfl)))
  obtain ⟨T11, h11, X11, e11, W11, st11⟩ := putF X10 hx hZ hown (host := "") (Or.inl (hw _ (List.mem_of_getElem? (i := 29) rfl))) Via.refl e10 Fo11 ((e_o0_7_x.wr W9).ext E10) (Or.inl (hw _ (List.mem_of_getElem? (i := 30) rfl))) (hw _ (List.mem_of_getElem? (i := 2) rfl)) (ty := (.array (.object "com/example/kvasir/kvasir/tableau/DependencySet"))) (by decide) rfl rfl (g := (mkF m 41 #[.val (.ref o0), .val .null, .val (.int (0 : Int32)), .val (.int (64 : Int32)), .val (.int (0 : Int32)), .val (.long (1 : Int64)), .second, .val (.int (-1 : Int32)), .val (.ref wE)] [(.ref b10), (.ref o0)])) rfl rfl (hb hby d2_41)
  have O11 := O10.wr W11 g_o0
  have Fw11 := Fo11.same W11
  have N11 := Fr.snoc X11 N9 g_o0
  obtain ⟨T12, h12, k12, X12, e12, E12, A12, Ov12, st12⟩ := newR X11 hx hZ hown (hw _ (List.mem_of_getElem? (i := 25) rfl)) (hw _ (List.mem_of_getElem? (i := 26) rfl)) e11 (g := (mkF m 46 #[.val (.ref o0), .val .null, .val (.int (0 : Int32)), .val (.int (64 : Int32)), .val (.int (0 : Int32)), .val (.long (1 : Int64)), .second, .val (.int (-1 : Int32)), .val (.ref wE)] [(.int (0 : Int32)), (.ref o0)])) rfl (hb hby d2_46) rfl (by decide) (cap := 0) (by decide) (by decide) (by decide) (by decide)
  obtain ⟨b12, g12⟩ : ∃ z, z = h11.size := ⟨_, rfl⟩
  rw [← g12] at A12 st12
  have g_b12 : n0 ≤ b12 := Nat.le_trans (own_le O11) (Nat.le_of_eq g12.symm)
  have O12 := O11.ext E12
  have V_b12 : Arv Z h12 b12 k12 (.object "com/example/kvasir/kvasir/tableau/Node") (0 : Int32) [] .null := (Arv.new A12 (by decide)).pad (pad_rep [] .null 0)
  have u_o0_11_x := (Unt.ext E12 (Unt.wr W11 (Unt.ext E10 (Unt.wr W9 (Unt.ext E8 (Unt.wr W7 u_o0_5_x))))))
  obtain ⟨uo13, Fo13⟩ := fld_laid ((((e_o0_7_x.wr W9).ext E10).wr W11).ext E12) (Unt.known u_o0_11_x) (hw _ (List.mem_of_getElem? (i := 2) rfl)) (Or.inl (hw _ (List.mem_of_getElem? (i := 32) rfl)))
  obtain ⟨T13, h13, X13, e13, W13, st13⟩ := putF X12 hx hZ hown (host := "") (Or.inl (hw _ (List.mem_of_getElem? (i := 31) rfl))) Via.refl e12 Fo13 ((((e_o0_7_x.wr W9).ext E10).wr W11).ext E12) (Or.inl (hw _ (List.mem_of_getElem? (i := 32) rfl))) (hw _ (List.mem_of_getElem? (i := 2) rfl)) (ty := (.array (.object "com/example/kvasir/kvasir/tableau/Node"))) (by decide) rfl rfl (g := (mkF m 49 #[.val (.ref o0), .val .null, .val (.int (0 : Int32)), .val (.int (64 : Int32)), .val (.int (0 : Int32)), .val (.long (1 : Int64)), .second, .val (.int (-1 : Int32)), .val (.ref wE)] [(.ref b12), (.ref o0)])) rfl rfl (hb hby d2_49)
  have O13 := O12.wr W13 g_o0
  have Fw13 := Fo13.same W13
  have N13 := Fr.snoc X13 N11 g_o0
  obtain ⟨T14, h14, k14, X14, e14, E14, A14, Ov14, st14⟩ := newR X13 hx hZ hown (hw _ (List.mem_of_getElem? (i := 19) rfl)) (hw _ (List.mem_of_getElem? (i := 20) rfl)) e13 (g := (mkF m 54 #[.val (.ref o0), .val .null, .val (.int (0 : Int32)), .val (.int (64 : Int32)), .val (.int (0 : Int32)), .val (.long (1 : Int64)), .second, .val (.int (-1 : Int32)), .val (.ref wE)] [(.int (0 : Int32)), (.ref o0)])) rfl (hb hby d2_54) rfl (by decide) (cap := 0) (by decide) (by decide) (by decide) (by decide)
  obtain ⟨b14, g14⟩ : ∃ z, z = h13.size := ⟨_, rfl⟩
  rw [← g14] at A14 st14
  have g_b14 : n0 ≤ b14 := Nat.le_trans (own_le O13) (Nat.le_of_eq g14.symm)
  have O14 := O13.ext E14
  have V_b14 : Arv Z h14 b14 k14 (.object "com/example/kvasir/kvasir/tableau/DependencySet") (0 : Int32) [] .null := (Arv.new A14 (by decide)).pad (pad_rep [] .null 0)
  have e_o0_13_x := ((((((e_o0_7_x.wr W9).ext E10).wr W11).ext E12).wr W13).ext E14)
  obtain ⟨uo15, Fo15⟩ := fld_laid e_o0_13_x (Unt.known (Unt.ext E14 (Unt.wr W13 u_o0_11_x))) (hw _ (List.mem_of_getElem? (i := 2) rfl)) (Or.inl (hw _ (List.mem_of_getElem? (i := 34) rfl)))
  obtain ⟨T15, h15, X15, e15, W15, st15⟩ := putF X14 hx hZ hown (host := "") (Or.inl (hw _ (List.mem_of_getElem? (i := 33) rfl))) Via.refl e14 Fo15 e_o0_13_x (Or.inl (hw _ (List.mem_of_getElem? (i := 34) rfl))) (hw _ (List.mem_of_getElem? (i := 2) rfl)) (ty := (.array (.object "com/example/kvasir/kvasir/tableau/DependencySet"))) (by decide) rfl rfl (g := (mkF m 57 #[.val (.ref o0), .val .null, .val (.int (0 : Int32)), .val (.int (64 : Int32)), .val (.int (0 : Int32)), .val (.long (1 : Int64)), .second, .val (.int (-1 : Int32)), .val (.ref wE)] [(.ref b14), (.ref o0)])) rfl rfl (hb hby d2_57)
  have O15 := O14.wr W15 g_o0
  have Fw15 := Fo15.same W15
  have N15 := Fr.snoc X15 N13 g_o0
  obtain ⟨T16, h16, k16, X16, e16, E16, A16, Ov16, st16⟩ := newR X15 hx hZ hown (hw _ (List.mem_of_getElem? (i := 35) rfl)) (hw _ (List.mem_of_getElem? (i := 36) rfl)) e15 (g := (mkF m 62 #[.val (.ref o0), .val .null, .val (.int (0 : Int32)), .val (.int (64 : Int32)), .val (.int (0 : Int32)), .val (.long (1 : Int64)), .second, .val (.int (-1 : Int32)), .val (.ref wE)] [(.int (0 : Int32)), (.ref o0)])) rfl (hb hby d2_62) rfl (by decide) (cap := 0) (by decide) (by decide) (by decide) (by decide)
  obtain ⟨b16, g16⟩ : ∃ z, z = h15.size := ⟨_, rfl⟩
  rw [← g16] at A16 st16
  have g_b16 : n0 ≤ b16 := Nat.le_trans (own_le O15) (Nat.le_of_eq g16.symm)
  have O16 := O15.ext E16
  have V_b16 : Arv Z h16 b16 k16 (.object "com/example/kvasir/kvasir/tableau/ApartGroup") (0 : Int32) [] .null := (Arv.new A16 (by decide)).pad (pad_rep [] .null 0)
  have u_o0_15_x := (Unt.ext E16 (Unt.wr W15 (Unt.ext E14 (Unt.wr W13 u_o0_11_x))))
  obtain ⟨uo17, Fo17⟩ := fld_laid ((e_o0_13_x.wr W15).ext E16) (Unt.known u_o0_15_x) (hw _ (List.mem_of_getElem? (i := 2) rfl)) (Or.inl (hw _ (List.mem_of_getElem? (i := 38) rfl)))
  obtain ⟨T17, h17, X17, e17, W17, st17⟩ := putF X16 hx hZ hown (host := "") (Or.inl (hw _ (List.mem_of_getElem? (i := 37) rfl))) Via.refl e16 Fo17 ((e_o0_13_x.wr W15).ext E16) (Or.inl (hw _ (List.mem_of_getElem? (i := 38) rfl))) (hw _ (List.mem_of_getElem? (i := 2) rfl)) (ty := (.array (.object "com/example/kvasir/kvasir/tableau/ApartGroup"))) (by decide) rfl rfl (g := (mkF m 65 #[.val (.ref o0), .val .null, .val (.int (0 : Int32)), .val (.int (64 : Int32)), .val (.int (0 : Int32)), .val (.long (1 : Int64)), .second, .val (.int (-1 : Int32)), .val (.ref wE)] [(.ref b16), (.ref o0)])) rfl rfl (hb hby d2_65)
  have O17 := O16.wr W17 g_o0
  have Fw17 := Fo17.same W17
  have N17 := Fr.snoc X17 N15 g_o0
  obtain ⟨T18, h18, k18, X18, e18, E18, A18, Ov18, st18⟩ := newR X17 hx hZ hown (hw _ (List.mem_of_getElem? (i := 19) rfl)) (hw _ (List.mem_of_getElem? (i := 20) rfl)) e17 (g := (mkF m 70 #[.val (.ref o0), .val .null, .val (.int (0 : Int32)), .val (.int (64 : Int32)), .val (.int (0 : Int32)), .val (.long (1 : Int64)), .second, .val (.int (-1 : Int32)), .val (.ref wE)] [(.int (0 : Int32)), (.ref o0)])) rfl (hb hby d2_70) rfl (by decide) (cap := 0) (by decide) (by decide) (by decide) (by decide)
  obtain ⟨b18, g18⟩ : ∃ z, z = h17.size := ⟨_, rfl⟩
  rw [← g18] at A18 st18
  have g_b18 : n0 ≤ b18 := Nat.le_trans (own_le O17) (Nat.le_of_eq g18.symm)
  have O18 := O17.ext E18
  have V_b18 : Arv Z h18 b18 k18 (.object "com/example/kvasir/kvasir/tableau/DependencySet") (0 : Int32) [] .null := (Arv.new A18 (by decide)).pad (pad_rep [] .null 0)
  obtain ⟨uo19, Fo19⟩ := fld_laid ((((e_o0_13_x.wr W15).ext E16).wr W17).ext E18) (Unt.known (Unt.ext E18 (Unt.wr W17 u_o0_15_x))) (hw _ (List.mem_of_getElem? (i := 2) rfl)) (Or.inl (hw _ (List.mem_of_getElem? (i := 40) rfl)))
  obtain ⟨T19, h19, X19, e19, W19, st19⟩ := putF X18 hx hZ hown (host := "") (Or.inl (hw _ (List.mem_of_getElem? (i := 39) rfl))) Via.refl e18 Fo19 ((((e_o0_13_x.wr W15).ext E16).wr W17).ext E18) (Or.inl (hw _ (List.mem_of_getElem? (i := 40) rfl))) (hw _ (List.mem_of_getElem? (i := 2) rfl)) (ty := (.array (.object "com/example/kvasir/kvasir/tableau/DependencySet"))) (by decide) rfl rfl (g := (mkF m 73 #[.val (.ref o0), .val .null, .val (.int (0 : Int32)), .val (.int (64 : Int32)), .val (.int (0 : Int32)), .val (.long (1 : Int64)), .second, .val (.int (-1 : Int32)), .val (.ref wE)] [(.ref b18), (.ref o0)])) rfl rfl (hb hby d2_73)
  have O19 := O18.wr W19 g_o0
  have Fw19 := Fo19.same W19
  have N19 := Fr.snoc X19 N17 g_o0
  obtain ⟨T20, h20, k20, X20, e20, E20, A20, st20⟩ := newP X19 hx hZ (hw _ (List.mem_of_getElem? (i := 16) rfl)) e19 (g := (mkF m 78 #[.val (.ref o0), .val .null, .val (.int (0 : Int32)), .val (.int (64 : Int32)), .val (.int (0 : Int32)), .val (.long (1 : Int64)), .second, .val (.int (-1 : Int32)), .val (.ref wE)] [(.int (0 : Int32)), (.ref o0)])) rfl (hb hby d2_78) rfl (by decide) (cap := 0) (by decide) (by decide) (by decide) (by decide)
  obtain ⟨b20, g20⟩ : ∃ z, z = h19.size := ⟨_, rfl⟩
  rw [← g20] at A20 st20
  have g_b20 : n0 ≤ b20 := Nat.le_trans (own_le O19) (Nat.le_of_eq g20.symm)
  have O20 := O19.ext E20
  have V_b20 : Arv Z h20 b20 k20 .int (0 : Int32) [] (.int (0 : Int32)) := (Arv.new A20 (by decide)).pad (pad_rep [] (.int (0 : Int32)) 0)
  have e_o0_19_x := ((((((e_o0_13_x.wr W15).ext E16).wr W17).ext E18).wr W19).ext E20)
  have u_o0_19_x := (Unt.ext E20 (Unt.wr W19 (Unt.ext E18 (Unt.wr W17 u_o0_15_x))))
  obtain ⟨uo21, Fo21⟩ := fld_laid e_o0_19_x (Unt.known u_o0_19_x) (hw _ (List.mem_of_getElem? (i := 2) rfl)) (Or.inl (hw _ (List.mem_of_getElem? (i := 42) rfl)))
  obtain ⟨T21, h21, X21, e21, W21, st21⟩ := putF X20 hx hZ hown (host := "") (Or.inl (hw _ (List.mem_of_getElem? (i := 41) rfl))) Via.refl e20 Fo21 e_o0_19_x (Or.inl (hw _ (List.mem_of_getElem? (i := 42) rfl))) (hw _ (List.mem_of_getElem? (i := 2) rfl)) (ty := (.array .int)) (by decide) rfl rfl (g := (mkF m 80 #[.val (.ref o0), .val .null, .val (.int (0 : Int32)), .val (.int (64 : Int32)), .val (.int (0 : Int32)), .val (.long (1 : Int64)), .second, .val (.int (-1 : Int32)), .val (.ref wE)] [(.ref b20), (.ref o0)])) rfl rfl (hb hby d2_80)
  have O21 := O20.wr W21 g_o0
  have Fw21 := Fo21.same W21
  have N21 := Fr.snoc X21 N19 g_o0
  obtain ⟨uo22, Fo22⟩ := fld_laid (e_o0_19_x.wr W21) (Unt.known (Unt.wr W21 u_o0_19_x)) (hw _ (List.mem_of_getElem? (i := 2) rfl)) (Or.inr (hw _ (List.mem_of_getElem? (i := 44) rfl)))
  obtain ⟨T22, h22, X22, e22, W22, st22⟩ := putF X21 hx hZ hown (host := "") (Or.inl (hw _ (List.mem_of_getElem? (i := 43) rfl))) Via.refl e21 Fo22 (e_o0_19_x.wr W21) (Or.inr ⟨(hw _ (List.mem_of_getElem? (i := 44) rfl)), rfl, hnm⟩) (hw _ (List.mem_of_getElem? (i := 2) rfl)) (ty := (.object "com/example/kvasir/kvasir/tableau/Node")) (by decide) rfl rfl (g := (mkF m 85 #[.val (.ref o0), .val .null, .val (.int (0 : Int32)), .val (.int (64 : Int32)), .val (.int (0 : Int32)), .val (.long (1 : Int64)), .second, .val (.int (-1 : Int32)), .val (.ref wE)] [.null, (.ref o0)])) rfl rfl (hb hby d2_85)
  have O22 := O21.wr W22 g_o0
  have Fw22 := Fo22.same W22
  have N22 := Fr.snoc X22 N21 g_o0
  obtain ⟨uo23, Fo23⟩ := fld_laid ((e_o0_19_x.wr W21).wr W22) (Unt.known (Unt.wr W22 (Unt.wr W21 u_o0_19_x))) (hw _ (List.mem_of_getElem? (i := 2) rfl)) (Or.inr (hw _ (List.mem_of_getElem? (i := 46) rfl)))
  obtain ⟨T23, h23, X23, e23, W23, st23⟩ := putF X22 hx hZ hown (host := "") (Or.inl (hw _ (List.mem_of_getElem? (i := 45) rfl))) Via.refl e22 Fo23 ((e_o0_19_x.wr W21).wr W22) (Or.inr ⟨(hw _ (List.mem_of_getElem? (i := 46) rfl)), rfl, hnm⟩) (hw _ (List.mem_of_getElem? (i := 2) rfl)) (ty := .int) (by decide) rfl rfl (g := (mkF m 90 #[.val (.ref o0), .val .null, .val (.int (0 : Int32)), .val (.int (64 : Int32)), .val (.int (0 : Int32)), .val (.long (1 : Int64)), .second, .val (.int (-1 : Int32)), .val (.ref wE)] [(.int (0 : Int32)), (.ref o0)])) rfl rfl (hb hby d2_90)
  have O23 := O22.wr W23 g_o0
  have Fw23 := Fo23.same W23
  have N23 := Fr.snoc X23 N22 g_o0
  obtain ⟨uo24, Fo24⟩ := fld_laid (((e_o0_19_x.wr W21).wr W22).wr W23) (Unt.known (Unt.wr W23 (Unt.wr W22 (Unt.wr W21 u_o0_19_x)))) (hw _ (List.mem_of_getElem? (i := 2) rfl)) (Or.inr (hw _ (List.mem_of_getElem? (i := 48) rfl)))
  obtain ⟨T24, h24, X24, e24, W24, st24⟩ := putFN X23 hx hZ hown (hw _ (List.mem_of_getElem? (i := 47) rfl)) Via.refl e23 Fo24 (((e_o0_19_x.wr W21).wr W22).wr W23) (Or.inr ⟨(hw _ (List.mem_of_getElem? (i := 48) rfl)), rfl, hnm⟩) (hw _ (List.mem_of_getElem? (i := 2) rfl)) (ty := .boolean) (v' := (.int (0 : Int32))) (by decide) rfl (by decide) (g := (mkF m 96 #[.val (.ref o0), .val .null, .val (.int (0 : Int32)), .val (.int (64 : Int32)), .val (.int (0 : Int32)), .val (.long (1 : Int64)), .second, .val (.int (-1 : Int32)), .val (.ref wE)] [(.int (0 : Int32)), (.ref o0)])) rfl rfl (hb hby d2_96)
  have O24 := O23.wr W24 g_o0
  have Fw24 := Fo24.same W24
  have N24 := Fr.snoc X24 N23 g_o0
  have u_o0_23_x := (Unt.wr W24 (Unt.wr W23 (Unt.wr W22 (Unt.wr W21 u_o0_19_x))))
  obtain ⟨uo25, Fo25⟩ := fld_laid ((((e_o0_19_x.wr W21).wr W22).wr W23).wr W24) (Unt.known u_o0_23_x) (hw _ (List.mem_of_getElem? (i := 2) rfl)) (Or.inr (hw _ (List.mem_of_getElem? (i := 50) rfl)))
  obtain ⟨T25, h25, X25, e25, W25, st25⟩ := putF X24 hx hZ hown (host := "") (Or.inl (hw _ (List.mem_of_getElem? (i := 49) rfl))) Via.refl e24 Fo25 ((((e_o0_19_x.wr W21).wr W22).wr W23).wr W24) (Or.inr ⟨(hw _ (List.mem_of_getElem? (i := 50) rfl)), rfl, hnm⟩) (hw _ (List.mem_of_getElem? (i := 2) rfl)) (ty := .long) (by decide) rfl rfl (g := (mkF m 102 #[.val (.ref o0), .val .null, .val (.int (0 : Int32)), .val (.int (64 : Int32)), .val (.int (0 : Int32)), .val (.long (1 : Int64)), .second, .val (.int (-1 : Int32)), .val (.ref wE)] [(.long (1 : Int64)), (.ref o0)])) rfl rfl (hb hby d2_102)
  have O25 := O24.wr W25 g_o0
  have Fw25 := Fo25.same W25
  have N25 := Fr.snoc X25 N24 g_o0
  obtain ⟨uo26, Fo26⟩ := fld_laid (((((e_o0_19_x.wr W21).wr W22).wr W23).wr W24).wr W25) (Unt.known (Unt.wr W25 u_o0_23_x)) (hw _ (List.mem_of_getElem? (i := 2) rfl)) (Or.inr (hw _ (List.mem_of_getElem? (i := 52) rfl)))
  obtain ⟨T26, h26, X26, e26, W26, st26⟩ := putF X25 hx hZ hown (host := "") (Or.inl (hw _ (List.mem_of_getElem? (i := 51) rfl))) Via.refl e25 Fo26 (((((e_o0_19_x.wr W21).wr W22).wr W23).wr W24).wr W25) (Or.inr ⟨(hw _ (List.mem_of_getElem? (i := 52) rfl)), rfl, hnm⟩) (hw _ (List.mem_of_getElem? (i := 2) rfl)) (ty := .int) (by decide) rfl rfl (g := (mkF m 108 #[.val (.ref o0), .val .null, .val (.int (0 : Int32)), .val (.int (64 : Int32)), .val (.int (0 : Int32)), .val (.long (1 : Int64)), .second, .val (.int (-1 : Int32)), .val (.ref wE)] [(.int (-1 : Int32)), (.ref o0)])) rfl rfl (hb hby d2_108)
  have O26 := O25.wr W26 g_o0
  have Fw26 := Fo26.same W26
  have N26 := Fr.snoc X26 N25 g_o0
  have e_o0_25_x := ((((((e_o0_19_x.wr W21).wr W22).wr W23).wr W24).wr W25).wr W26)
  obtain ⟨uo27, Fo27⟩ := fld_laid e_o0_25_x (Unt.known (Unt.wr W26 (Unt.wr W25 u_o0_23_x))) (hw _ (List.mem_of_getElem? (i := 2) rfl)) (Or.inr (hw _ (List.mem_of_getElem? (i := 54) rfl)))
  obtain ⟨T27, h27, X27, e27, W27, st27⟩ := putF X26 hx hZ hown (host := "") (Or.inl (hw _ (List.mem_of_getElem? (i := 53) rfl))) Via.refl e26 Fo27 e_o0_25_x (Or.inr ⟨(hw _ (List.mem_of_getElem? (i := 54) rfl)), rfl, hnm⟩) (hw _ (List.mem_of_getElem? (i := 2) rfl)) (ty := (.object "com/example/kvasir/kvasir/tableau/DependencySet")) (by decide) rfl rfl (g := (mkF m 114 #[.val (.ref o0), .val .null, .val (.int (0 : Int32)), .val (.int (64 : Int32)), .val (.int (0 : Int32)), .val (.long (1 : Int64)), .second, .val (.int (-1 : Int32)), .val (.ref wE)] [(.ref wE), (.ref o0)])) rfl rfl (hb hby d2_114)
  have O27 := O26.wr W27 g_o0
  have Fw27 := Fo27.same W27
  have N27 := Fr.snoc X27 N26 g_o0
  obtain ⟨T28, h28, k28, X28, e28, E28, A28, st28⟩ := newP X27 hx hZ (hw _ (List.mem_of_getElem? (i := 55) rfl)) e27 (g := (mkF m 125 #[.val (.ref o0), .val .null, .val (.int (0 : Int32)), .val (.int (64 : Int32)), .val (.int (0 : Int32)), .val (.long (1 : Int64)), .second, .val (.int (-1 : Int32)), .val (.ref wE)] [(.int (1 : Int32)), (.ref o0)])) rfl (hb hby d2_125) rfl (by decide) (cap := 1) (by decide) (by decide) (by decide) (by decide)
  obtain ⟨b28, g28⟩ : ∃ z, z = h27.size := ⟨_, rfl⟩
  rw [← g28] at A28 st28
  have g_b28 : n0 ≤ b28 := Nat.le_trans (own_le O27) (Nat.le_of_eq g28.symm)
  have O28 := O27.ext E28
  have V_b28 : Arv Z h28 b28 k28 .long (1 : Int32) [(.long (0 : Int64))] (.long (0 : Int64)) := (Arv.new A28 (by decide)).pad (pad_rep [] (.long (0 : Int64)) 1)
  have u_o0_27_x := (Unt.ext E28 (Unt.wr W27 (Unt.wr W26 (Unt.wr W25 u_o0_23_x))))
  obtain ⟨uo29, Fo29⟩ := fld_laid ((e_o0_25_x.wr W27).ext E28) (Unt.known u_o0_27_x) (hw _ (List.mem_of_getElem? (i := 2) rfl)) (Or.inr (hw _ (List.mem_of_getElem? (i := 57) rfl)))
  obtain ⟨T29, h29, X29, e29, W29, st29⟩ := putF X28 hx hZ hown (host := "") (Or.inl (hw _ (List.mem_of_getElem? (i := 56) rfl))) Via.refl e28 Fo29 ((e_o0_25_x.wr W27).ext E28) (Or.inr ⟨(hw _ (List.mem_of_getElem? (i := 57) rfl)), rfl, hnm⟩) (hw _ (List.mem_of_getElem? (i := 2) rfl)) (ty := (.array .long)) (by decide) rfl rfl (g := (mkF m 127 #[.val (.ref o0), .val .null, .val (.int (0 : Int32)), .val (.int (64 : Int32)), .val (.int (0 : Int32)), .val (.long (1 : Int64)), .second, .val (.int (-1 : Int32)), .val (.ref wE)] [(.ref b28), (.ref o0)])) rfl rfl (hb hby d2_127)
  have O29 := O28.wr W29 g_o0
  have Fw29 := Fo29.same W29
  have N29 := Fr.snoc X29 N27 g_o0
  have f_o0_28_agendaPlaces := ((((((((Fw21.other W22 (Or.inr (slot_ne (Or.inl (hw _ (List.mem_of_getElem? (i := 42) rfl))) (Or.inr (hw _ (List.mem_of_getElem? (i := 44) rfl))) (by decide) (t := (.array .int)) (t' := (.object "com/example/kvasir/kvasir/tableau/Node")) (by decide) (by decide)))).other W23 (Or.inr (slot_ne (Or.inl (hw _ (List.mem_of_getElem? (i := 42) rfl))) (Or.inr (hw _ (List.mem_of_getElem? (i := 46) rfl))) (by decide) (t := (.array .int)) (t' := .int) (by decide) (by decide)))).other W24 (Or.inr (slot_ne (Or.inl (hw _ (List.mem_of_getElem? (i := 42) rfl))) (Or.inr (hw _ (List.mem_of_getElem? (i := 48) rfl))) (by decide) (t := (.array .int)) (t' := .boolean) (by decide) (by decide)))).other W25 (Or.inr (slot_ne (Or.inl (hw _ (List.mem_of_getElem? (i := 42) rfl))) (Or.inr (hw _ (List.mem_of_getElem? (i := 50) rfl))) (by decide) (t := (.array .int)) (t' := .long) (by decide) (by decide)))).other W26 (Or.inr (slot_ne (Or.inl (hw _ (List.mem_of_getElem? (i := 42) rfl))) (Or.inr (hw _ (List.mem_of_getElem? (i := 52) rfl))) (by decide) (t := (.array .int)) (t' := .int) (by decide) (by decide)))).other W27 (Or.inr (slot_ne (Or.inl (hw _ (List.mem_of_getElem? (i := 42) rfl))) (Or.inr (hw _ (List.mem_of_getElem? (i := 54) rfl))) (by decide) (t := (.array .int)) (t' := (.object "com/example/kvasir/kvasir/tableau/DependencySet")) (by decide) (by decide)))).ext E28).other W29 (Or.inr (slot_ne (Or.inl (hw _ (List.mem_of_getElem? (i := 42) rfl))) (Or.inr (hw _ (List.mem_of_getElem? (i := 57) rfl))) (by decide) (t := (.array .int)) (t' := (.array .long)) (by decide) (by decide))))
  have v_b20_28_x := (((((((((V_b20.other W21 (Ne.symm (Nat.ne_of_lt (Nat.lt_of_lt_of_le (Nat.lt_of_lt_of_le E_o0.lt (Nat.le_trans (Nat.le_trans (Nat.le_trans (Nat.le_trans (Nat.le_trans (Nat.le_trans (Nat.le_trans (Nat.le_trans (Nat.le_trans (Nat.le_trans (Nat.le_trans (Nat.le_trans (Nat.le_trans (Nat.le_trans (Nat.le_trans (Nat.le_trans (Nat.le_trans E2.1 (Keep.of_wr W3).1) E4.1) (Keep.of_wr W5).1) E6.1) (Keep.of_wr W7).1) E8.1) (Keep.of_wr W9).1) E10.1) (Keep.of_wr W11).1) E12.1) (Keep.of_wr W13).1) E14.1) (Keep.of_wr W15).1) E16.1) (Keep.of_wr W17).1) E18.1) (Keep.of_wr W19).1)) (Nat.le_of_eq g20.symm))))).other W22 (Ne.symm (Nat.ne_of_lt (Nat.lt_of_lt_of_le (Nat.lt_of_lt_of_le E_o0.lt (Nat.le_trans (Nat.le_trans (Nat.le_trans (Nat.le_trans (Nat.le_trans (Nat.le_trans (Nat.le_trans (Nat.le_trans (Nat.le_trans (Nat.le_trans (Nat.le_trans (Nat.le_trans (Nat.le_trans (Nat.le_trans (Nat.le_trans (Nat.le_trans (Nat.le_trans E2.1 (Keep.of_wr W3).1) E4.1) (Keep.of_wr W5).1) E6.1) (Keep.of_wr W7).1) E8.1) (Keep.of_wr W9).1) E10.1) (Keep.of_wr W11).1) E12.1) (Keep.of_wr W13).1) E14.1) (Keep.of_wr W15).1) E16.1) (Keep.of_wr W17).1) E18.1) (Keep.of_wr W19).1)) (Nat.le_of_eq g20.symm))))).other W23 (Ne.symm (Nat.ne_of_lt (Nat.lt_of_lt_of_le (Nat.lt_of_lt_of_le E_o0.lt (Nat.le_trans (Nat.le_trans (Nat.le_trans (Nat.le_trans (Nat.le_trans (Nat.le_trans (Nat.le_trans (Nat.le_trans (Nat.le_trans (Nat.le_trans (Nat.le_trans (Nat.le_trans (Nat.le_trans (Nat.le_trans (Nat.le_trans (Nat.le_trans (Nat.le_trans E2.1 (Keep.of_wr W3).1) E4.1) (Keep.of_wr W5).1) E6.1) (Keep.of_wr W7).1) E8.1) (Keep.of_wr W9).1) E10.1) (Keep.of_wr W11).1) E12.1) (Keep.of_wr W13).1) E14.1) (Keep.of_wr W15).1) E16.1) (Keep.of_wr W17).1) E18.1) (Keep.of_wr W19).1)) (Nat.le_of_eq g20.symm))))).other W24 (Ne.symm (Nat.ne_of_lt (Nat.lt_of_lt_of_le (Nat.lt_of_lt_of_le E_o0.lt (Nat.le_trans (Nat.le_trans (Nat.le_trans (Nat.le_trans (Nat.le_trans (Nat.le_trans (Nat.le_trans (Nat.le_trans (Nat.le_trans (Nat.le_trans (Nat.le_trans (Nat.le_trans (Nat.le_trans (Nat.le_trans (Nat.le_trans (Nat.le_trans (Nat.le_trans E2.1 (Keep.of_wr W3).1) E4.1) (Keep.of_wr W5).1) E6.1) (Keep.of_wr W7).1) E8.1) (Keep.of_wr W9).1) E10.1) (Keep.of_wr W11).1) E12.1) (Keep.of_wr W13).1) E14.1) (Keep.of_wr W15).1) E16.1) (Keep.of_wr W17).1) E18.1) (Keep.of_wr W19).1)) (Nat.le_of_eq g20.symm))))).other W25 (Ne.symm (Nat.ne_of_lt (Nat.lt_of_lt_of_le (Nat.lt_of_lt_of_le E_o0.lt (Nat.le_trans (Nat.le_trans (Nat.le_trans (Nat.le_trans (Nat.le_trans (Nat.le_trans (Nat.le_trans (Nat.le_trans (Nat.le_trans (Nat.le_trans (Nat.le_trans (Nat.le_trans (Nat.le_trans (Nat.le_trans (Nat.le_trans (Nat.le_trans (Nat.le_trans E2.1 (Keep.of_wr W3).1) E4.1) (Keep.of_wr W5).1) E6.1) (Keep.of_wr W7).1) E8.1) (Keep.of_wr W9).1) E10.1) (Keep.of_wr W11).1) E12.1) (Keep.of_wr W13).1) E14.1) (Keep.of_wr W15).1) E16.1) (Keep.of_wr W17).1) E18.1) (Keep.of_wr W19).1)) (Nat.le_of_eq g20.symm))))).other W26 (Ne.symm (Nat.ne_of_lt (Nat.lt_of_lt_of_le (Nat.lt_of_lt_of_le E_o0.lt (Nat.le_trans (Nat.le_trans (Nat.le_trans (Nat.le_trans (Nat.le_trans (Nat.le_trans (Nat.le_trans (Nat.le_trans (Nat.le_trans (Nat.le_trans (Nat.le_trans (Nat.le_trans (Nat.le_trans (Nat.le_trans (Nat.le_trans (Nat.le_trans (Nat.le_trans E2.1 (Keep.of_wr W3).1) E4.1) (Keep.of_wr W5).1) E6.1) (Keep.of_wr W7).1) E8.1) (Keep.of_wr W9).1) E10.1) (Keep.of_wr W11).1) E12.1) (Keep.of_wr W13).1) E14.1) (Keep.of_wr W15).1) E16.1) (Keep.of_wr W17).1) E18.1) (Keep.of_wr W19).1)) (Nat.le_of_eq g20.symm))))).other W27 (Ne.symm (Nat.ne_of_lt (Nat.lt_of_lt_of_le (Nat.lt_of_lt_of_le E_o0.lt (Nat.le_trans (Nat.le_trans (Nat.le_trans (Nat.le_trans (Nat.le_trans (Nat.le_trans (Nat.le_trans (Nat.le_trans (Nat.le_trans (Nat.le_trans (Nat.le_trans (Nat.le_trans (Nat.le_trans (Nat.le_trans (Nat.le_trans (Nat.le_trans (Nat.le_trans E2.1 (Keep.of_wr W3).1) E4.1) (Keep.of_wr W5).1) E6.1) (Keep.of_wr W7).1) E8.1) (Keep.of_wr W9).1) E10.1) (Keep.of_wr W11).1) E12.1) (Keep.of_wr W13).1) E14.1) (Keep.of_wr W15).1) E16.1) (Keep.of_wr W17).1) E18.1) (Keep.of_wr W19).1)) (Nat.le_of_eq g20.symm))))).ext E28).other W29 (Ne.symm (Nat.ne_of_lt (Nat.lt_of_lt_of_le (Nat.lt_of_lt_of_le E_o0.lt (Nat.le_trans (Nat.le_trans (Nat.le_trans (Nat.le_trans (Nat.le_trans (Nat.le_trans (Nat.le_trans (Nat.le_trans (Nat.le_trans (Nat.le_trans (Nat.le_trans (Nat.le_trans (Nat.le_trans (Nat.le_trans (Nat.le_trans (Nat.le_trans (Nat.le_trans E2.1 (Keep.of_wr W3).1) E4.1) (Keep.of_wr W5).1) E6.1) (Keep.of_wr W7).1) E8.1) (Keep.of_wr W9).1) E10.1) (Keep.of_wr W11).1) E12.1) (Keep.of_wr W13).1) E14.1) (Keep.of_wr W15).1) E16.1) (Keep.of_wr W17).1) E18.1) (Keep.of_wr W19).1)) (Nat.le_of_eq g20.symm)))))
  obtain ⟨fs, hr, hrun, hended, hW, hsame⟩ := X29.leave (v := none) (fun _ => rfl)
  refine ⟨_, _, pre0 _ ?_, hrun, hended, _, _, rfl, ?_, ⟨_, rfl⟩, hW, hsame.mono (by decide) (by decide)⟩
  · show Steps p.tables e below (s₁.setTop (mkF m 0 #[.val (.ref o0), .val .null, .val (.int (0 : Int32)), .val (.int (64 : Int32)), .val (.int (0 : Int32)), .val (.long (1 : Int64)), .second, .val (.int (-1 : Int32)), .val (.ref wE)] [])) _
    refine XS.aloadN X0.here hx rfl (hb hby d2_0) rfl rfl ?_
    show Steps p.tables e below (s₁.setTop (mkF m 1 #[.val (.ref o0), .val .null, .val (.int (0 : Int32)), .val (.int (64 : Int32)), .val (.int (0 : Int32)), .val (.long (1 : Int64)), .second, .val (.int (-1 : Int32)), .val (.ref wE)] [(.ref o0)])) _
    refine st1 _ ?_
    show Steps p.tables e below (T1.setTop (mkF m 4 #[.val (.ref o0), .val .null, .val (.int (0 : Int32)), .val (.int (64 : Int32)), .val (.int (0 : Int32)), .val (.long (1 : Int64)), .second, .val (.int (-1 : Int32)), .val (.ref wE)] [])) _
    refine XS.aloadN X1.here hx rfl (hb hby d2_4) rfl rfl ?_
    show Steps p.tables e below (T1.setTop (mkF m 5 #[.val (.ref o0), .val .null, .val (.int (0 : Int32)), .val (.int (64 : Int32)), .val (.int (0 : Int32)), .val (.long (1 : Int64)), .second, .val (.int (-1 : Int32)), .val (.ref wE)] [(.ref o0)])) _
    refine XS.bipush X1.here hx rfl (hb hby d2_5) ?_
    show Steps p.tables e below (T1.setTop (mkF m 7 #[.val (.ref o0), .val .null, .val (.int (0 : Int32)), .val (.int (64 : Int32)), .val (.int (0 : Int32)), .val (.long (1 : Int64)), .second, .val (.int (-1 : Int32)), .val (.ref wE)] [(.int (8 : Int32)), (.ref o0)])) _
    refine st2 _ ?_
    show Steps p.tables e below (T2.setTop (mkF m 9 #[.val (.ref o0), .val .null, .val (.int (0 : Int32)), .val (.int (64 : Int32)), .val (.int (0 : Int32)), .val (.long (1 : Int64)), .second, .val (.int (-1 : Int32)), .val (.ref wE)] [(.ref b2), (.ref o0)])) _
    refine st3 _ ?_
    show Steps p.tables e below (T3.setTop (mkF m 12 #[.val (.ref o0), .val .null, .val (.int (0 : Int32)), .val (.int (64 : Int32)), .val (.int (0 : Int32)), .val (.long (1 : Int64)), .second, .val (.int (-1 : Int32)), .val (.ref wE)] [])) _
    refine XS.aloadN X3.here hx rfl (hb hby d2_12) rfl rfl ?_
    show Steps p.tables e below (T3.setTop (mkF m 13 #[.val (.ref o0), .val .null, .val (.int (0 : Int32)), .val (.int (64 : Int32)), .val (.int (0 : Int32)), .val (.long (1 : Int64)), .second, .val (.int (-1 : Int32)), .val (.ref wE)] [(.ref o0)])) _
    refine XS.bipush X3.here hx rfl (hb hby d2_13) ?_
    show Steps p.tables e below (T3.setTop (mkF m 15 #[.val (.ref o0), .val .null, .val (.int (0 : Int32)), .val (.int (64 : Int32)), .val (.int (0 : Int32)), .val (.long (1 : Int64)), .second, .val (.int (-1 : Int32)), .val (.ref wE)] [(.int (8 : Int32)), (.ref o0)])) _
    refine st4 _ ?_
    show Steps p.tables e below (T4.setTop (mkF m 18 #[.val (.ref o0), .val .null, .val (.int (0 : Int32)), .val (.int (64 : Int32)), .val (.int (0 : Int32)), .val (.long (1 : Int64)), .second, .val (.int (-1 : Int32)), .val (.ref wE)] [(.ref b4), (.ref o0)])) _
    refine st5 _ ?_
    show Steps p.tables e below (T5.setTop (mkF m 21 #[.val (.ref o0), .val .null, .val (.int (0 : Int32)), .val (.int (64 : Int32)), .val (.int (0 : Int32)), .val (.long (1 : Int64)), .second, .val (.int (-1 : Int32)), .val (.ref wE)] [])) _
    refine XS.aloadN X5.here hx rfl (hb hby d2_21) rfl rfl ?_
    show Steps p.tables e below (T5.setTop (mkF m 22 #[.val (.ref o0), .val .null, .val (.int (0 : Int32)), .val (.int (64 : Int32)), .val (.int (0 : Int32)), .val (.long (1 : Int64)), .second, .val (.int (-1 : Int32)), .val (.ref wE)] [(.ref o0)])) _
    refine XS.iconst X5.here hx rfl (hb hby d2_22) ?_
    show Steps p.tables e below (T5.setTop (mkF m 23 #[.val (.ref o0), .val .null, .val (.int (0 : Int32)), .val (.int (64 : Int32)), .val (.int (0 : Int32)), .val (.long (1 : Int64)), .second, .val (.int (-1 : Int32)), .val (.ref wE)] [(.int (2 : Int32)), (.ref o0)])) _
    refine st6 _ ?_
    show Steps p.tables e below (T6.setTop (mkF m 25 #[.val (.ref o0), .val .null, .val (.int (0 : Int32)), .val (.int (64 : Int32)), .val (.int (0 : Int32)), .val (.long (1 : Int64)), .second, .val (.int (-1 : Int32)), .val (.ref wE)] [(.ref b6), (.ref o0)])) _
    refine st7 _ ?_
    show Steps p.tables e below (T7.setTop (mkF m 28 #[.val (.ref o0), .val .null, .val (.int (0 : Int32)), .val (.int (64 : Int32)), .val (.int (0 : Int32)), .val (.long (1 : Int64)), .second, .val (.int (-1 : Int32)), .val (.ref wE)] [])) _
    refine XS.aloadN X7.here hx rfl (hb hby d2_28) rfl rfl ?_
    show Steps p.tables e below (T7.setTop (mkF m 29 #[.val (.ref o0), .val .null, .val (.int (0 : Int32)), .val (.int (64 : Int32)), .val (.int (0 : Int32)), .val (.long (1 : Int64)), .second, .val (.int (-1 : Int32)), .val (.ref wE)] [(.ref o0)])) _
    refine XS.iconst X7.here hx rfl (hb hby d2_29) ?_
    show Steps p.tables e below (T7.setTop (mkF m 30 #[.val (.ref o0), .val .null, .val (.int (0 : Int32)), .val (.int (64 : Int32)), .val (.int (0 : Int32)), .val (.long (1 : Int64)), .second, .val (.int (-1 : Int32)), .val (.ref wE)] [(.int (2 : Int32)), (.ref o0)])) _
    refine st8 _ ?_
    show Steps p.tables e below (T8.setTop (mkF m 33 #[.val (.ref o0), .val .null, .val (.int (0 : Int32)), .val (.int (64 : Int32)), .val (.int (0 : Int32)), .val (.long (1 : Int64)), .second, .val (.int (-1 : Int32)), .val (.ref wE)] [(.ref b8), (.ref o0)])) _
    refine st9 _ ?_
    show Steps p.tables e below (T9.setTop (mkF m 36 #[.val (.ref o0), .val .null, .val (.int (0 : Int32)), .val (.int (64 : Int32)), .val (.int (0 : Int32)), .val (.long (1 : Int64)), .second, .val (.int (-1 : Int32)), .val (.ref wE)] [])) _
    refine XS.aloadN X9.here hx rfl (hb hby d2_36) rfl rfl ?_
    show Steps p.tables e below (T9.setTop (mkF m 37 #[.val (.ref o0), .val .null, .val (.int (0 : Int32)), .val (.int (64 : Int32)), .val (.int (0 : Int32)), .val (.long (1 : Int64)), .second, .val (.int (-1 : Int32)), .val (.ref wE)] [(.ref o0)])) _
    refine XS.iconst X9.here hx rfl (hb hby d2_37) ?_
    show Steps p.tables e below (T9.setTop (mkF m 38 #[.val (.ref o0), .val .null, .val (.int (0 : Int32)), .val (.int (64 : Int32)), .val (.int (0 : Int32)), .val (.long (1 : Int64)), .second, .val (.int (-1 : Int32)), .val (.ref wE)] [(.int (2 : Int32)), (.ref o0)])) _
    refine st10 _ ?_
    show Steps p.tables e below (T10.setTop (mkF m 41 #[.val (.ref o0), .val .null, .val (.int (0 : Int32)), .val (.int (64 : Int32)), .val (.int (0 : Int32)), .val (.long (1 : Int64)), .second, .val (.int (-1 : Int32)), .val (.ref wE)] [(.ref b10), (.ref o0)])) _
    refine st11 _ ?_
    show Steps p.tables e below (T11.setTop (mkF m 44 #[.val (.ref o0), .val .null, .val (.int (0 : Int32)), .val (.int (64 : Int32)), .val (.int (0 : Int32)), .val (.long (1 : Int64)), .second, .val (.int (-1 : Int32)), .val (.ref wE)] [])) _
    refine XS.aloadN X11.here hx rfl (hb hby d2_44) rfl rfl ?_
    show Steps p.tables e below (T11.setTop (mkF m 45 #[.val (.ref o0), .val .null, .val (.int (0 : Int32)), .val (.int (64 : Int32)), .val (.int (0 : Int32)), .val (.long (1 : Int64)), .second, .val (.int (-1 : Int32)), .val (.ref wE)] [(.ref o0)])) _
    refine XS.iconst X11.here hx rfl (hb hby d2_45) ?_
    show Steps p.tables e below (T11.setTop (mkF m 46 #[.val (.ref o0), .val .null, .val (.int (0 : Int32)), .val (.int (64 : Int32)), .val (.int (0 : Int32)), .val (.long (1 : Int64)), .second, .val (.int (-1 : Int32)), .val (.ref wE)] [(.int (0 : Int32)), (.ref o0)])) _
    refine st12 _ ?_
    show Steps p.tables e below (T12.setTop (mkF m 49 #[.val (.ref o0), .val .null, .val (.int (0 : Int32)), .val (.int (64 : Int32)), .val (.int (0 : Int32)), .val (.long (1 : Int64)), .second, .val (.int (-1 : Int32)), .val (.ref wE)] [(.ref b12), (.ref o0)])) _
    refine st13 _ ?_
    show Steps p.tables e below (T13.setTop (mkF m 52 #[.val (.ref o0), .val .null, .val (.int (0 : Int32)), .val (.int (64 : Int32)), .val (.int (0 : Int32)), .val (.long (1 : Int64)), .second, .val (.int (-1 : Int32)), .val (.ref wE)] [])) _
    refine XS.aloadN X13.here hx rfl (hb hby d2_52) rfl rfl ?_
    show Steps p.tables e below (T13.setTop (mkF m 53 #[.val (.ref o0), .val .null, .val (.int (0 : Int32)), .val (.int (64 : Int32)), .val (.int (0 : Int32)), .val (.long (1 : Int64)), .second, .val (.int (-1 : Int32)), .val (.ref wE)] [(.ref o0)])) _
    refine XS.iconst X13.here hx rfl (hb hby d2_53) ?_
    show Steps p.tables e below (T13.setTop (mkF m 54 #[.val (.ref o0), .val .null, .val (.int (0 : Int32)), .val (.int (64 : Int32)), .val (.int (0 : Int32)), .val (.long (1 : Int64)), .second, .val (.int (-1 : Int32)), .val (.ref wE)] [(.int (0 : Int32)), (.ref o0)])) _
    refine st14 _ ?_
    show Steps p.tables e below (T14.setTop (mkF m 57 #[.val (.ref o0), .val .null, .val (.int (0 : Int32)), .val (.int (64 : Int32)), .val (.int (0 : Int32)), .val (.long (1 : Int64)), .second, .val (.int (-1 : Int32)), .val (.ref wE)] [(.ref b14), (.ref o0)])) _
    refine st15 _ ?_
    show Steps p.tables e below (T15.setTop (mkF m 60 #[.val (.ref o0), .val .null, .val (.int (0 : Int32)), .val (.int (64 : Int32)), .val (.int (0 : Int32)), .val (.long (1 : Int64)), .second, .val (.int (-1 : Int32)), .val (.ref wE)] [])) _
    refine XS.aloadN X15.here hx rfl (hb hby d2_60) rfl rfl ?_
    show Steps p.tables e below (T15.setTop (mkF m 61 #[.val (.ref o0), .val .null, .val (.int (0 : Int32)), .val (.int (64 : Int32)), .val (.int (0 : Int32)), .val (.long (1 : Int64)), .second, .val (.int (-1 : Int32)), .val (.ref wE)] [(.ref o0)])) _
    refine XS.iconst X15.here hx rfl (hb hby d2_61) ?_
    show Steps p.tables e below (T15.setTop (mkF m 62 #[.val (.ref o0), .val .null, .val (.int (0 : Int32)), .val (.int (64 : Int32)), .val (.int (0 : Int32)), .val (.long (1 : Int64)), .second, .val (.int (-1 : Int32)), .val (.ref wE)] [(.int (0 : Int32)), (.ref o0)])) _
    refine st16 _ ?_
    show Steps p.tables e below (T16.setTop (mkF m 65 #[.val (.ref o0), .val .null, .val (.int (0 : Int32)), .val (.int (64 : Int32)), .val (.int (0 : Int32)), .val (.long (1 : Int64)), .second, .val (.int (-1 : Int32)), .val (.ref wE)] [(.ref b16), (.ref o0)])) _
    refine st17 _ ?_
    show Steps p.tables e below (T17.setTop (mkF m 68 #[.val (.ref o0), .val .null, .val (.int (0 : Int32)), .val (.int (64 : Int32)), .val (.int (0 : Int32)), .val (.long (1 : Int64)), .second, .val (.int (-1 : Int32)), .val (.ref wE)] [])) _
    refine XS.aloadN X17.here hx rfl (hb hby d2_68) rfl rfl ?_
    show Steps p.tables e below (T17.setTop (mkF m 69 #[.val (.ref o0), .val .null, .val (.int (0 : Int32)), .val (.int (64 : Int32)), .val (.int (0 : Int32)), .val (.long (1 : Int64)), .second, .val (.int (-1 : Int32)), .val (.ref wE)] [(.ref o0)])) _
    refine XS.iconst X17.here hx rfl (hb hby d2_69) ?_
    show Steps p.tables e below (T17.setTop (mkF m 70 #[.val (.ref o0), .val .null, .val (.int (0 : Int32)), .val (.int (64 : Int32)), .val (.int (0 : Int32)), .val (.long (1 : Int64)), .second, .val (.int (-1 : Int32)), .val (.ref wE)] [(.int (0 : Int32)), (.ref o0)])) _
    refine st18 _ ?_
    show Steps p.tables e below (T18.setTop (mkF m 73 #[.val (.ref o0), .val .null, .val (.int (0 : Int32)), .val (.int (64 : Int32)), .val (.int (0 : Int32)), .val (.long (1 : Int64)), .second, .val (.int (-1 : Int32)), .val (.ref wE)] [(.ref b18), (.ref o0)])) _
    refine st19 _ ?_
    show Steps p.tables e below (T19.setTop (mkF m 76 #[.val (.ref o0), .val .null, .val (.int (0 : Int32)), .val (.int (64 : Int32)), .val (.int (0 : Int32)), .val (.long (1 : Int64)), .second, .val (.int (-1 : Int32)), .val (.ref wE)] [])) _
    refine XS.aloadN X19.here hx rfl (hb hby d2_76) rfl rfl ?_
    show Steps p.tables e below (T19.setTop (mkF m 77 #[.val (.ref o0), .val .null, .val (.int (0 : Int32)), .val (.int (64 : Int32)), .val (.int (0 : Int32)), .val (.long (1 : Int64)), .second, .val (.int (-1 : Int32)), .val (.ref wE)] [(.ref o0)])) _
    refine XS.iconst X19.here hx rfl (hb hby d2_77) ?_
    show Steps p.tables e below (T19.setTop (mkF m 78 #[.val (.ref o0), .val .null, .val (.int (0 : Int32)), .val (.int (64 : Int32)), .val (.int (0 : Int32)), .val (.long (1 : Int64)), .second, .val (.int (-1 : Int32)), .val (.ref wE)] [(.int (0 : Int32)), (.ref o0)])) _
    refine st20 _ ?_
    show Steps p.tables e below (T20.setTop (mkF m 80 #[.val (.ref o0), .val .null, .val (.int (0 : Int32)), .val (.int (64 : Int32)), .val (.int (0 : Int32)), .val (.long (1 : Int64)), .second, .val (.int (-1 : Int32)), .val (.ref wE)] [(.ref b20), (.ref o0)])) _
    refine st21 _ ?_
    show Steps p.tables e below (T21.setTop (mkF m 83 #[.val (.ref o0), .val .null, .val (.int (0 : Int32)), .val (.int (64 : Int32)), .val (.int (0 : Int32)), .val (.long (1 : Int64)), .second, .val (.int (-1 : Int32)), .val (.ref wE)] [])) _
    refine XS.aloadN X21.here hx rfl (hb hby d2_83) rfl rfl ?_
    show Steps p.tables e below (T21.setTop (mkF m 84 #[.val (.ref o0), .val .null, .val (.int (0 : Int32)), .val (.int (64 : Int32)), .val (.int (0 : Int32)), .val (.long (1 : Int64)), .second, .val (.int (-1 : Int32)), .val (.ref wE)] [(.ref o0)])) _
    refine XS.aloadN X21.here hx rfl (hb hby d2_84) rfl rfl ?_
    show Steps p.tables e below (T21.setTop (mkF m 85 #[.val (.ref o0), .val .null, .val (.int (0 : Int32)), .val (.int (64 : Int32)), .val (.int (0 : Int32)), .val (.long (1 : Int64)), .second, .val (.int (-1 : Int32)), .val (.ref wE)] [.null, (.ref o0)])) _
    refine st22 _ ?_
    show Steps p.tables e below (T22.setTop (mkF m 88 #[.val (.ref o0), .val .null, .val (.int (0 : Int32)), .val (.int (64 : Int32)), .val (.int (0 : Int32)), .val (.long (1 : Int64)), .second, .val (.int (-1 : Int32)), .val (.ref wE)] [])) _
    refine XS.aloadN X22.here hx rfl (hb hby d2_88) rfl rfl ?_
    show Steps p.tables e below (T22.setTop (mkF m 89 #[.val (.ref o0), .val .null, .val (.int (0 : Int32)), .val (.int (64 : Int32)), .val (.int (0 : Int32)), .val (.long (1 : Int64)), .second, .val (.int (-1 : Int32)), .val (.ref wE)] [(.ref o0)])) _
    refine XS.iloadN X22.here hx rfl (hb hby d2_89) rfl ?_
    show Steps p.tables e below (T22.setTop (mkF m 90 #[.val (.ref o0), .val .null, .val (.int (0 : Int32)), .val (.int (64 : Int32)), .val (.int (0 : Int32)), .val (.long (1 : Int64)), .second, .val (.int (-1 : Int32)), .val (.ref wE)] [(.int (0 : Int32)), (.ref o0)])) _
    refine st23 _ ?_
    show Steps p.tables e below (T23.setTop (mkF m 93 #[.val (.ref o0), .val .null, .val (.int (0 : Int32)), .val (.int (64 : Int32)), .val (.int (0 : Int32)), .val (.long (1 : Int64)), .second, .val (.int (-1 : Int32)), .val (.ref wE)] [])) _
    refine XS.aloadN X23.here hx rfl (hb hby d2_93) rfl rfl ?_
    show Steps p.tables e below (T23.setTop (mkF m 94 #[.val (.ref o0), .val .null, .val (.int (0 : Int32)), .val (.int (64 : Int32)), .val (.int (0 : Int32)), .val (.long (1 : Int64)), .second, .val (.int (-1 : Int32)), .val (.ref wE)] [(.ref o0)])) _
    refine XS.iload X23.here hx rfl (hb hby d2_94) rfl ?_
    show Steps p.tables e below (T23.setTop (mkF m 96 #[.val (.ref o0), .val .null, .val (.int (0 : Int32)), .val (.int (64 : Int32)), .val (.int (0 : Int32)), .val (.long (1 : Int64)), .second, .val (.int (-1 : Int32)), .val (.ref wE)] [(.int (0 : Int32)), (.ref o0)])) _
    refine st24 _ ?_
    show Steps p.tables e below (T24.setTop (mkF m 99 #[.val (.ref o0), .val .null, .val (.int (0 : Int32)), .val (.int (64 : Int32)), .val (.int (0 : Int32)), .val (.long (1 : Int64)), .second, .val (.int (-1 : Int32)), .val (.ref wE)] [])) _
    refine XS.aloadN X24.here hx rfl (hb hby d2_99) rfl rfl ?_
    show Steps p.tables e below (T24.setTop (mkF m 100 #[.val (.ref o0), .val .null, .val (.int (0 : Int32)), .val (.int (64 : Int32)), .val (.int (0 : Int32)), .val (.long (1 : Int64)), .second, .val (.int (-1 : Int32)), .val (.ref wE)] [(.ref o0)])) _
    refine XS.lload X24.here hx rfl (hb hby d2_100) rfl ?_
    show Steps p.tables e below (T24.setTop (mkF m 102 #[.val (.ref o0), .val .null, .val (.int (0 : Int32)), .val (.int (64 : Int32)), .val (.int (0 : Int32)), .val (.long (1 : Int64)), .second, .val (.int (-1 : Int32)), .val (.ref wE)] [(.long (1 : Int64)), (.ref o0)])) _
    refine st25 _ ?_
    show Steps p.tables e below (T25.setTop (mkF m 105 #[.val (.ref o0), .val .null, .val (.int (0 : Int32)), .val (.int (64 : Int32)), .val (.int (0 : Int32)), .val (.long (1 : Int64)), .second, .val (.int (-1 : Int32)), .val (.ref wE)] [])) _
    refine XS.aloadN X25.here hx rfl (hb hby d2_105) rfl rfl ?_
    show Steps p.tables e below (T25.setTop (mkF m 106 #[.val (.ref o0), .val .null, .val (.int (0 : Int32)), .val (.int (64 : Int32)), .val (.int (0 : Int32)), .val (.long (1 : Int64)), .second, .val (.int (-1 : Int32)), .val (.ref wE)] [(.ref o0)])) _
    refine XS.iload X25.here hx rfl (hb hby d2_106) rfl ?_
    show Steps p.tables e below (T25.setTop (mkF m 108 #[.val (.ref o0), .val .null, .val (.int (0 : Int32)), .val (.int (64 : Int32)), .val (.int (0 : Int32)), .val (.long (1 : Int64)), .second, .val (.int (-1 : Int32)), .val (.ref wE)] [(.int (-1 : Int32)), (.ref o0)])) _
    refine st26 _ ?_
    show Steps p.tables e below (T26.setTop (mkF m 111 #[.val (.ref o0), .val .null, .val (.int (0 : Int32)), .val (.int (64 : Int32)), .val (.int (0 : Int32)), .val (.long (1 : Int64)), .second, .val (.int (-1 : Int32)), .val (.ref wE)] [])) _
    refine XS.aloadN X26.here hx rfl (hb hby d2_111) rfl rfl ?_
    show Steps p.tables e below (T26.setTop (mkF m 112 #[.val (.ref o0), .val .null, .val (.int (0 : Int32)), .val (.int (64 : Int32)), .val (.int (0 : Int32)), .val (.long (1 : Int64)), .second, .val (.int (-1 : Int32)), .val (.ref wE)] [(.ref o0)])) _
    refine XS.aload X26.here hx rfl (hb hby d2_112) rfl rfl ?_
    show Steps p.tables e below (T26.setTop (mkF m 114 #[.val (.ref o0), .val .null, .val (.int (0 : Int32)), .val (.int (64 : Int32)), .val (.int (0 : Int32)), .val (.long (1 : Int64)), .second, .val (.int (-1 : Int32)), .val (.ref wE)] [(.ref wE), (.ref o0)])) _
    refine st27 _ ?_
    show Steps p.tables e below (T27.setTop (mkF m 117 #[.val (.ref o0), .val .null, .val (.int (0 : Int32)), .val (.int (64 : Int32)), .val (.int (0 : Int32)), .val (.long (1 : Int64)), .second, .val (.int (-1 : Int32)), .val (.ref wE)] [])) _
    refine XS.aloadN X27.here hx rfl (hb hby d2_117) rfl rfl ?_
    show Steps p.tables e below (T27.setTop (mkF m 118 #[.val (.ref o0), .val .null, .val (.int (0 : Int32)), .val (.int (64 : Int32)), .val (.int (0 : Int32)), .val (.long (1 : Int64)), .second, .val (.int (-1 : Int32)), .val (.ref wE)] [(.ref o0)])) _
    refine XS.iloadN X27.here hx rfl (hb hby d2_118) rfl ?_
    show Steps p.tables e below (T27.setTop (mkF m 119 #[.val (.ref o0), .val .null, .val (.int (0 : Int32)), .val (.int (64 : Int32)), .val (.int (0 : Int32)), .val (.long (1 : Int64)), .second, .val (.int (-1 : Int32)), .val (.ref wE)] [(.int (64 : Int32)), (.ref o0)])) _
    refine XS.bipush X27.here hx rfl (hb hby d2_119) ?_
    show Steps p.tables e below (T27.setTop (mkF m 121 #[.val (.ref o0), .val .null, .val (.int (0 : Int32)), .val (.int (64 : Int32)), .val (.int (0 : Int32)), .val (.long (1 : Int64)), .second, .val (.int (-1 : Int32)), .val (.ref wE)] [(.int (63 : Int32)), (.int (64 : Int32)), (.ref o0)])) _
    refine XS.iadd X27.here hx rfl (hb hby d2_121) rfl ?_
    show Steps p.tables e below (T27.setTop (mkF m 122 #[.val (.ref o0), .val .null, .val (.int (0 : Int32)), .val (.int (64 : Int32)), .val (.int (0 : Int32)), .val (.long (1 : Int64)), .second, .val (.int (-1 : Int32)), .val (.ref wE)] [(.int (127 : Int32)), (.ref o0)])) _
    refine XS.bipush X27.here hx rfl (hb hby d2_122) ?_
    show Steps p.tables e below (T27.setTop (mkF m 124 #[.val (.ref o0), .val .null, .val (.int (0 : Int32)), .val (.int (64 : Int32)), .val (.int (0 : Int32)), .val (.long (1 : Int64)), .second, .val (.int (-1 : Int32)), .val (.ref wE)] [(.int (6 : Int32)), (.int (127 : Int32)), (.ref o0)])) _
    refine XS.iushr X27.here hx rfl (hb hby d2_124) rfl ?_
    show Steps p.tables e below (T27.setTop (mkF m 125 #[.val (.ref o0), .val .null, .val (.int (0 : Int32)), .val (.int (64 : Int32)), .val (.int (0 : Int32)), .val (.long (1 : Int64)), .second, .val (.int (-1 : Int32)), .val (.ref wE)] [(.int (((127 : Int32).toUInt32 >>> ((6 : Int32) &&& 31).toUInt32).toInt32)), (.ref o0)])) _
    rw [show (((127 : Int32).toUInt32 >>> ((6 : Int32) &&& 31).toUInt32).toInt32) = (1 : Int32) from by decide]
    show Steps p.tables e below (T27.setTop (mkF m 125 #[.val (.ref o0), .val .null, .val (.int (0 : Int32)), .val (.int (64 : Int32)), .val (.int (0 : Int32)), .val (.long (1 : Int64)), .second, .val (.int (-1 : Int32)), .val (.ref wE)] [(.int (1 : Int32)), (.ref o0)])) _
    refine st28 _ ?_
    show Steps p.tables e below (T28.setTop (mkF m 127 #[.val (.ref o0), .val .null, .val (.int (0 : Int32)), .val (.int (64 : Int32)), .val (.int (0 : Int32)), .val (.long (1 : Int64)), .second, .val (.int (-1 : Int32)), .val (.ref wE)] [(.ref b28), (.ref o0)])) _
    refine st29 _ ?_
    show Steps p.tables e below (T29.setTop (mkF m 130 #[.val (.ref o0), .val .null, .val (.int (0 : Int32)), .val (.int (64 : Int32)), .val (.int (0 : Int32)), .val (.long (1 : Int64)), .second, .val (.int (-1 : Int32)), .val (.ref wE)] [])) _
    exact X29.returnOut hx Bd.returns (hb hby d2_130) hr
  · show own_QC Z o0 h0 n0 _ T29.heap _
    rw [e29]
    exact ⟨rfl, N29, O29, (((e_o0_25_x.wr W27).ext E28).wr W29), g_o0, b20, k20, f_o0_28_agendaPlaces, v_b20_28_x, g_b20, (Nat.ne_of_lt (Nat.lt_of_lt_of_le (Nat.lt_of_lt_of_le E_o0.lt (Nat.le_trans (Nat.le_trans (Nat.le_trans (Nat.le_trans (Nat.le_trans (Nat.le_trans (Nat.le_trans (Nat.le_trans (Nat.le_trans (Nat.le_trans (Nat.le_trans (Nat.le_trans (Nat.le_trans (Nat.le_trans (Nat.le_trans (Nat.le_trans (Nat.le_trans E2.1 (Keep.of_wr W3).1) E4.1) (Keep.of_wr W5).1) E6.1) (Keep.of_wr W7).1) E8.1) (Keep.of_wr W9).1) E10.1) (Keep.of_wr W11).1) E12.1) (Keep.of_wr W13).1) E14.1) (Keep.of_wr W15).1) E16.1) (Keep.of_wr W17).1) E18.1) (Keep.of_wr W19).1)) (Nat.le_of_eq g20.symm)))⟩
theorem d1_0 : decode prog_32_method_1_code 0 = .ok (.aload_n 0, 1) := by decide +kernel
theorem d1_1 : decode prog_32_method_1_code 1 = .ok (.aconst_null, 1) := by decide +kernel
theorem d1_2 : decode prog_32_method_1_code 2 = .ok (.iload_n 1, 1) := by decide +kernel
theorem d1_3 : decode prog_32_method_1_code 3 = .ok (.iload_n 2, 1) := by decide +kernel
theorem d1_4 : decode prog_32_method_1_code 4 = .ok (.iload_n 3, 1) := by decide +kernel
theorem d1_5 : decode prog_32_method_1_code 5 = .ok (.lconst 1, 1) := by decide +kernel
theorem d1_6 : decode prog_32_method_1_code 6 = .ok (.iconst (-1), 1) := by decide +kernel
theorem d1_7 : decode prog_32_method_1_code 7 = .ok (.getstatic 1, 3) := by decide +kernel
theorem d1_10 : decode prog_32_method_1_code 10 = .ok (.invokespecial 7, 3) := by decide +kernel
theorem pd_0 : parseMethodDescriptor "(Lcom/example/kvasir/kvasir/tableau/Node;IIZJILcom/example/kvasir/kvasir/tableau/DependencySet;)V" = some ⟨[(.object "com/example/kvasir/kvasir/tableau/Node"), .int, .int, .boolean, .long, .int, (.object "com/example/kvasir/kvasir/tableau/DependencySet")], none⟩ := by decide +kernel
theorem d1_13 : decode prog_32_method_1_code 13 = .ok (.return_, 1) := by decide +kernel
theorem ef_1 (m : MethodId) (x0 : Addr) (x1 : Int32) (x2 : Int32) (x3 : Int32) : entryFrame m #[(.ref x0), (.int x1), (.int x2), (.int x3)] 4 = mkF m 0 #[.val (.ref x0), .val (.int x1), .val (.int x2), .val (.int x3)] [] := by first | (simp [entryFrame, mkF, argsToLocals, Value.category]; done) | rfl
theorem pn_1 : plainName "com/example/kvasir/kvasir/tableau/Node" = true := by first | (simp [plainName, overriddenIn]; done) | decide +kernel
set_option maxRecDepth 65536 in
set_option maxHeartbeats 40000000 in
theorem rmC1 (l : Launch) (Z : State) (a0 : Array Value) (hw : ∀ d ∈ tables_1, d.before a0 Z = true) (ws : List Jvm.Cond) (o0 : Addr) (wE : Addr) (h0 : Heap) (n0 : Nat) (O0 : Old Z n0 h0) (S_EMPTY : Sta Z Z.heap "com/example/kvasir/kvasir/tableau/DependencySet" "EMPTY" "Lcom/example/kvasir/kvasir/tableau/DependencySet;" (.ref wE)) (E_o0 : Exa Z h0 o0 "com/example/kvasir/kvasir/tableau/Node") (U_o0 : Unt h0 o0) (g_o0 : n0 ≤ o0) :
    MetFree l (⟨"com/example/kvasir/kvasir/tableau/Node", "<init>", "(IIZ)V"⟩ : MethodName) (head1 (Jvm.Cond.code (⟨"com/example/kvasir/kvasir/tableau/Node", "<init>", "(IIZ)V"⟩ : MethodName) prog_32_method_1_code 4 none :: ws) ({ frames := 2, cells := 11, slots := 23, locals := 32 } : Room)) (fun a U => a = #[(.ref o0), (.int (0 : Int32)), (.int (64 : Int32)), (.int (0 : Int32))] ∧ Z.Warmed39 U.vm ∧ U.heap = h0) (fun _ _ _ _ _ => True) (fun _ U o U' => ∃ v L, o = .returned v ∧ own_QC Z o0 h0 n0 v U'.heap L ∧ FrameEnd U o U' L ({ frames := 2, cells := 11, slots := 23, locals := 32 } : Room).cells ({ frames := 2, cells := 11, slots := 23, locals := 32 } : Room).slots) := by
  refine MetFree.of_bodySF (plainFor_of_name pn_1) hisR ?_
  intro p e s m args below meth c s₁ Bd hml0 hP hK
  obtain ⟨rfl, hZ, hh⟩ := hP
  have hx := Bd.exec
  have hby := Bd.bytes
  have hml : c.maxLocals = 4 := hml0
  have hown : s.vm.findClass "com/example/kvasir/kvasir/tableau/Node" = some m.cls := findClass_of_methodNamed Bd.named
  have hnm := (name_of_methodNamed Bd.named Bd.method).1
  have X0 : Stand p l e ({ frames := 2, cells := 11, slots := 23, locals := 32 } : Room) s m #[(.ref o0), (.int (0 : Int32)), (.int (64 : Int32)), (.int (0 : Int32))] below meth c s₁ [] 0 0 := Stand.of_body Bd
  have e0 : s₁.heap = h0 := by rw [← hh, Bd.state]; rfl
  have N0 := Fr.nil n0
  have pre0 : ∀ t, Steps p.tables e below (s₁.setTop (mkF m 0 #[.val (.ref o0), .val (.int (0 : Int32)), .val (.int (64 : Int32)), .val (.int (0 : Int32))] [])) t → Steps p.tables e below (s₁.setTop (entryFrame m #[(.ref o0), (.int (0 : Int32)), (.int (64 : Int32)), (.int (0 : Int32))] 4)) t := fun t k => castTop (ef_1 m o0 (0 : Int32) (64 : Int32) (0 : Int32)) k
  obtain ⟨T1, X1, e1, st1⟩ := getS2 X0 hx hZ hown (host := "") (Or.inl (hw _ (List.mem_of_getElem? (i := 7) rfl))) Via.refl e0 (S_EMPTY.ext O0.2) (g := (mkF m 7 #[.val (.ref o0), .val (.int (0 : Int32)), .val (.int (64 : Int32)), .val (.int (0 : Int32))] [(.int (-1 : Int32)), (.long (1 : Int64)), (.int (0 : Int32)), (.int (64 : Int32)), (.int (0 : Int32)), .null, (.ref o0)])) rfl (hb hby d1_7)
  obtain ⟨_, _, ⟨T2, L2, k2, n2⟩, -, X2, ⟨Lc2, hQ2, l2, y2, z2⟩, st2⟩ := X1.specialBack hx (y := (⟨"com/example/kvasir/kvasir/tableau/Node", "<init>", "(Lcom/example/kvasir/kvasir/tableau/Node;IIZJILcom/example/kvasir/kvasir/tableau/DependencySet;)V"⟩ : MethodName)) rfl hown (mvT hZ (hw _ (List.mem_of_getElem? (i := 10) rfl))) (mvT hZ (hw _ (List.mem_of_getElem? (i := 11) rfl))) (mvT hZ (hw _ (List.mem_of_getElem? (i := 12) rfl))) (by decide) (backOf (W := 0) (rmC2 l Z a0 hw [] o0 wE  h0 n0 O0 E_o0 U_o0 g_o0) hZ (hw _ (List.mem_of_getElem? (i := 12) rfl)) (hw _ (List.mem_of_getElem? (i := 3) rfl)) (by decide) (by decide)) (g := (mkF m 10 #[.val (.ref o0), .val (.int (0 : Int32)), .val (.int (64 : Int32)), .val (.int (0 : Int32))] [(.ref wE), (.int (-1 : Int32)), (.long (1 : Int64)), (.int (0 : Int32)), (.int (64 : Int32)), (.int (0 : Int32)), .null, (.ref o0)])) rfl (by rw [hml]; rfl) (Steps.refl _) (a := o0) (argsL := [.null, (.int (0 : Int32)), (.int (64 : Int32)), (.int (0 : Int32)), (.long (1 : Int64)), (.int (-1 : Int32)), (.ref wE)]) (rest := []) (lenOf pd_0 rfl) rfl (by show 2 * 0 + _ ≤ _; exact Nat.le_of_eq rfl) (hb hby d1_10) (fun _ _ => ⟨rfl, e1, (by decide : 0 + 11 ≤ _), (by decide : 0 + 23 ≤ _)⟩)
  dsimp only [Pt.U, Pt.locs, Pt.cells, Pt.slots] at X2 l2 y2 z2 st2 hQ2
  subst l2 y2 z2
  obtain ⟨rfl, N2q, O2, Ag2⟩ := hQ2
  have N2 := Fr.app N0 N2q
  obtain ⟨fs, hr, hrun, hended, hW, hsame⟩ := X2.leave (v := none) (fun _ => rfl)
  refine ⟨_, _, pre0 _ ?_, hrun, hended, _, _, rfl, ?_, ⟨_, rfl⟩, hW, hsame.mono (by decide) (by decide)⟩
  · show Steps p.tables e below (s₁.setTop (mkF m 0 #[.val (.ref o0), .val (.int (0 : Int32)), .val (.int (64 : Int32)), .val (.int (0 : Int32))] [])) _
    refine XS.aloadN X0.here hx rfl (hb hby d1_0) rfl rfl ?_
    show Steps p.tables e below (s₁.setTop (mkF m 1 #[.val (.ref o0), .val (.int (0 : Int32)), .val (.int (64 : Int32)), .val (.int (0 : Int32))] [(.ref o0)])) _
    refine XS.aconstNull X0.here hx rfl (hb hby d1_1) ?_
    show Steps p.tables e below (s₁.setTop (mkF m 2 #[.val (.ref o0), .val (.int (0 : Int32)), .val (.int (64 : Int32)), .val (.int (0 : Int32))] [.null, (.ref o0)])) _
    refine XS.iloadN X0.here hx rfl (hb hby d1_2) rfl ?_
    show Steps p.tables e below (s₁.setTop (mkF m 3 #[.val (.ref o0), .val (.int (0 : Int32)), .val (.int (64 : Int32)), .val (.int (0 : Int32))] [(.int (0 : Int32)), .null, (.ref o0)])) _
    refine XS.iloadN X0.here hx rfl (hb hby d1_3) rfl ?_
    show Steps p.tables e below (s₁.setTop (mkF m 4 #[.val (.ref o0), .val (.int (0 : Int32)), .val (.int (64 : Int32)), .val (.int (0 : Int32))] [(.int (64 : Int32)), (.int (0 : Int32)), .null, (.ref o0)])) _
    refine XS.iloadN X0.here hx rfl (hb hby d1_4) rfl ?_
    show Steps p.tables e below (s₁.setTop (mkF m 5 #[.val (.ref o0), .val (.int (0 : Int32)), .val (.int (64 : Int32)), .val (.int (0 : Int32))] [(.int (0 : Int32)), (.int (64 : Int32)), (.int (0 : Int32)), .null, (.ref o0)])) _
    refine XS.lconst X0.here hx rfl (hb hby d1_5) ?_
    show Steps p.tables e below (s₁.setTop (mkF m 6 #[.val (.ref o0), .val (.int (0 : Int32)), .val (.int (64 : Int32)), .val (.int (0 : Int32))] [(.long (1 : Int64)), (.int (0 : Int32)), (.int (64 : Int32)), (.int (0 : Int32)), .null, (.ref o0)])) _
    refine XS.iconst X0.here hx rfl (hb hby d1_6) ?_
    show Steps p.tables e below (s₁.setTop (mkF m 7 #[.val (.ref o0), .val (.int (0 : Int32)), .val (.int (64 : Int32)), .val (.int (0 : Int32))] [(.int (-1 : Int32)), (.long (1 : Int64)), (.int (0 : Int32)), (.int (64 : Int32)), (.int (0 : Int32)), .null, (.ref o0)])) _
    refine st1 _ ?_
    show Steps p.tables e below (T1.setTop (mkF m 10 #[.val (.ref o0), .val (.int (0 : Int32)), .val (.int (64 : Int32)), .val (.int (0 : Int32))] [(.ref wE), (.int (-1 : Int32)), (.long (1 : Int64)), (.int (0 : Int32)), (.int (64 : Int32)), (.int (0 : Int32)), .null, (.ref o0)])) _
    refine st2.trans ?_
    show Steps p.tables e below (T2.setTop (mkF m 13 #[.val (.ref o0), .val (.int (0 : Int32)), .val (.int (64 : Int32)), .val (.int (0 : Int32))] [])) _
    exact X2.returnOut hx Bd.returns (hb hby d1_13) hr
  · show own_QC Z o0 h0 n0 _ T2.heap _
    exact ⟨rfl, N2, O2, Ag2⟩
theorem d6_0 : decode jdk_29_method_69_code 0 = .ok (.iload_n 0, 1) := by decide +kernel
theorem d6_1 : decode jdk_29_method_69_code 1 = .ok (.iload_n 1, 1) := by decide +kernel
theorem d6_2 : decode jdk_29_method_69_code 2 = .ok (.if_icmp .gt 7, 3) := by decide +kernel
theorem d6_5 : decode jdk_29_method_69_code 5 = .ok (.iload_n 0, 1) := by decide +kernel
theorem d6_6 : decode jdk_29_method_69_code 6 = .ok (.goto 4, 3) := by decide +kernel
theorem d6_10 : decode jdk_29_method_69_code 10 = .ok (.ireturn, 1) := by decide +kernel
theorem ef_6 (m : MethodId) (x0 : Int32) (x1 : Int32) : entryFrame m #[(.int x0), (.int x1)] 2 = mkF m 0 #[.val (.int x0), .val (.int x1)] [] := by first | (simp [entryFrame, mkF, argsToLocals, Value.category]; done) | rfl
set_option maxRecDepth 65536 in
set_option maxHeartbeats 40000000 in
theorem rmMin (l : Launch) (Z : State) (a0 : Array Value) (hw : ∀ d ∈ tables_1, d.before a0 Z = true) (ws : List Jvm.Cond) (p0 : Int32) (p1 : Int32) (h0 : Heap) (n0 : Nat) (O0 : Old Z n0 h0) (hc2 : ¬ (p1 < p0)) :
    MetFree l (⟨"java/lang/Math", "min", "(II)I"⟩ : MethodName) (head1 (Jvm.Cond.code (⟨"java/lang/Math", "min", "(II)I"⟩ : MethodName) jdk_29_method_69_code 2 (some .int) :: ws) ({ frames := 0, cells := 0, slots := 0, locals := 0 } : Room)) (fun a U => a = #[(.int p0), (.int p1)] ∧ Z.Warmed39 U.vm ∧ U.heap = h0) (fun _ _ _ _ _ => True) (fun _ U o U' => ∃ v L, o = .returned v ∧ own_Q (.int p0) h0 n0 v U'.heap L ∧ FrameEnd U o U' L ({ frames := 0, cells := 0, slots := 0, locals := 0 } : Room).cells ({ frames := 0, cells := 0, slots := 0, locals := 0 } : Room).slots) := by
  refine MetFree.of_bodySF (Jvm.Free.JP.mathPlain rfl (by decide +kernel)) hisR ?_
  intro p e s m args below meth c s₁ Bd hml0 hP hK
  obtain ⟨rfl, hZ, hh⟩ := hP
  have hx := Bd.exec
  have hby := Bd.bytes
  have hml : c.maxLocals = 2 := hml0
  have hown : s.vm.findClass "java/lang/Math" = some m.cls := findClass_of_methodNamed Bd.named
  have hnm := (name_of_methodNamed Bd.named Bd.method).1
  have X0 : Stand p l e ({ frames := 0, cells := 0, slots := 0, locals := 0 } : Room) s m #[(.int p0), (.int p1)] below meth c s₁ [] 0 0 := Stand.of_body Bd
  have e0 : s₁.heap = h0 := by rw [← hh, Bd.state]; rfl
  have N0 := Fr.nil n0
  have pre0 : ∀ t, Steps p.tables e below (s₁.setTop (mkF m 0 #[.val (.int p0), .val (.int p1)] [])) t → Steps p.tables e below (s₁.setTop (entryFrame m #[(.int p0), (.int p1)] 2)) t := fun t k => castTop (ef_6 m p0 p1) k
  obtain ⟨fs, hr, hrun, hended, hW, hsame⟩ := X0.leave (v := some (.int p0)) (fun h => by rw [Bd.returns] at h; cases h)
  refine ⟨_, _, pre0 _ ?_, hrun, hended, _, _, rfl, ?_, ⟨_, rfl⟩, hW, hsame.mono (by decide) (by decide)⟩
  · show Steps p.tables e below (s₁.setTop (mkF m 0 #[.val (.int p0), .val (.int p1)] [])) _
    refine XS.iloadN X0.here hx rfl (hb hby d6_0) rfl ?_
    show Steps p.tables e below (s₁.setTop (mkF m 1 #[.val (.int p0), .val (.int p1)] [(.int p0)])) _
    refine XS.iloadN X0.here hx rfl (hb hby d6_1) rfl ?_
    show Steps p.tables e below (s₁.setTop (mkF m 2 #[.val (.int p0), .val (.int p1)] [(.int p1), (.int p0)])) _
    refine XS.icmpNo X0.here hx rfl (hb hby d6_2) rfl (flt hc2).2.2.1 ?_
    show Steps p.tables e below (s₁.setTop (mkF m 5 #[.val (.int p0), .val (.int p1)] [])) _
    refine XS.iloadN X0.here hx rfl (hb hby d6_5) rfl ?_
    show Steps p.tables e below (s₁.setTop (mkF m 6 #[.val (.int p0), .val (.int p1)] [(.int p0)])) _
    refine XS.goto X0.here hx rfl (pc0 := 6) (pc' := 10) rfl (hb hby d6_6) (by decide) (by decide) ?_
    show Steps p.tables e below (s₁.setTop (mkF m 10 #[.val (.int p0), .val (.int p1)] [(.int p0)])) _
    exact retI X0 hx Bd.returns (hb hby d6_10) hr
  · show own_Q (.int p0) h0 n0 _ s₁.heap _
    rw [e0]
    exact ⟨rfl, N0, rfl⟩
theorem d5_0 : decode jdk_65_method_123_code 0 = .ok (.iload_n 1, 1) := by decide +kernel
theorem d5_1 : decode jdk_65_method_123_code 1 = .ok (.aload_n 0, 1) := by decide +kernel
theorem d5_2 : decode jdk_65_method_123_code 2 = .ok (.arraylength, 1) := by decide +kernel
theorem d5_3 : decode jdk_65_method_123_code 3 = .ok (.if_icmp .ne 11, 3) := by decide +kernel
theorem d5_14 : decode jdk_65_method_123_code 14 = .ok (.iload_n 1, 1) := by decide +kernel
theorem d5_15 : decode jdk_65_method_123_code 15 = .ok (.newarray .int, 2) := by decide +kernel
theorem d5_17 : decode jdk_65_method_123_code 17 = .ok (.astore_n 2, 1) := by decide +kernel
theorem d5_18 : decode jdk_65_method_123_code 18 = .ok (.aload_n 0, 1) := by decide +kernel
theorem d5_19 : decode jdk_65_method_123_code 19 = .ok (.iconst 0, 1) := by decide +kernel
theorem d5_20 : decode jdk_65_method_123_code 20 = .ok (.aload_n 2, 1) := by decide +kernel
theorem d5_21 : decode jdk_65_method_123_code 21 = .ok (.iconst 0, 1) := by decide +kernel
theorem d5_22 : decode jdk_65_method_123_code 22 = .ok (.aload_n 0, 1) := by decide +kernel
theorem d5_23 : decode jdk_65_method_123_code 23 = .ok (.arraylength, 1) := by decide +kernel
theorem d5_24 : decode jdk_65_method_123_code 24 = .ok (.iload_n 1, 1) := by decide +kernel
theorem d5_25 : decode jdk_65_method_123_code 25 = .ok (.invokestatic 304, 3) := by decide +kernel
theorem pd_1 : parseMethodDescriptor "(II)I" = some ⟨[.int, .int], some .int⟩ := by decide +kernel
theorem d5_28 : decode jdk_65_method_123_code 28 = .ok (.invokestatic 150, 3) := by decide +kernel
theorem d5_31 : decode jdk_65_method_123_code 31 = .ok (.aload_n 2, 1) := by decide +kernel
theorem d5_32 : decode jdk_65_method_123_code 32 = .ok (.areturn, 1) := by decide +kernel
theorem ef_5 (m : MethodId) (x0 : Addr) (x1 : Int32) : entryFrame m #[(.ref x0), (.int x1)] 3 = mkF m 0 #[.val (.ref x0), .val (.int x1), .unset] [] := by first | (simp [entryFrame, mkF, argsToLocals, Value.category]; done) | rfl
theorem pn_5 : plainName "java/util/Arrays" = true := by first | (simp [plainName, overriddenIn]; done) | decide +kernel
set_option maxRecDepth 65536 in
set_option maxHeartbeats 40000000 in
theorem rmY0 (l : Launch) (Z : State) (a0 : Array Value) (hw : ∀ d ∈ tables_1, d.before a0 Z = true) (ws : List Jvm.Cond) (o0 : Addr) (ka : ClassId) (h0 : Heap) (n0 : Nat) (O0 : Old Z n0 h0) (V_o0 : Arv Z h0 o0 ka .int (0 : Int32) [] (.int (0 : Int32))) :
    MetFree l (⟨"java/util/Arrays", "copyOf", "([II)[I"⟩ : MethodName) (head1 (Jvm.Cond.code (⟨"java/util/Arrays", "copyOf", "([II)[I"⟩ : MethodName) jdk_65_method_123_code 3 (some (.array .int)) :: ws) ({ frames := 1, cells := 1, slots := 2, locals := 18 } : Room)) (fun a U => a = #[(.ref o0), (.int (2 : Int32))] ∧ Z.Warmed39 U.vm ∧ U.heap = h0) (fun _ _ _ _ _ => True) (fun _ U o U' => ∃ v L, o = .returned v ∧ own_QY Z (2 : Int32) [(.int (0 : Int32)), (.int (0 : Int32))] h0 n0 v U'.heap L ∧ FrameEnd U o U' L ({ frames := 1, cells := 1, slots := 2, locals := 18 } : Room).cells ({ frames := 1, cells := 1, slots := 2, locals := 18 } : Room).slots) := by
  refine MetFree.of_bodySF (plainFor_of_name pn_5) hisR ?_
  intro p e s m args below meth c s₁ Bd hml0 hP hK
  obtain ⟨rfl, hZ, hh⟩ := hP
  have hx := Bd.exec
  have hby := Bd.bytes
  have hml : c.maxLocals = 3 := hml0
  have hown : s.vm.findClass "java/util/Arrays" = some m.cls := findClass_of_methodNamed Bd.named
  have hnm := (name_of_methodNamed Bd.named Bd.method).1
  have X0 : Stand p l e ({ frames := 1, cells := 1, slots := 2, locals := 18 } : Room) s m #[(.ref o0), (.int (2 : Int32))] below meth c s₁ [] 0 0 := Stand.of_body Bd
  have e0 : s₁.heap = h0 := by rw [← hh, Bd.state]; rfl
  have N0 := Fr.nil n0
  have pre0 : ∀ t, Steps p.tables e below (s₁.setTop (mkF m 0 #[.val (.ref o0), .val (.int (2 : Int32)), .unset] [])) t → Steps p.tables e below (s₁.setTop (entryFrame m #[(.ref o0), (.int (2 : Int32))] 3)) t := fun t k => castTop (ef_5 m o0 (2 : Int32)) k
  obtain ⟨cl1, Ar1, qa1, Sz1, Ng1, Hs1, Ft1⟩ := V_o0
  have V1o : Arv Z h0 o0 ka .int (0 : Int32) [] (.int (0 : Int32)) := ⟨cl1, Ar1, qa1, Sz1, Ng1, Hs1, Ft1⟩
  obtain ⟨T2, h2, k2, X2, e2, E2, A2, st2⟩ := newP X0 hx hZ (hw _ (List.mem_of_getElem? (i := 16) rfl)) e0 (g := (mkF m 15 #[.val (.ref o0), .val (.int (2 : Int32)), .unset] [(.int (2 : Int32))])) rfl (hb hby d5_15) rfl (by decide) (cap := 2) (by decide) (by decide) (by decide) (by decide)
  obtain ⟨b2, g2⟩ : ∃ z, z = h0.size := ⟨_, rfl⟩
  rw [← g2] at A2 st2
  have g_b2 : n0 ≤ b2 := Nat.le_trans (own_le O0) (Nat.le_of_eq g2.symm)
  have O2 := O0.ext E2
  have V_b2 : Arv Z h2 b2 k2 .int (2 : Int32) [(.int (0 : Int32)), (.int (0 : Int32))] (.int (0 : Int32)) := (Arv.new A2 (by decide)).pad (pad_rep [] (.int (0 : Int32)) 2)
  obtain ⟨cl3, Ar3, qa3, Sz3, Ng3, Hs3, Ft3⟩ := (V1o.ext E2)
  have V3o : Arv Z h2 o0 ka .int (0 : Int32) [] (.int (0 : Int32)) := ⟨cl3, Ar3, qa3, Sz3, Ng3, Hs3, Ft3⟩
  obtain ⟨_, _, ⟨T4, L4, k4, n4⟩, -, X4, ⟨Lc4, hQ4, l4, y4, z4⟩, st4⟩ := Jvm.LawKit.callS X2 hx (y := (⟨"java/lang/Math", "min", "(II)I"⟩ : MethodName)) hown (mvT hZ (hw _ (List.mem_of_getElem? (i := 67) rfl))) (mvT hZ (hw _ (List.mem_of_getElem? (i := 68) rfl))) (mvT hZ (hw _ (List.mem_of_getElem? (i := 69) rfl))) (mvT hZ (hw _ (List.mem_of_getElem? (i := 70) rfl))) (by decide) (backOf (W := 4) (rmMin l Z a0 hw [] (0 : Int32) (2 : Int32)  h2 n0 O2 (by decide)) hZ (hw _ (List.mem_of_getElem? (i := 70) rfl)) (hw _ (List.mem_of_getElem? (i := 69) rfl)) (by decide) (by decide)) (g := (mkF m 25 #[.val (.ref o0), .val (.int (2 : Int32)), .val (.ref b2)] [(.int (2 : Int32)), (.int (0 : Int32)), (.int (0 : Int32)), (.ref b2), (.int (0 : Int32)), (.ref o0)])) rfl (by rw [hml]; rfl) (argsL := [(.int (0 : Int32)), (.int (2 : Int32))]) (rest := [(.int (0 : Int32)), (.ref b2), (.int (0 : Int32)), (.ref o0)]) (lenOf pd_1 rfl) rfl (by show 2 * 0 + _ ≤ _; exact Nat.le_of_eq rfl) (hb hby d5_25) (fun _ _ => ⟨rfl, e2, (by decide : 1 + 0 ≤ _), (by decide : 2 + 0 ≤ _)⟩)
  dsimp only [Pt.U, Pt.locs, Pt.cells, Pt.slots] at X4 l4 y4 z4 st4 hQ4
  subst l4 y4 z4
  obtain ⟨rfl, N4q, e4⟩ := hQ4
  have N4 := Fr.app N0 N4q
  obtain ⟨T5, h5, L5, X5, e5, N5, K5, Vc5, st5⟩ := cpA X4 hx hZ hown (hw _ (List.mem_of_getElem? (i := 71) rfl)) (hw _ (List.mem_of_getElem? (i := 74) rfl)) (hw _ (List.mem_of_getElem? (i := 72) rfl)) (hw _ (List.mem_of_getElem? (i := 73) rfl)) e4 V3o V_b2 (us := []) (Or.inl ⟨rfl, rfl⟩) (by decide) (by decide) (by decide) (by decide) (by decide) rfl (by decide) N4 g_b2 (g := (mkF m 28 #[.val (.ref o0), .val (.int (2 : Int32)), .val (.ref b2)] [(.int (0 : Int32)), (.int (0 : Int32)), (.ref b2), (.int (0 : Int32)), (.ref o0)])) rfl (by rw [hml]; rfl) (rest := []) rfl (hb hby d5_28) (by decide) (W := 0) (by show 2 * 0 + _ ≤ _; exact Nat.le_of_eq rfl) (by decide)
  have O5 := O2.keep K5 (allS g_b2 all0)
  have Vn5 : Arv Z h5 b2 k2 .int (2 : Int32) [(.int (0 : Int32)), (.int (0 : Int32))] (.int (0 : Int32)) := Vc5
  obtain ⟨fs, hr, hrun, hended, hW, hsame⟩ := X5.leave (v := some (.ref b2)) (fun h => by rw [Bd.returns] at h; cases h)
  refine ⟨_, _, pre0 _ ?_, hrun, hended, _, _, rfl, ?_, ⟨_, rfl⟩, hW, hsame.mono (by decide) (by decide)⟩
  · show Steps p.tables e below (s₁.setTop (mkF m 0 #[.val (.ref o0), .val (.int (2 : Int32)), .unset] [])) _
    refine XS.iloadN X0.here hx rfl (hb hby d5_0) rfl ?_
    show Steps p.tables e below (s₁.setTop (mkF m 1 #[.val (.ref o0), .val (.int (2 : Int32)), .unset] [(.int (2 : Int32))])) _
    refine XS.aloadN X0.here hx rfl (hb hby d5_1) rfl rfl ?_
    show Steps p.tables e below (s₁.setTop (mkF m 2 #[.val (.ref o0), .val (.int (2 : Int32)), .unset] [(.ref o0), (.int (2 : Int32))])) _
    refine X0.arraylength hx (by rw [e0]; exact Ar1.1) (State.isArrayOf_alike hZ.alike Ar1.2.1) (g := (mkF m 2 #[.val (.ref o0), .val (.int (2 : Int32)), .unset] [(.ref o0), (.int (2 : Int32))])) rfl rfl (hb hby d5_2) _ ?_
    rw [len_of Sz1 Ng1]
    show Steps p.tables e below (s₁.setTop (mkF m 3 #[.val (.ref o0), .val (.int (2 : Int32)), .unset] [(.int (0 : Int32)), (.int (2 : Int32))])) _
    refine XS.icmpYes X0.here hx rfl (pc0 := 3) (pc' := 14) rfl (hb hby d5_3) rfl (feq (by decide : ¬ ((2 : Int32) = (0 : Int32)))).2 (by decide) (by decide) ?_
    show Steps p.tables e below (s₁.setTop (mkF m 14 #[.val (.ref o0), .val (.int (2 : Int32)), .unset] [])) _
    refine XS.iloadN X0.here hx rfl (hb hby d5_14) rfl ?_
    show Steps p.tables e below (s₁.setTop (mkF m 15 #[.val (.ref o0), .val (.int (2 : Int32)), .unset] [(.int (2 : Int32))])) _
    refine st2 _ ?_
    show Steps p.tables e below (T2.setTop (mkF m 17 #[.val (.ref o0), .val (.int (2 : Int32)), .unset] [(.ref b2)])) _
    refine XS.astoreN X2.here hx rfl (hb hby d5_17) rfl rfl (l' := #[.val (.ref o0), .val (.int (2 : Int32)), .val (.ref b2)]) rfl ?_
    show Steps p.tables e below (T2.setTop (mkF m 18 #[.val (.ref o0), .val (.int (2 : Int32)), .val (.ref b2)] [])) _
    refine XS.aloadN X2.here hx rfl (hb hby d5_18) rfl rfl ?_
    show Steps p.tables e below (T2.setTop (mkF m 19 #[.val (.ref o0), .val (.int (2 : Int32)), .val (.ref b2)] [(.ref o0)])) _
    refine XS.iconst X2.here hx rfl (hb hby d5_19) ?_
    show Steps p.tables e below (T2.setTop (mkF m 20 #[.val (.ref o0), .val (.int (2 : Int32)), .val (.ref b2)] [(.int (0 : Int32)), (.ref o0)])) _
    refine XS.aloadN X2.here hx rfl (hb hby d5_20) rfl rfl ?_
    show Steps p.tables e below (T2.setTop (mkF m 21 #[.val (.ref o0), .val (.int (2 : Int32)), .val (.ref b2)] [(.ref b2), (.int (0 : Int32)), (.ref o0)])) _
    refine XS.iconst X2.here hx rfl (hb hby d5_21) ?_
    show Steps p.tables e below (T2.setTop (mkF m 22 #[.val (.ref o0), .val (.int (2 : Int32)), .val (.ref b2)] [(.int (0 : Int32)), (.ref b2), (.int (0 : Int32)), (.ref o0)])) _
    refine XS.aloadN X2.here hx rfl (hb hby d5_22) rfl rfl ?_
    show Steps p.tables e below (T2.setTop (mkF m 23 #[.val (.ref o0), .val (.int (2 : Int32)), .val (.ref b2)] [(.ref o0), (.int (0 : Int32)), (.ref b2), (.int (0 : Int32)), (.ref o0)])) _
    refine X2.arraylength hx (by rw [e2]; exact Ar3.1) (State.isArrayOf_alike hZ.alike Ar3.2.1) (g := (mkF m 23 #[.val (.ref o0), .val (.int (2 : Int32)), .val (.ref b2)] [(.ref o0), (.int (0 : Int32)), (.ref b2), (.int (0 : Int32)), (.ref o0)])) rfl rfl (hb hby d5_23) _ ?_
    rw [len_of Sz3 Ng3]
    show Steps p.tables e below (T2.setTop (mkF m 24 #[.val (.ref o0), .val (.int (2 : Int32)), .val (.ref b2)] [(.int (0 : Int32)), (.int (0 : Int32)), (.ref b2), (.int (0 : Int32)), (.ref o0)])) _
    refine XS.iloadN X2.here hx rfl (hb hby d5_24) rfl ?_
    show Steps p.tables e below (T2.setTop (mkF m 25 #[.val (.ref o0), .val (.int (2 : Int32)), .val (.ref b2)] [(.int (2 : Int32)), (.int (0 : Int32)), (.int (0 : Int32)), (.ref b2), (.int (0 : Int32)), (.ref o0)])) _
    refine st4 _ ?_
    show Steps p.tables e below (T4.setTop (mkF m 28 #[.val (.ref o0), .val (.int (2 : Int32)), .val (.ref b2)] [(.int (0 : Int32)), (.int (0 : Int32)), (.ref b2), (.int (0 : Int32)), (.ref o0)])) _
    refine st5 _ ?_
    show Steps p.tables e below (T5.setTop (mkF m 31 #[.val (.ref o0), .val (.int (2 : Int32)), .val (.ref b2)] [])) _
    refine XS.aloadN X5.here hx rfl (hb hby d5_31) rfl rfl ?_
    show Steps p.tables e below (T5.setTop (mkF m 32 #[.val (.ref o0), .val (.int (2 : Int32)), .val (.ref b2)] [(.ref b2)])) _
    jvm_step X5.here [X5.here.top, hx, (hb hby d5_32), X5.method', Bd.returns, Value.isRef, FieldType.isReference]
    first | (intro acts; rw [hr _ acts rfl rfl rfl]) | rw [hr _ _ rfl rfl rfl]
    exact Steps.refl _
  · show own_QY Z (2 : Int32) [(.int (0 : Int32)), (.int (0 : Int32))] h0 n0 _ T5.heap _
    rw [e5]
    exact ⟨b2, k2, rfl, N5, (((Keep.refl h0 []).ext E2).trans K5 (allS (Or.inr (Nat.le_of_eq g2.symm)) all0)), (Nat.le_of_eq g2.symm), Vn5⟩
set_option maxRecDepth 65536 in
set_option maxHeartbeats 40000000 in
theorem rmY2 (l : Launch) (Z : State) (a0 : Array Value) (hw : ∀ d ∈ tables_1, d.before a0 Z = true) (ws : List Jvm.Cond) (o0 : Addr) (x0 : Int32) (x1 : Int32) (ka : ClassId) (h0 : Heap) (n0 : Nat) (O0 : Old Z n0 h0) (V_o0 : Arv Z h0 o0 ka .int (2 : Int32) [(.int x0), (.int x1)] (.int (0 : Int32))) :
    MetFree l (⟨"java/util/Arrays", "copyOf", "([II)[I"⟩ : MethodName) (head1 (Jvm.Cond.code (⟨"java/util/Arrays", "copyOf", "([II)[I"⟩ : MethodName) jdk_65_method_123_code 3 (some (.array .int)) :: ws) ({ frames := 1, cells := 1, slots := 4, locals := 18 } : Room)) (fun a U => a = #[(.ref o0), (.int (4 : Int32))] ∧ Z.Warmed39 U.vm ∧ U.heap = h0) (fun _ _ _ _ _ => True) (fun _ U o U' => ∃ v L, o = .returned v ∧ own_QY Z (4 : Int32) [(.int x0), (.int x1), (.int (0 : Int32)), (.int (0 : Int32))] h0 n0 v U'.heap L ∧ FrameEnd U o U' L ({ frames := 1, cells := 1, slots := 4, locals := 18 } : Room).cells ({ frames := 1, cells := 1, slots := 4, locals := 18 } : Room).slots) := by
  refine MetFree.of_bodySF (plainFor_of_name pn_5) hisR ?_
  intro p e s m args below meth c s₁ Bd hml0 hP hK
  obtain ⟨rfl, hZ, hh⟩ := hP
  have hx := Bd.exec
  have hby := Bd.bytes
  have hml : c.maxLocals = 3 := hml0
  have hown : s.vm.findClass "java/util/Arrays" = some m.cls := findClass_of_methodNamed Bd.named
  have hnm := (name_of_methodNamed Bd.named Bd.method).1
  have X0 : Stand p l e ({ frames := 1, cells := 1, slots := 4, locals := 18 } : Room) s m #[(.ref o0), (.int (4 : Int32))] below meth c s₁ [] 0 0 := Stand.of_body Bd
  have e0 : s₁.heap = h0 := by rw [← hh, Bd.state]; rfl
  have N0 := Fr.nil n0
  have pre0 : ∀ t, Steps p.tables e below (s₁.setTop (mkF m 0 #[.val (.ref o0), .val (.int (4 : Int32)), .unset] [])) t → Steps p.tables e below (s₁.setTop (entryFrame m #[(.ref o0), (.int (4 : Int32))] 3)) t := fun t k => castTop (ef_5 m o0 (4 : Int32)) k
  obtain ⟨cl1, Ar1, qa1, Sz1, Ng1, Hs1, Ft1⟩ := V_o0
  have V1o : Arv Z h0 o0 ka .int (2 : Int32) [(.int x0), (.int x1)] (.int (0 : Int32)) := ⟨cl1, Ar1, qa1, Sz1, Ng1, Hs1, Ft1⟩
  obtain ⟨T2, h2, k2, X2, e2, E2, A2, st2⟩ := newP X0 hx hZ (hw _ (List.mem_of_getElem? (i := 16) rfl)) e0 (g := (mkF m 15 #[.val (.ref o0), .val (.int (4 : Int32)), .unset] [(.int (4 : Int32))])) rfl (hb hby d5_15) rfl (by decide) (cap := 4) (by decide) (by decide) (by decide) (by decide)
  obtain ⟨b2, g2⟩ : ∃ z, z = h0.size := ⟨_, rfl⟩
  rw [← g2] at A2 st2
  have g_b2 : n0 ≤ b2 := Nat.le_trans (own_le O0) (Nat.le_of_eq g2.symm)
  have O2 := O0.ext E2
  have V_b2 : Arv Z h2 b2 k2 .int (4 : Int32) [(.int (0 : Int32)), (.int (0 : Int32)), (.int (0 : Int32)), (.int (0 : Int32))] (.int (0 : Int32)) := (Arv.new A2 (by decide)).pad (pad_rep [] (.int (0 : Int32)) 4)
  obtain ⟨cl3, Ar3, qa3, Sz3, Ng3, Hs3, Ft3⟩ := (V1o.ext E2)
  have V3o : Arv Z h2 o0 ka .int (2 : Int32) [(.int x0), (.int x1)] (.int (0 : Int32)) := ⟨cl3, Ar3, qa3, Sz3, Ng3, Hs3, Ft3⟩
  obtain ⟨_, _, ⟨T4, L4, k4, n4⟩, -, X4, ⟨Lc4, hQ4, l4, y4, z4⟩, st4⟩ := Jvm.LawKit.callS X2 hx (y := (⟨"java/lang/Math", "min", "(II)I"⟩ : MethodName)) hown (mvT hZ (hw _ (List.mem_of_getElem? (i := 67) rfl))) (mvT hZ (hw _ (List.mem_of_getElem? (i := 68) rfl))) (mvT hZ (hw _ (List.mem_of_getElem? (i := 69) rfl))) (mvT hZ (hw _ (List.mem_of_getElem? (i := 70) rfl))) (by decide) (backOf (W := 4) (rmMin l Z a0 hw [] (2 : Int32) (4 : Int32)  h2 n0 O2 (by decide)) hZ (hw _ (List.mem_of_getElem? (i := 70) rfl)) (hw _ (List.mem_of_getElem? (i := 69) rfl)) (by decide) (by decide)) (g := (mkF m 25 #[.val (.ref o0), .val (.int (4 : Int32)), .val (.ref b2)] [(.int (4 : Int32)), (.int (2 : Int32)), (.int (0 : Int32)), (.ref b2), (.int (0 : Int32)), (.ref o0)])) rfl (by rw [hml]; rfl) (argsL := [(.int (2 : Int32)), (.int (4 : Int32))]) (rest := [(.int (0 : Int32)), (.ref b2), (.int (0 : Int32)), (.ref o0)]) (lenOf pd_1 rfl) rfl (by show 2 * 0 + _ ≤ _; exact Nat.le_of_eq rfl) (hb hby d5_25) (fun _ _ => ⟨rfl, e2, (by decide : 1 + 0 ≤ _), (by decide : 4 + 0 ≤ _)⟩)
  dsimp only [Pt.U, Pt.locs, Pt.cells, Pt.slots] at X4 l4 y4 z4 st4 hQ4
  subst l4 y4 z4
  obtain ⟨rfl, N4q, e4⟩ := hQ4
  have N4 := Fr.app N0 N4q
  obtain ⟨T5, h5, L5, X5, e5, N5, K5, Vc5, st5⟩ := cpA X4 hx hZ hown (hw _ (List.mem_of_getElem? (i := 71) rfl)) (hw _ (List.mem_of_getElem? (i := 74) rfl)) (hw _ (List.mem_of_getElem? (i := 72) rfl)) (hw _ (List.mem_of_getElem? (i := 73) rfl)) e4 V3o V_b2 (us := [(.int x0), (.int x1)]) (Or.inl ⟨rfl, rfl⟩) (by decide) (by decide) (by decide) (by decide) (by decide) rfl (by decide) N4 g_b2 (g := (mkF m 28 #[.val (.ref o0), .val (.int (4 : Int32)), .val (.ref b2)] [(.int (2 : Int32)), (.int (0 : Int32)), (.ref b2), (.int (0 : Int32)), (.ref o0)])) rfl (by rw [hml]; rfl) (rest := []) rfl (hb hby d5_28) (by decide) (W := 0) (by show 2 * 0 + _ ≤ _; exact Nat.le_of_eq rfl) (by decide)
  have O5 := O2.keep K5 (allS g_b2 all0)
  have Vn5 : Arv Z h5 b2 k2 .int (4 : Int32) [(.int x0), (.int x1), (.int (0 : Int32)), (.int (0 : Int32))] (.int (0 : Int32)) := Vc5
  obtain ⟨fs, hr, hrun, hended, hW, hsame⟩ := X5.leave (v := some (.ref b2)) (fun h => by rw [Bd.returns] at h; cases h)
  refine ⟨_, _, pre0 _ ?_, hrun, hended, _, _, rfl, ?_, ⟨_, rfl⟩, hW, hsame.mono (by decide) (by decide)⟩
  · show Steps p.tables e below (s₁.setTop (mkF m 0 #[.val (.ref o0), .val (.int (4 : Int32)), .unset] [])) _
    refine XS.iloadN X0.here hx rfl (hb hby d5_0) rfl ?_
    show Steps p.tables e below (s₁.setTop (mkF m 1 #[.val (.ref o0), .val (.int (4 : Int32)), .unset] [(.int (4 : Int32))])) _
    refine XS.aloadN X0.here hx rfl (hb hby d5_1) rfl rfl ?_
    show Steps p.tables e below (s₁.setTop (mkF m 2 #[.val (.ref o0), .val (.int (4 : Int32)), .unset] [(.ref o0), (.int (4 : Int32))])) _
    refine X0.arraylength hx (by rw [e0]; exact Ar1.1) (State.isArrayOf_alike hZ.alike Ar1.2.1) (g := (mkF m 2 #[.val (.ref o0), .val (.int (4 : Int32)), .unset] [(.ref o0), (.int (4 : Int32))])) rfl rfl (hb hby d5_2) _ ?_
    rw [len_of Sz1 Ng1]
    show Steps p.tables e below (s₁.setTop (mkF m 3 #[.val (.ref o0), .val (.int (4 : Int32)), .unset] [(.int (2 : Int32)), (.int (4 : Int32))])) _
    refine XS.icmpYes X0.here hx rfl (pc0 := 3) (pc' := 14) rfl (hb hby d5_3) rfl (feq (by decide : ¬ ((4 : Int32) = (2 : Int32)))).2 (by decide) (by decide) ?_
    show Steps p.tables e below (s₁.setTop (mkF m 14 #[.val (.ref o0), .val (.int (4 : Int32)), .unset] [])) _
    refine XS.iloadN X0.here hx rfl (hb hby d5_14) rfl ?_
    show Steps p.tables e below (s₁.setTop (mkF m 15 #[.val (.ref o0), .val (.int (4 : Int32)), .unset] [(.int (4 : Int32))])) _
    refine st2 _ ?_
    show Steps p.tables e below (T2.setTop (mkF m 17 #[.val (.ref o0), .val (.int (4 : Int32)), .unset] [(.ref b2)])) _
    refine XS.astoreN X2.here hx rfl (hb hby d5_17) rfl rfl (l' := #[.val (.ref o0), .val (.int (4 : Int32)), .val (.ref b2)]) rfl ?_
    show Steps p.tables e below (T2.setTop (mkF m 18 #[.val (.ref o0), .val (.int (4 : Int32)), .val (.ref b2)] [])) _
    refine XS.aloadN X2.here hx rfl (hb hby d5_18) rfl rfl ?_
    show Steps p.tables e below (T2.setTop (mkF m 19 #[.val (.ref o0), .val (.int (4 : Int32)), .val (.ref b2)] [(.ref o0)])) _
    refine XS.iconst X2.here hx rfl (hb hby d5_19) ?_
    show Steps p.tables e below (T2.setTop (mkF m 20 #[.val (.ref o0), .val (.int (4 : Int32)), .val (.ref b2)] [(.int (0 : Int32)), (.ref o0)])) _
    refine XS.aloadN X2.here hx rfl (hb hby d5_20) rfl rfl ?_
    show Steps p.tables e below (T2.setTop (mkF m 21 #[.val (.ref o0), .val (.int (4 : Int32)), .val (.ref b2)] [(.ref b2), (.int (0 : Int32)), (.ref o0)])) _
    refine XS.iconst X2.here hx rfl (hb hby d5_21) ?_
    show Steps p.tables e below (T2.setTop (mkF m 22 #[.val (.ref o0), .val (.int (4 : Int32)), .val (.ref b2)] [(.int (0 : Int32)), (.ref b2), (.int (0 : Int32)), (.ref o0)])) _
    refine XS.aloadN X2.here hx rfl (hb hby d5_22) rfl rfl ?_
    show Steps p.tables e below (T2.setTop (mkF m 23 #[.val (.ref o0), .val (.int (4 : Int32)), .val (.ref b2)] [(.ref o0), (.int (0 : Int32)), (.ref b2), (.int (0 : Int32)), (.ref o0)])) _
    refine X2.arraylength hx (by rw [e2]; exact Ar3.1) (State.isArrayOf_alike hZ.alike Ar3.2.1) (g := (mkF m 23 #[.val (.ref o0), .val (.int (4 : Int32)), .val (.ref b2)] [(.ref o0), (.int (0 : Int32)), (.ref b2), (.int (0 : Int32)), (.ref o0)])) rfl rfl (hb hby d5_23) _ ?_
    rw [len_of Sz3 Ng3]
    show Steps p.tables e below (T2.setTop (mkF m 24 #[.val (.ref o0), .val (.int (4 : Int32)), .val (.ref b2)] [(.int (2 : Int32)), (.int (0 : Int32)), (.ref b2), (.int (0 : Int32)), (.ref o0)])) _
    refine XS.iloadN X2.here hx rfl (hb hby d5_24) rfl ?_
    show Steps p.tables e below (T2.setTop (mkF m 25 #[.val (.ref o0), .val (.int (4 : Int32)), .val (.ref b2)] [(.int (4 : Int32)), (.int (2 : Int32)), (.int (0 : Int32)), (.ref b2), (.int (0 : Int32)), (.ref o0)])) _
    refine st4 _ ?_
    show Steps p.tables e below (T4.setTop (mkF m 28 #[.val (.ref o0), .val (.int (4 : Int32)), .val (.ref b2)] [(.int (2 : Int32)), (.int (0 : Int32)), (.ref b2), (.int (0 : Int32)), (.ref o0)])) _
    refine st5 _ ?_
    show Steps p.tables e below (T5.setTop (mkF m 31 #[.val (.ref o0), .val (.int (4 : Int32)), .val (.ref b2)] [])) _
    refine XS.aloadN X5.here hx rfl (hb hby d5_31) rfl rfl ?_
    show Steps p.tables e below (T5.setTop (mkF m 32 #[.val (.ref o0), .val (.int (4 : Int32)), .val (.ref b2)] [(.ref b2)])) _
    jvm_step X5.here [X5.here.top, hx, (hb hby d5_32), X5.method', Bd.returns, Value.isRef, FieldType.isReference]
    first | (intro acts; rw [hr _ acts rfl rfl rfl]) | rw [hr _ _ rfl rfl rfl]
    exact Steps.refl _
  · show own_QY Z (4 : Int32) [(.int x0), (.int x1), (.int (0 : Int32)), (.int (0 : Int32))] h0 n0 _ T5.heap _
    rw [e5]
    exact ⟨b2, k2, rfl, N5, (((Keep.refl h0 []).ext E2).trans K5 (allS (Or.inr (Nat.le_of_eq g2.symm)) all0)), (Nat.le_of_eq g2.symm), Vn5⟩
set_option maxRecDepth 65536 in
set_option maxHeartbeats 40000000 in
theorem rmY4 (l : Launch) (Z : State) (a0 : Array Value) (hw : ∀ d ∈ tables_1, d.before a0 Z = true) (ws : List Jvm.Cond) (o0 : Addr) (x0 : Int32) (x1 : Int32) (x2 : Int32) (x3 : Int32) (ka : ClassId) (h0 : Heap) (n0 : Nat) (O0 : Old Z n0 h0) (V_o0 : Arv Z h0 o0 ka .int (4 : Int32) [(.int x0), (.int x1), (.int x2), (.int x3)] (.int (0 : Int32))) :
    MetFree l (⟨"java/util/Arrays", "copyOf", "([II)[I"⟩ : MethodName) (head1 (Jvm.Cond.code (⟨"java/util/Arrays", "copyOf", "([II)[I"⟩ : MethodName) jdk_65_method_123_code 3 (some (.array .int)) :: ws) ({ frames := 1, cells := 1, slots := 6, locals := 18 } : Room)) (fun a U => a = #[(.ref o0), (.int (6 : Int32))] ∧ Z.Warmed39 U.vm ∧ U.heap = h0) (fun _ _ _ _ _ => True) (fun _ U o U' => ∃ v L, o = .returned v ∧ own_QY Z (6 : Int32) [(.int x0), (.int x1), (.int x2), (.int x3), (.int (0 : Int32)), (.int (0 : Int32))] h0 n0 v U'.heap L ∧ FrameEnd U o U' L ({ frames := 1, cells := 1, slots := 6, locals := 18 } : Room).cells ({ frames := 1, cells := 1, slots := 6, locals := 18 } : Room).slots) := by
  refine MetFree.of_bodySF (plainFor_of_name pn_5) hisR ?_
  intro p e s m args below meth c s₁ Bd hml0 hP hK
  obtain ⟨rfl, hZ, hh⟩ := hP
  have hx := Bd.exec
  have hby := Bd.bytes
  have hml : c.maxLocals = 3 := hml0
  have hown : s.vm.findClass "java/util/Arrays" = some m.cls := findClass_of_methodNamed Bd.named
  have hnm := (name_of_methodNamed Bd.named Bd.method).1
  have X0 : Stand p l e ({ frames := 1, cells := 1, slots := 6, locals := 18 } : Room) s m #[(.ref o0), (.int (6 : Int32))] below meth c s₁ [] 0 0 := Stand.of_body Bd
  have e0 : s₁.heap = h0 := by rw [← hh, Bd.state]; rfl
  have N0 := Fr.nil n0
  have pre0 : ∀ t, Steps p.tables e below (s₁.setTop (mkF m 0 #[.val (.ref o0), .val (.int (6 : Int32)), .unset] [])) t → Steps p.tables e below (s₁.setTop (entryFrame m #[(.ref o0), (.int (6 : Int32))] 3)) t := fun t k => castTop (ef_5 m o0 (6 : Int32)) k
  obtain ⟨cl1, Ar1, qa1, Sz1, Ng1, Hs1, Ft1⟩ := V_o0
  have V1o : Arv Z h0 o0 ka .int (4 : Int32) [(.int x0), (.int x1), (.int x2), (.int x3)] (.int (0 : Int32)) := ⟨cl1, Ar1, qa1, Sz1, Ng1, Hs1, Ft1⟩
  obtain ⟨T2, h2, k2, X2, e2, E2, A2, st2⟩ := newP X0 hx hZ (hw _ (List.mem_of_getElem? (i := 16) rfl)) e0 (g := (mkF m 15 #[.val (.ref o0), .val (.int (6 : Int32)), .unset] [(.int (6 : Int32))])) rfl (hb hby d5_15) rfl (by decide) (cap := 6) (by decide) (by decide) (by decide) (by decide)
  obtain ⟨b2, g2⟩ : ∃ z, z = h0.size := ⟨_, rfl⟩
  rw [← g2] at A2 st2
  have g_b2 : n0 ≤ b2 := Nat.le_trans (own_le O0) (Nat.le_of_eq g2.symm)
  have O2 := O0.ext E2
  have V_b2 : Arv Z h2 b2 k2 .int (6 : Int32) [(.int (0 : Int32)), (.int (0 : Int32)), (.int (0 : Int32)), (.int (0 : Int32)), (.int (0 : Int32)), (.int (0 : Int32))] (.int (0 : Int32)) := (Arv.new A2 (by decide)).pad (pad_rep [] (.int (0 : Int32)) 6)
  obtain ⟨cl3, Ar3, qa3, Sz3, Ng3, Hs3, Ft3⟩ := (V1o.ext E2)
  have V3o : Arv Z h2 o0 ka .int (4 : Int32) [(.int x0), (.int x1), (.int x2), (.int x3)] (.int (0 : Int32)) := ⟨cl3, Ar3, qa3, Sz3, Ng3, Hs3, Ft3⟩
  obtain ⟨_, _, ⟨T4, L4, k4, n4⟩, -, X4, ⟨Lc4, hQ4, l4, y4, z4⟩, st4⟩ := Jvm.LawKit.callS X2 hx (y := (⟨"java/lang/Math", "min", "(II)I"⟩ : MethodName)) hown (mvT hZ (hw _ (List.mem_of_getElem? (i := 67) rfl))) (mvT hZ (hw _ (List.mem_of_getElem? (i := 68) rfl))) (mvT hZ (hw _ (List.mem_of_getElem? (i := 69) rfl))) (mvT hZ (hw _ (List.mem_of_getElem? (i := 70) rfl))) (by decide) (backOf (W := 4) (rmMin l Z a0 hw [] (4 : Int32) (6 : Int32)  h2 n0 O2 (by decide)) hZ (hw _ (List.mem_of_getElem? (i := 70) rfl)) (hw _ (List.mem_of_getElem? (i := 69) rfl)) (by decide) (by decide)) (g := (mkF m 25 #[.val (.ref o0), .val (.int (6 : Int32)), .val (.ref b2)] [(.int (6 : Int32)), (.int (4 : Int32)), (.int (0 : Int32)), (.ref b2), (.int (0 : Int32)), (.ref o0)])) rfl (by rw [hml]; rfl) (argsL := [(.int (4 : Int32)), (.int (6 : Int32))]) (rest := [(.int (0 : Int32)), (.ref b2), (.int (0 : Int32)), (.ref o0)]) (lenOf pd_1 rfl) rfl (by show 2 * 0 + _ ≤ _; exact Nat.le_of_eq rfl) (hb hby d5_25) (fun _ _ => ⟨rfl, e2, (by decide : 1 + 0 ≤ _), (by decide : 6 + 0 ≤ _)⟩)
  dsimp only [Pt.U, Pt.locs, Pt.cells, Pt.slots] at X4 l4 y4 z4 st4 hQ4
  subst l4 y4 z4
  obtain ⟨rfl, N4q, e4⟩ := hQ4
  have N4 := Fr.app N0 N4q
  obtain ⟨T5, h5, L5, X5, e5, N5, K5, Vc5, st5⟩ := cpA X4 hx hZ hown (hw _ (List.mem_of_getElem? (i := 71) rfl)) (hw _ (List.mem_of_getElem? (i := 74) rfl)) (hw _ (List.mem_of_getElem? (i := 72) rfl)) (hw _ (List.mem_of_getElem? (i := 73) rfl)) e4 V3o V_b2 (us := [(.int x0), (.int x1), (.int x2), (.int x3)]) (Or.inl ⟨rfl, rfl⟩) (by decide) (by decide) (by decide) (by decide) (by decide) rfl (by decide) N4 g_b2 (g := (mkF m 28 #[.val (.ref o0), .val (.int (6 : Int32)), .val (.ref b2)] [(.int (4 : Int32)), (.int (0 : Int32)), (.ref b2), (.int (0 : Int32)), (.ref o0)])) rfl (by rw [hml]; rfl) (rest := []) rfl (hb hby d5_28) (by decide) (W := 0) (by show 2 * 0 + _ ≤ _; exact Nat.le_of_eq rfl) (by decide)
  have O5 := O2.keep K5 (allS g_b2 all0)
  have Vn5 : Arv Z h5 b2 k2 .int (6 : Int32) [(.int x0), (.int x1), (.int x2), (.int x3), (.int (0 : Int32)), (.int (0 : Int32))] (.int (0 : Int32)) := Vc5
  obtain ⟨fs, hr, hrun, hended, hW, hsame⟩ := X5.leave (v := some (.ref b2)) (fun h => by rw [Bd.returns] at h; cases h)
  refine ⟨_, _, pre0 _ ?_, hrun, hended, _, _, rfl, ?_, ⟨_, rfl⟩, hW, hsame.mono (by decide) (by decide)⟩
  · show Steps p.tables e below (s₁.setTop (mkF m 0 #[.val (.ref o0), .val (.int (6 : Int32)), .unset] [])) _
    refine XS.iloadN X0.here hx rfl (hb hby d5_0) rfl ?_
    show Steps p.tables e below (s₁.setTop (mkF m 1 #[.val (.ref o0), .val (.int (6 : Int32)), .unset] [(.int (6 : Int32))])) _
    refine XS.aloadN X0.here hx rfl (hb hby d5_1) rfl rfl ?_
    show Steps p.tables e below (s₁.setTop (mkF m 2 #[.val (.ref o0), .val (.int (6 : Int32)), .unset] [(.ref o0), (.int (6 : Int32))])) _
    refine X0.arraylength hx (by rw [e0]; exact Ar1.1) (State.isArrayOf_alike hZ.alike Ar1.2.1) (g := (mkF m 2 #[.val (.ref o0), .val (.int (6 : Int32)), .unset] [(.ref o0), (.int (6 : Int32))])) rfl rfl (hb hby d5_2) _ ?_
    rw [len_of Sz1 Ng1]
    show Steps p.tables e below (s₁.setTop (mkF m 3 #[.val (.ref o0), .val (.int (6 : Int32)), .unset] [(.int (4 : Int32)), (.int (6 : Int32))])) _
    refine XS.icmpYes X0.here hx rfl (pc0 := 3) (pc' := 14) rfl (hb hby d5_3) rfl (feq (by decide : ¬ ((6 : Int32) = (4 : Int32)))).2 (by decide) (by decide) ?_
    show Steps p.tables e below (s₁.setTop (mkF m 14 #[.val (.ref o0), .val (.int (6 : Int32)), .unset] [])) _
    refine XS.iloadN X0.here hx rfl (hb hby d5_14) rfl ?_
    show Steps p.tables e below (s₁.setTop (mkF m 15 #[.val (.ref o0), .val (.int (6 : Int32)), .unset] [(.int (6 : Int32))])) _
    refine st2 _ ?_
    show Steps p.tables e below (T2.setTop (mkF m 17 #[.val (.ref o0), .val (.int (6 : Int32)), .unset] [(.ref b2)])) _
    refine XS.astoreN X2.here hx rfl (hb hby d5_17) rfl rfl (l' := #[.val (.ref o0), .val (.int (6 : Int32)), .val (.ref b2)]) rfl ?_
    show Steps p.tables e below (T2.setTop (mkF m 18 #[.val (.ref o0), .val (.int (6 : Int32)), .val (.ref b2)] [])) _
    refine XS.aloadN X2.here hx rfl (hb hby d5_18) rfl rfl ?_
    show Steps p.tables e below (T2.setTop (mkF m 19 #[.val (.ref o0), .val (.int (6 : Int32)), .val (.ref b2)] [(.ref o0)])) _
    refine XS.iconst X2.here hx rfl (hb hby d5_19) ?_
    show Steps p.tables e below (T2.setTop (mkF m 20 #[.val (.ref o0), .val (.int (6 : Int32)), .val (.ref b2)] [(.int (0 : Int32)), (.ref o0)])) _
    refine XS.aloadN X2.here hx rfl (hb hby d5_20) rfl rfl ?_
    show Steps p.tables e below (T2.setTop (mkF m 21 #[.val (.ref o0), .val (.int (6 : Int32)), .val (.ref b2)] [(.ref b2), (.int (0 : Int32)), (.ref o0)])) _
    refine XS.iconst X2.here hx rfl (hb hby d5_21) ?_
    show Steps p.tables e below (T2.setTop (mkF m 22 #[.val (.ref o0), .val (.int (6 : Int32)), .val (.ref b2)] [(.int (0 : Int32)), (.ref b2), (.int (0 : Int32)), (.ref o0)])) _
    refine XS.aloadN X2.here hx rfl (hb hby d5_22) rfl rfl ?_
    show Steps p.tables e below (T2.setTop (mkF m 23 #[.val (.ref o0), .val (.int (6 : Int32)), .val (.ref b2)] [(.ref o0), (.int (0 : Int32)), (.ref b2), (.int (0 : Int32)), (.ref o0)])) _
    refine X2.arraylength hx (by rw [e2]; exact Ar3.1) (State.isArrayOf_alike hZ.alike Ar3.2.1) (g := (mkF m 23 #[.val (.ref o0), .val (.int (6 : Int32)), .val (.ref b2)] [(.ref o0), (.int (0 : Int32)), (.ref b2), (.int (0 : Int32)), (.ref o0)])) rfl rfl (hb hby d5_23) _ ?_
    rw [len_of Sz3 Ng3]
    show Steps p.tables e below (T2.setTop (mkF m 24 #[.val (.ref o0), .val (.int (6 : Int32)), .val (.ref b2)] [(.int (4 : Int32)), (.int (0 : Int32)), (.ref b2), (.int (0 : Int32)), (.ref o0)])) _
    refine XS.iloadN X2.here hx rfl (hb hby d5_24) rfl ?_
    show Steps p.tables e below (T2.setTop (mkF m 25 #[.val (.ref o0), .val (.int (6 : Int32)), .val (.ref b2)] [(.int (6 : Int32)), (.int (4 : Int32)), (.int (0 : Int32)), (.ref b2), (.int (0 : Int32)), (.ref o0)])) _
    refine st4 _ ?_
    show Steps p.tables e below (T4.setTop (mkF m 28 #[.val (.ref o0), .val (.int (6 : Int32)), .val (.ref b2)] [(.int (4 : Int32)), (.int (0 : Int32)), (.ref b2), (.int (0 : Int32)), (.ref o0)])) _
    refine st5 _ ?_
    show Steps p.tables e below (T5.setTop (mkF m 31 #[.val (.ref o0), .val (.int (6 : Int32)), .val (.ref b2)] [])) _
    refine XS.aloadN X5.here hx rfl (hb hby d5_31) rfl rfl ?_
    show Steps p.tables e below (T5.setTop (mkF m 32 #[.val (.ref o0), .val (.int (6 : Int32)), .val (.ref b2)] [(.ref b2)])) _
    jvm_step X5.here [X5.here.top, hx, (hb hby d5_32), X5.method', Bd.returns, Value.isRef, FieldType.isReference]
    first | (intro acts; rw [hr _ acts rfl rfl rfl]) | rw [hr _ _ rfl rfl rfl]
    exact Steps.refl _
  · show own_QY Z (6 : Int32) [(.int x0), (.int x1), (.int x2), (.int x3), (.int (0 : Int32)), (.int (0 : Int32))] h0 n0 _ T5.heap _
    rw [e5]
    exact ⟨b2, k2, rfl, N5, (((Keep.refl h0 []).ext E2).trans K5 (allS (Or.inr (Nat.le_of_eq g2.symm)) all0)), (Nat.le_of_eq g2.symm), Vn5⟩
theorem d4_0 : decode prog_32_method_54_code 0 = .ok (.iconst 0, 1) := by decide +kernel
theorem d4_1 : decode prog_32_method_54_code 1 = .ok (.istore_n 3, 1) := by decide +kernel
theorem d4_2 : decode prog_32_method_54_code 2 = .ok (.iload_n 3, 1) := by decide +kernel
theorem d4_3 : decode prog_32_method_54_code 3 = .ok (.aload_n 0, 1) := by decide +kernel
theorem d4_4 : decode prog_32_method_54_code 4 = .ok (.getfield 51, 3) := by decide +kernel
theorem d4_7 : decode prog_32_method_54_code 7 = .ok (.arraylength, 1) := by decide +kernel
theorem d4_8 : decode prog_32_method_54_code 8 = .ok (.if_icmp .ge 19, 3) := by decide +kernel
theorem d4_27 : decode prog_32_method_54_code 27 = .ok (.iload_n 3, 1) := by decide +kernel
theorem d4_28 : decode prog_32_method_54_code 28 = .ok (.aload_n 0, 1) := by decide +kernel
theorem d4_29 : decode prog_32_method_54_code 29 = .ok (.getfield 51, 3) := by decide +kernel
theorem d4_32 : decode prog_32_method_54_code 32 = .ok (.arraylength, 1) := by decide +kernel
theorem d4_33 : decode prog_32_method_54_code 33 = .ok (.if_icmp .ne 24, 3) := by decide +kernel
theorem d4_36 : decode prog_32_method_54_code 36 = .ok (.aload_n 0, 1) := by decide +kernel
theorem d4_37 : decode prog_32_method_54_code 37 = .ok (.aload_n 0, 1) := by decide +kernel
theorem d4_38 : decode prog_32_method_54_code 38 = .ok (.getfield 51, 3) := by decide +kernel
theorem d4_41 : decode prog_32_method_54_code 41 = .ok (.iload_n 3, 1) := by decide +kernel
theorem d4_42 : decode prog_32_method_54_code 42 = .ok (.iconst 2, 1) := by decide +kernel
theorem d4_43 : decode prog_32_method_54_code 43 = .ok (.iadd, 1) := by decide +kernel
theorem d4_44 : decode prog_32_method_54_code 44 = .ok (.invokestatic 89, 3) := by decide +kernel
theorem pd_2 : parseMethodDescriptor "([II)[I" = some ⟨[(.array .int), .int], some (.array .int)⟩ := by decide +kernel
theorem d4_47 : decode prog_32_method_54_code 47 = .ok (.putfield 51, 3) := by decide +kernel
theorem d4_50 : decode prog_32_method_54_code 50 = .ok (.aload_n 0, 1) := by decide +kernel
theorem d4_51 : decode prog_32_method_54_code 51 = .ok (.getfield 51, 3) := by decide +kernel
theorem d4_54 : decode prog_32_method_54_code 54 = .ok (.iload_n 3, 1) := by decide +kernel
theorem d4_55 : decode prog_32_method_54_code 55 = .ok (.iload_n 1, 1) := by decide +kernel
theorem d4_56 : decode prog_32_method_54_code 56 = .ok (.iastore, 1) := by decide +kernel
theorem d4_57 : decode prog_32_method_54_code 57 = .ok (.aload_n 0, 1) := by decide +kernel
theorem d4_58 : decode prog_32_method_54_code 58 = .ok (.getfield 51, 3) := by decide +kernel
theorem d4_61 : decode prog_32_method_54_code 61 = .ok (.iload_n 3, 1) := by decide +kernel
theorem d4_62 : decode prog_32_method_54_code 62 = .ok (.iconst 1, 1) := by decide +kernel
theorem d4_63 : decode prog_32_method_54_code 63 = .ok (.iadd, 1) := by decide +kernel
theorem d4_64 : decode prog_32_method_54_code 64 = .ok (.iload_n 2, 1) := by decide +kernel
theorem d4_65 : decode prog_32_method_54_code 65 = .ok (.iastore, 1) := by decide +kernel
theorem d4_66 : decode prog_32_method_54_code 66 = .ok (.return_, 1) := by decide +kernel
theorem d4_11 : decode prog_32_method_54_code 11 = .ok (.aload_n 0, 1) := by decide +kernel
theorem d4_12 : decode prog_32_method_54_code 12 = .ok (.getfield 51, 3) := by decide +kernel
theorem d4_15 : decode prog_32_method_54_code 15 = .ok (.iload_n 3, 1) := by decide +kernel
theorem d4_16 : decode prog_32_method_54_code 16 = .ok (.iaload, 1) := by decide +kernel
theorem d4_17 : decode prog_32_method_54_code 17 = .ok (.iload_n 1, 1) := by decide +kernel
theorem d4_18 : decode prog_32_method_54_code 18 = .ok (.if_icmp .eq 9, 3) := by decide +kernel
theorem d4_21 : decode prog_32_method_54_code 21 = .ok (.iinc 3 2, 3) := by decide +kernel
theorem d4_24 : decode prog_32_method_54_code 24 = .ok (.goto (-22), 3) := by decide +kernel
theorem ef_4 (m : MethodId) (x0 : Addr) (x1 : Int32) (x2 : Int32) : entryFrame m #[(.ref x0), (.int x1), (.int x2)] 4 = mkF m 0 #[.val (.ref x0), .val (.int x1), .val (.int x2), .unset] [] := by first | (simp [entryFrame, mkF, argsToLocals, Value.category]; done) | rfl
theorem pn_4 : plainName "com/example/kvasir/kvasir/tableau/Node" = true := by first | (simp [plainName, overriddenIn]; done) | decide +kernel
set_option maxRecDepth 65536 in
set_option maxHeartbeats 40000000 in
theorem rmP0n (l : Launch) (Z : State) (a0 : Array Value) (hw : ∀ d ∈ tables_1, d.before a0 Z = true) (ws : List Jvm.Cond) (o0 : Addr) (p1 : Int32) (p2 : Int32) (ar : Addr) (ka : ClassId) (h0 : Heap) (n0 : Nat) (O0 : Old Z n0 h0) (E_o0 : Exa Z h0 o0 "com/example/kvasir/kvasir/tableau/Node") (F_agendaPlaces_o0 : Fld Z h0 o0 "com/example/kvasir/kvasir/tableau/Node" "agendaPlaces" "[I" (.ref ar)) (V_ar : Arv Z h0 ar ka .int (0 : Int32) [] (.int (0 : Int32))) (g_o0 : n0 ≤ o0) (g_ar : n0 ≤ ar) (nq : o0 ≠ ar) :
    MetFree l (⟨"com/example/kvasir/kvasir/tableau/Node", "placeOnAgenda", "(II)V"⟩ : MethodName) (head1 (Jvm.Cond.code (⟨"com/example/kvasir/kvasir/tableau/Node", "placeOnAgenda", "(II)V"⟩ : MethodName) prog_32_method_54_code 4 none :: ws) ({ frames := 2, cells := 1, slots := 6, locals := 33 } : Room)) (fun a U => a = #[(.ref o0), (.int p1), (.int p2)] ∧ Z.Warmed39 U.vm ∧ U.heap = h0) (fun _ _ _ _ _ => True) (fun _ U o U' => ∃ v L, o = .returned v ∧ own_QA Z o0 (own_put [] p1 p2) n0 v U'.heap L ∧ FrameEnd U o U' L ({ frames := 2, cells := 1, slots := 6, locals := 33 } : Room).cells ({ frames := 2, cells := 1, slots := 6, locals := 33 } : Room).slots) := by
  refine MetFree.of_bodySF (plainFor_of_name pn_4) hisR ?_
  intro p e s m args below meth c s₁ Bd hml0 hP hK
  obtain ⟨rfl, hZ, hh⟩ := hP
  have hx := Bd.exec
  have hby := Bd.bytes
  have hml : c.maxLocals = 4 := hml0
  have hown : s.vm.findClass "com/example/kvasir/kvasir/tableau/Node" = some m.cls := findClass_of_methodNamed Bd.named
  have hnm := (name_of_methodNamed Bd.named Bd.method).1
  have X0 : Stand p l e ({ frames := 2, cells := 1, slots := 6, locals := 33 } : Room) s m #[(.ref o0), (.int p1), (.int p2)] below meth c s₁ [] 0 0 := Stand.of_body Bd
  have e0 : s₁.heap = h0 := by rw [← hh, Bd.state]; rfl
  have N0 := Fr.nil n0
  have pre0 : ∀ t, Steps p.tables e below (s₁.setTop (mkF m 0 #[.val (.ref o0), .val (.int p1), .val (.int p2), .unset] [])) t → Steps p.tables e below (s₁.setTop (entryFrame m #[(.ref o0), (.int p1), (.int p2)] 4)) t := fun t k => castTop (ef_4 m o0 p1 p2) k
  obtain ⟨T1, X1, e1, st1⟩ := getF X0 hx hZ hown (host := "") (Or.inl (hw _ (List.mem_of_getElem? (i := 41) rfl))) Via.refl e0 F_agendaPlaces_o0 (g := (mkF m 4 #[.val (.ref o0), .val (.int p1), .val (.int p2), .val (.int (0 : Int32))] [(.ref o0), (.int (0 : Int32))])) rfl rfl (hb hby d4_4)
  obtain ⟨cl2, Ar2, qa2, Sz2, Ng2, Hs2, Ft2⟩ := V_ar
  have V2o : Arv Z h0 ar ka .int (0 : Int32) [] (.int (0 : Int32)) := ⟨cl2, Ar2, qa2, Sz2, Ng2, Hs2, Ft2⟩
  obtain ⟨T3, X3, e3, st3⟩ := getF X1 hx hZ hown (host := "") (Or.inl (hw _ (List.mem_of_getElem? (i := 41) rfl))) Via.refl e1 F_agendaPlaces_o0 (g := (mkF m 29 #[.val (.ref o0), .val (.int p1), .val (.int p2), .val (.int (0 : Int32))] [(.ref o0), (.int (0 : Int32))])) rfl rfl (hb hby d4_29)
  obtain ⟨cl4, Ar4, qa4, Sz4, Ng4, Hs4, Ft4⟩ := V2o
  have V4o : Arv Z h0 ar ka .int (0 : Int32) [] (.int (0 : Int32)) := ⟨cl4, Ar4, qa4, Sz4, Ng4, Hs4, Ft4⟩
  obtain ⟨T5, X5, e5, st5⟩ := getF X3 hx hZ hown (host := "") (Or.inl (hw _ (List.mem_of_getElem? (i := 41) rfl))) Via.refl e3 F_agendaPlaces_o0 (g := (mkF m 38 #[.val (.ref o0), .val (.int p1), .val (.int p2), .val (.int (0 : Int32))] [(.ref o0), (.ref o0)])) rfl rfl (hb hby d4_38)
  obtain ⟨_, _, ⟨T6, L6, k6, n6⟩, -, X6, ⟨Lc6, hQ6, l6, y6, z6⟩, st6⟩ := Jvm.LawKit.callS X5 hx (y := (⟨"java/util/Arrays", "copyOf", "([II)[I"⟩ : MethodName)) hown (mvT hZ (hw _ (List.mem_of_getElem? (i := 63) rfl))) (mvT hZ (hw _ (List.mem_of_getElem? (i := 64) rfl))) (mvT hZ (hw _ (List.mem_of_getElem? (i := 65) rfl))) (mvT hZ (hw _ (List.mem_of_getElem? (i := 66) rfl))) (by decide) (backOf (W := 1) (rmY0 l Z a0 hw [] ar  ka h0 n0 O0 V4o) hZ (hw _ (List.mem_of_getElem? (i := 66) rfl)) (hw _ (List.mem_of_getElem? (i := 65) rfl)) (by decide) (by decide)) (g := (mkF m 44 #[.val (.ref o0), .val (.int p1), .val (.int p2), .val (.int (0 : Int32))] [(.int (2 : Int32)), (.ref ar), (.ref o0)])) rfl (by rw [hml]; rfl) (argsL := [(.ref ar), (.int (2 : Int32))]) (rest := [(.ref o0)]) (lenOf pd_2 rfl) rfl (by show 2 * 0 + _ ≤ _; exact Nat.le_of_eq rfl) (hb hby d4_44) (fun _ _ => ⟨rfl, e5, (by decide : 0 + 1 ≤ _), (by decide : 0 + 2 ≤ _)⟩)
  dsimp only [Pt.U, Pt.locs, Pt.cells, Pt.slots] at X6 l6 y6 z6 st6 hQ6
  subst l6 y6 z6
  obtain ⟨b6, ky6, rfl, N6q, K6, Sb6, Vy6⟩ := hQ6
  have N6 := Fr.app N0 N6q
  have O6 := O0.keep K6 all0
  have g_b6 : n0 ≤ b6 := Nat.le_trans (own_le O0) Sb6
  obtain ⟨T7, h7, X7, e7, W7, st7⟩ := putF X6 hx hZ hown (host := "") (Or.inl (hw _ (List.mem_of_getElem? (i := 41) rfl))) Via.refl rfl (F_agendaPlaces_o0.keep K6 nin0) (E_o0.keep K6) (Or.inl (hw _ (List.mem_of_getElem? (i := 42) rfl))) (hw _ (List.mem_of_getElem? (i := 2) rfl)) (ty := (.array .int)) (by decide) rfl rfl (g := (mkF m 47 #[.val (.ref o0), .val (.int p1), .val (.int p2), .val (.int (0 : Int32))] [(.ref b6), (.ref o0)])) rfl rfl (hb hby d4_47)
  have O7 := O6.wr W7 g_o0
  have Fw7 := (F_agendaPlaces_o0.keep K6 nin0).same W7
  have N7 := Fr.snoc X7 N6 g_o0
  obtain ⟨T8, X8, e8, st8⟩ := getF X7 hx hZ hown (host := "") (Or.inl (hw _ (List.mem_of_getElem? (i := 41) rfl))) Via.refl e7 Fw7 (g := (mkF m 51 #[.val (.ref o0), .val (.int p1), .val (.int p2), .val (.int (0 : Int32))] [(.ref o0)])) rfl rfl (hb hby d4_51)
  have v_b6_2_x := (Vy6.other W7 (Ne.symm (Nat.ne_of_lt (Nat.lt_of_lt_of_le F_agendaPlaces_o0.lt Sb6))))
  obtain ⟨cl9, Ar9, qa9, Sz9, Ng9, Hs9, Ft9⟩ := v_b6_2_x
  obtain ⟨T9, h9, X9, e9, W9, st9⟩ := stI X8 hx hZ e8 Ar9 (j := (0 : Int32)) (inb_of Sz9 ⟨by decide, by decide⟩) (g := (mkF m 56 #[.val (.ref o0), .val (.int p1), .val (.int p2), .val (.int (0 : Int32))] [(.int p1), (.int (0 : Int32)), (.ref b6)])) rfl rfl (hb hby d4_56)
  have O9 := O7.wr W9 g_b6
  have N9 := Fr.snoc X9 N7 g_b6
  have V9 : Arv Z h9 b6 ky6 .int (2 : Int32) [(.int p1), (.int (0 : Int32))] (.int (0 : Int32)) := Arv.set Ar9 qa9 Sz9 Ng9 Hs9 Ft9 rfl W9 0 rfl (Nat.le_of_ble_eq_true rfl)
  have f_o0_3_agendaPlaces := (Fw7.other W9 (Or.inl (Nat.ne_of_lt (Nat.lt_of_lt_of_le F_agendaPlaces_o0.lt Sb6))))
  obtain ⟨T10, X10, e10, st10⟩ := getF X9 hx hZ hown (host := "") (Or.inl (hw _ (List.mem_of_getElem? (i := 41) rfl))) Via.refl e9 f_o0_3_agendaPlaces (g := (mkF m 58 #[.val (.ref o0), .val (.int p1), .val (.int p2), .val (.int (0 : Int32))] [(.ref o0)])) rfl rfl (hb hby d4_58)
  obtain ⟨cl11, Ar11, qa11, Sz11, Ng11, Hs11, Ft11⟩ := V9
  obtain ⟨T11, h11, X11, e11, W11, st11⟩ := stI X10 hx hZ e10 Ar11 (j := (1 : Int32)) (inb_of Sz11 ⟨by decide, by decide⟩) (g := (mkF m 65 #[.val (.ref o0), .val (.int p1), .val (.int p2), .val (.int (0 : Int32))] [(.int p2), (.int (1 : Int32)), (.ref b6)])) rfl rfl (hb hby d4_65)
  have O11 := O9.wr W11 g_b6
  have N11 := Fr.snoc X11 N9 g_b6
  have V11 : Arv Z h11 b6 ky6 .int (2 : Int32) [(.int p1), (.int p2)] (.int (0 : Int32)) := Arv.set Ar11 qa11 Sz11 Ng11 Hs11 Ft11 rfl W11 1 rfl (Nat.le_of_ble_eq_true rfl)
  have f_o0_4_agendaPlaces := (f_o0_3_agendaPlaces.other W11 (Or.inl (Nat.ne_of_lt (Nat.lt_of_lt_of_le F_agendaPlaces_o0.lt Sb6))))
  have hA : own_put [] p1 p2 = [(p1, p2)] := by simp [own_put]
  obtain ⟨fs, hr, hrun, hended, hW, hsame⟩ := X11.leave (v := none) (fun _ => rfl)
  refine ⟨_, _, pre0 _ ?_, hrun, hended, _, _, rfl, ?_, ⟨_, rfl⟩, hW, hsame.mono (by decide) (by decide)⟩
  · show Steps p.tables e below (s₁.setTop (mkF m 0 #[.val (.ref o0), .val (.int p1), .val (.int p2), .unset] [])) _
    refine XS.iconst X0.here hx rfl (hb hby d4_0) ?_
    show Steps p.tables e below (s₁.setTop (mkF m 1 #[.val (.ref o0), .val (.int p1), .val (.int p2), .unset] [(.int (0 : Int32))])) _
    refine XS.istoreN X0.here hx rfl (hb hby d4_1) rfl (l' := #[.val (.ref o0), .val (.int p1), .val (.int p2), .val (.int (0 : Int32))]) rfl ?_
    show Steps p.tables e below (s₁.setTop (mkF m 2 #[.val (.ref o0), .val (.int p1), .val (.int p2), .val (.int (0 : Int32))] [])) _
    refine XS.iloadN X0.here hx rfl (hb hby d4_2) rfl ?_
    show Steps p.tables e below (s₁.setTop (mkF m 3 #[.val (.ref o0), .val (.int p1), .val (.int p2), .val (.int (0 : Int32))] [(.int (0 : Int32))])) _
    refine XS.aloadN X0.here hx rfl (hb hby d4_3) rfl rfl ?_
    show Steps p.tables e below (s₁.setTop (mkF m 4 #[.val (.ref o0), .val (.int p1), .val (.int p2), .val (.int (0 : Int32))] [(.ref o0), (.int (0 : Int32))])) _
    refine st1 _ ?_
    show Steps p.tables e below (T1.setTop (mkF m 7 #[.val (.ref o0), .val (.int p1), .val (.int p2), .val (.int (0 : Int32))] [(.ref ar), (.int (0 : Int32))])) _
    refine X1.arraylength hx (by rw [e1]; exact Ar2.1) (State.isArrayOf_alike hZ.alike Ar2.2.1) (g := (mkF m 7 #[.val (.ref o0), .val (.int p1), .val (.int p2), .val (.int (0 : Int32))] [(.ref ar), (.int (0 : Int32))])) rfl rfl (hb hby d4_7) _ ?_
    rw [len_of Sz2 Ng2]
    show Steps p.tables e below (T1.setTop (mkF m 8 #[.val (.ref o0), .val (.int p1), .val (.int p2), .val (.int (0 : Int32))] [(.int (0 : Int32)), (.int (0 : Int32))])) _
    refine XS.icmpYes X1.here hx rfl (pc0 := 8) (pc' := 27) rfl (hb hby d4_8) rfl (flt (by decide : ¬ ((0 : Int32) < (0 : Int32)))).2.1 (by decide) (by decide) ?_
    show Steps p.tables e below (T1.setTop (mkF m 27 #[.val (.ref o0), .val (.int p1), .val (.int p2), .val (.int (0 : Int32))] [])) _
    refine XS.iloadN X1.here hx rfl (hb hby d4_27) rfl ?_
    show Steps p.tables e below (T1.setTop (mkF m 28 #[.val (.ref o0), .val (.int p1), .val (.int p2), .val (.int (0 : Int32))] [(.int (0 : Int32))])) _
    refine XS.aloadN X1.here hx rfl (hb hby d4_28) rfl rfl ?_
    show Steps p.tables e below (T1.setTop (mkF m 29 #[.val (.ref o0), .val (.int p1), .val (.int p2), .val (.int (0 : Int32))] [(.ref o0), (.int (0 : Int32))])) _
    refine st3 _ ?_
    show Steps p.tables e below (T3.setTop (mkF m 32 #[.val (.ref o0), .val (.int p1), .val (.int p2), .val (.int (0 : Int32))] [(.ref ar), (.int (0 : Int32))])) _
    refine X3.arraylength hx (by rw [e3]; exact Ar4.1) (State.isArrayOf_alike hZ.alike Ar4.2.1) (g := (mkF m 32 #[.val (.ref o0), .val (.int p1), .val (.int p2), .val (.int (0 : Int32))] [(.ref ar), (.int (0 : Int32))])) rfl rfl (hb hby d4_32) _ ?_
    rw [len_of Sz4 Ng4]
    show Steps p.tables e below (T3.setTop (mkF m 33 #[.val (.ref o0), .val (.int p1), .val (.int p2), .val (.int (0 : Int32))] [(.int (0 : Int32)), (.int (0 : Int32))])) _
    refine XS.icmpNo X3.here hx rfl (hb hby d4_33) rfl (teq (by decide : (0 : Int32) = (0 : Int32))).2 ?_
    show Steps p.tables e below (T3.setTop (mkF m 36 #[.val (.ref o0), .val (.int p1), .val (.int p2), .val (.int (0 : Int32))] [])) _
    refine XS.aloadN X3.here hx rfl (hb hby d4_36) rfl rfl ?_
    show Steps p.tables e below (T3.setTop (mkF m 37 #[.val (.ref o0), .val (.int p1), .val (.int p2), .val (.int (0 : Int32))] [(.ref o0)])) _
    refine XS.aloadN X3.here hx rfl (hb hby d4_37) rfl rfl ?_
    show Steps p.tables e below (T3.setTop (mkF m 38 #[.val (.ref o0), .val (.int p1), .val (.int p2), .val (.int (0 : Int32))] [(.ref o0), (.ref o0)])) _
    refine st5 _ ?_
    show Steps p.tables e below (T5.setTop (mkF m 41 #[.val (.ref o0), .val (.int p1), .val (.int p2), .val (.int (0 : Int32))] [(.ref ar), (.ref o0)])) _
    refine XS.iloadN X5.here hx rfl (hb hby d4_41) rfl ?_
    show Steps p.tables e below (T5.setTop (mkF m 42 #[.val (.ref o0), .val (.int p1), .val (.int p2), .val (.int (0 : Int32))] [(.int (0 : Int32)), (.ref ar), (.ref o0)])) _
    refine XS.iconst X5.here hx rfl (hb hby d4_42) ?_
    show Steps p.tables e below (T5.setTop (mkF m 43 #[.val (.ref o0), .val (.int p1), .val (.int p2), .val (.int (0 : Int32))] [(.int (2 : Int32)), (.int (0 : Int32)), (.ref ar), (.ref o0)])) _
    refine XS.iadd X5.here hx rfl (hb hby d4_43) rfl ?_
    show Steps p.tables e below (T5.setTop (mkF m 44 #[.val (.ref o0), .val (.int p1), .val (.int p2), .val (.int (0 : Int32))] [(.int (2 : Int32)), (.ref ar), (.ref o0)])) _
    refine st6 _ ?_
    show Steps p.tables e below (T6.setTop (mkF m 47 #[.val (.ref o0), .val (.int p1), .val (.int p2), .val (.int (0 : Int32))] [(.ref b6), (.ref o0)])) _
    refine st7 _ ?_
    show Steps p.tables e below (T7.setTop (mkF m 50 #[.val (.ref o0), .val (.int p1), .val (.int p2), .val (.int (0 : Int32))] [])) _
    refine XS.aloadN X7.here hx rfl (hb hby d4_50) rfl rfl ?_
    show Steps p.tables e below (T7.setTop (mkF m 51 #[.val (.ref o0), .val (.int p1), .val (.int p2), .val (.int (0 : Int32))] [(.ref o0)])) _
    refine st8 _ ?_
    show Steps p.tables e below (T8.setTop (mkF m 54 #[.val (.ref o0), .val (.int p1), .val (.int p2), .val (.int (0 : Int32))] [(.ref b6)])) _
    refine XS.iloadN X8.here hx rfl (hb hby d4_54) rfl ?_
    show Steps p.tables e below (T8.setTop (mkF m 55 #[.val (.ref o0), .val (.int p1), .val (.int p2), .val (.int (0 : Int32))] [(.int (0 : Int32)), (.ref b6)])) _
    refine XS.iloadN X8.here hx rfl (hb hby d4_55) rfl ?_
    show Steps p.tables e below (T8.setTop (mkF m 56 #[.val (.ref o0), .val (.int p1), .val (.int p2), .val (.int (0 : Int32))] [(.int p1), (.int (0 : Int32)), (.ref b6)])) _
    refine st9 _ ?_
    show Steps p.tables e below (T9.setTop (mkF m 57 #[.val (.ref o0), .val (.int p1), .val (.int p2), .val (.int (0 : Int32))] [])) _
    refine XS.aloadN X9.here hx rfl (hb hby d4_57) rfl rfl ?_
    show Steps p.tables e below (T9.setTop (mkF m 58 #[.val (.ref o0), .val (.int p1), .val (.int p2), .val (.int (0 : Int32))] [(.ref o0)])) _
    refine st10 _ ?_
    show Steps p.tables e below (T10.setTop (mkF m 61 #[.val (.ref o0), .val (.int p1), .val (.int p2), .val (.int (0 : Int32))] [(.ref b6)])) _
    refine XS.iloadN X10.here hx rfl (hb hby d4_61) rfl ?_
    show Steps p.tables e below (T10.setTop (mkF m 62 #[.val (.ref o0), .val (.int p1), .val (.int p2), .val (.int (0 : Int32))] [(.int (0 : Int32)), (.ref b6)])) _
    refine XS.iconst X10.here hx rfl (hb hby d4_62) ?_
    show Steps p.tables e below (T10.setTop (mkF m 63 #[.val (.ref o0), .val (.int p1), .val (.int p2), .val (.int (0 : Int32))] [(.int (1 : Int32)), (.int (0 : Int32)), (.ref b6)])) _
    refine XS.iadd X10.here hx rfl (hb hby d4_63) rfl ?_
    show Steps p.tables e below (T10.setTop (mkF m 64 #[.val (.ref o0), .val (.int p1), .val (.int p2), .val (.int (0 : Int32))] [(.int (1 : Int32)), (.ref b6)])) _
    refine XS.iloadN X10.here hx rfl (hb hby d4_64) rfl ?_
    show Steps p.tables e below (T10.setTop (mkF m 65 #[.val (.ref o0), .val (.int p1), .val (.int p2), .val (.int (0 : Int32))] [(.int p2), (.int (1 : Int32)), (.ref b6)])) _
    refine st11 _ ?_
    show Steps p.tables e below (T11.setTop (mkF m 66 #[.val (.ref o0), .val (.int p1), .val (.int p2), .val (.int (0 : Int32))] [])) _
    exact X11.returnOut hx Bd.returns (hb hby d4_66) hr
  · show own_QA Z o0 (own_put [] p1 p2) n0 _ T11.heap _
    rw [e11]
    exact by
      rw [hA]
      exact ⟨rfl, N11, O11, ((((E_o0.keep K6).wr W7).wr W9).wr W11), g_o0, b6, ky6, f_o0_4_agendaPlaces, V11, g_b6, (Nat.ne_of_lt (Nat.lt_of_lt_of_le F_agendaPlaces_o0.lt Sb6))⟩
set_option maxRecDepth 65536 in
set_option maxHeartbeats 40000000 in
theorem rmP10 (l : Launch) (Z : State) (a0 : Array Value) (hw : ∀ d ∈ tables_1, d.before a0 Z = true) (ws : List Jvm.Cond) (o0 : Addr) (p1 : Int32) (p2 : Int32) (x0 : Int32) (y0 : Int32) (ar : Addr) (ka : ClassId) (h0 : Heap) (n0 : Nat) (O0 : Old Z n0 h0) (E_o0 : Exa Z h0 o0 "com/example/kvasir/kvasir/tableau/Node") (F_agendaPlaces_o0 : Fld Z h0 o0 "com/example/kvasir/kvasir/tableau/Node" "agendaPlaces" "[I" (.ref ar)) (V_ar : Arv Z h0 ar ka .int (2 : Int32) [(.int x0), (.int y0)] (.int (0 : Int32))) (g_o0 : n0 ≤ o0) (g_ar : n0 ≤ ar) (nq : o0 ≠ ar) (q0 : x0 = p1) :
    MetFree l (⟨"com/example/kvasir/kvasir/tableau/Node", "placeOnAgenda", "(II)V"⟩ : MethodName) (head1 (Jvm.Cond.code (⟨"com/example/kvasir/kvasir/tableau/Node", "placeOnAgenda", "(II)V"⟩ : MethodName) prog_32_method_54_code 4 none :: ws) ({ frames := 2, cells := 1, slots := 6, locals := 33 } : Room)) (fun a U => a = #[(.ref o0), (.int p1), (.int p2)] ∧ Z.Warmed39 U.vm ∧ U.heap = h0) (fun _ _ _ _ _ => True) (fun _ U o U' => ∃ v L, o = .returned v ∧ own_QA Z o0 (own_put [(x0, y0)] p1 p2) n0 v U'.heap L ∧ FrameEnd U o U' L ({ frames := 2, cells := 1, slots := 6, locals := 33 } : Room).cells ({ frames := 2, cells := 1, slots := 6, locals := 33 } : Room).slots) := by
  refine MetFree.of_bodySF (plainFor_of_name pn_4) hisR ?_
  intro p e s m args below meth c s₁ Bd hml0 hP hK
  obtain ⟨rfl, hZ, hh⟩ := hP
  have hx := Bd.exec
  have hby := Bd.bytes
  have hml : c.maxLocals = 4 := hml0
  have hown : s.vm.findClass "com/example/kvasir/kvasir/tableau/Node" = some m.cls := findClass_of_methodNamed Bd.named
  have hnm := (name_of_methodNamed Bd.named Bd.method).1
  have X0 : Stand p l e ({ frames := 2, cells := 1, slots := 6, locals := 33 } : Room) s m #[(.ref o0), (.int p1), (.int p2)] below meth c s₁ [] 0 0 := Stand.of_body Bd
  have e0 : s₁.heap = h0 := by rw [← hh, Bd.state]; rfl
  have N0 := Fr.nil n0
  have pre0 : ∀ t, Steps p.tables e below (s₁.setTop (mkF m 0 #[.val (.ref o0), .val (.int p1), .val (.int p2), .unset] [])) t → Steps p.tables e below (s₁.setTop (entryFrame m #[(.ref o0), (.int p1), (.int p2)] 4)) t := fun t k => castTop (ef_4 m o0 p1 p2) k
  obtain ⟨T1, X1, e1, st1⟩ := getF X0 hx hZ hown (host := "") (Or.inl (hw _ (List.mem_of_getElem? (i := 41) rfl))) Via.refl e0 F_agendaPlaces_o0 (g := (mkF m 4 #[.val (.ref o0), .val (.int p1), .val (.int p2), .val (.int (0 : Int32))] [(.ref o0), (.int (0 : Int32))])) rfl rfl (hb hby d4_4)
  obtain ⟨cl2, Ar2, qa2, Sz2, Ng2, Hs2, Ft2⟩ := V_ar
  have V2o : Arv Z h0 ar ka .int (2 : Int32) [(.int x0), (.int y0)] (.int (0 : Int32)) := ⟨cl2, Ar2, qa2, Sz2, Ng2, Hs2, Ft2⟩
  obtain ⟨T3, X3, e3, st3⟩ := getF X1 hx hZ hown (host := "") (Or.inl (hw _ (List.mem_of_getElem? (i := 41) rfl))) Via.refl e1 F_agendaPlaces_o0 (g := (mkF m 12 #[.val (.ref o0), .val (.int p1), .val (.int p2), .val (.int (0 : Int32))] [(.ref o0)])) rfl rfl (hb hby d4_12)
  obtain ⟨cl4, Ar4, qa4, Sz4, Ng4, Hs4, Ft4⟩ := V2o
  have hin4 := (inb_of (j := (0 : Int32)) Sz4 ⟨by decide, by decide⟩)
  have hat4 := Hs4.at (v := (.int x0)) hin4 rfl
  have V4o : Arv Z h0 ar ka .int (2 : Int32) [(.int x0), (.int y0)] (.int (0 : Int32)) := ⟨cl4, Ar4, qa4, Sz4, Ng4, Hs4, Ft4⟩
  obtain ⟨T5, X5, e5, st5⟩ := getF X3 hx hZ hown (host := "") (Or.inl (hw _ (List.mem_of_getElem? (i := 41) rfl))) Via.refl e3 F_agendaPlaces_o0 (g := (mkF m 29 #[.val (.ref o0), .val (.int p1), .val (.int p2), .val (.int (0 : Int32))] [(.ref o0), (.int (0 : Int32))])) rfl rfl (hb hby d4_29)
  obtain ⟨cl6, Ar6, qa6, Sz6, Ng6, Hs6, Ft6⟩ := V4o
  have V6o : Arv Z h0 ar ka .int (2 : Int32) [(.int x0), (.int y0)] (.int (0 : Int32)) := ⟨cl6, Ar6, qa6, Sz6, Ng6, Hs6, Ft6⟩
  obtain ⟨T7, X7, e7, st7⟩ := getF X5 hx hZ hown (host := "") (Or.inl (hw _ (List.mem_of_getElem? (i := 41) rfl))) Via.refl e5 F_agendaPlaces_o0 (g := (mkF m 58 #[.val (.ref o0), .val (.int p1), .val (.int p2), .val (.int (0 : Int32))] [(.ref o0)])) rfl rfl (hb hby d4_58)
  obtain ⟨cl8, Ar8, qa8, Sz8, Ng8, Hs8, Ft8⟩ := V6o
  obtain ⟨T8, h8, X8, e8, W8, st8⟩ := stI X7 hx hZ e7 Ar8 (j := (1 : Int32)) (inb_of Sz8 ⟨by decide, by decide⟩) (g := (mkF m 65 #[.val (.ref o0), .val (.int p1), .val (.int p2), .val (.int (0 : Int32))] [(.int p2), (.int (1 : Int32)), (.ref ar)])) rfl rfl (hb hby d4_65)
  have O8 := O0.wr W8 g_ar
  have N8 := Fr.snoc X8 N0 g_ar
  have V8 : Arv Z h8 ar ka .int (2 : Int32) [(.int x0), (.int p2)] (.int (0 : Int32)) := Arv.set Ar8 qa8 Sz8 Ng8 Hs8 Ft8 rfl W8 1 rfl (Nat.le_of_ble_eq_true rfl)
  have hA : own_put [(x0, y0)] p1 p2 = [(x0, p2)] := by simp [own_put, q0]
  obtain ⟨fs, hr, hrun, hended, hW, hsame⟩ := X8.leave (v := none) (fun _ => rfl)
  refine ⟨_, _, pre0 _ ?_, hrun, hended, _, _, rfl, ?_, ⟨_, rfl⟩, hW, hsame.mono (by decide) (by decide)⟩
  · show Steps p.tables e below (s₁.setTop (mkF m 0 #[.val (.ref o0), .val (.int p1), .val (.int p2), .unset] [])) _
    refine XS.iconst X0.here hx rfl (hb hby d4_0) ?_
    show Steps p.tables e below (s₁.setTop (mkF m 1 #[.val (.ref o0), .val (.int p1), .val (.int p2), .unset] [(.int (0 : Int32))])) _
    refine XS.istoreN X0.here hx rfl (hb hby d4_1) rfl (l' := #[.val (.ref o0), .val (.int p1), .val (.int p2), .val (.int (0 : Int32))]) rfl ?_
    show Steps p.tables e below (s₁.setTop (mkF m 2 #[.val (.ref o0), .val (.int p1), .val (.int p2), .val (.int (0 : Int32))] [])) _
    refine XS.iloadN X0.here hx rfl (hb hby d4_2) rfl ?_
    show Steps p.tables e below (s₁.setTop (mkF m 3 #[.val (.ref o0), .val (.int p1), .val (.int p2), .val (.int (0 : Int32))] [(.int (0 : Int32))])) _
    refine XS.aloadN X0.here hx rfl (hb hby d4_3) rfl rfl ?_
    show Steps p.tables e below (s₁.setTop (mkF m 4 #[.val (.ref o0), .val (.int p1), .val (.int p2), .val (.int (0 : Int32))] [(.ref o0), (.int (0 : Int32))])) _
    refine st1 _ ?_
    show Steps p.tables e below (T1.setTop (mkF m 7 #[.val (.ref o0), .val (.int p1), .val (.int p2), .val (.int (0 : Int32))] [(.ref ar), (.int (0 : Int32))])) _
    refine X1.arraylength hx (by rw [e1]; exact Ar2.1) (State.isArrayOf_alike hZ.alike Ar2.2.1) (g := (mkF m 7 #[.val (.ref o0), .val (.int p1), .val (.int p2), .val (.int (0 : Int32))] [(.ref ar), (.int (0 : Int32))])) rfl rfl (hb hby d4_7) _ ?_
    rw [len_of Sz2 Ng2]
    show Steps p.tables e below (T1.setTop (mkF m 8 #[.val (.ref o0), .val (.int p1), .val (.int p2), .val (.int (0 : Int32))] [(.int (2 : Int32)), (.int (0 : Int32))])) _
    refine XS.icmpNo X1.here hx rfl (hb hby d4_8) rfl (tlt (by decide : (0 : Int32) < (2 : Int32))).2.1 ?_
    show Steps p.tables e below (T1.setTop (mkF m 11 #[.val (.ref o0), .val (.int p1), .val (.int p2), .val (.int (0 : Int32))] [])) _
    refine XS.aloadN X1.here hx rfl (hb hby d4_11) rfl rfl ?_
    show Steps p.tables e below (T1.setTop (mkF m 12 #[.val (.ref o0), .val (.int p1), .val (.int p2), .val (.int (0 : Int32))] [(.ref o0)])) _
    refine st3 _ ?_
    show Steps p.tables e below (T3.setTop (mkF m 15 #[.val (.ref o0), .val (.int p1), .val (.int p2), .val (.int (0 : Int32))] [(.ref ar)])) _
    refine XS.iloadN X3.here hx rfl (hb hby d4_15) rfl ?_
    show Steps p.tables e below (T3.setTop (mkF m 16 #[.val (.ref o0), .val (.int p1), .val (.int p2), .val (.int (0 : Int32))] [(.int (0 : Int32)), (.ref ar)])) _
    refine X3.iaload hx (j := (0 : Int32)) (v := (.int x0)) (by rw [e3]; exact Ar4.1) (State.isArrayOf_alike hZ.alike Ar4.2.1) Ar4.2.2 hin4 hat4 (g := (mkF m 16 #[.val (.ref o0), .val (.int p1), .val (.int p2), .val (.int (0 : Int32))] [(.int (0 : Int32)), (.ref ar)])) rfl rfl (hb hby d4_16) _ ?_
    show Steps p.tables e below (T3.setTop (mkF m 17 #[.val (.ref o0), .val (.int p1), .val (.int p2), .val (.int (0 : Int32))] [(.int x0)])) _
    refine XS.iloadN X3.here hx rfl (hb hby d4_17) rfl ?_
    show Steps p.tables e below (T3.setTop (mkF m 18 #[.val (.ref o0), .val (.int p1), .val (.int p2), .val (.int (0 : Int32))] [(.int p1), (.int x0)])) _
    refine XS.icmpYes X3.here hx rfl (pc0 := 18) (pc' := 27) rfl (hb hby d4_18) rfl (teq q0).1 (by decide) (by decide) ?_
    show Steps p.tables e below (T3.setTop (mkF m 27 #[.val (.ref o0), .val (.int p1), .val (.int p2), .val (.int (0 : Int32))] [])) _
    refine XS.iloadN X3.here hx rfl (hb hby d4_27) rfl ?_
    show Steps p.tables e below (T3.setTop (mkF m 28 #[.val (.ref o0), .val (.int p1), .val (.int p2), .val (.int (0 : Int32))] [(.int (0 : Int32))])) _
    refine XS.aloadN X3.here hx rfl (hb hby d4_28) rfl rfl ?_
    show Steps p.tables e below (T3.setTop (mkF m 29 #[.val (.ref o0), .val (.int p1), .val (.int p2), .val (.int (0 : Int32))] [(.ref o0), (.int (0 : Int32))])) _
    refine st5 _ ?_
    show Steps p.tables e below (T5.setTop (mkF m 32 #[.val (.ref o0), .val (.int p1), .val (.int p2), .val (.int (0 : Int32))] [(.ref ar), (.int (0 : Int32))])) _
    refine X5.arraylength hx (by rw [e5]; exact Ar6.1) (State.isArrayOf_alike hZ.alike Ar6.2.1) (g := (mkF m 32 #[.val (.ref o0), .val (.int p1), .val (.int p2), .val (.int (0 : Int32))] [(.ref ar), (.int (0 : Int32))])) rfl rfl (hb hby d4_32) _ ?_
    rw [len_of Sz6 Ng6]
    show Steps p.tables e below (T5.setTop (mkF m 33 #[.val (.ref o0), .val (.int p1), .val (.int p2), .val (.int (0 : Int32))] [(.int (2 : Int32)), (.int (0 : Int32))])) _
    refine XS.icmpYes X5.here hx rfl (pc0 := 33) (pc' := 57) rfl (hb hby d4_33) rfl (feq (by decide : ¬ ((0 : Int32) = (2 : Int32)))).2 (by decide) (by decide) ?_
    show Steps p.tables e below (T5.setTop (mkF m 57 #[.val (.ref o0), .val (.int p1), .val (.int p2), .val (.int (0 : Int32))] [])) _
    refine XS.aloadN X5.here hx rfl (hb hby d4_57) rfl rfl ?_
    show Steps p.tables e below (T5.setTop (mkF m 58 #[.val (.ref o0), .val (.int p1), .val (.int p2), .val (.int (0 : Int32))] [(.ref o0)])) _
    refine st7 _ ?_
    show Steps p.tables e below (T7.setTop (mkF m 61 #[.val (.ref o0), .val (.int p1), .val (.int p2), .val (.int (0 : Int32))] [(.ref ar)])) _
    refine XS.iloadN X7.here hx rfl (hb hby d4_61) rfl ?_
    show Steps p.tables e below (T7.setTop (mkF m 62 #[.val (.ref o0), .val (.int p1), .val (.int p2), .val (.int (0 : Int32))] [(.int (0 : Int32)), (.ref ar)])) _
    refine XS.iconst X7.here hx rfl (hb hby d4_62) ?_
    show Steps p.tables e below (T7.setTop (mkF m 63 #[.val (.ref o0), .val (.int p1), .val (.int p2), .val (.int (0 : Int32))] [(.int (1 : Int32)), (.int (0 : Int32)), (.ref ar)])) _
    refine XS.iadd X7.here hx rfl (hb hby d4_63) rfl ?_
    show Steps p.tables e below (T7.setTop (mkF m 64 #[.val (.ref o0), .val (.int p1), .val (.int p2), .val (.int (0 : Int32))] [(.int (1 : Int32)), (.ref ar)])) _
    refine XS.iloadN X7.here hx rfl (hb hby d4_64) rfl ?_
    show Steps p.tables e below (T7.setTop (mkF m 65 #[.val (.ref o0), .val (.int p1), .val (.int p2), .val (.int (0 : Int32))] [(.int p2), (.int (1 : Int32)), (.ref ar)])) _
    refine st8 _ ?_
    show Steps p.tables e below (T8.setTop (mkF m 66 #[.val (.ref o0), .val (.int p1), .val (.int p2), .val (.int (0 : Int32))] [])) _
    exact X8.returnOut hx Bd.returns (hb hby d4_66) hr
  · show own_QA Z o0 (own_put [(x0, y0)] p1 p2) n0 _ T8.heap _
    rw [e8]
    exact by
      rw [hA]
      exact ⟨rfl, N8, O8, (E_o0.wr W8), g_o0, ar, ka, (F_agendaPlaces_o0.other W8 (Or.inl nq)), V8, g_ar, nq⟩
set_option maxRecDepth 65536 in
set_option maxHeartbeats 40000000 in
theorem rmP1n (l : Launch) (Z : State) (a0 : Array Value) (hw : ∀ d ∈ tables_1, d.before a0 Z = true) (ws : List Jvm.Cond) (o0 : Addr) (p1 : Int32) (p2 : Int32) (x0 : Int32) (y0 : Int32) (ar : Addr) (ka : ClassId) (h0 : Heap) (n0 : Nat) (O0 : Old Z n0 h0) (E_o0 : Exa Z h0 o0 "com/example/kvasir/kvasir/tableau/Node") (F_agendaPlaces_o0 : Fld Z h0 o0 "com/example/kvasir/kvasir/tableau/Node" "agendaPlaces" "[I" (.ref ar)) (V_ar : Arv Z h0 ar ka .int (2 : Int32) [(.int x0), (.int y0)] (.int (0 : Int32))) (g_o0 : n0 ≤ o0) (g_ar : n0 ≤ ar) (nq : o0 ≠ ar) (q0 : ¬ (x0 = p1)) :
    MetFree l (⟨"com/example/kvasir/kvasir/tableau/Node", "placeOnAgenda", "(II)V"⟩ : MethodName) (head1 (Jvm.Cond.code (⟨"com/example/kvasir/kvasir/tableau/Node", "placeOnAgenda", "(II)V"⟩ : MethodName) prog_32_method_54_code 4 none :: ws) ({ frames := 2, cells := 1, slots := 6, locals := 33 } : Room)) (fun a U => a = #[(.ref o0), (.int p1), (.int p2)] ∧ Z.Warmed39 U.vm ∧ U.heap = h0) (fun _ _ _ _ _ => True) (fun _ U o U' => ∃ v L, o = .returned v ∧ own_QA Z o0 (own_put [(x0, y0)] p1 p2) n0 v U'.heap L ∧ FrameEnd U o U' L ({ frames := 2, cells := 1, slots := 6, locals := 33 } : Room).cells ({ frames := 2, cells := 1, slots := 6, locals := 33 } : Room).slots) := by
  refine MetFree.of_bodySF (plainFor_of_name pn_4) hisR ?_
  intro p e s m args below meth c s₁ Bd hml0 hP hK
  obtain ⟨rfl, hZ, hh⟩ := hP
  have hx := Bd.exec
  have hby := Bd.bytes
  have hml : c.maxLocals = 4 := hml0
  have hown : s.vm.findClass "com/example/kvasir/kvasir/tableau/Node" = some m.cls := findClass_of_methodNamed Bd.named
  have hnm := (name_of_methodNamed Bd.named Bd.method).1
  have X0 : Stand p l e ({ frames := 2, cells := 1, slots := 6, locals := 33 } : Room) s m #[(.ref o0), (.int p1), (.int p2)] below meth c s₁ [] 0 0 := Stand.of_body Bd
  have e0 : s₁.heap = h0 := by rw [← hh, Bd.state]; rfl
  have N0 := Fr.nil n0
  have pre0 : ∀ t, Steps p.tables e below (s₁.setTop (mkF m 0 #[.val (.ref o0), .val (.int p1), .val (.int p2), .unset] [])) t → Steps p.tables e below (s₁.setTop (entryFrame m #[(.ref o0), (.int p1), (.int p2)] 4)) t := fun t k => castTop (ef_4 m o0 p1 p2) k
  obtain ⟨T1, X1, e1, st1⟩ := getF X0 hx hZ hown (host := "") (Or.inl (hw _ (List.mem_of_getElem? (i := 41) rfl))) Via.refl e0 F_agendaPlaces_o0 (g := (mkF m 4 #[.val (.ref o0), .val (.int p1), .val (.int p2), .val (.int (0 : Int32))] [(.ref o0), (.int (0 : Int32))])) rfl rfl (hb hby d4_4)
  obtain ⟨cl2, Ar2, qa2, Sz2, Ng2, Hs2, Ft2⟩ := V_ar
  have V2o : Arv Z h0 ar ka .int (2 : Int32) [(.int x0), (.int y0)] (.int (0 : Int32)) := ⟨cl2, Ar2, qa2, Sz2, Ng2, Hs2, Ft2⟩
  obtain ⟨T3, X3, e3, st3⟩ := getF X1 hx hZ hown (host := "") (Or.inl (hw _ (List.mem_of_getElem? (i := 41) rfl))) Via.refl e1 F_agendaPlaces_o0 (g := (mkF m 12 #[.val (.ref o0), .val (.int p1), .val (.int p2), .val (.int (0 : Int32))] [(.ref o0)])) rfl rfl (hb hby d4_12)
  obtain ⟨cl4, Ar4, qa4, Sz4, Ng4, Hs4, Ft4⟩ := V2o
  have hin4 := (inb_of (j := (0 : Int32)) Sz4 ⟨by decide, by decide⟩)
  have hat4 := Hs4.at (v := (.int x0)) hin4 rfl
  have V4o : Arv Z h0 ar ka .int (2 : Int32) [(.int x0), (.int y0)] (.int (0 : Int32)) := ⟨cl4, Ar4, qa4, Sz4, Ng4, Hs4, Ft4⟩
  obtain ⟨T5, X5, e5, st5⟩ := getF X3 hx hZ hown (host := "") (Or.inl (hw _ (List.mem_of_getElem? (i := 41) rfl))) Via.refl e3 F_agendaPlaces_o0 (g := (mkF m 4 #[.val (.ref o0), .val (.int p1), .val (.int p2), .val (.int (2 : Int32))] [(.ref o0), (.int (2 : Int32))])) rfl rfl (hb hby d4_4)
  obtain ⟨cl6, Ar6, qa6, Sz6, Ng6, Hs6, Ft6⟩ := V4o
  have V6o : Arv Z h0 ar ka .int (2 : Int32) [(.int x0), (.int y0)] (.int (0 : Int32)) := ⟨cl6, Ar6, qa6, Sz6, Ng6, Hs6, Ft6⟩
  obtain ⟨T7, X7, e7, st7⟩ := getF X5 hx hZ hown (host := "") (Or.inl (hw _ (List.mem_of_getElem? (i := 41) rfl))) Via.refl e5 F_agendaPlaces_o0 (g := (mkF m 29 #[.val (.ref o0), .val (.int p1), .val (.int p2), .val (.int (2 : Int32))] [(.ref o0), (.int (2 : Int32))])) rfl rfl (hb hby d4_29)
  obtain ⟨cl8, Ar8, qa8, Sz8, Ng8, Hs8, Ft8⟩ := V6o
  have V8o : Arv Z h0 ar ka .int (2 : Int32) [(.int x0), (.int y0)] (.int (0 : Int32)) := ⟨cl8, Ar8, qa8, Sz8, Ng8, Hs8, Ft8⟩
  obtain ⟨T9, X9, e9, st9⟩ := getF X7 hx hZ hown (host := "") (Or.inl (hw _ (List.mem_of_getElem? (i := 41) rfl))) Via.refl e7 F_agendaPlaces_o0 (g := (mkF m 38 #[.val (.ref o0), .val (.int p1), .val (.int p2), .val (.int (2 : Int32))] [(.ref o0), (.ref o0)])) rfl rfl (hb hby d4_38)
  obtain ⟨_, _, ⟨T10, L10, k10, n10⟩, -, X10, ⟨Lc10, hQ10, l10, y10, z10⟩, st10⟩ := Jvm.LawKit.callS X9 hx (y := (⟨"java/util/Arrays", "copyOf", "([II)[I"⟩ : MethodName)) hown (mvT hZ (hw _ (List.mem_of_getElem? (i := 63) rfl))) (mvT hZ (hw _ (List.mem_of_getElem? (i := 64) rfl))) (mvT hZ (hw _ (List.mem_of_getElem? (i := 65) rfl))) (mvT hZ (hw _ (List.mem_of_getElem? (i := 66) rfl))) (by decide) (backOf (W := 1) (rmY2 l Z a0 hw [] ar x0 y0 ka h0 n0 O0 V8o) hZ (hw _ (List.mem_of_getElem? (i := 66) rfl)) (hw _ (List.mem_of_getElem? (i := 65) rfl)) (by decide) (by decide)) (g := (mkF m 44 #[.val (.ref o0), .val (.int p1), .val (.int p2), .val (.int (2 : Int32))] [(.int (4 : Int32)), (.ref ar), (.ref o0)])) rfl (by rw [hml]; rfl) (argsL := [(.ref ar), (.int (4 : Int32))]) (rest := [(.ref o0)]) (lenOf pd_2 rfl) rfl (by show 2 * 0 + _ ≤ _; exact Nat.le_of_eq rfl) (hb hby d4_44) (fun _ _ => ⟨rfl, e9, (by decide : 0 + 1 ≤ _), (by decide : 0 + 4 ≤ _)⟩)
  dsimp only [Pt.U, Pt.locs, Pt.cells, Pt.slots] at X10 l10 y10 z10 st10 hQ10
  subst l10 y10 z10
  obtain ⟨b10, ky10, rfl, N10q, K10, Sb10, Vy10⟩ := hQ10
  have N10 := Fr.app N0 N10q
  have O10 := O0.keep K10 all0
  have g_b10 : n0 ≤ b10 := Nat.le_trans (own_le O0) Sb10
  obtain ⟨T11, h11, X11, e11, W11, st11⟩ := putF X10 hx hZ hown (host := "") (Or.inl (hw _ (List.mem_of_getElem? (i := 41) rfl))) Via.refl rfl (F_agendaPlaces_o0.keep K10 nin0) (E_o0.keep K10) (Or.inl (hw _ (List.mem_of_getElem? (i := 42) rfl))) (hw _ (List.mem_of_getElem? (i := 2) rfl)) (ty := (.array .int)) (by decide) rfl rfl (g := (mkF m 47 #[.val (.ref o0), .val (.int p1), .val (.int p2), .val (.int (2 : Int32))] [(.ref b10), (.ref o0)])) rfl rfl (hb hby d4_47)
  have O11 := O10.wr W11 g_o0
  have Fw11 := (F_agendaPlaces_o0.keep K10 nin0).same W11
  have N11 := Fr.snoc X11 N10 g_o0
  obtain ⟨T12, X12, e12, st12⟩ := getF X11 hx hZ hown (host := "") (Or.inl (hw _ (List.mem_of_getElem? (i := 41) rfl))) Via.refl e11 Fw11 (g := (mkF m 51 #[.val (.ref o0), .val (.int p1), .val (.int p2), .val (.int (2 : Int32))] [(.ref o0)])) rfl rfl (hb hby d4_51)
  have v_b10_2_x := (Vy10.other W11 (Ne.symm (Nat.ne_of_lt (Nat.lt_of_lt_of_le F_agendaPlaces_o0.lt Sb10))))
  obtain ⟨cl13, Ar13, qa13, Sz13, Ng13, Hs13, Ft13⟩ := v_b10_2_x
  obtain ⟨T13, h13, X13, e13, W13, st13⟩ := stI X12 hx hZ e12 Ar13 (j := (2 : Int32)) (inb_of Sz13 ⟨by decide, by decide⟩) (g := (mkF m 56 #[.val (.ref o0), .val (.int p1), .val (.int p2), .val (.int (2 : Int32))] [(.int p1), (.int (2 : Int32)), (.ref b10)])) rfl rfl (hb hby d4_56)
  have O13 := O11.wr W13 g_b10
  have N13 := Fr.snoc X13 N11 g_b10
  have V13 : Arv Z h13 b10 ky10 .int (4 : Int32) [(.int x0), (.int y0), (.int p1), (.int (0 : Int32))] (.int (0 : Int32)) := Arv.set Ar13 qa13 Sz13 Ng13 Hs13 Ft13 rfl W13 2 rfl (Nat.le_of_ble_eq_true rfl)
  have f_o0_3_agendaPlaces := (Fw11.other W13 (Or.inl (Nat.ne_of_lt (Nat.lt_of_lt_of_le F_agendaPlaces_o0.lt Sb10))))
  obtain ⟨T14, X14, e14, st14⟩ := getF X13 hx hZ hown (host := "") (Or.inl (hw _ (List.mem_of_getElem? (i := 41) rfl))) Via.refl e13 f_o0_3_agendaPlaces (g := (mkF m 58 #[.val (.ref o0), .val (.int p1), .val (.int p2), .val (.int (2 : Int32))] [(.ref o0)])) rfl rfl (hb hby d4_58)
  obtain ⟨cl15, Ar15, qa15, Sz15, Ng15, Hs15, Ft15⟩ := V13
  obtain ⟨T15, h15, X15, e15, W15, st15⟩ := stI X14 hx hZ e14 Ar15 (j := (3 : Int32)) (inb_of Sz15 ⟨by decide, by decide⟩) (g := (mkF m 65 #[.val (.ref o0), .val (.int p1), .val (.int p2), .val (.int (2 : Int32))] [(.int p2), (.int (3 : Int32)), (.ref b10)])) rfl rfl (hb hby d4_65)
  have O15 := O13.wr W15 g_b10
  have N15 := Fr.snoc X15 N13 g_b10
  have V15 : Arv Z h15 b10 ky10 .int (4 : Int32) [(.int x0), (.int y0), (.int p1), (.int p2)] (.int (0 : Int32)) := Arv.set Ar15 qa15 Sz15 Ng15 Hs15 Ft15 rfl W15 3 rfl (Nat.le_of_ble_eq_true rfl)
  have f_o0_4_agendaPlaces := (f_o0_3_agendaPlaces.other W15 (Or.inl (Nat.ne_of_lt (Nat.lt_of_lt_of_le F_agendaPlaces_o0.lt Sb10))))
  have hA : own_put [(x0, y0)] p1 p2 = [(x0, y0), (p1, p2)] := by simp [own_put, q0]
  obtain ⟨fs, hr, hrun, hended, hW, hsame⟩ := X15.leave (v := none) (fun _ => rfl)
  refine ⟨_, _, pre0 _ ?_, hrun, hended, _, _, rfl, ?_, ⟨_, rfl⟩, hW, hsame.mono (by decide) (by decide)⟩
  · show Steps p.tables e below (s₁.setTop (mkF m 0 #[.val (.ref o0), .val (.int p1), .val (.int p2), .unset] [])) _
    refine XS.iconst X0.here hx rfl (hb hby d4_0) ?_
    show Steps p.tables e below (s₁.setTop (mkF m 1 #[.val (.ref o0), .val (.int p1), .val (.int p2), .unset] [(.int (0 : Int32))])) _
    refine XS.istoreN X0.here hx rfl (hb hby d4_1) rfl (l' := #[.val (.ref o0), .val (.int p1), .val (.int p2), .val (.int (0 : Int32))]) rfl ?_
    show Steps p.tables e below (s₁.setTop (mkF m 2 #[.val (.ref o0), .val (.int p1), .val (.int p2), .val (.int (0 : Int32))] [])) _
    refine XS.iloadN X0.here hx rfl (hb hby d4_2) rfl ?_
    show Steps p.tables e below (s₁.setTop (mkF m 3 #[.val (.ref o0), .val (.int p1), .val (.int p2), .val (.int (0 : Int32))] [(.int (0 : Int32))])) _
    refine XS.aloadN X0.here hx rfl (hb hby d4_3) rfl rfl ?_
    show Steps p.tables e below (s₁.setTop (mkF m 4 #[.val (.ref o0), .val (.int p1), .val (.int p2), .val (.int (0 : Int32))] [(.ref o0), (.int (0 : Int32))])) _
    refine st1 _ ?_
    show Steps p.tables e below (T1.setTop (mkF m 7 #[.val (.ref o0), .val (.int p1), .val (.int p2), .val (.int (0 : Int32))] [(.ref ar), (.int (0 : Int32))])) _
    refine X1.arraylength hx (by rw [e1]; exact Ar2.1) (State.isArrayOf_alike hZ.alike Ar2.2.1) (g := (mkF m 7 #[.val (.ref o0), .val (.int p1), .val (.int p2), .val (.int (0 : Int32))] [(.ref ar), (.int (0 : Int32))])) rfl rfl (hb hby d4_7) _ ?_
    rw [len_of Sz2 Ng2]
    show Steps p.tables e below (T1.setTop (mkF m 8 #[.val (.ref o0), .val (.int p1), .val (.int p2), .val (.int (0 : Int32))] [(.int (2 : Int32)), (.int (0 : Int32))])) _
    refine XS.icmpNo X1.here hx rfl (hb hby d4_8) rfl (tlt (by decide : (0 : Int32) < (2 : Int32))).2.1 ?_
    show Steps p.tables e below (T1.setTop (mkF m 11 #[.val (.ref o0), .val (.int p1), .val (.int p2), .val (.int (0 : Int32))] [])) _
    refine XS.aloadN X1.here hx rfl (hb hby d4_11) rfl rfl ?_
    show Steps p.tables e below (T1.setTop (mkF m 12 #[.val (.ref o0), .val (.int p1), .val (.int p2), .val (.int (0 : Int32))] [(.ref o0)])) _
    refine st3 _ ?_
    show Steps p.tables e below (T3.setTop (mkF m 15 #[.val (.ref o0), .val (.int p1), .val (.int p2), .val (.int (0 : Int32))] [(.ref ar)])) _
    refine XS.iloadN X3.here hx rfl (hb hby d4_15) rfl ?_
    show Steps p.tables e below (T3.setTop (mkF m 16 #[.val (.ref o0), .val (.int p1), .val (.int p2), .val (.int (0 : Int32))] [(.int (0 : Int32)), (.ref ar)])) _
    refine X3.iaload hx (j := (0 : Int32)) (v := (.int x0)) (by rw [e3]; exact Ar4.1) (State.isArrayOf_alike hZ.alike Ar4.2.1) Ar4.2.2 hin4 hat4 (g := (mkF m 16 #[.val (.ref o0), .val (.int p1), .val (.int p2), .val (.int (0 : Int32))] [(.int (0 : Int32)), (.ref ar)])) rfl rfl (hb hby d4_16) _ ?_
    show Steps p.tables e below (T3.setTop (mkF m 17 #[.val (.ref o0), .val (.int p1), .val (.int p2), .val (.int (0 : Int32))] [(.int x0)])) _
    refine XS.iloadN X3.here hx rfl (hb hby d4_17) rfl ?_
    show Steps p.tables e below (T3.setTop (mkF m 18 #[.val (.ref o0), .val (.int p1), .val (.int p2), .val (.int (0 : Int32))] [(.int p1), (.int x0)])) _
    refine XS.icmpNo X3.here hx rfl (hb hby d4_18) rfl (feq q0).1 ?_
    show Steps p.tables e below (T3.setTop (mkF m 21 #[.val (.ref o0), .val (.int p1), .val (.int p2), .val (.int (0 : Int32))] [])) _
    refine XS.iinc X3.here hx rfl (hb hby d4_21) rfl (l' := #[.val (.ref o0), .val (.int p1), .val (.int p2), .val (.int (2 : Int32))]) rfl ?_
    show Steps p.tables e below (T3.setTop (mkF m 24 #[.val (.ref o0), .val (.int p1), .val (.int p2), .val (.int (2 : Int32))] [])) _
    refine XS.goto X3.here hx rfl (pc0 := 24) (pc' := 2) rfl (hb hby d4_24) (by decide) (by decide) ?_
    show Steps p.tables e below (T3.setTop (mkF m 2 #[.val (.ref o0), .val (.int p1), .val (.int p2), .val (.int (2 : Int32))] [])) _
    refine XS.iloadN X3.here hx rfl (hb hby d4_2) rfl ?_
    show Steps p.tables e below (T3.setTop (mkF m 3 #[.val (.ref o0), .val (.int p1), .val (.int p2), .val (.int (2 : Int32))] [(.int (2 : Int32))])) _
    refine XS.aloadN X3.here hx rfl (hb hby d4_3) rfl rfl ?_
    show Steps p.tables e below (T3.setTop (mkF m 4 #[.val (.ref o0), .val (.int p1), .val (.int p2), .val (.int (2 : Int32))] [(.ref o0), (.int (2 : Int32))])) _
    refine st5 _ ?_
    show Steps p.tables e below (T5.setTop (mkF m 7 #[.val (.ref o0), .val (.int p1), .val (.int p2), .val (.int (2 : Int32))] [(.ref ar), (.int (2 : Int32))])) _
    refine X5.arraylength hx (by rw [e5]; exact Ar6.1) (State.isArrayOf_alike hZ.alike Ar6.2.1) (g := (mkF m 7 #[.val (.ref o0), .val (.int p1), .val (.int p2), .val (.int (2 : Int32))] [(.ref ar), (.int (2 : Int32))])) rfl rfl (hb hby d4_7) _ ?_
    rw [len_of Sz6 Ng6]
    show Steps p.tables e below (T5.setTop (mkF m 8 #[.val (.ref o0), .val (.int p1), .val (.int p2), .val (.int (2 : Int32))] [(.int (2 : Int32)), (.int (2 : Int32))])) _
    refine XS.icmpYes X5.here hx rfl (pc0 := 8) (pc' := 27) rfl (hb hby d4_8) rfl (flt (by decide : ¬ ((2 : Int32) < (2 : Int32)))).2.1 (by decide) (by decide) ?_
    show Steps p.tables e below (T5.setTop (mkF m 27 #[.val (.ref o0), .val (.int p1), .val (.int p2), .val (.int (2 : Int32))] [])) _
    refine XS.iloadN X5.here hx rfl (hb hby d4_27) rfl ?_
    show Steps p.tables e below (T5.setTop (mkF m 28 #[.val (.ref o0), .val (.int p1), .val (.int p2), .val (.int (2 : Int32))] [(.int (2 : Int32))])) _
    refine XS.aloadN X5.here hx rfl (hb hby d4_28) rfl rfl ?_
    show Steps p.tables e below (T5.setTop (mkF m 29 #[.val (.ref o0), .val (.int p1), .val (.int p2), .val (.int (2 : Int32))] [(.ref o0), (.int (2 : Int32))])) _
    refine st7 _ ?_
    show Steps p.tables e below (T7.setTop (mkF m 32 #[.val (.ref o0), .val (.int p1), .val (.int p2), .val (.int (2 : Int32))] [(.ref ar), (.int (2 : Int32))])) _
    refine X7.arraylength hx (by rw [e7]; exact Ar8.1) (State.isArrayOf_alike hZ.alike Ar8.2.1) (g := (mkF m 32 #[.val (.ref o0), .val (.int p1), .val (.int p2), .val (.int (2 : Int32))] [(.ref ar), (.int (2 : Int32))])) rfl rfl (hb hby d4_32) _ ?_
    rw [len_of Sz8 Ng8]
    show Steps p.tables e below (T7.setTop (mkF m 33 #[.val (.ref o0), .val (.int p1), .val (.int p2), .val (.int (2 : Int32))] [(.int (2 : Int32)), (.int (2 : Int32))])) _
    refine XS.icmpNo X7.here hx rfl (hb hby d4_33) rfl (teq (by decide : (2 : Int32) = (2 : Int32))).2 ?_
    show Steps p.tables e below (T7.setTop (mkF m 36 #[.val (.ref o0), .val (.int p1), .val (.int p2), .val (.int (2 : Int32))] [])) _
    refine XS.aloadN X7.here hx rfl (hb hby d4_36) rfl rfl ?_
    show Steps p.tables e below (T7.setTop (mkF m 37 #[.val (.ref o0), .val (.int p1), .val (.int p2), .val (.int (2 : Int32))] [(.ref o0)])) _
    refine XS.aloadN X7.here hx rfl (hb hby d4_37) rfl rfl ?_
    show Steps p.tables e below (T7.setTop (mkF m 38 #[.val (.ref o0), .val (.int p1), .val (.int p2), .val (.int (2 : Int32))] [(.ref o0), (.ref o0)])) _
    refine st9 _ ?_
    show Steps p.tables e below (T9.setTop (mkF m 41 #[.val (.ref o0), .val (.int p1), .val (.int p2), .val (.int (2 : Int32))] [(.ref ar), (.ref o0)])) _
    refine XS.iloadN X9.here hx rfl (hb hby d4_41) rfl ?_
    show Steps p.tables e below (T9.setTop (mkF m 42 #[.val (.ref o0), .val (.int p1), .val (.int p2), .val (.int (2 : Int32))] [(.int (2 : Int32)), (.ref ar), (.ref o0)])) _
    refine XS.iconst X9.here hx rfl (hb hby d4_42) ?_
    show Steps p.tables e below (T9.setTop (mkF m 43 #[.val (.ref o0), .val (.int p1), .val (.int p2), .val (.int (2 : Int32))] [(.int (2 : Int32)), (.int (2 : Int32)), (.ref ar), (.ref o0)])) _
    refine XS.iadd X9.here hx rfl (hb hby d4_43) rfl ?_
    show Steps p.tables e below (T9.setTop (mkF m 44 #[.val (.ref o0), .val (.int p1), .val (.int p2), .val (.int (2 : Int32))] [(.int (4 : Int32)), (.ref ar), (.ref o0)])) _
    refine st10 _ ?_
    show Steps p.tables e below (T10.setTop (mkF m 47 #[.val (.ref o0), .val (.int p1), .val (.int p2), .val (.int (2 : Int32))] [(.ref b10), (.ref o0)])) _
    refine st11 _ ?_
    show Steps p.tables e below (T11.setTop (mkF m 50 #[.val (.ref o0), .val (.int p1), .val (.int p2), .val (.int (2 : Int32))] [])) _
    refine XS.aloadN X11.here hx rfl (hb hby d4_50) rfl rfl ?_
    show Steps p.tables e below (T11.setTop (mkF m 51 #[.val (.ref o0), .val (.int p1), .val (.int p2), .val (.int (2 : Int32))] [(.ref o0)])) _
    refine st12 _ ?_
    show Steps p.tables e below (T12.setTop (mkF m 54 #[.val (.ref o0), .val (.int p1), .val (.int p2), .val (.int (2 : Int32))] [(.ref b10)])) _
    refine XS.iloadN X12.here hx rfl (hb hby d4_54) rfl ?_
    show Steps p.tables e below (T12.setTop (mkF m 55 #[.val (.ref o0), .val (.int p1), .val (.int p2), .val (.int (2 : Int32))] [(.int (2 : Int32)), (.ref b10)])) _
    refine XS.iloadN X12.here hx rfl (hb hby d4_55) rfl ?_
    show Steps p.tables e below (T12.setTop (mkF m 56 #[.val (.ref o0), .val (.int p1), .val (.int p2), .val (.int (2 : Int32))] [(.int p1), (.int (2 : Int32)), (.ref b10)])) _
    refine st13 _ ?_
    show Steps p.tables e below (T13.setTop (mkF m 57 #[.val (.ref o0), .val (.int p1), .val (.int p2), .val (.int (2 : Int32))] [])) _
    refine XS.aloadN X13.here hx rfl (hb hby d4_57) rfl rfl ?_
    show Steps p.tables e below (T13.setTop (mkF m 58 #[.val (.ref o0), .val (.int p1), .val (.int p2), .val (.int (2 : Int32))] [(.ref o0)])) _
    refine st14 _ ?_
    show Steps p.tables e below (T14.setTop (mkF m 61 #[.val (.ref o0), .val (.int p1), .val (.int p2), .val (.int (2 : Int32))] [(.ref b10)])) _
    refine XS.iloadN X14.here hx rfl (hb hby d4_61) rfl ?_
    show Steps p.tables e below (T14.setTop (mkF m 62 #[.val (.ref o0), .val (.int p1), .val (.int p2), .val (.int (2 : Int32))] [(.int (2 : Int32)), (.ref b10)])) _
    refine XS.iconst X14.here hx rfl (hb hby d4_62) ?_
    show Steps p.tables e below (T14.setTop (mkF m 63 #[.val (.ref o0), .val (.int p1), .val (.int p2), .val (.int (2 : Int32))] [(.int (1 : Int32)), (.int (2 : Int32)), (.ref b10)])) _
    refine XS.iadd X14.here hx rfl (hb hby d4_63) rfl ?_
    show Steps p.tables e below (T14.setTop (mkF m 64 #[.val (.ref o0), .val (.int p1), .val (.int p2), .val (.int (2 : Int32))] [(.int (3 : Int32)), (.ref b10)])) _
    refine XS.iloadN X14.here hx rfl (hb hby d4_64) rfl ?_
    show Steps p.tables e below (T14.setTop (mkF m 65 #[.val (.ref o0), .val (.int p1), .val (.int p2), .val (.int (2 : Int32))] [(.int p2), (.int (3 : Int32)), (.ref b10)])) _
    refine st15 _ ?_
    show Steps p.tables e below (T15.setTop (mkF m 66 #[.val (.ref o0), .val (.int p1), .val (.int p2), .val (.int (2 : Int32))] [])) _
    exact X15.returnOut hx Bd.returns (hb hby d4_66) hr
  · show own_QA Z o0 (own_put [(x0, y0)] p1 p2) n0 _ T15.heap _
    rw [e15]
    exact by
      rw [hA]
      exact ⟨rfl, N15, O15, ((((E_o0.keep K10).wr W11).wr W13).wr W15), g_o0, b10, ky10, f_o0_4_agendaPlaces, V15, g_b10, (Nat.ne_of_lt (Nat.lt_of_lt_of_le F_agendaPlaces_o0.lt Sb10))⟩
set_option maxRecDepth 65536 in
set_option maxHeartbeats 40000000 in
theorem rmP20 (l : Launch) (Z : State) (a0 : Array Value) (hw : ∀ d ∈ tables_1, d.before a0 Z = true) (ws : List Jvm.Cond) (o0 : Addr) (p1 : Int32) (p2 : Int32) (x0 : Int32) (y0 : Int32) (x1 : Int32) (y1 : Int32) (ar : Addr) (ka : ClassId) (h0 : Heap) (n0 : Nat) (O0 : Old Z n0 h0) (E_o0 : Exa Z h0 o0 "com/example/kvasir/kvasir/tableau/Node") (F_agendaPlaces_o0 : Fld Z h0 o0 "com/example/kvasir/kvasir/tableau/Node" "agendaPlaces" "[I" (.ref ar)) (V_ar : Arv Z h0 ar ka .int (4 : Int32) [(.int x0), (.int y0), (.int x1), (.int y1)] (.int (0 : Int32))) (g_o0 : n0 ≤ o0) (g_ar : n0 ≤ ar) (nq : o0 ≠ ar) (q0 : x0 = p1) :
    MetFree l (⟨"com/example/kvasir/kvasir/tableau/Node", "placeOnAgenda", "(II)V"⟩ : MethodName) (head1 (Jvm.Cond.code (⟨"com/example/kvasir/kvasir/tableau/Node", "placeOnAgenda", "(II)V"⟩ : MethodName) prog_32_method_54_code 4 none :: ws) ({ frames := 2, cells := 1, slots := 6, locals := 33 } : Room)) (fun a U => a = #[(.ref o0), (.int p1), (.int p2)] ∧ Z.Warmed39 U.vm ∧ U.heap = h0) (fun _ _ _ _ _ => True) (fun _ U o U' => ∃ v L, o = .returned v ∧ own_QA Z o0 (own_put [(x0, y0), (x1, y1)] p1 p2) n0 v U'.heap L ∧ FrameEnd U o U' L ({ frames := 2, cells := 1, slots := 6, locals := 33 } : Room).cells ({ frames := 2, cells := 1, slots := 6, locals := 33 } : Room).slots) := by
  refine MetFree.of_bodySF (plainFor_of_name pn_4) hisR ?_
  intro p e s m args below meth c s₁ Bd hml0 hP hK
  obtain ⟨rfl, hZ, hh⟩ := hP
  have hx := Bd.exec
  have hby := Bd.bytes
  have hml : c.maxLocals = 4 := hml0
  have hown : s.vm.findClass "com/example/kvasir/kvasir/tableau/Node" = some m.cls := findClass_of_methodNamed Bd.named
  have hnm := (name_of_methodNamed Bd.named Bd.method).1
  have X0 : Stand p l e ({ frames := 2, cells := 1, slots := 6, locals := 33 } : Room) s m #[(.ref o0), (.int p1), (.int p2)] below meth c s₁ [] 0 0 := Stand.of_body Bd
  have e0 : s₁.heap = h0 := by rw [← hh, Bd.state]; rfl
  have N0 := Fr.nil n0
  have pre0 : ∀ t, Steps p.tables e below (s₁.setTop (mkF m 0 #[.val (.ref o0), .val (.int p1), .val (.int p2), .unset] [])) t → Steps p.tables e below (s₁.setTop (entryFrame m #[(.ref o0), (.int p1), (.int p2)] 4)) t := fun t k => castTop (ef_4 m o0 p1 p2) k
  obtain ⟨T1, X1, e1, st1⟩ := getF X0 hx hZ hown (host := "") (Or.inl (hw _ (List.mem_of_getElem? (i := 41) rfl))) Via.refl e0 F_agendaPlaces_o0 (g := (mkF m 4 #[.val (.ref o0), .val (.int p1), .val (.int p2), .val (.int (0 : Int32))] [(.ref o0), (.int (0 : Int32))])) rfl rfl (hb hby d4_4)
  obtain ⟨cl2, Ar2, qa2, Sz2, Ng2, Hs2, Ft2⟩ := V_ar
  have V2o : Arv Z h0 ar ka .int (4 : Int32) [(.int x0), (.int y0), (.int x1), (.int y1)] (.int (0 : Int32)) := ⟨cl2, Ar2, qa2, Sz2, Ng2, Hs2, Ft2⟩
  obtain ⟨T3, X3, e3, st3⟩ := getF X1 hx hZ hown (host := "") (Or.inl (hw _ (List.mem_of_getElem? (i := 41) rfl))) Via.refl e1 F_agendaPlaces_o0 (g := (mkF m 12 #[.val (.ref o0), .val (.int p1), .val (.int p2), .val (.int (0 : Int32))] [(.ref o0)])) rfl rfl (hb hby d4_12)
  obtain ⟨cl4, Ar4, qa4, Sz4, Ng4, Hs4, Ft4⟩ := V2o
  have hin4 := (inb_of (j := (0 : Int32)) Sz4 ⟨by decide, by decide⟩)
  have hat4 := Hs4.at (v := (.int x0)) hin4 rfl
  have V4o : Arv Z h0 ar ka .int (4 : Int32) [(.int x0), (.int y0), (.int x1), (.int y1)] (.int (0 : Int32)) := ⟨cl4, Ar4, qa4, Sz4, Ng4, Hs4, Ft4⟩
  obtain ⟨T5, X5, e5, st5⟩ := getF X3 hx hZ hown (host := "") (Or.inl (hw _ (List.mem_of_getElem? (i := 41) rfl))) Via.refl e3 F_agendaPlaces_o0 (g := (mkF m 29 #[.val (.ref o0), .val (.int p1), .val (.int p2), .val (.int (0 : Int32))] [(.ref o0), (.int (0 : Int32))])) rfl rfl (hb hby d4_29)
  obtain ⟨cl6, Ar6, qa6, Sz6, Ng6, Hs6, Ft6⟩ := V4o
  have V6o : Arv Z h0 ar ka .int (4 : Int32) [(.int x0), (.int y0), (.int x1), (.int y1)] (.int (0 : Int32)) := ⟨cl6, Ar6, qa6, Sz6, Ng6, Hs6, Ft6⟩
  obtain ⟨T7, X7, e7, st7⟩ := getF X5 hx hZ hown (host := "") (Or.inl (hw _ (List.mem_of_getElem? (i := 41) rfl))) Via.refl e5 F_agendaPlaces_o0 (g := (mkF m 58 #[.val (.ref o0), .val (.int p1), .val (.int p2), .val (.int (0 : Int32))] [(.ref o0)])) rfl rfl (hb hby d4_58)
  obtain ⟨cl8, Ar8, qa8, Sz8, Ng8, Hs8, Ft8⟩ := V6o
  obtain ⟨T8, h8, X8, e8, W8, st8⟩ := stI X7 hx hZ e7 Ar8 (j := (1 : Int32)) (inb_of Sz8 ⟨by decide, by decide⟩) (g := (mkF m 65 #[.val (.ref o0), .val (.int p1), .val (.int p2), .val (.int (0 : Int32))] [(.int p2), (.int (1 : Int32)), (.ref ar)])) rfl rfl (hb hby d4_65)
  have O8 := O0.wr W8 g_ar
  have N8 := Fr.snoc X8 N0 g_ar
  have V8 : Arv Z h8 ar ka .int (4 : Int32) [(.int x0), (.int p2), (.int x1), (.int y1)] (.int (0 : Int32)) := Arv.set Ar8 qa8 Sz8 Ng8 Hs8 Ft8 rfl W8 1 rfl (Nat.le_of_ble_eq_true rfl)
  have hA : own_put [(x0, y0), (x1, y1)] p1 p2 = [(x0, p2), (x1, y1)] := by simp [own_put, q0]
  obtain ⟨fs, hr, hrun, hended, hW, hsame⟩ := X8.leave (v := none) (fun _ => rfl)
  refine ⟨_, _, pre0 _ ?_, hrun, hended, _, _, rfl, ?_, ⟨_, rfl⟩, hW, hsame.mono (by decide) (by decide)⟩
  · show Steps p.tables e below (s₁.setTop (mkF m 0 #[.val (.ref o0), .val (.int p1), .val (.int p2), .unset] [])) _
    refine XS.iconst X0.here hx rfl (hb hby d4_0) ?_
    show Steps p.tables e below (s₁.setTop (mkF m 1 #[.val (.ref o0), .val (.int p1), .val (.int p2), .unset] [(.int (0 : Int32))])) _
    refine XS.istoreN X0.here hx rfl (hb hby d4_1) rfl (l' := #[.val (.ref o0), .val (.int p1), .val (.int p2), .val (.int (0 : Int32))]) rfl ?_
    show Steps p.tables e below (s₁.setTop (mkF m 2 #[.val (.ref o0), .val (.int p1), .val (.int p2), .val (.int (0 : Int32))] [])) _
    refine XS.iloadN X0.here hx rfl (hb hby d4_2) rfl ?_
    show Steps p.tables e below (s₁.setTop (mkF m 3 #[.val (.ref o0), .val (.int p1), .val (.int p2), .val (.int (0 : Int32))] [(.int (0 : Int32))])) _
    refine XS.aloadN X0.here hx rfl (hb hby d4_3) rfl rfl ?_
    show Steps p.tables e below (s₁.setTop (mkF m 4 #[.val (.ref o0), .val (.int p1), .val (.int p2), .val (.int (0 : Int32))] [(.ref o0), (.int (0 : Int32))])) _
    refine st1 _ ?_
    show Steps p.tables e below (T1.setTop (mkF m 7 #[.val (.ref o0), .val (.int p1), .val (.int p2), .val (.int (0 : Int32))] [(.ref ar), (.int (0 : Int32))])) _
    refine X1.arraylength hx (by rw [e1]; exact Ar2.1) (State.isArrayOf_alike hZ.alike Ar2.2.1) (g := (mkF m 7 #[.val (.ref o0), .val (.int p1), .val (.int p2), .val (.int (0 : Int32))] [(.ref ar), (.int (0 : Int32))])) rfl rfl (hb hby d4_7) _ ?_
    rw [len_of Sz2 Ng2]
    show Steps p.tables e below (T1.setTop (mkF m 8 #[.val (.ref o0), .val (.int p1), .val (.int p2), .val (.int (0 : Int32))] [(.int (4 : Int32)), (.int (0 : Int32))])) _
    refine XS.icmpNo X1.here hx rfl (hb hby d4_8) rfl (tlt (by decide : (0 : Int32) < (4 : Int32))).2.1 ?_
    show Steps p.tables e below (T1.setTop (mkF m 11 #[.val (.ref o0), .val (.int p1), .val (.int p2), .val (.int (0 : Int32))] [])) _
    refine XS.aloadN X1.here hx rfl (hb hby d4_11) rfl rfl ?_
    show Steps p.tables e below (T1.setTop (mkF m 12 #[.val (.ref o0), .val (.int p1), .val (.int p2), .val (.int (0 : Int32))] [(.ref o0)])) _
    refine st3 _ ?_
    show Steps p.tables e below (T3.setTop (mkF m 15 #[.val (.ref o0), .val (.int p1), .val (.int p2), .val (.int (0 : Int32))] [(.ref ar)])) _
    refine XS.iloadN X3.here hx rfl (hb hby d4_15) rfl ?_
    show Steps p.tables e below (T3.setTop (mkF m 16 #[.val (.ref o0), .val (.int p1), .val (.int p2), .val (.int (0 : Int32))] [(.int (0 : Int32)), (.ref ar)])) _
    refine X3.iaload hx (j := (0 : Int32)) (v := (.int x0)) (by rw [e3]; exact Ar4.1) (State.isArrayOf_alike hZ.alike Ar4.2.1) Ar4.2.2 hin4 hat4 (g := (mkF m 16 #[.val (.ref o0), .val (.int p1), .val (.int p2), .val (.int (0 : Int32))] [(.int (0 : Int32)), (.ref ar)])) rfl rfl (hb hby d4_16) _ ?_
    show Steps p.tables e below (T3.setTop (mkF m 17 #[.val (.ref o0), .val (.int p1), .val (.int p2), .val (.int (0 : Int32))] [(.int x0)])) _
    refine XS.iloadN X3.here hx rfl (hb hby d4_17) rfl ?_
    show Steps p.tables e below (T3.setTop (mkF m 18 #[.val (.ref o0), .val (.int p1), .val (.int p2), .val (.int (0 : Int32))] [(.int p1), (.int x0)])) _
    refine XS.icmpYes X3.here hx rfl (pc0 := 18) (pc' := 27) rfl (hb hby d4_18) rfl (teq q0).1 (by decide) (by decide) ?_
    show Steps p.tables e below (T3.setTop (mkF m 27 #[.val (.ref o0), .val (.int p1), .val (.int p2), .val (.int (0 : Int32))] [])) _
    refine XS.iloadN X3.here hx rfl (hb hby d4_27) rfl ?_
    show Steps p.tables e below (T3.setTop (mkF m 28 #[.val (.ref o0), .val (.int p1), .val (.int p2), .val (.int (0 : Int32))] [(.int (0 : Int32))])) _
    refine XS.aloadN X3.here hx rfl (hb hby d4_28) rfl rfl ?_
    show Steps p.tables e below (T3.setTop (mkF m 29 #[.val (.ref o0), .val (.int p1), .val (.int p2), .val (.int (0 : Int32))] [(.ref o0), (.int (0 : Int32))])) _
    refine st5 _ ?_
    show Steps p.tables e below (T5.setTop (mkF m 32 #[.val (.ref o0), .val (.int p1), .val (.int p2), .val (.int (0 : Int32))] [(.ref ar), (.int (0 : Int32))])) _
    refine X5.arraylength hx (by rw [e5]; exact Ar6.1) (State.isArrayOf_alike hZ.alike Ar6.2.1) (g := (mkF m 32 #[.val (.ref o0), .val (.int p1), .val (.int p2), .val (.int (0 : Int32))] [(.ref ar), (.int (0 : Int32))])) rfl rfl (hb hby d4_32) _ ?_
    rw [len_of Sz6 Ng6]
    show Steps p.tables e below (T5.setTop (mkF m 33 #[.val (.ref o0), .val (.int p1), .val (.int p2), .val (.int (0 : Int32))] [(.int (4 : Int32)), (.int (0 : Int32))])) _
    refine XS.icmpYes X5.here hx rfl (pc0 := 33) (pc' := 57) rfl (hb hby d4_33) rfl (feq (by decide : ¬ ((0 : Int32) = (4 : Int32)))).2 (by decide) (by decide) ?_
    show Steps p.tables e below (T5.setTop (mkF m 57 #[.val (.ref o0), .val (.int p1), .val (.int p2), .val (.int (0 : Int32))] [])) _
    refine XS.aloadN X5.here hx rfl (hb hby d4_57) rfl rfl ?_
    show Steps p.tables e below (T5.setTop (mkF m 58 #[.val (.ref o0), .val (.int p1), .val (.int p2), .val (.int (0 : Int32))] [(.ref o0)])) _
    refine st7 _ ?_
    show Steps p.tables e below (T7.setTop (mkF m 61 #[.val (.ref o0), .val (.int p1), .val (.int p2), .val (.int (0 : Int32))] [(.ref ar)])) _
    refine XS.iloadN X7.here hx rfl (hb hby d4_61) rfl ?_
    show Steps p.tables e below (T7.setTop (mkF m 62 #[.val (.ref o0), .val (.int p1), .val (.int p2), .val (.int (0 : Int32))] [(.int (0 : Int32)), (.ref ar)])) _
    refine XS.iconst X7.here hx rfl (hb hby d4_62) ?_
    show Steps p.tables e below (T7.setTop (mkF m 63 #[.val (.ref o0), .val (.int p1), .val (.int p2), .val (.int (0 : Int32))] [(.int (1 : Int32)), (.int (0 : Int32)), (.ref ar)])) _
    refine XS.iadd X7.here hx rfl (hb hby d4_63) rfl ?_
    show Steps p.tables e below (T7.setTop (mkF m 64 #[.val (.ref o0), .val (.int p1), .val (.int p2), .val (.int (0 : Int32))] [(.int (1 : Int32)), (.ref ar)])) _
    refine XS.iloadN X7.here hx rfl (hb hby d4_64) rfl ?_
    show Steps p.tables e below (T7.setTop (mkF m 65 #[.val (.ref o0), .val (.int p1), .val (.int p2), .val (.int (0 : Int32))] [(.int p2), (.int (1 : Int32)), (.ref ar)])) _
    refine st8 _ ?_
    show Steps p.tables e below (T8.setTop (mkF m 66 #[.val (.ref o0), .val (.int p1), .val (.int p2), .val (.int (0 : Int32))] [])) _
    exact X8.returnOut hx Bd.returns (hb hby d4_66) hr
  · show own_QA Z o0 (own_put [(x0, y0), (x1, y1)] p1 p2) n0 _ T8.heap _
    rw [e8]
    exact by
      rw [hA]
      exact ⟨rfl, N8, O8, (E_o0.wr W8), g_o0, ar, ka, (F_agendaPlaces_o0.other W8 (Or.inl nq)), V8, g_ar, nq⟩
set_option maxRecDepth 65536 in
set_option maxHeartbeats 40000000 in
theorem rmP21 (l : Launch) (Z : State) (a0 : Array Value) (hw : ∀ d ∈ tables_1, d.before a0 Z = true) (ws : List Jvm.Cond) (o0 : Addr) (p1 : Int32) (p2 : Int32) (x0 : Int32) (y0 : Int32) (x1 : Int32) (y1 : Int32) (ar : Addr) (ka : ClassId) (h0 : Heap) (n0 : Nat) (O0 : Old Z n0 h0) (E_o0 : Exa Z h0 o0 "com/example/kvasir/kvasir/tableau/Node") (F_agendaPlaces_o0 : Fld Z h0 o0 "com/example/kvasir/kvasir/tableau/Node" "agendaPlaces" "[I" (.ref ar)) (V_ar : Arv Z h0 ar ka .int (4 : Int32) [(.int x0), (.int y0), (.int x1), (.int y1)] (.int (0 : Int32))) (g_o0 : n0 ≤ o0) (g_ar : n0 ≤ ar) (nq : o0 ≠ ar) (q0 : ¬ (x0 = p1)) (q1 : x1 = p1) :
    MetFree l (⟨"com/example/kvasir/kvasir/tableau/Node", "placeOnAgenda", "(II)V"⟩ : MethodName) (head1 (Jvm.Cond.code (⟨"com/example/kvasir/kvasir/tableau/Node", "placeOnAgenda", "(II)V"⟩ : MethodName) prog_32_method_54_code 4 none :: ws) ({ frames := 2, cells := 1, slots := 6, locals := 33 } : Room)) (fun a U => a = #[(.ref o0), (.int p1), (.int p2)] ∧ Z.Warmed39 U.vm ∧ U.heap = h0) (fun _ _ _ _ _ => True) (fun _ U o U' => ∃ v L, o = .returned v ∧ own_QA Z o0 (own_put [(x0, y0), (x1, y1)] p1 p2) n0 v U'.heap L ∧ FrameEnd U o U' L ({ frames := 2, cells := 1, slots := 6, locals := 33 } : Room).cells ({ frames := 2, cells := 1, slots := 6, locals := 33 } : Room).slots) := by
  refine MetFree.of_bodySF (plainFor_of_name pn_4) hisR ?_
  intro p e s m args below meth c s₁ Bd hml0 hP hK
  obtain ⟨rfl, hZ, hh⟩ := hP
  have hx := Bd.exec
  have hby := Bd.bytes
  have hml : c.maxLocals = 4 := hml0
  have hown : s.vm.findClass "com/example/kvasir/kvasir/tableau/Node" = some m.cls := findClass_of_methodNamed Bd.named
  have hnm := (name_of_methodNamed Bd.named Bd.method).1
  have X0 : Stand p l e ({ frames := 2, cells := 1, slots := 6, locals := 33 } : Room) s m #[(.ref o0), (.int p1), (.int p2)] below meth c s₁ [] 0 0 := Stand.of_body Bd
  have e0 : s₁.heap = h0 := by rw [← hh, Bd.state]; rfl
  have N0 := Fr.nil n0
  have pre0 : ∀ t, Steps p.tables e below (s₁.setTop (mkF m 0 #[.val (.ref o0), .val (.int p1), .val (.int p2), .unset] [])) t → Steps p.tables e below (s₁.setTop (entryFrame m #[(.ref o0), (.int p1), (.int p2)] 4)) t := fun t k => castTop (ef_4 m o0 p1 p2) k
  obtain ⟨T1, X1, e1, st1⟩ := getF X0 hx hZ hown (host := "") (Or.inl (hw _ (List.mem_of_getElem? (i := 41) rfl))) Via.refl e0 F_agendaPlaces_o0 (g := (mkF m 4 #[.val (.ref o0), .val (.int p1), .val (.int p2), .val (.int (0 : Int32))] [(.ref o0), (.int (0 : Int32))])) rfl rfl (hb hby d4_4)
  obtain ⟨cl2, Ar2, qa2, Sz2, Ng2, Hs2, Ft2⟩ := V_ar
  have V2o : Arv Z h0 ar ka .int (4 : Int32) [(.int x0), (.int y0), (.int x1), (.int y1)] (.int (0 : Int32)) := ⟨cl2, Ar2, qa2, Sz2, Ng2, Hs2, Ft2⟩
  obtain ⟨T3, X3, e3, st3⟩ := getF X1 hx hZ hown (host := "") (Or.inl (hw _ (List.mem_of_getElem? (i := 41) rfl))) Via.refl e1 F_agendaPlaces_o0 (g := (mkF m 12 #[.val (.ref o0), .val (.int p1), .val (.int p2), .val (.int (0 : Int32))] [(.ref o0)])) rfl rfl (hb hby d4_12)
  obtain ⟨cl4, Ar4, qa4, Sz4, Ng4, Hs4, Ft4⟩ := V2o
  have hin4 := (inb_of (j := (0 : Int32)) Sz4 ⟨by decide, by decide⟩)
  have hat4 := Hs4.at (v := (.int x0)) hin4 rfl
  have V4o : Arv Z h0 ar ka .int (4 : Int32) [(.int x0), (.int y0), (.int x1), (.int y1)] (.int (0 : Int32)) := ⟨cl4, Ar4, qa4, Sz4, Ng4, Hs4, Ft4⟩
  obtain ⟨T5, X5, e5, st5⟩ := getF X3 hx hZ hown (host := "") (Or.inl (hw _ (List.mem_of_getElem? (i := 41) rfl))) Via.refl e3 F_agendaPlaces_o0 (g := (mkF m 4 #[.val (.ref o0), .val (.int p1), .val (.int p2), .val (.int (2 : Int32))] [(.ref o0), (.int (2 : Int32))])) rfl rfl (hb hby d4_4)
  obtain ⟨cl6, Ar6, qa6, Sz6, Ng6, Hs6, Ft6⟩ := V4o
  have V6o : Arv Z h0 ar ka .int (4 : Int32) [(.int x0), (.int y0), (.int x1), (.int y1)] (.int (0 : Int32)) := ⟨cl6, Ar6, qa6, Sz6, Ng6, Hs6, Ft6⟩
  obtain ⟨T7, X7, e7, st7⟩ := getF X5 hx hZ hown (host := "") (Or.inl (hw _ (List.mem_of_getElem? (i := 41) rfl))) Via.refl e5 F_agendaPlaces_o0 (g := (mkF m 12 #[.val (.ref o0), .val (.int p1), .val (.int p2), .val (.int (2 : Int32))] [(.ref o0)])) rfl rfl (hb hby d4_12)
  obtain ⟨cl8, Ar8, qa8, Sz8, Ng8, Hs8, Ft8⟩ := V6o
  have hin8 := (inb_of (j := (2 : Int32)) Sz8 ⟨by decide, by decide⟩)
  have hat8 := Hs8.at (v := (.int x1)) hin8 rfl
  have V8o : Arv Z h0 ar ka .int (4 : Int32) [(.int x0), (.int y0), (.int x1), (.int y1)] (.int (0 : Int32)) := ⟨cl8, Ar8, qa8, Sz8, Ng8, Hs8, Ft8⟩
  obtain ⟨T9, X9, e9, st9⟩ := getF X7 hx hZ hown (host := "") (Or.inl (hw _ (List.mem_of_getElem? (i := 41) rfl))) Via.refl e7 F_agendaPlaces_o0 (g := (mkF m 29 #[.val (.ref o0), .val (.int p1), .val (.int p2), .val (.int (2 : Int32))] [(.ref o0), (.int (2 : Int32))])) rfl rfl (hb hby d4_29)
  obtain ⟨cl10, Ar10, qa10, Sz10, Ng10, Hs10, Ft10⟩ := V8o
  have V10o : Arv Z h0 ar ka .int (4 : Int32) [(.int x0), (.int y0), (.int x1), (.int y1)] (.int (0 : Int32)) := ⟨cl10, Ar10, qa10, Sz10, Ng10, Hs10, Ft10⟩
  obtain ⟨T11, X11, e11, st11⟩ := getF X9 hx hZ hown (host := "") (Or.inl (hw _ (List.mem_of_getElem? (i := 41) rfl))) Via.refl e9 F_agendaPlaces_o0 (g := (mkF m 58 #[.val (.ref o0), .val (.int p1), .val (.int p2), .val (.int (2 : Int32))] [(.ref o0)])) rfl rfl (hb hby d4_58)
  obtain ⟨cl12, Ar12, qa12, Sz12, Ng12, Hs12, Ft12⟩ := V10o
  obtain ⟨T12, h12, X12, e12, W12, st12⟩ := stI X11 hx hZ e11 Ar12 (j := (3 : Int32)) (inb_of Sz12 ⟨by decide, by decide⟩) (g := (mkF m 65 #[.val (.ref o0), .val (.int p1), .val (.int p2), .val (.int (2 : Int32))] [(.int p2), (.int (3 : Int32)), (.ref ar)])) rfl rfl (hb hby d4_65)
  have O12 := O0.wr W12 g_ar
  have N12 := Fr.snoc X12 N0 g_ar
  have V12 : Arv Z h12 ar ka .int (4 : Int32) [(.int x0), (.int y0), (.int x1), (.int p2)] (.int (0 : Int32)) := Arv.set Ar12 qa12 Sz12 Ng12 Hs12 Ft12 rfl W12 3 rfl (Nat.le_of_ble_eq_true rfl)
  have hA : own_put [(x0, y0), (x1, y1)] p1 p2 = [(x0, y0), (x1, p2)] := by simp [own_put, q0, q1]
  obtain ⟨fs, hr, hrun, hended, hW, hsame⟩ := X12.leave (v := none) (fun _ => rfl)
  refine ⟨_, _, pre0 _ ?_, hrun, hended, _, _, rfl, ?_, ⟨_, rfl⟩, hW, hsame.mono (by decide) (by decide)⟩
  · show Steps p.tables e below (s₁.setTop (mkF m 0 #[.val (.ref o0), .val (.int p1), .val (.int p2), .unset] [])) _
    refine XS.iconst X0.here hx rfl (hb hby d4_0) ?_
    show Steps p.tables e below (s₁.setTop (mkF m 1 #[.val (.ref o0), .val (.int p1), .val (.int p2), .unset] [(.int (0 : Int32))])) _
    refine XS.istoreN X0.here hx rfl (hb hby d4_1) rfl (l' := #[.val (.ref o0), .val (.int p1), .val (.int p2), .val (.int (0 : Int32))]) rfl ?_
    show Steps p.tables e below (s₁.setTop (mkF m 2 #[.val (.ref o0), .val (.int p1), .val (.int p2), .val (.int (0 : Int32))] [])) _
    refine XS.iloadN X0.here hx rfl (hb hby d4_2) rfl ?_
    show Steps p.tables e below (s₁.setTop (mkF m 3 #[.val (.ref o0), .val (.int p1), .val (.int p2), .val (.int (0 : Int32))] [(.int (0 : Int32))])) _
    refine XS.aloadN X0.here hx rfl (hb hby d4_3) rfl rfl ?_
    show Steps p.tables e below (s₁.setTop (mkF m 4 #[.val (.ref o0), .val (.int p1), .val (.int p2), .val (.int (0 : Int32))] [(.ref o0), (.int (0 : Int32))])) _
    refine st1 _ ?_
    show Steps p.tables e below (T1.setTop (mkF m 7 #[.val (.ref o0), .val (.int p1), .val (.int p2), .val (.int (0 : Int32))] [(.ref ar), (.int (0 : Int32))])) _
    refine X1.arraylength hx (by rw [e1]; exact Ar2.1) (State.isArrayOf_alike hZ.alike Ar2.2.1) (g := (mkF m 7 #[.val (.ref o0), .val (.int p1), .val (.int p2), .val (.int (0 : Int32))] [(.ref ar), (.int (0 : Int32))])) rfl rfl (hb hby d4_7) _ ?_
    rw [len_of Sz2 Ng2]
    show Steps p.tables e below (T1.setTop (mkF m 8 #[.val (.ref o0), .val (.int p1), .val (.int p2), .val (.int (0 : Int32))] [(.int (4 : Int32)), (.int (0 : Int32))])) _
    refine XS.icmpNo X1.here hx rfl (hb hby d4_8) rfl (tlt (by decide : (0 : Int32) < (4 : Int32))).2.1 ?_
    show Steps p.tables e below (T1.setTop (mkF m 11 #[.val (.ref o0), .val (.int p1), .val (.int p2), .val (.int (0 : Int32))] [])) _
    refine XS.aloadN X1.here hx rfl (hb hby d4_11) rfl rfl ?_
    show Steps p.tables e below (T1.setTop (mkF m 12 #[.val (.ref o0), .val (.int p1), .val (.int p2), .val (.int (0 : Int32))] [(.ref o0)])) _
    refine st3 _ ?_
    show Steps p.tables e below (T3.setTop (mkF m 15 #[.val (.ref o0), .val (.int p1), .val (.int p2), .val (.int (0 : Int32))] [(.ref ar)])) _
    refine XS.iloadN X3.here hx rfl (hb hby d4_15) rfl ?_
    show Steps p.tables e below (T3.setTop (mkF m 16 #[.val (.ref o0), .val (.int p1), .val (.int p2), .val (.int (0 : Int32))] [(.int (0 : Int32)), (.ref ar)])) _
    refine X3.iaload hx (j := (0 : Int32)) (v := (.int x0)) (by rw [e3]; exact Ar4.1) (State.isArrayOf_alike hZ.alike Ar4.2.1) Ar4.2.2 hin4 hat4 (g := (mkF m 16 #[.val (.ref o0), .val (.int p1), .val (.int p2), .val (.int (0 : Int32))] [(.int (0 : Int32)), (.ref ar)])) rfl rfl (hb hby d4_16) _ ?_
    show Steps p.tables e below (T3.setTop (mkF m 17 #[.val (.ref o0), .val (.int p1), .val (.int p2), .val (.int (0 : Int32))] [(.int x0)])) _
    refine XS.iloadN X3.here hx rfl (hb hby d4_17) rfl ?_
    show Steps p.tables e below (T3.setTop (mkF m 18 #[.val (.ref o0), .val (.int p1), .val (.int p2), .val (.int (0 : Int32))] [(.int p1), (.int x0)])) _
    refine XS.icmpNo X3.here hx rfl (hb hby d4_18) rfl (feq q0).1 ?_
    show Steps p.tables e below (T3.setTop (mkF m 21 #[.val (.ref o0), .val (.int p1), .val (.int p2), .val (.int (0 : Int32))] [])) _
    refine XS.iinc X3.here hx rfl (hb hby d4_21) rfl (l' := #[.val (.ref o0), .val (.int p1), .val (.int p2), .val (.int (2 : Int32))]) rfl ?_
    show Steps p.tables e below (T3.setTop (mkF m 24 #[.val (.ref o0), .val (.int p1), .val (.int p2), .val (.int (2 : Int32))] [])) _
    refine XS.goto X3.here hx rfl (pc0 := 24) (pc' := 2) rfl (hb hby d4_24) (by decide) (by decide) ?_
    show Steps p.tables e below (T3.setTop (mkF m 2 #[.val (.ref o0), .val (.int p1), .val (.int p2), .val (.int (2 : Int32))] [])) _
    refine XS.iloadN X3.here hx rfl (hb hby d4_2) rfl ?_
    show Steps p.tables e below (T3.setTop (mkF m 3 #[.val (.ref o0), .val (.int p1), .val (.int p2), .val (.int (2 : Int32))] [(.int (2 : Int32))])) _
    refine XS.aloadN X3.here hx rfl (hb hby d4_3) rfl rfl ?_
    show Steps p.tables e below (T3.setTop (mkF m 4 #[.val (.ref o0), .val (.int p1), .val (.int p2), .val (.int (2 : Int32))] [(.ref o0), (.int (2 : Int32))])) _
    refine st5 _ ?_
    show Steps p.tables e below (T5.setTop (mkF m 7 #[.val (.ref o0), .val (.int p1), .val (.int p2), .val (.int (2 : Int32))] [(.ref ar), (.int (2 : Int32))])) _
    refine X5.arraylength hx (by rw [e5]; exact Ar6.1) (State.isArrayOf_alike hZ.alike Ar6.2.1) (g := (mkF m 7 #[.val (.ref o0), .val (.int p1), .val (.int p2), .val (.int (2 : Int32))] [(.ref ar), (.int (2 : Int32))])) rfl rfl (hb hby d4_7) _ ?_
    rw [len_of Sz6 Ng6]
    show Steps p.tables e below (T5.setTop (mkF m 8 #[.val (.ref o0), .val (.int p1), .val (.int p2), .val (.int (2 : Int32))] [(.int (4 : Int32)), (.int (2 : Int32))])) _
    refine XS.icmpNo X5.here hx rfl (hb hby d4_8) rfl (tlt (by decide : (2 : Int32) < (4 : Int32))).2.1 ?_
    show Steps p.tables e below (T5.setTop (mkF m 11 #[.val (.ref o0), .val (.int p1), .val (.int p2), .val (.int (2 : Int32))] [])) _
    refine XS.aloadN X5.here hx rfl (hb hby d4_11) rfl rfl ?_
    show Steps p.tables e below (T5.setTop (mkF m 12 #[.val (.ref o0), .val (.int p1), .val (.int p2), .val (.int (2 : Int32))] [(.ref o0)])) _
    refine st7 _ ?_
    show Steps p.tables e below (T7.setTop (mkF m 15 #[.val (.ref o0), .val (.int p1), .val (.int p2), .val (.int (2 : Int32))] [(.ref ar)])) _
    refine XS.iloadN X7.here hx rfl (hb hby d4_15) rfl ?_
    show Steps p.tables e below (T7.setTop (mkF m 16 #[.val (.ref o0), .val (.int p1), .val (.int p2), .val (.int (2 : Int32))] [(.int (2 : Int32)), (.ref ar)])) _
    refine X7.iaload hx (j := (2 : Int32)) (v := (.int x1)) (by rw [e7]; exact Ar8.1) (State.isArrayOf_alike hZ.alike Ar8.2.1) Ar8.2.2 hin8 hat8 (g := (mkF m 16 #[.val (.ref o0), .val (.int p1), .val (.int p2), .val (.int (2 : Int32))] [(.int (2 : Int32)), (.ref ar)])) rfl rfl (hb hby d4_16) _ ?_
    show Steps p.tables e below (T7.setTop (mkF m 17 #[.val (.ref o0), .val (.int p1), .val (.int p2), .val (.int (2 : Int32))] [(.int x1)])) _
    refine XS.iloadN X7.here hx rfl (hb hby d4_17) rfl ?_
    show Steps p.tables e below (T7.setTop (mkF m 18 #[.val (.ref o0), .val (.int p1), .val (.int p2), .val (.int (2 : Int32))] [(.int p1), (.int x1)])) _
    refine XS.icmpYes X7.here hx rfl (pc0 := 18) (pc' := 27) rfl (hb hby d4_18) rfl (teq q1).1 (by decide) (by decide) ?_
    show Steps p.tables e below (T7.setTop (mkF m 27 #[.val (.ref o0), .val (.int p1), .val (.int p2), .val (.int (2 : Int32))] [])) _
    refine XS.iloadN X7.here hx rfl (hb hby d4_27) rfl ?_
    show Steps p.tables e below (T7.setTop (mkF m 28 #[.val (.ref o0), .val (.int p1), .val (.int p2), .val (.int (2 : Int32))] [(.int (2 : Int32))])) _
    refine XS.aloadN X7.here hx rfl (hb hby d4_28) rfl rfl ?_
    show Steps p.tables e below (T7.setTop (mkF m 29 #[.val (.ref o0), .val (.int p1), .val (.int p2), .val (.int (2 : Int32))] [(.ref o0), (.int (2 : Int32))])) _
    refine st9 _ ?_
    show Steps p.tables e below (T9.setTop (mkF m 32 #[.val (.ref o0), .val (.int p1), .val (.int p2), .val (.int (2 : Int32))] [(.ref ar), (.int (2 : Int32))])) _
    refine X9.arraylength hx (by rw [e9]; exact Ar10.1) (State.isArrayOf_alike hZ.alike Ar10.2.1) (g := (mkF m 32 #[.val (.ref o0), .val (.int p1), .val (.int p2), .val (.int (2 : Int32))] [(.ref ar), (.int (2 : Int32))])) rfl rfl (hb hby d4_32) _ ?_
    rw [len_of Sz10 Ng10]
    show Steps p.tables e below (T9.setTop (mkF m 33 #[.val (.ref o0), .val (.int p1), .val (.int p2), .val (.int (2 : Int32))] [(.int (4 : Int32)), (.int (2 : Int32))])) _
    refine XS.icmpYes X9.here hx rfl (pc0 := 33) (pc' := 57) rfl (hb hby d4_33) rfl (feq (by decide : ¬ ((2 : Int32) = (4 : Int32)))).2 (by decide) (by decide) ?_
    show Steps p.tables e below (T9.setTop (mkF m 57 #[.val (.ref o0), .val (.int p1), .val (.int p2), .val (.int (2 : Int32))] [])) _
    refine XS.aloadN X9.here hx rfl (hb hby d4_57) rfl rfl ?_
    show Steps p.tables e below (T9.setTop (mkF m 58 #[.val (.ref o0), .val (.int p1), .val (.int p2), .val (.int (2 : Int32))] [(.ref o0)])) _
    refine st11 _ ?_
    show Steps p.tables e below (T11.setTop (mkF m 61 #[.val (.ref o0), .val (.int p1), .val (.int p2), .val (.int (2 : Int32))] [(.ref ar)])) _
    refine XS.iloadN X11.here hx rfl (hb hby d4_61) rfl ?_
    show Steps p.tables e below (T11.setTop (mkF m 62 #[.val (.ref o0), .val (.int p1), .val (.int p2), .val (.int (2 : Int32))] [(.int (2 : Int32)), (.ref ar)])) _
    refine XS.iconst X11.here hx rfl (hb hby d4_62) ?_
    show Steps p.tables e below (T11.setTop (mkF m 63 #[.val (.ref o0), .val (.int p1), .val (.int p2), .val (.int (2 : Int32))] [(.int (1 : Int32)), (.int (2 : Int32)), (.ref ar)])) _
    refine XS.iadd X11.here hx rfl (hb hby d4_63) rfl ?_
    show Steps p.tables e below (T11.setTop (mkF m 64 #[.val (.ref o0), .val (.int p1), .val (.int p2), .val (.int (2 : Int32))] [(.int (3 : Int32)), (.ref ar)])) _
    refine XS.iloadN X11.here hx rfl (hb hby d4_64) rfl ?_
    show Steps p.tables e below (T11.setTop (mkF m 65 #[.val (.ref o0), .val (.int p1), .val (.int p2), .val (.int (2 : Int32))] [(.int p2), (.int (3 : Int32)), (.ref ar)])) _
    refine st12 _ ?_
    show Steps p.tables e below (T12.setTop (mkF m 66 #[.val (.ref o0), .val (.int p1), .val (.int p2), .val (.int (2 : Int32))] [])) _
    exact X12.returnOut hx Bd.returns (hb hby d4_66) hr
  · show own_QA Z o0 (own_put [(x0, y0), (x1, y1)] p1 p2) n0 _ T12.heap _
    rw [e12]
    exact by
      rw [hA]
      exact ⟨rfl, N12, O12, (E_o0.wr W12), g_o0, ar, ka, (F_agendaPlaces_o0.other W12 (Or.inl nq)), V12, g_ar, nq⟩
set_option maxRecDepth 65536 in
set_option maxHeartbeats 40000000 in
theorem rmP2n (l : Launch) (Z : State) (a0 : Array Value) (hw : ∀ d ∈ tables_1, d.before a0 Z = true) (ws : List Jvm.Cond) (o0 : Addr) (p1 : Int32) (p2 : Int32) (x0 : Int32) (y0 : Int32) (x1 : Int32) (y1 : Int32) (ar : Addr) (ka : ClassId) (h0 : Heap) (n0 : Nat) (O0 : Old Z n0 h0) (E_o0 : Exa Z h0 o0 "com/example/kvasir/kvasir/tableau/Node") (F_agendaPlaces_o0 : Fld Z h0 o0 "com/example/kvasir/kvasir/tableau/Node" "agendaPlaces" "[I" (.ref ar)) (V_ar : Arv Z h0 ar ka .int (4 : Int32) [(.int x0), (.int y0), (.int x1), (.int y1)] (.int (0 : Int32))) (g_o0 : n0 ≤ o0) (g_ar : n0 ≤ ar) (nq : o0 ≠ ar) (q0 : ¬ (x0 = p1)) (q1 : ¬ (x1 = p1)) :
    MetFree l (⟨"com/example/kvasir/kvasir/tableau/Node", "placeOnAgenda", "(II)V"⟩ : MethodName) (head1 (Jvm.Cond.code (⟨"com/example/kvasir/kvasir/tableau/Node", "placeOnAgenda", "(II)V"⟩ : MethodName) prog_32_method_54_code 4 none :: ws) ({ frames := 2, cells := 1, slots := 6, locals := 33 } : Room)) (fun a U => a = #[(.ref o0), (.int p1), (.int p2)] ∧ Z.Warmed39 U.vm ∧ U.heap = h0) (fun _ _ _ _ _ => True) (fun _ U o U' => ∃ v L, o = .returned v ∧ own_QA Z o0 (own_put [(x0, y0), (x1, y1)] p1 p2) n0 v U'.heap L ∧ FrameEnd U o U' L ({ frames := 2, cells := 1, slots := 6, locals := 33 } : Room).cells ({ frames := 2, cells := 1, slots := 6, locals := 33 } : Room).slots) := by
  refine MetFree.of_bodySF (plainFor_of_name pn_4) hisR ?_
  intro p e s m args below meth c s₁ Bd hml0 hP hK
  obtain ⟨rfl, hZ, hh⟩ := hP
  have hx := Bd.exec
  have hby := Bd.bytes
  have hml : c.maxLocals = 4 := hml0
  have hown : s.vm.findClass "com/example/kvasir/kvasir/tableau/Node" = some m.cls := findClass_of_methodNamed Bd.named
  have hnm := (name_of_methodNamed Bd.named Bd.method).1
  have X0 : Stand p l e ({ frames := 2, cells := 1, slots := 6, locals := 33 } : Room) s m #[(.ref o0), (.int p1), (.int p2)] below meth c s₁ [] 0 0 := Stand.of_body Bd
  have e0 : s₁.heap = h0 := by rw [← hh, Bd.state]; rfl
  have N0 := Fr.nil n0
  have pre0 : ∀ t, Steps p.tables e below (s₁.setTop (mkF m 0 #[.val (.ref o0), .val (.int p1), .val (.int p2), .unset] [])) t → Steps p.tables e below (s₁.setTop (entryFrame m #[(.ref o0), (.int p1), (.int p2)] 4)) t := fun t k => castTop (ef_4 m o0 p1 p2) k
  obtain ⟨T1, X1, e1, st1⟩ := getF X0 hx hZ hown (host := "") (Or.inl (hw _ (List.mem_of_getElem? (i := 41) rfl))) Via.refl e0 F_agendaPlaces_o0 (g := (mkF m 4 #[.val (.ref o0), .val (.int p1), .val (.int p2), .val (.int (0 : Int32))] [(.ref o0), (.int (0 : Int32))])) rfl rfl (hb hby d4_4)
  obtain ⟨cl2, Ar2, qa2, Sz2, Ng2, Hs2, Ft2⟩ := V_ar
  have V2o : Arv Z h0 ar ka .int (4 : Int32) [(.int x0), (.int y0), (.int x1), (.int y1)] (.int (0 : Int32)) := ⟨cl2, Ar2, qa2, Sz2, Ng2, Hs2, Ft2⟩
  obtain ⟨T3, X3, e3, st3⟩ := getF X1 hx hZ hown (host := "") (Or.inl (hw _ (List.mem_of_getElem? (i := 41) rfl))) Via.refl e1 F_agendaPlaces_o0 (g := (mkF m 12 #[.val (.ref o0), .val (.int p1), .val (.int p2), .val (.int (0 : Int32))] [(.ref o0)])) rfl rfl (hb hby d4_12)
  obtain ⟨cl4, Ar4, qa4, Sz4, Ng4, Hs4, Ft4⟩ := V2o
  have hin4 := (inb_of (j := (0 : Int32)) Sz4 ⟨by decide, by decide⟩)
  have hat4 := Hs4.at (v := (.int x0)) hin4 rfl
  have V4o : Arv Z h0 ar ka .int (4 : Int32) [(.int x0), (.int y0), (.int x1), (.int y1)] (.int (0 : Int32)) := ⟨cl4, Ar4, qa4, Sz4, Ng4, Hs4, Ft4⟩
  obtain ⟨T5, X5, e5, st5⟩ := getF X3 hx hZ hown (host := "") (Or.inl (hw _ (List.mem_of_getElem? (i := 41) rfl))) Via.refl e3 F_agendaPlaces_o0 (g := (mkF m 4 #[.val (.ref o0), .val (.int p1), .val (.int p2), .val (.int (2 : Int32))] [(.ref o0), (.int (2 : Int32))])) rfl rfl (hb hby d4_4)
  obtain ⟨cl6, Ar6, qa6, Sz6, Ng6, Hs6, Ft6⟩ := V4o
  have V6o : Arv Z h0 ar ka .int (4 : Int32) [(.int x0), (.int y0), (.int x1), (.int y1)] (.int (0 : Int32)) := ⟨cl6, Ar6, qa6, Sz6, Ng6, Hs6, Ft6⟩
  obtain ⟨T7, X7, e7, st7⟩ := getF X5 hx hZ hown (host := "") (Or.inl (hw _ (List.mem_of_getElem? (i := 41) rfl))) Via.refl e5 F_agendaPlaces_o0 (g := (mkF m 12 #[.val (.ref o0), .val (.int p1), .val (.int p2), .val (.int (2 : Int32))] [(.ref o0)])) rfl rfl (hb hby d4_12)
  obtain ⟨cl8, Ar8, qa8, Sz8, Ng8, Hs8, Ft8⟩ := V6o
  have hin8 := (inb_of (j := (2 : Int32)) Sz8 ⟨by decide, by decide⟩)
  have hat8 := Hs8.at (v := (.int x1)) hin8 rfl
  have V8o : Arv Z h0 ar ka .int (4 : Int32) [(.int x0), (.int y0), (.int x1), (.int y1)] (.int (0 : Int32)) := ⟨cl8, Ar8, qa8, Sz8, Ng8, Hs8, Ft8⟩
  obtain ⟨T9, X9, e9, st9⟩ := getF X7 hx hZ hown (host := "") (Or.inl (hw _ (List.mem_of_getElem? (i := 41) rfl))) Via.refl e7 F_agendaPlaces_o0 (g := (mkF m 4 #[.val (.ref o0), .val (.int p1), .val (.int p2), .val (.int (4 : Int32))] [(.ref o0), (.int (4 : Int32))])) rfl rfl (hb hby d4_4)
  obtain ⟨cl10, Ar10, qa10, Sz10, Ng10, Hs10, Ft10⟩ := V8o
  have V10o : Arv Z h0 ar ka .int (4 : Int32) [(.int x0), (.int y0), (.int x1), (.int y1)] (.int (0 : Int32)) := ⟨cl10, Ar10, qa10, Sz10, Ng10, Hs10, Ft10⟩
  obtain ⟨T11, X11, e11, st11⟩ := getF X9 hx hZ hown (host := "") (Or.inl (hw _ (List.mem_of_getElem? (i := 41) rfl))) Via.refl e9 F_agendaPlaces_o0 (g := (mkF m 29 #[.val (.ref o0), .val (.int p1), .val (.int p2), .val (.int (4 : Int32))] [(.ref o0), (.int (4 : Int32))])) rfl rfl (hb hby d4_29)
  obtain ⟨cl12, Ar12, qa12, Sz12, Ng12, Hs12, Ft12⟩ := V10o
  have V12o : Arv Z h0 ar ka .int (4 : Int32) [(.int x0), (.int y0), (.int x1), (.int y1)] (.int (0 : Int32)) := ⟨cl12, Ar12, qa12, Sz12, Ng12, Hs12, Ft12⟩
  obtain ⟨T13, X13, e13, st13⟩ := getF X11 hx hZ hown (host := "") (Or.inl (hw _ (List.mem_of_getElem? (i := 41) rfl))) Via.refl e11 F_agendaPlaces_o0 (g := (mkF m 38 #[.val (.ref o0), .val (.int p1), .val (.int p2), .val (.int (4 : Int32))] [(.ref o0), (.ref o0)])) rfl rfl (hb hby d4_38)
  obtain ⟨_, _, ⟨T14, L14, k14, n14⟩, -, X14, ⟨Lc14, hQ14, l14, y14, z14⟩, st14⟩ := Jvm.LawKit.callS X13 hx (y := (⟨"java/util/Arrays", "copyOf", "([II)[I"⟩ : MethodName)) hown (mvT hZ (hw _ (List.mem_of_getElem? (i := 63) rfl))) (mvT hZ (hw _ (List.mem_of_getElem? (i := 64) rfl))) (mvT hZ (hw _ (List.mem_of_getElem? (i := 65) rfl))) (mvT hZ (hw _ (List.mem_of_getElem? (i := 66) rfl))) (by decide) (backOf (W := 1) (rmY4 l Z a0 hw [] ar x0 y0 x1 y1 ka h0 n0 O0 V12o) hZ (hw _ (List.mem_of_getElem? (i := 66) rfl)) (hw _ (List.mem_of_getElem? (i := 65) rfl)) (by decide) (by decide)) (g := (mkF m 44 #[.val (.ref o0), .val (.int p1), .val (.int p2), .val (.int (4 : Int32))] [(.int (6 : Int32)), (.ref ar), (.ref o0)])) rfl (by rw [hml]; rfl) (argsL := [(.ref ar), (.int (6 : Int32))]) (rest := [(.ref o0)]) (lenOf pd_2 rfl) rfl (by show 2 * 0 + _ ≤ _; exact Nat.le_of_eq rfl) (hb hby d4_44) (fun _ _ => ⟨rfl, e13, (by decide : 0 + 1 ≤ _), (by decide : 0 + 6 ≤ _)⟩)
  dsimp only [Pt.U, Pt.locs, Pt.cells, Pt.slots] at X14 l14 y14 z14 st14 hQ14
  subst l14 y14 z14
  obtain ⟨b14, ky14, rfl, N14q, K14, Sb14, Vy14⟩ := hQ14
  have N14 := Fr.app N0 N14q
  have O14 := O0.keep K14 all0
  have g_b14 : n0 ≤ b14 := Nat.le_trans (own_le O0) Sb14
  obtain ⟨T15, h15, X15, e15, W15, st15⟩ := putF X14 hx hZ hown (host := "") (Or.inl (hw _ (List.mem_of_getElem? (i := 41) rfl))) Via.refl rfl (F_agendaPlaces_o0.keep K14 nin0) (E_o0.keep K14) (Or.inl (hw _ (List.mem_of_getElem? (i := 42) rfl))) (hw _ (List.mem_of_getElem? (i := 2) rfl)) (ty := (.array .int)) (by decide) rfl rfl (g := (mkF m 47 #[.val (.ref o0), .val (.int p1), .val (.int p2), .val (.int (4 : Int32))] [(.ref b14), (.ref o0)])) rfl rfl (hb hby d4_47)
  have O15 := O14.wr W15 g_o0
  have Fw15 := (F_agendaPlaces_o0.keep K14 nin0).same W15
  have N15 := Fr.snoc X15 N14 g_o0
  obtain ⟨T16, X16, e16, st16⟩ := getF X15 hx hZ hown (host := "") (Or.inl (hw _ (List.mem_of_getElem? (i := 41) rfl))) Via.refl e15 Fw15 (g := (mkF m 51 #[.val (.ref o0), .val (.int p1), .val (.int p2), .val (.int (4 : Int32))] [(.ref o0)])) rfl rfl (hb hby d4_51)
  have v_b14_2_x := (Vy14.other W15 (Ne.symm (Nat.ne_of_lt (Nat.lt_of_lt_of_le F_agendaPlaces_o0.lt Sb14))))
  obtain ⟨cl17, Ar17, qa17, Sz17, Ng17, Hs17, Ft17⟩ := v_b14_2_x
  obtain ⟨T17, h17, X17, e17, W17, st17⟩ := stI X16 hx hZ e16 Ar17 (j := (4 : Int32)) (inb_of Sz17 ⟨by decide, by decide⟩) (g := (mkF m 56 #[.val (.ref o0), .val (.int p1), .val (.int p2), .val (.int (4 : Int32))] [(.int p1), (.int (4 : Int32)), (.ref b14)])) rfl rfl (hb hby d4_56)
  have O17 := O15.wr W17 g_b14
  have N17 := Fr.snoc X17 N15 g_b14
  have V17 : Arv Z h17 b14 ky14 .int (6 : Int32) [(.int x0), (.int y0), (.int x1), (.int y1), (.int p1), (.int (0 : Int32))] (.int (0 : Int32)) := Arv.set Ar17 qa17 Sz17 Ng17 Hs17 Ft17 rfl W17 4 rfl (Nat.le_of_ble_eq_true rfl)
  have f_o0_3_agendaPlaces := (Fw15.other W17 (Or.inl (Nat.ne_of_lt (Nat.lt_of_lt_of_le F_agendaPlaces_o0.lt Sb14))))
  obtain ⟨T18, X18, e18, st18⟩ := getF X17 hx hZ hown (host := "") (Or.inl (hw _ (List.mem_of_getElem? (i := 41) rfl))) Via.refl e17 f_o0_3_agendaPlaces (g := (mkF m 58 #[.val (.ref o0), .val (.int p1), .val (.int p2), .val (.int (4 : Int32))] [(.ref o0)])) rfl rfl (hb hby d4_58)
  obtain ⟨cl19, Ar19, qa19, Sz19, Ng19, Hs19, Ft19⟩ := V17
  obtain ⟨T19, h19, X19, e19, W19, st19⟩ := stI X18 hx hZ e18 Ar19 (j := (5 : Int32)) (inb_of Sz19 ⟨by decide, by decide⟩) (g := (mkF m 65 #[.val (.ref o0), .val (.int p1), .val (.int p2), .val (.int (4 : Int32))] [(.int p2), (.int (5 : Int32)), (.ref b14)])) rfl rfl (hb hby d4_65)
  have O19 := O17.wr W19 g_b14
  have N19 := Fr.snoc X19 N17 g_b14
  have V19 : Arv Z h19 b14 ky14 .int (6 : Int32) [(.int x0), (.int y0), (.int x1), (.int y1), (.int p1), (.int p2)] (.int (0 : Int32)) := Arv.set Ar19 qa19 Sz19 Ng19 Hs19 Ft19 rfl W19 5 rfl (Nat.le_of_ble_eq_true rfl)
  have f_o0_4_agendaPlaces := (f_o0_3_agendaPlaces.other W19 (Or.inl (Nat.ne_of_lt (Nat.lt_of_lt_of_le F_agendaPlaces_o0.lt Sb14))))
  have hA : own_put [(x0, y0), (x1, y1)] p1 p2 = [(x0, y0), (x1, y1), (p1, p2)] := by simp [own_put, q0, q1]
  obtain ⟨fs, hr, hrun, hended, hW, hsame⟩ := X19.leave (v := none) (fun _ => rfl)
  refine ⟨_, _, pre0 _ ?_, hrun, hended, _, _, rfl, ?_, ⟨_, rfl⟩, hW, hsame.mono (by decide) (by decide)⟩
  · show Steps p.tables e below (s₁.setTop (mkF m 0 #[.val (.ref o0), .val (.int p1), .val (.int p2), .unset] [])) _
    refine XS.iconst X0.here hx rfl (hb hby d4_0) ?_
    show Steps p.tables e below (s₁.setTop (mkF m 1 #[.val (.ref o0), .val (.int p1), .val (.int p2), .unset] [(.int (0 : Int32))])) _
    refine XS.istoreN X0.here hx rfl (hb hby d4_1) rfl (l' := #[.val (.ref o0), .val (.int p1), .val (.int p2), .val (.int (0 : Int32))]) rfl ?_
    show Steps p.tables e below (s₁.setTop (mkF m 2 #[.val (.ref o0), .val (.int p1), .val (.int p2), .val (.int (0 : Int32))] [])) _
    refine XS.iloadN X0.here hx rfl (hb hby d4_2) rfl ?_
    show Steps p.tables e below (s₁.setTop (mkF m 3 #[.val (.ref o0), .val (.int p1), .val (.int p2), .val (.int (0 : Int32))] [(.int (0 : Int32))])) _
    refine XS.aloadN X0.here hx rfl (hb hby d4_3) rfl rfl ?_
    show Steps p.tables e below (s₁.setTop (mkF m 4 #[.val (.ref o0), .val (.int p1), .val (.int p2), .val (.int (0 : Int32))] [(.ref o0), (.int (0 : Int32))])) _
    refine st1 _ ?_
    show Steps p.tables e below (T1.setTop (mkF m 7 #[.val (.ref o0), .val (.int p1), .val (.int p2), .val (.int (0 : Int32))] [(.ref ar), (.int (0 : Int32))])) _
    refine X1.arraylength hx (by rw [e1]; exact Ar2.1) (State.isArrayOf_alike hZ.alike Ar2.2.1) (g := (mkF m 7 #[.val (.ref o0), .val (.int p1), .val (.int p2), .val (.int (0 : Int32))] [(.ref ar), (.int (0 : Int32))])) rfl rfl (hb hby d4_7) _ ?_
    rw [len_of Sz2 Ng2]
    show Steps p.tables e below (T1.setTop (mkF m 8 #[.val (.ref o0), .val (.int p1), .val (.int p2), .val (.int (0 : Int32))] [(.int (4 : Int32)), (.int (0 : Int32))])) _
    refine XS.icmpNo X1.here hx rfl (hb hby d4_8) rfl (tlt (by decide : (0 : Int32) < (4 : Int32))).2.1 ?_
    show Steps p.tables e below (T1.setTop (mkF m 11 #[.val (.ref o0), .val (.int p1), .val (.int p2), .val (.int (0 : Int32))] [])) _
    refine XS.aloadN X1.here hx rfl (hb hby d4_11) rfl rfl ?_
    show Steps p.tables e below (T1.setTop (mkF m 12 #[.val (.ref o0), .val (.int p1), .val (.int p2), .val (.int (0 : Int32))] [(.ref o0)])) _
    refine st3 _ ?_
    show Steps p.tables e below (T3.setTop (mkF m 15 #[.val (.ref o0), .val (.int p1), .val (.int p2), .val (.int (0 : Int32))] [(.ref ar)])) _
    refine XS.iloadN X3.here hx rfl (hb hby d4_15) rfl ?_
    show Steps p.tables e below (T3.setTop (mkF m 16 #[.val (.ref o0), .val (.int p1), .val (.int p2), .val (.int (0 : Int32))] [(.int (0 : Int32)), (.ref ar)])) _
    refine X3.iaload hx (j := (0 : Int32)) (v := (.int x0)) (by rw [e3]; exact Ar4.1) (State.isArrayOf_alike hZ.alike Ar4.2.1) Ar4.2.2 hin4 hat4 (g := (mkF m 16 #[.val (.ref o0), .val (.int p1), .val (.int p2), .val (.int (0 : Int32))] [(.int (0 : Int32)), (.ref ar)])) rfl rfl (hb hby d4_16) _ ?_
    show Steps p.tables e below (T3.setTop (mkF m 17 #[.val (.ref o0), .val (.int p1), .val (.int p2), .val (.int (0 : Int32))] [(.int x0)])) _
    refine XS.iloadN X3.here hx rfl (hb hby d4_17) rfl ?_
    show Steps p.tables e below (T3.setTop (mkF m 18 #[.val (.ref o0), .val (.int p1), .val (.int p2), .val (.int (0 : Int32))] [(.int p1), (.int x0)])) _
    refine XS.icmpNo X3.here hx rfl (hb hby d4_18) rfl (feq q0).1 ?_
    show Steps p.tables e below (T3.setTop (mkF m 21 #[.val (.ref o0), .val (.int p1), .val (.int p2), .val (.int (0 : Int32))] [])) _
    refine XS.iinc X3.here hx rfl (hb hby d4_21) rfl (l' := #[.val (.ref o0), .val (.int p1), .val (.int p2), .val (.int (2 : Int32))]) rfl ?_
    show Steps p.tables e below (T3.setTop (mkF m 24 #[.val (.ref o0), .val (.int p1), .val (.int p2), .val (.int (2 : Int32))] [])) _
    refine XS.goto X3.here hx rfl (pc0 := 24) (pc' := 2) rfl (hb hby d4_24) (by decide) (by decide) ?_
    show Steps p.tables e below (T3.setTop (mkF m 2 #[.val (.ref o0), .val (.int p1), .val (.int p2), .val (.int (2 : Int32))] [])) _
    refine XS.iloadN X3.here hx rfl (hb hby d4_2) rfl ?_
    show Steps p.tables e below (T3.setTop (mkF m 3 #[.val (.ref o0), .val (.int p1), .val (.int p2), .val (.int (2 : Int32))] [(.int (2 : Int32))])) _
    refine XS.aloadN X3.here hx rfl (hb hby d4_3) rfl rfl ?_
    show Steps p.tables e below (T3.setTop (mkF m 4 #[.val (.ref o0), .val (.int p1), .val (.int p2), .val (.int (2 : Int32))] [(.ref o0), (.int (2 : Int32))])) _
    refine st5 _ ?_
    show Steps p.tables e below (T5.setTop (mkF m 7 #[.val (.ref o0), .val (.int p1), .val (.int p2), .val (.int (2 : Int32))] [(.ref ar), (.int (2 : Int32))])) _
    refine X5.arraylength hx (by rw [e5]; exact Ar6.1) (State.isArrayOf_alike hZ.alike Ar6.2.1) (g := (mkF m 7 #[.val (.ref o0), .val (.int p1), .val (.int p2), .val (.int (2 : Int32))] [(.ref ar), (.int (2 : Int32))])) rfl rfl (hb hby d4_7) _ ?_
    rw [len_of Sz6 Ng6]
    show Steps p.tables e below (T5.setTop (mkF m 8 #[.val (.ref o0), .val (.int p1), .val (.int p2), .val (.int (2 : Int32))] [(.int (4 : Int32)), (.int (2 : Int32))])) _
    refine XS.icmpNo X5.here hx rfl (hb hby d4_8) rfl (tlt (by decide : (2 : Int32) < (4 : Int32))).2.1 ?_
    show Steps p.tables e below (T5.setTop (mkF m 11 #[.val (.ref o0), .val (.int p1), .val (.int p2), .val (.int (2 : Int32))] [])) _
    refine XS.aloadN X5.here hx rfl (hb hby d4_11) rfl rfl ?_
    show Steps p.tables e below (T5.setTop (mkF m 12 #[.val (.ref o0), .val (.int p1), .val (.int p2), .val (.int (2 : Int32))] [(.ref o0)])) _
    refine st7 _ ?_
    show Steps p.tables e below (T7.setTop (mkF m 15 #[.val (.ref o0), .val (.int p1), .val (.int p2), .val (.int (2 : Int32))] [(.ref ar)])) _
    refine XS.iloadN X7.here hx rfl (hb hby d4_15) rfl ?_
    show Steps p.tables e below (T7.setTop (mkF m 16 #[.val (.ref o0), .val (.int p1), .val (.int p2), .val (.int (2 : Int32))] [(.int (2 : Int32)), (.ref ar)])) _
    refine X7.iaload hx (j := (2 : Int32)) (v := (.int x1)) (by rw [e7]; exact Ar8.1) (State.isArrayOf_alike hZ.alike Ar8.2.1) Ar8.2.2 hin8 hat8 (g := (mkF m 16 #[.val (.ref o0), .val (.int p1), .val (.int p2), .val (.int (2 : Int32))] [(.int (2 : Int32)), (.ref ar)])) rfl rfl (hb hby d4_16) _ ?_
    show Steps p.tables e below (T7.setTop (mkF m 17 #[.val (.ref o0), .val (.int p1), .val (.int p2), .val (.int (2 : Int32))] [(.int x1)])) _
    refine XS.iloadN X7.here hx rfl (hb hby d4_17) rfl ?_
    show Steps p.tables e below (T7.setTop (mkF m 18 #[.val (.ref o0), .val (.int p1), .val (.int p2), .val (.int (2 : Int32))] [(.int p1), (.int x1)])) _
    refine XS.icmpNo X7.here hx rfl (hb hby d4_18) rfl (feq q1).1 ?_
    show Steps p.tables e below (T7.setTop (mkF m 21 #[.val (.ref o0), .val (.int p1), .val (.int p2), .val (.int (2 : Int32))] [])) _
    refine XS.iinc X7.here hx rfl (hb hby d4_21) rfl (l' := #[.val (.ref o0), .val (.int p1), .val (.int p2), .val (.int (4 : Int32))]) rfl ?_
    show Steps p.tables e below (T7.setTop (mkF m 24 #[.val (.ref o0), .val (.int p1), .val (.int p2), .val (.int (4 : Int32))] [])) _
    refine XS.goto X7.here hx rfl (pc0 := 24) (pc' := 2) rfl (hb hby d4_24) (by decide) (by decide) ?_
    show Steps p.tables e below (T7.setTop (mkF m 2 #[.val (.ref o0), .val (.int p1), .val (.int p2), .val (.int (4 : Int32))] [])) _
    refine XS.iloadN X7.here hx rfl (hb hby d4_2) rfl ?_
    show Steps p.tables e below (T7.setTop (mkF m 3 #[.val (.ref o0), .val (.int p1), .val (.int p2), .val (.int (4 : Int32))] [(.int (4 : Int32))])) _
    refine XS.aloadN X7.here hx rfl (hb hby d4_3) rfl rfl ?_
    show Steps p.tables e below (T7.setTop (mkF m 4 #[.val (.ref o0), .val (.int p1), .val (.int p2), .val (.int (4 : Int32))] [(.ref o0), (.int (4 : Int32))])) _
    refine st9 _ ?_
    show Steps p.tables e below (T9.setTop (mkF m 7 #[.val (.ref o0), .val (.int p1), .val (.int p2), .val (.int (4 : Int32))] [(.ref ar), (.int (4 : Int32))])) _
    refine X9.arraylength hx (by rw [e9]; exact Ar10.1) (State.isArrayOf_alike hZ.alike Ar10.2.1) (g := (mkF m 7 #[.val (.ref o0), .val (.int p1), .val (.int p2), .val (.int (4 : Int32))] [(.ref ar), (.int (4 : Int32))])) rfl rfl (hb hby d4_7) _ ?_
    rw [len_of Sz10 Ng10]
    show Steps p.tables e below (T9.setTop (mkF m 8 #[.val (.ref o0), .val (.int p1), .val (.int p2), .val (.int (4 : Int32))] [(.int (4 : Int32)), (.int (4 : Int32))])) _
    refine XS.icmpYes X9.here hx rfl (pc0 := 8) (pc' := 27) rfl (hb hby d4_8) rfl (flt (by decide : ¬ ((4 : Int32) < (4 : Int32)))).2.1 (by decide) (by decide) ?_
    show Steps p.tables e below (T9.setTop (mkF m 27 #[.val (.ref o0), .val (.int p1), .val (.int p2), .val (.int (4 : Int32))] [])) _
    refine XS.iloadN X9.here hx rfl (hb hby d4_27) rfl ?_
    show Steps p.tables e below (T9.setTop (mkF m 28 #[.val (.ref o0), .val (.int p1), .val (.int p2), .val (.int (4 : Int32))] [(.int (4 : Int32))])) _
    refine XS.aloadN X9.here hx rfl (hb hby d4_28) rfl rfl ?_
    show Steps p.tables e below (T9.setTop (mkF m 29 #[.val (.ref o0), .val (.int p1), .val (.int p2), .val (.int (4 : Int32))] [(.ref o0), (.int (4 : Int32))])) _
    refine st11 _ ?_
    show Steps p.tables e below (T11.setTop (mkF m 32 #[.val (.ref o0), .val (.int p1), .val (.int p2), .val (.int (4 : Int32))] [(.ref ar), (.int (4 : Int32))])) _
    refine X11.arraylength hx (by rw [e11]; exact Ar12.1) (State.isArrayOf_alike hZ.alike Ar12.2.1) (g := (mkF m 32 #[.val (.ref o0), .val (.int p1), .val (.int p2), .val (.int (4 : Int32))] [(.ref ar), (.int (4 : Int32))])) rfl rfl (hb hby d4_32) _ ?_
    rw [len_of Sz12 Ng12]
    show Steps p.tables e below (T11.setTop (mkF m 33 #[.val (.ref o0), .val (.int p1), .val (.int p2), .val (.int (4 : Int32))] [(.int (4 : Int32)), (.int (4 : Int32))])) _
    refine XS.icmpNo X11.here hx rfl (hb hby d4_33) rfl (teq (by decide : (4 : Int32) = (4 : Int32))).2 ?_
    show Steps p.tables e below (T11.setTop (mkF m 36 #[.val (.ref o0), .val (.int p1), .val (.int p2), .val (.int (4 : Int32))] [])) _
    refine XS.aloadN X11.here hx rfl (hb hby d4_36) rfl rfl ?_
    show Steps p.tables e below (T11.setTop (mkF m 37 #[.val (.ref o0), .val (.int p1), .val (.int p2), .val (.int (4 : Int32))] [(.ref o0)])) _
    refine XS.aloadN X11.here hx rfl (hb hby d4_37) rfl rfl ?_
    show Steps p.tables e below (T11.setTop (mkF m 38 #[.val (.ref o0), .val (.int p1), .val (.int p2), .val (.int (4 : Int32))] [(.ref o0), (.ref o0)])) _
    refine st13 _ ?_
    show Steps p.tables e below (T13.setTop (mkF m 41 #[.val (.ref o0), .val (.int p1), .val (.int p2), .val (.int (4 : Int32))] [(.ref ar), (.ref o0)])) _
    refine XS.iloadN X13.here hx rfl (hb hby d4_41) rfl ?_
    show Steps p.tables e below (T13.setTop (mkF m 42 #[.val (.ref o0), .val (.int p1), .val (.int p2), .val (.int (4 : Int32))] [(.int (4 : Int32)), (.ref ar), (.ref o0)])) _
    refine XS.iconst X13.here hx rfl (hb hby d4_42) ?_
    show Steps p.tables e below (T13.setTop (mkF m 43 #[.val (.ref o0), .val (.int p1), .val (.int p2), .val (.int (4 : Int32))] [(.int (2 : Int32)), (.int (4 : Int32)), (.ref ar), (.ref o0)])) _
    refine XS.iadd X13.here hx rfl (hb hby d4_43) rfl ?_
    show Steps p.tables e below (T13.setTop (mkF m 44 #[.val (.ref o0), .val (.int p1), .val (.int p2), .val (.int (4 : Int32))] [(.int (6 : Int32)), (.ref ar), (.ref o0)])) _
    refine st14 _ ?_
    show Steps p.tables e below (T14.setTop (mkF m 47 #[.val (.ref o0), .val (.int p1), .val (.int p2), .val (.int (4 : Int32))] [(.ref b14), (.ref o0)])) _
    refine st15 _ ?_
    show Steps p.tables e below (T15.setTop (mkF m 50 #[.val (.ref o0), .val (.int p1), .val (.int p2), .val (.int (4 : Int32))] [])) _
    refine XS.aloadN X15.here hx rfl (hb hby d4_50) rfl rfl ?_
    show Steps p.tables e below (T15.setTop (mkF m 51 #[.val (.ref o0), .val (.int p1), .val (.int p2), .val (.int (4 : Int32))] [(.ref o0)])) _
    refine st16 _ ?_
    show Steps p.tables e below (T16.setTop (mkF m 54 #[.val (.ref o0), .val (.int p1), .val (.int p2), .val (.int (4 : Int32))] [(.ref b14)])) _
    refine XS.iloadN X16.here hx rfl (hb hby d4_54) rfl ?_
    show Steps p.tables e below (T16.setTop (mkF m 55 #[.val (.ref o0), .val (.int p1), .val (.int p2), .val (.int (4 : Int32))] [(.int (4 : Int32)), (.ref b14)])) _
    refine XS.iloadN X16.here hx rfl (hb hby d4_55) rfl ?_
    show Steps p.tables e below (T16.setTop (mkF m 56 #[.val (.ref o0), .val (.int p1), .val (.int p2), .val (.int (4 : Int32))] [(.int p1), (.int (4 : Int32)), (.ref b14)])) _
    refine st17 _ ?_
    show Steps p.tables e below (T17.setTop (mkF m 57 #[.val (.ref o0), .val (.int p1), .val (.int p2), .val (.int (4 : Int32))] [])) _
    refine XS.aloadN X17.here hx rfl (hb hby d4_57) rfl rfl ?_
    show Steps p.tables e below (T17.setTop (mkF m 58 #[.val (.ref o0), .val (.int p1), .val (.int p2), .val (.int (4 : Int32))] [(.ref o0)])) _
    refine st18 _ ?_
    show Steps p.tables e below (T18.setTop (mkF m 61 #[.val (.ref o0), .val (.int p1), .val (.int p2), .val (.int (4 : Int32))] [(.ref b14)])) _
    refine XS.iloadN X18.here hx rfl (hb hby d4_61) rfl ?_
    show Steps p.tables e below (T18.setTop (mkF m 62 #[.val (.ref o0), .val (.int p1), .val (.int p2), .val (.int (4 : Int32))] [(.int (4 : Int32)), (.ref b14)])) _
    refine XS.iconst X18.here hx rfl (hb hby d4_62) ?_
    show Steps p.tables e below (T18.setTop (mkF m 63 #[.val (.ref o0), .val (.int p1), .val (.int p2), .val (.int (4 : Int32))] [(.int (1 : Int32)), (.int (4 : Int32)), (.ref b14)])) _
    refine XS.iadd X18.here hx rfl (hb hby d4_63) rfl ?_
    show Steps p.tables e below (T18.setTop (mkF m 64 #[.val (.ref o0), .val (.int p1), .val (.int p2), .val (.int (4 : Int32))] [(.int (5 : Int32)), (.ref b14)])) _
    refine XS.iloadN X18.here hx rfl (hb hby d4_64) rfl ?_
    show Steps p.tables e below (T18.setTop (mkF m 65 #[.val (.ref o0), .val (.int p1), .val (.int p2), .val (.int (4 : Int32))] [(.int p2), (.int (5 : Int32)), (.ref b14)])) _
    refine st19 _ ?_
    show Steps p.tables e below (T19.setTop (mkF m 66 #[.val (.ref o0), .val (.int p1), .val (.int p2), .val (.int (4 : Int32))] [])) _
    exact X19.returnOut hx Bd.returns (hb hby d4_66) hr
  · show own_QA Z o0 (own_put [(x0, y0), (x1, y1)] p1 p2) n0 _ T19.heap _
    rw [e19]
    exact by
      rw [hA]
      exact ⟨rfl, N19, O19, ((((E_o0.keep K14).wr W15).wr W17).wr W19), g_o0, b14, ky14, f_o0_4_agendaPlaces, V19, g_b14, (Nat.ne_of_lt (Nat.lt_of_lt_of_le F_agendaPlaces_o0.lt Sb14))⟩
theorem rmP (l : Launch) (Z : State) (a0 : Array Value) (hw : ∀ d ∈ tables_1, d.before a0 Z = true) (ws : List Jvm.Cond) (o0 : Addr) (p1 p2 : Int32) (A : List (Int32 × Int32)) (h0 : Heap) (n0 : Nat) (O0 : Old Z n0 h0) (Ag : own_Ag Z h0 o0 n0 A) (hl : A.length ≤ 2) :
    MetFree l (⟨"com/example/kvasir/kvasir/tableau/Node", "placeOnAgenda", "(II)V"⟩ : MethodName) (head1 (Jvm.Cond.code (⟨"com/example/kvasir/kvasir/tableau/Node", "placeOnAgenda", "(II)V"⟩ : MethodName) prog_32_method_54_code 4 none :: ws) ({ frames := 2, cells := 1, slots := 6, locals := 33 } : Room)) (fun a U => a = #[(.ref o0), (.int p1), (.int p2)] ∧ Z.Warmed39 U.vm ∧ U.heap = h0) (fun _ _ _ _ _ => True) (fun _ U o U' => ∃ v L, o = .returned v ∧ own_QA Z o0 (own_put A p1 p2) n0 v U'.heap L ∧ FrameEnd U o U' L ({ frames := 2, cells := 1, slots := 6, locals := 33 } : Room).cells ({ frames := 2, cells := 1, slots := 6, locals := 33 } : Room).slots) := by
  obtain ⟨E, go, ar, ka, F, V, ga, nq⟩ := Ag
  match A, hl, V with
  | [], _, V => exact rmP0n l Z a0 hw ws o0 p1 p2 ar ka h0 n0 O0 E F V go ga nq
  | [(x0, y0)], _, V =>
    by_cases q0 : x0 = p1
    · exact rmP10 l Z a0 hw ws o0 p1 p2 x0 y0 ar ka h0 n0 O0 E F V go ga nq q0
    · exact rmP1n l Z a0 hw ws o0 p1 p2 x0 y0 ar ka h0 n0 O0 E F V go ga nq q0
  | [(x0, y0), (x1, y1)], _, V =>
    by_cases q0 : x0 = p1
    · exact rmP20 l Z a0 hw ws o0 p1 p2 x0 y0 x1 y1 ar ka h0 n0 O0 E F V go ga nq q0
    · by_cases q1 : x1 = p1
      · exact rmP21 l Z a0 hw ws o0 p1 p2 x0 y0 x1 y1 ar ka h0 n0 O0 E F V go ga nq q0 q1
      · exact rmP2n l Z a0 hw ws o0 p1 p2 x0 y0 x1 y1 ar ka h0 n0 O0 E F V go ga nq q0 q1
  | _ :: _ :: _ :: _, hl, _ => exact absurd hl (by simp)
theorem d7_0 : decode prog_32_method_53_code 0 = .ok (.iconst (-1), 1) := by decide +kernel
theorem d7_1 : decode prog_32_method_53_code 1 = .ok (.istore_n 2, 1) := by decide +kernel
theorem d7_2 : decode prog_32_method_53_code 2 = .ok (.iconst 0, 1) := by decide +kernel
theorem d7_3 : decode prog_32_method_53_code 3 = .ok (.istore_n 3, 1) := by decide +kernel
theorem d7_4 : decode prog_32_method_53_code 4 = .ok (.iload_n 3, 1) := by decide +kernel
theorem d7_5 : decode prog_32_method_53_code 5 = .ok (.aload_n 0, 1) := by decide +kernel
theorem d7_6 : decode prog_32_method_53_code 6 = .ok (.getfield 51, 3) := by decide +kernel
theorem d7_9 : decode prog_32_method_53_code 9 = .ok (.arraylength, 1) := by decide +kernel
theorem d7_10 : decode prog_32_method_53_code 10 = .ok (.if_icmp .ge 36, 3) := by decide +kernel
theorem d7_46 : decode prog_32_method_53_code 46 = .ok (.iload_n 2, 1) := by decide +kernel
theorem d7_47 : decode prog_32_method_53_code 47 = .ok (.ireturn, 1) := by decide +kernel
theorem ef_7 (m : MethodId) (x0 : Addr) (x1 : Int32) : entryFrame m #[(.ref x0), (.int x1)] 4 = mkF m 0 #[.val (.ref x0), .val (.int x1), .unset, .unset] [] := by first | (simp [entryFrame, mkF, argsToLocals, Value.category]; done) | rfl
theorem pn_7 : plainName "com/example/kvasir/kvasir/tableau/Node" = true := by first | (simp [plainName, overriddenIn]; done) | decide +kernel
set_option maxRecDepth 65536 in
set_option maxHeartbeats 40000000 in
theorem rmG0n (l : Launch) (Z : State) (a0 : Array Value) (hw : ∀ d ∈ tables_1, d.before a0 Z = true) (ws : List Jvm.Cond) (o0 : Addr) (p1 : Int32) (ar : Addr) (ka : ClassId) (h0 : Heap) (n0 : Nat) (O0 : Old Z n0 h0) (F_agendaPlaces_o0 : Fld Z h0 o0 "com/example/kvasir/kvasir/tableau/Node" "agendaPlaces" "[I" (.ref ar)) (V_ar : Arv Z h0 ar ka .int (0 : Int32) [] (.int (0 : Int32))) :
    MetFree l (⟨"com/example/kvasir/kvasir/tableau/Node", "agendaPlace", "(I)I"⟩ : MethodName) (head1 (Jvm.Cond.code (⟨"com/example/kvasir/kvasir/tableau/Node", "agendaPlace", "(I)I"⟩ : MethodName) prog_32_method_53_code 4 (some .int) :: ws) ({ frames := 0, cells := 0, slots := 0, locals := 0 } : Room)) (fun a U => a = #[(.ref o0), (.int p1)] ∧ Z.Warmed39 U.vm ∧ U.heap = h0) (fun _ _ _ _ _ => True) (fun _ U o U' => ∃ v L, o = .returned v ∧ own_Q (.int (own_get [] p1)) h0 n0 v U'.heap L ∧ FrameEnd U o U' L ({ frames := 0, cells := 0, slots := 0, locals := 0 } : Room).cells ({ frames := 0, cells := 0, slots := 0, locals := 0 } : Room).slots) := by
  refine MetFree.of_bodySF (plainFor_of_name pn_7) hisR ?_
  intro p e s m args below meth c s₁ Bd hml0 hP hK
  obtain ⟨rfl, hZ, hh⟩ := hP
  have hx := Bd.exec
  have hby := Bd.bytes
  have hml : c.maxLocals = 4 := hml0
  have hown : s.vm.findClass "com/example/kvasir/kvasir/tableau/Node" = some m.cls := findClass_of_methodNamed Bd.named
  have hnm := (name_of_methodNamed Bd.named Bd.method).1
  have X0 : Stand p l e ({ frames := 0, cells := 0, slots := 0, locals := 0 } : Room) s m #[(.ref o0), (.int p1)] below meth c s₁ [] 0 0 := Stand.of_body Bd
  have e0 : s₁.heap = h0 := by rw [← hh, Bd.state]; rfl
  have N0 := Fr.nil n0
  have pre0 : ∀ t, Steps p.tables e below (s₁.setTop (mkF m 0 #[.val (.ref o0), .val (.int p1), .unset, .unset] [])) t → Steps p.tables e below (s₁.setTop (entryFrame m #[(.ref o0), (.int p1)] 4)) t := fun t k => castTop (ef_7 m o0 p1) k
  obtain ⟨T1, X1, e1, st1⟩ := getF X0 hx hZ hown (host := "") (Or.inl (hw _ (List.mem_of_getElem? (i := 41) rfl))) Via.refl e0 F_agendaPlaces_o0 (g := (mkF m 6 #[.val (.ref o0), .val (.int p1), .val (.int (-1 : Int32)), .val (.int (0 : Int32))] [(.ref o0), (.int (0 : Int32))])) rfl rfl (hb hby d7_6)
  obtain ⟨cl2, Ar2, qa2, Sz2, Ng2, Hs2, Ft2⟩ := V_ar
  have V2o : Arv Z h0 ar ka .int (0 : Int32) [] (.int (0 : Int32)) := ⟨cl2, Ar2, qa2, Sz2, Ng2, Hs2, Ft2⟩
  have hG : own_get [] p1 = (-1 : Int32) := by simp [own_get]
  obtain ⟨fs, hr, hrun, hended, hW, hsame⟩ := X1.leave (v := some (.int (-1 : Int32))) (fun h => by rw [Bd.returns] at h; cases h)
  refine ⟨_, _, pre0 _ ?_, hrun, hended, _, _, rfl, ?_, ⟨_, rfl⟩, hW, hsame.mono (by decide) (by decide)⟩
  · show Steps p.tables e below (s₁.setTop (mkF m 0 #[.val (.ref o0), .val (.int p1), .unset, .unset] [])) _
    refine XS.iconst X0.here hx rfl (hb hby d7_0) ?_
    show Steps p.tables e below (s₁.setTop (mkF m 1 #[.val (.ref o0), .val (.int p1), .unset, .unset] [(.int (-1 : Int32))])) _
    refine XS.istoreN X0.here hx rfl (hb hby d7_1) rfl (l' := #[.val (.ref o0), .val (.int p1), .val (.int (-1 : Int32)), .unset]) rfl ?_
    show Steps p.tables e below (s₁.setTop (mkF m 2 #[.val (.ref o0), .val (.int p1), .val (.int (-1 : Int32)), .unset] [])) _
    refine XS.iconst X0.here hx rfl (hb hby d7_2) ?_
    show Steps p.tables e below (s₁.setTop (mkF m 3 #[.val (.ref o0), .val (.int p1), .val (.int (-1 : Int32)), .unset] [(.int (0 : Int32))])) _
    refine XS.istoreN X0.here hx rfl (hb hby d7_3) rfl (l' := #[.val (.ref o0), .val (.int p1), .val (.int (-1 : Int32)), .val (.int (0 : Int32))]) rfl ?_
    show Steps p.tables e below (s₁.setTop (mkF m 4 #[.val (.ref o0), .val (.int p1), .val (.int (-1 : Int32)), .val (.int (0 : Int32))] [])) _
    refine XS.iloadN X0.here hx rfl (hb hby d7_4) rfl ?_
    show Steps p.tables e below (s₁.setTop (mkF m 5 #[.val (.ref o0), .val (.int p1), .val (.int (-1 : Int32)), .val (.int (0 : Int32))] [(.int (0 : Int32))])) _
    refine XS.aloadN X0.here hx rfl (hb hby d7_5) rfl rfl ?_
    show Steps p.tables e below (s₁.setTop (mkF m 6 #[.val (.ref o0), .val (.int p1), .val (.int (-1 : Int32)), .val (.int (0 : Int32))] [(.ref o0), (.int (0 : Int32))])) _
    refine st1 _ ?_
    show Steps p.tables e below (T1.setTop (mkF m 9 #[.val (.ref o0), .val (.int p1), .val (.int (-1 : Int32)), .val (.int (0 : Int32))] [(.ref ar), (.int (0 : Int32))])) _
    refine X1.arraylength hx (by rw [e1]; exact Ar2.1) (State.isArrayOf_alike hZ.alike Ar2.2.1) (g := (mkF m 9 #[.val (.ref o0), .val (.int p1), .val (.int (-1 : Int32)), .val (.int (0 : Int32))] [(.ref ar), (.int (0 : Int32))])) rfl rfl (hb hby d7_9) _ ?_
    rw [len_of Sz2 Ng2]
    show Steps p.tables e below (T1.setTop (mkF m 10 #[.val (.ref o0), .val (.int p1), .val (.int (-1 : Int32)), .val (.int (0 : Int32))] [(.int (0 : Int32)), (.int (0 : Int32))])) _
    refine XS.icmpYes X1.here hx rfl (pc0 := 10) (pc' := 46) rfl (hb hby d7_10) rfl (flt (by decide : ¬ ((0 : Int32) < (0 : Int32)))).2.1 (by decide) (by decide) ?_
    show Steps p.tables e below (T1.setTop (mkF m 46 #[.val (.ref o0), .val (.int p1), .val (.int (-1 : Int32)), .val (.int (0 : Int32))] [])) _
    refine XS.iloadN X1.here hx rfl (hb hby d7_46) rfl ?_
    show Steps p.tables e below (T1.setTop (mkF m 47 #[.val (.ref o0), .val (.int p1), .val (.int (-1 : Int32)), .val (.int (0 : Int32))] [(.int (-1 : Int32))])) _
    exact retI X1 hx Bd.returns (hb hby d7_47) hr
  · show own_Q (.int (own_get [] p1)) h0 n0 _ T1.heap _
    rw [e1]
    exact by
      rw [hG]
      exact ⟨rfl, N0, rfl⟩
theorem d7_13 : decode prog_32_method_53_code 13 = .ok (.iload_n 2, 1) := by decide +kernel
theorem d7_14 : decode prog_32_method_53_code 14 = .ok (.ifCond .ge 32, 3) := by decide +kernel
theorem d7_17 : decode prog_32_method_53_code 17 = .ok (.aload_n 0, 1) := by decide +kernel
theorem d7_18 : decode prog_32_method_53_code 18 = .ok (.getfield 51, 3) := by decide +kernel
theorem d7_21 : decode prog_32_method_53_code 21 = .ok (.iload_n 3, 1) := by decide +kernel
theorem d7_22 : decode prog_32_method_53_code 22 = .ok (.iaload, 1) := by decide +kernel
theorem d7_23 : decode prog_32_method_53_code 23 = .ok (.iload_n 1, 1) := by decide +kernel
theorem d7_24 : decode prog_32_method_53_code 24 = .ok (.if_icmp .ne 14, 3) := by decide +kernel
theorem d7_27 : decode prog_32_method_53_code 27 = .ok (.aload_n 0, 1) := by decide +kernel
theorem d7_28 : decode prog_32_method_53_code 28 = .ok (.getfield 51, 3) := by decide +kernel
theorem d7_31 : decode prog_32_method_53_code 31 = .ok (.iload_n 3, 1) := by decide +kernel
theorem d7_32 : decode prog_32_method_53_code 32 = .ok (.iconst 1, 1) := by decide +kernel
theorem d7_33 : decode prog_32_method_53_code 33 = .ok (.iadd, 1) := by decide +kernel
theorem d7_34 : decode prog_32_method_53_code 34 = .ok (.iaload, 1) := by decide +kernel
theorem d7_35 : decode prog_32_method_53_code 35 = .ok (.goto 4, 3) := by decide +kernel
theorem d7_39 : decode prog_32_method_53_code 39 = .ok (.istore_n 2, 1) := by decide +kernel
theorem d7_40 : decode prog_32_method_53_code 40 = .ok (.iinc 3 2, 3) := by decide +kernel
theorem d7_43 : decode prog_32_method_53_code 43 = .ok (.goto (-39), 3) := by decide +kernel
set_option maxRecDepth 65536 in
set_option maxHeartbeats 40000000 in
theorem rmG10 (l : Launch) (Z : State) (a0 : Array Value) (hw : ∀ d ∈ tables_1, d.before a0 Z = true) (ws : List Jvm.Cond) (o0 : Addr) (p1 : Int32) (x0 : Int32) (y0 : Int32) (ar : Addr) (ka : ClassId) (h0 : Heap) (n0 : Nat) (O0 : Old Z n0 h0) (F_agendaPlaces_o0 : Fld Z h0 o0 "com/example/kvasir/kvasir/tableau/Node" "agendaPlaces" "[I" (.ref ar)) (V_ar : Arv Z h0 ar ka .int (2 : Int32) [(.int x0), (.int y0)] (.int (0 : Int32))) (q0 : x0 = p1) (hy : ¬ y0 < (0 : Int32)) :
    MetFree l (⟨"com/example/kvasir/kvasir/tableau/Node", "agendaPlace", "(I)I"⟩ : MethodName) (head1 (Jvm.Cond.code (⟨"com/example/kvasir/kvasir/tableau/Node", "agendaPlace", "(I)I"⟩ : MethodName) prog_32_method_53_code 4 (some .int) :: ws) ({ frames := 0, cells := 0, slots := 0, locals := 0 } : Room)) (fun a U => a = #[(.ref o0), (.int p1)] ∧ Z.Warmed39 U.vm ∧ U.heap = h0) (fun _ _ _ _ _ => True) (fun _ U o U' => ∃ v L, o = .returned v ∧ own_Q (.int (own_get [(x0, y0)] p1)) h0 n0 v U'.heap L ∧ FrameEnd U o U' L ({ frames := 0, cells := 0, slots := 0, locals := 0 } : Room).cells ({ frames := 0, cells := 0, slots := 0, locals := 0 } : Room).slots) := by
  refine MetFree.of_bodySF (plainFor_of_name pn_7) hisR ?_
  intro p e s m args below meth c s₁ Bd hml0 hP hK
  obtain ⟨rfl, hZ, hh⟩ := hP
  have hx := Bd.exec
  have hby := Bd.bytes
  have hml : c.maxLocals = 4 := hml0
  have hown : s.vm.findClass "com/example/kvasir/kvasir/tableau/Node" = some m.cls := findClass_of_methodNamed Bd.named
  have hnm := (name_of_methodNamed Bd.named Bd.method).1
  have X0 : Stand p l e ({ frames := 0, cells := 0, slots := 0, locals := 0 } : Room) s m #[(.ref o0), (.int p1)] below meth c s₁ [] 0 0 := Stand.of_body Bd
  have e0 : s₁.heap = h0 := by rw [← hh, Bd.state]; rfl
  have N0 := Fr.nil n0
  have pre0 : ∀ t, Steps p.tables e below (s₁.setTop (mkF m 0 #[.val (.ref o0), .val (.int p1), .unset, .unset] [])) t → Steps p.tables e below (s₁.setTop (entryFrame m #[(.ref o0), (.int p1)] 4)) t := fun t k => castTop (ef_7 m o0 p1) k
  obtain ⟨T1, X1, e1, st1⟩ := getF X0 hx hZ hown (host := "") (Or.inl (hw _ (List.mem_of_getElem? (i := 41) rfl))) Via.refl e0 F_agendaPlaces_o0 (g := (mkF m 6 #[.val (.ref o0), .val (.int p1), .val (.int (-1 : Int32)), .val (.int (0 : Int32))] [(.ref o0), (.int (0 : Int32))])) rfl rfl (hb hby d7_6)
  obtain ⟨cl2, Ar2, qa2, Sz2, Ng2, Hs2, Ft2⟩ := V_ar
  have V2o : Arv Z h0 ar ka .int (2 : Int32) [(.int x0), (.int y0)] (.int (0 : Int32)) := ⟨cl2, Ar2, qa2, Sz2, Ng2, Hs2, Ft2⟩
  obtain ⟨T3, X3, e3, st3⟩ := getF X1 hx hZ hown (host := "") (Or.inl (hw _ (List.mem_of_getElem? (i := 41) rfl))) Via.refl e1 F_agendaPlaces_o0 (g := (mkF m 18 #[.val (.ref o0), .val (.int p1), .val (.int (-1 : Int32)), .val (.int (0 : Int32))] [(.ref o0)])) rfl rfl (hb hby d7_18)
  obtain ⟨cl4, Ar4, qa4, Sz4, Ng4, Hs4, Ft4⟩ := V2o
  have hin4 := (inb_of (j := (0 : Int32)) Sz4 ⟨by decide, by decide⟩)
  have hat4 := Hs4.at (v := (.int x0)) hin4 rfl
  have V4o : Arv Z h0 ar ka .int (2 : Int32) [(.int x0), (.int y0)] (.int (0 : Int32)) := ⟨cl4, Ar4, qa4, Sz4, Ng4, Hs4, Ft4⟩
  obtain ⟨T5, X5, e5, st5⟩ := getF X3 hx hZ hown (host := "") (Or.inl (hw _ (List.mem_of_getElem? (i := 41) rfl))) Via.refl e3 F_agendaPlaces_o0 (g := (mkF m 28 #[.val (.ref o0), .val (.int p1), .val (.int (-1 : Int32)), .val (.int (0 : Int32))] [(.ref o0)])) rfl rfl (hb hby d7_28)
  obtain ⟨cl6, Ar6, qa6, Sz6, Ng6, Hs6, Ft6⟩ := V4o
  have hin6 := (inb_of (j := (1 : Int32)) Sz6 ⟨by decide, by decide⟩)
  have hat6 := Hs6.at (v := (.int y0)) hin6 rfl
  have V6o : Arv Z h0 ar ka .int (2 : Int32) [(.int x0), (.int y0)] (.int (0 : Int32)) := ⟨cl6, Ar6, qa6, Sz6, Ng6, Hs6, Ft6⟩
  obtain ⟨T7, X7, e7, st7⟩ := getF X5 hx hZ hown (host := "") (Or.inl (hw _ (List.mem_of_getElem? (i := 41) rfl))) Via.refl e5 F_agendaPlaces_o0 (g := (mkF m 6 #[.val (.ref o0), .val (.int p1), .val (.int y0), .val (.int (2 : Int32))] [(.ref o0), (.int (2 : Int32))])) rfl rfl (hb hby d7_6)
  obtain ⟨cl8, Ar8, qa8, Sz8, Ng8, Hs8, Ft8⟩ := V6o
  have V8o : Arv Z h0 ar ka .int (2 : Int32) [(.int x0), (.int y0)] (.int (0 : Int32)) := ⟨cl8, Ar8, qa8, Sz8, Ng8, Hs8, Ft8⟩
  have hG : own_get [(x0, y0)] p1 = y0 := by simp [own_get, q0]
  obtain ⟨fs, hr, hrun, hended, hW, hsame⟩ := X7.leave (v := some (.int y0)) (fun h => by rw [Bd.returns] at h; cases h)
  refine ⟨_, _, pre0 _ ?_, hrun, hended, _, _, rfl, ?_, ⟨_, rfl⟩, hW, hsame.mono (by decide) (by decide)⟩
  · show Steps p.tables e below (s₁.setTop (mkF m 0 #[.val (.ref o0), .val (.int p1), .unset, .unset] [])) _
    refine XS.iconst X0.here hx rfl (hb hby d7_0) ?_
    show Steps p.tables e below (s₁.setTop (mkF m 1 #[.val (.ref o0), .val (.int p1), .unset, .unset] [(.int (-1 : Int32))])) _
    refine XS.istoreN X0.here hx rfl (hb hby d7_1) rfl (l' := #[.val (.ref o0), .val (.int p1), .val (.int (-1 : Int32)), .unset]) rfl ?_
    show Steps p.tables e below (s₁.setTop (mkF m 2 #[.val (.ref o0), .val (.int p1), .val (.int (-1 : Int32)), .unset] [])) _
    refine XS.iconst X0.here hx rfl (hb hby d7_2) ?_
    show Steps p.tables e below (s₁.setTop (mkF m 3 #[.val (.ref o0), .val (.int p1), .val (.int (-1 : Int32)), .unset] [(.int (0 : Int32))])) _
    refine XS.istoreN X0.here hx rfl (hb hby d7_3) rfl (l' := #[.val (.ref o0), .val (.int p1), .val (.int (-1 : Int32)), .val (.int (0 : Int32))]) rfl ?_
    show Steps p.tables e below (s₁.setTop (mkF m 4 #[.val (.ref o0), .val (.int p1), .val (.int (-1 : Int32)), .val (.int (0 : Int32))] [])) _
    refine XS.iloadN X0.here hx rfl (hb hby d7_4) rfl ?_
    show Steps p.tables e below (s₁.setTop (mkF m 5 #[.val (.ref o0), .val (.int p1), .val (.int (-1 : Int32)), .val (.int (0 : Int32))] [(.int (0 : Int32))])) _
    refine XS.aloadN X0.here hx rfl (hb hby d7_5) rfl rfl ?_
    show Steps p.tables e below (s₁.setTop (mkF m 6 #[.val (.ref o0), .val (.int p1), .val (.int (-1 : Int32)), .val (.int (0 : Int32))] [(.ref o0), (.int (0 : Int32))])) _
    refine st1 _ ?_
    show Steps p.tables e below (T1.setTop (mkF m 9 #[.val (.ref o0), .val (.int p1), .val (.int (-1 : Int32)), .val (.int (0 : Int32))] [(.ref ar), (.int (0 : Int32))])) _
    refine X1.arraylength hx (by rw [e1]; exact Ar2.1) (State.isArrayOf_alike hZ.alike Ar2.2.1) (g := (mkF m 9 #[.val (.ref o0), .val (.int p1), .val (.int (-1 : Int32)), .val (.int (0 : Int32))] [(.ref ar), (.int (0 : Int32))])) rfl rfl (hb hby d7_9) _ ?_
    rw [len_of Sz2 Ng2]
    show Steps p.tables e below (T1.setTop (mkF m 10 #[.val (.ref o0), .val (.int p1), .val (.int (-1 : Int32)), .val (.int (0 : Int32))] [(.int (2 : Int32)), (.int (0 : Int32))])) _
    refine XS.icmpNo X1.here hx rfl (hb hby d7_10) rfl (tlt (by decide : (0 : Int32) < (2 : Int32))).2.1 ?_
    show Steps p.tables e below (T1.setTop (mkF m 13 #[.val (.ref o0), .val (.int p1), .val (.int (-1 : Int32)), .val (.int (0 : Int32))] [])) _
    refine XS.iloadN X1.here hx rfl (hb hby d7_13) rfl ?_
    show Steps p.tables e below (T1.setTop (mkF m 14 #[.val (.ref o0), .val (.int p1), .val (.int (-1 : Int32)), .val (.int (0 : Int32))] [(.int (-1 : Int32))])) _
    refine XS.ifNo X1.here hx rfl (hb hby d7_14) rfl ((if0 _ _).trans (tlt (by decide : (-1 : Int32) < (0 : Int32))).2.1) ?_
    show Steps p.tables e below (T1.setTop (mkF m 17 #[.val (.ref o0), .val (.int p1), .val (.int (-1 : Int32)), .val (.int (0 : Int32))] [])) _
    refine XS.aloadN X1.here hx rfl (hb hby d7_17) rfl rfl ?_
    show Steps p.tables e below (T1.setTop (mkF m 18 #[.val (.ref o0), .val (.int p1), .val (.int (-1 : Int32)), .val (.int (0 : Int32))] [(.ref o0)])) _
    refine st3 _ ?_
    show Steps p.tables e below (T3.setTop (mkF m 21 #[.val (.ref o0), .val (.int p1), .val (.int (-1 : Int32)), .val (.int (0 : Int32))] [(.ref ar)])) _
    refine XS.iloadN X3.here hx rfl (hb hby d7_21) rfl ?_
    show Steps p.tables e below (T3.setTop (mkF m 22 #[.val (.ref o0), .val (.int p1), .val (.int (-1 : Int32)), .val (.int (0 : Int32))] [(.int (0 : Int32)), (.ref ar)])) _
    refine X3.iaload hx (j := (0 : Int32)) (v := (.int x0)) (by rw [e3]; exact Ar4.1) (State.isArrayOf_alike hZ.alike Ar4.2.1) Ar4.2.2 hin4 hat4 (g := (mkF m 22 #[.val (.ref o0), .val (.int p1), .val (.int (-1 : Int32)), .val (.int (0 : Int32))] [(.int (0 : Int32)), (.ref ar)])) rfl rfl (hb hby d7_22) _ ?_
    show Steps p.tables e below (T3.setTop (mkF m 23 #[.val (.ref o0), .val (.int p1), .val (.int (-1 : Int32)), .val (.int (0 : Int32))] [(.int x0)])) _
    refine XS.iloadN X3.here hx rfl (hb hby d7_23) rfl ?_
    show Steps p.tables e below (T3.setTop (mkF m 24 #[.val (.ref o0), .val (.int p1), .val (.int (-1 : Int32)), .val (.int (0 : Int32))] [(.int p1), (.int x0)])) _
    refine XS.icmpNo X3.here hx rfl (hb hby d7_24) rfl (teq q0).2 ?_
    show Steps p.tables e below (T3.setTop (mkF m 27 #[.val (.ref o0), .val (.int p1), .val (.int (-1 : Int32)), .val (.int (0 : Int32))] [])) _
    refine XS.aloadN X3.here hx rfl (hb hby d7_27) rfl rfl ?_
    show Steps p.tables e below (T3.setTop (mkF m 28 #[.val (.ref o0), .val (.int p1), .val (.int (-1 : Int32)), .val (.int (0 : Int32))] [(.ref o0)])) _
    refine st5 _ ?_
    show Steps p.tables e below (T5.setTop (mkF m 31 #[.val (.ref o0), .val (.int p1), .val (.int (-1 : Int32)), .val (.int (0 : Int32))] [(.ref ar)])) _
    refine XS.iloadN X5.here hx rfl (hb hby d7_31) rfl ?_
    show Steps p.tables e below (T5.setTop (mkF m 32 #[.val (.ref o0), .val (.int p1), .val (.int (-1 : Int32)), .val (.int (0 : Int32))] [(.int (0 : Int32)), (.ref ar)])) _
    refine XS.iconst X5.here hx rfl (hb hby d7_32) ?_
    show Steps p.tables e below (T5.setTop (mkF m 33 #[.val (.ref o0), .val (.int p1), .val (.int (-1 : Int32)), .val (.int (0 : Int32))] [(.int (1 : Int32)), (.int (0 : Int32)), (.ref ar)])) _
    refine XS.iadd X5.here hx rfl (hb hby d7_33) rfl ?_
    show Steps p.tables e below (T5.setTop (mkF m 34 #[.val (.ref o0), .val (.int p1), .val (.int (-1 : Int32)), .val (.int (0 : Int32))] [(.int (1 : Int32)), (.ref ar)])) _
    refine X5.iaload hx (j := (1 : Int32)) (v := (.int y0)) (by rw [e5]; exact Ar6.1) (State.isArrayOf_alike hZ.alike Ar6.2.1) Ar6.2.2 hin6 hat6 (g := (mkF m 34 #[.val (.ref o0), .val (.int p1), .val (.int (-1 : Int32)), .val (.int (0 : Int32))] [(.int (1 : Int32)), (.ref ar)])) rfl rfl (hb hby d7_34) _ ?_
    show Steps p.tables e below (T5.setTop (mkF m 35 #[.val (.ref o0), .val (.int p1), .val (.int (-1 : Int32)), .val (.int (0 : Int32))] [(.int y0)])) _
    refine XS.goto X5.here hx rfl (pc0 := 35) (pc' := 39) rfl (hb hby d7_35) (by decide) (by decide) ?_
    show Steps p.tables e below (T5.setTop (mkF m 39 #[.val (.ref o0), .val (.int p1), .val (.int (-1 : Int32)), .val (.int (0 : Int32))] [(.int y0)])) _
    refine XS.istoreN X5.here hx rfl (hb hby d7_39) rfl (l' := #[.val (.ref o0), .val (.int p1), .val (.int y0), .val (.int (0 : Int32))]) rfl ?_
    show Steps p.tables e below (T5.setTop (mkF m 40 #[.val (.ref o0), .val (.int p1), .val (.int y0), .val (.int (0 : Int32))] [])) _
    refine XS.iinc X5.here hx rfl (hb hby d7_40) rfl (l' := #[.val (.ref o0), .val (.int p1), .val (.int y0), .val (.int (2 : Int32))]) rfl ?_
    show Steps p.tables e below (T5.setTop (mkF m 43 #[.val (.ref o0), .val (.int p1), .val (.int y0), .val (.int (2 : Int32))] [])) _
    refine XS.goto X5.here hx rfl (pc0 := 43) (pc' := 4) rfl (hb hby d7_43) (by decide) (by decide) ?_
    show Steps p.tables e below (T5.setTop (mkF m 4 #[.val (.ref o0), .val (.int p1), .val (.int y0), .val (.int (2 : Int32))] [])) _
    refine XS.iloadN X5.here hx rfl (hb hby d7_4) rfl ?_
    show Steps p.tables e below (T5.setTop (mkF m 5 #[.val (.ref o0), .val (.int p1), .val (.int y0), .val (.int (2 : Int32))] [(.int (2 : Int32))])) _
    refine XS.aloadN X5.here hx rfl (hb hby d7_5) rfl rfl ?_
    show Steps p.tables e below (T5.setTop (mkF m 6 #[.val (.ref o0), .val (.int p1), .val (.int y0), .val (.int (2 : Int32))] [(.ref o0), (.int (2 : Int32))])) _
    refine st7 _ ?_
    show Steps p.tables e below (T7.setTop (mkF m 9 #[.val (.ref o0), .val (.int p1), .val (.int y0), .val (.int (2 : Int32))] [(.ref ar), (.int (2 : Int32))])) _
    refine X7.arraylength hx (by rw [e7]; exact Ar8.1) (State.isArrayOf_alike hZ.alike Ar8.2.1) (g := (mkF m 9 #[.val (.ref o0), .val (.int p1), .val (.int y0), .val (.int (2 : Int32))] [(.ref ar), (.int (2 : Int32))])) rfl rfl (hb hby d7_9) _ ?_
    rw [len_of Sz8 Ng8]
    show Steps p.tables e below (T7.setTop (mkF m 10 #[.val (.ref o0), .val (.int p1), .val (.int y0), .val (.int (2 : Int32))] [(.int (2 : Int32)), (.int (2 : Int32))])) _
    refine XS.icmpYes X7.here hx rfl (pc0 := 10) (pc' := 46) rfl (hb hby d7_10) rfl (flt (by decide : ¬ ((2 : Int32) < (2 : Int32)))).2.1 (by decide) (by decide) ?_
    show Steps p.tables e below (T7.setTop (mkF m 46 #[.val (.ref o0), .val (.int p1), .val (.int y0), .val (.int (2 : Int32))] [])) _
    refine XS.iloadN X7.here hx rfl (hb hby d7_46) rfl ?_
    show Steps p.tables e below (T7.setTop (mkF m 47 #[.val (.ref o0), .val (.int p1), .val (.int y0), .val (.int (2 : Int32))] [(.int y0)])) _
    exact retI X7 hx Bd.returns (hb hby d7_47) hr
  · show own_Q (.int (own_get [(x0, y0)] p1)) h0 n0 _ T7.heap _
    rw [e7]
    exact by
      rw [hG]
      exact ⟨rfl, N0, rfl⟩
theorem d7_38 : decode prog_32_method_53_code 38 = .ok (.iconst (-1), 1) := by decide +kernel
set_option maxRecDepth 65536 in
set_option maxHeartbeats 40000000 in
theorem rmG1n (l : Launch) (Z : State) (a0 : Array Value) (hw : ∀ d ∈ tables_1, d.before a0 Z = true) (ws : List Jvm.Cond) (o0 : Addr) (p1 : Int32) (x0 : Int32) (y0 : Int32) (ar : Addr) (ka : ClassId) (h0 : Heap) (n0 : Nat) (O0 : Old Z n0 h0) (F_agendaPlaces_o0 : Fld Z h0 o0 "com/example/kvasir/kvasir/tableau/Node" "agendaPlaces" "[I" (.ref ar)) (V_ar : Arv Z h0 ar ka .int (2 : Int32) [(.int x0), (.int y0)] (.int (0 : Int32))) (q0 : ¬ (x0 = p1)) :
    MetFree l (⟨"com/example/kvasir/kvasir/tableau/Node", "agendaPlace", "(I)I"⟩ : MethodName) (head1 (Jvm.Cond.code (⟨"com/example/kvasir/kvasir/tableau/Node", "agendaPlace", "(I)I"⟩ : MethodName) prog_32_method_53_code 4 (some .int) :: ws) ({ frames := 0, cells := 0, slots := 0, locals := 0 } : Room)) (fun a U => a = #[(.ref o0), (.int p1)] ∧ Z.Warmed39 U.vm ∧ U.heap = h0) (fun _ _ _ _ _ => True) (fun _ U o U' => ∃ v L, o = .returned v ∧ own_Q (.int (own_get [(x0, y0)] p1)) h0 n0 v U'.heap L ∧ FrameEnd U o U' L ({ frames := 0, cells := 0, slots := 0, locals := 0 } : Room).cells ({ frames := 0, cells := 0, slots := 0, locals := 0 } : Room).slots) := by
  refine MetFree.of_bodySF (plainFor_of_name pn_7) hisR ?_
  intro p e s m args below meth c s₁ Bd hml0 hP hK
  obtain ⟨rfl, hZ, hh⟩ := hP
  have hx := Bd.exec
  have hby := Bd.bytes
  have hml : c.maxLocals = 4 := hml0
  have hown : s.vm.findClass "com/example/kvasir/kvasir/tableau/Node" = some m.cls := findClass_of_methodNamed Bd.named
  have hnm := (name_of_methodNamed Bd.named Bd.method).1
  have X0 : Stand p l e ({ frames := 0, cells := 0, slots := 0, locals := 0 } : Room) s m #[(.ref o0), (.int p1)] below meth c s₁ [] 0 0 := Stand.of_body Bd
  have e0 : s₁.heap = h0 := by rw [← hh, Bd.state]; rfl
  have N0 := Fr.nil n0
  have pre0 : ∀ t, Steps p.tables e below (s₁.setTop (mkF m 0 #[.val (.ref o0), .val (.int p1), .unset, .unset] [])) t → Steps p.tables e below (s₁.setTop (entryFrame m #[(.ref o0), (.int p1)] 4)) t := fun t k => castTop (ef_7 m o0 p1) k
  obtain ⟨T1, X1, e1, st1⟩ := getF X0 hx hZ hown (host := "") (Or.inl (hw _ (List.mem_of_getElem? (i := 41) rfl))) Via.refl e0 F_agendaPlaces_o0 (g := (mkF m 6 #[.val (.ref o0), .val (.int p1), .val (.int (-1 : Int32)), .val (.int (0 : Int32))] [(.ref o0), (.int (0 : Int32))])) rfl rfl (hb hby d7_6)
  obtain ⟨cl2, Ar2, qa2, Sz2, Ng2, Hs2, Ft2⟩ := V_ar
  have V2o : Arv Z h0 ar ka .int (2 : Int32) [(.int x0), (.int y0)] (.int (0 : Int32)) := ⟨cl2, Ar2, qa2, Sz2, Ng2, Hs2, Ft2⟩
  obtain ⟨T3, X3, e3, st3⟩ := getF X1 hx hZ hown (host := "") (Or.inl (hw _ (List.mem_of_getElem? (i := 41) rfl))) Via.refl e1 F_agendaPlaces_o0 (g := (mkF m 18 #[.val (.ref o0), .val (.int p1), .val (.int (-1 : Int32)), .val (.int (0 : Int32))] [(.ref o0)])) rfl rfl (hb hby d7_18)
  obtain ⟨cl4, Ar4, qa4, Sz4, Ng4, Hs4, Ft4⟩ := V2o
  have hin4 := (inb_of (j := (0 : Int32)) Sz4 ⟨by decide, by decide⟩)
  have hat4 := Hs4.at (v := (.int x0)) hin4 rfl
  have V4o : Arv Z h0 ar ka .int (2 : Int32) [(.int x0), (.int y0)] (.int (0 : Int32)) := ⟨cl4, Ar4, qa4, Sz4, Ng4, Hs4, Ft4⟩
  obtain ⟨T5, X5, e5, st5⟩ := getF X3 hx hZ hown (host := "") (Or.inl (hw _ (List.mem_of_getElem? (i := 41) rfl))) Via.refl e3 F_agendaPlaces_o0 (g := (mkF m 6 #[.val (.ref o0), .val (.int p1), .val (.int (-1 : Int32)), .val (.int (2 : Int32))] [(.ref o0), (.int (2 : Int32))])) rfl rfl (hb hby d7_6)
  obtain ⟨cl6, Ar6, qa6, Sz6, Ng6, Hs6, Ft6⟩ := V4o
  have V6o : Arv Z h0 ar ka .int (2 : Int32) [(.int x0), (.int y0)] (.int (0 : Int32)) := ⟨cl6, Ar6, qa6, Sz6, Ng6, Hs6, Ft6⟩
  have hG : own_get [(x0, y0)] p1 = (-1 : Int32) := by simp [own_get, q0]
  obtain ⟨fs, hr, hrun, hended, hW, hsame⟩ := X5.leave (v := some (.int (-1 : Int32))) (fun h => by rw [Bd.returns] at h; cases h)
  refine ⟨_, _, pre0 _ ?_, hrun, hended, _, _, rfl, ?_, ⟨_, rfl⟩, hW, hsame.mono (by decide) (by decide)⟩
  · show Steps p.tables e below (s₁.setTop (mkF m 0 #[.val (.ref o0), .val (.int p1), .unset, .unset] [])) _
    refine XS.iconst X0.here hx rfl (hb hby d7_0) ?_
    show Steps p.tables e below (s₁.setTop (mkF m 1 #[.val (.ref o0), .val (.int p1), .unset, .unset] [(.int (-1 : Int32))])) _
    refine XS.istoreN X0.here hx rfl (hb hby d7_1) rfl (l' := #[.val (.ref o0), .val (.int p1), .val (.int (-1 : Int32)), .unset]) rfl ?_
    show Steps p.tables e below (s₁.setTop (mkF m 2 #[.val (.ref o0), .val (.int p1), .val (.int (-1 : Int32)), .unset] [])) _
    refine XS.iconst X0.here hx rfl (hb hby d7_2) ?_
    show Steps p.tables e below (s₁.setTop (mkF m 3 #[.val (.ref o0), .val (.int p1), .val (.int (-1 : Int32)), .unset] [(.int (0 : Int32))])) _
    refine XS.istoreN X0.here hx rfl (hb hby d7_3) rfl (l' := #[.val (.ref o0), .val (.int p1), .val (.int (-1 : Int32)), .val (.int (0 : Int32))]) rfl ?_
    show Steps p.tables e below (s₁.setTop (mkF m 4 #[.val (.ref o0), .val (.int p1), .val (.int (-1 : Int32)), .val (.int (0 : Int32))] [])) _
    refine XS.iloadN X0.here hx rfl (hb hby d7_4) rfl ?_
    show Steps p.tables e below (s₁.setTop (mkF m 5 #[.val (.ref o0), .val (.int p1), .val (.int (-1 : Int32)), .val (.int (0 : Int32))] [(.int (0 : Int32))])) _
    refine XS.aloadN X0.here hx rfl (hb hby d7_5) rfl rfl ?_
    show Steps p.tables e below (s₁.setTop (mkF m 6 #[.val (.ref o0), .val (.int p1), .val (.int (-1 : Int32)), .val (.int (0 : Int32))] [(.ref o0), (.int (0 : Int32))])) _
    refine st1 _ ?_
    show Steps p.tables e below (T1.setTop (mkF m 9 #[.val (.ref o0), .val (.int p1), .val (.int (-1 : Int32)), .val (.int (0 : Int32))] [(.ref ar), (.int (0 : Int32))])) _
    refine X1.arraylength hx (by rw [e1]; exact Ar2.1) (State.isArrayOf_alike hZ.alike Ar2.2.1) (g := (mkF m 9 #[.val (.ref o0), .val (.int p1), .val (.int (-1 : Int32)), .val (.int (0 : Int32))] [(.ref ar), (.int (0 : Int32))])) rfl rfl (hb hby d7_9) _ ?_
    rw [len_of Sz2 Ng2]
    show Steps p.tables e below (T1.setTop (mkF m 10 #[.val (.ref o0), .val (.int p1), .val (.int (-1 : Int32)), .val (.int (0 : Int32))] [(.int (2 : Int32)), (.int (0 : Int32))])) _
    refine XS.icmpNo X1.here hx rfl (hb hby d7_10) rfl (tlt (by decide : (0 : Int32) < (2 : Int32))).2.1 ?_
    show Steps p.tables e below (T1.setTop (mkF m 13 #[.val (.ref o0), .val (.int p1), .val (.int (-1 : Int32)), .val (.int (0 : Int32))] [])) _
    refine XS.iloadN X1.here hx rfl (hb hby d7_13) rfl ?_
    show Steps p.tables e below (T1.setTop (mkF m 14 #[.val (.ref o0), .val (.int p1), .val (.int (-1 : Int32)), .val (.int (0 : Int32))] [(.int (-1 : Int32))])) _
    refine XS.ifNo X1.here hx rfl (hb hby d7_14) rfl ((if0 _ _).trans (tlt (by decide : (-1 : Int32) < (0 : Int32))).2.1) ?_
    show Steps p.tables e below (T1.setTop (mkF m 17 #[.val (.ref o0), .val (.int p1), .val (.int (-1 : Int32)), .val (.int (0 : Int32))] [])) _
    refine XS.aloadN X1.here hx rfl (hb hby d7_17) rfl rfl ?_
    show Steps p.tables e below (T1.setTop (mkF m 18 #[.val (.ref o0), .val (.int p1), .val (.int (-1 : Int32)), .val (.int (0 : Int32))] [(.ref o0)])) _
    refine st3 _ ?_
    show Steps p.tables e below (T3.setTop (mkF m 21 #[.val (.ref o0), .val (.int p1), .val (.int (-1 : Int32)), .val (.int (0 : Int32))] [(.ref ar)])) _
    refine XS.iloadN X3.here hx rfl (hb hby d7_21) rfl ?_
    show Steps p.tables e below (T3.setTop (mkF m 22 #[.val (.ref o0), .val (.int p1), .val (.int (-1 : Int32)), .val (.int (0 : Int32))] [(.int (0 : Int32)), (.ref ar)])) _
    refine X3.iaload hx (j := (0 : Int32)) (v := (.int x0)) (by rw [e3]; exact Ar4.1) (State.isArrayOf_alike hZ.alike Ar4.2.1) Ar4.2.2 hin4 hat4 (g := (mkF m 22 #[.val (.ref o0), .val (.int p1), .val (.int (-1 : Int32)), .val (.int (0 : Int32))] [(.int (0 : Int32)), (.ref ar)])) rfl rfl (hb hby d7_22) _ ?_
    show Steps p.tables e below (T3.setTop (mkF m 23 #[.val (.ref o0), .val (.int p1), .val (.int (-1 : Int32)), .val (.int (0 : Int32))] [(.int x0)])) _
    refine XS.iloadN X3.here hx rfl (hb hby d7_23) rfl ?_
    show Steps p.tables e below (T3.setTop (mkF m 24 #[.val (.ref o0), .val (.int p1), .val (.int (-1 : Int32)), .val (.int (0 : Int32))] [(.int p1), (.int x0)])) _
    refine XS.icmpYes X3.here hx rfl (pc0 := 24) (pc' := 38) rfl (hb hby d7_24) rfl (feq q0).2 (by decide) (by decide) ?_
    show Steps p.tables e below (T3.setTop (mkF m 38 #[.val (.ref o0), .val (.int p1), .val (.int (-1 : Int32)), .val (.int (0 : Int32))] [])) _
    refine XS.iconst X3.here hx rfl (hb hby d7_38) ?_
    show Steps p.tables e below (T3.setTop (mkF m 39 #[.val (.ref o0), .val (.int p1), .val (.int (-1 : Int32)), .val (.int (0 : Int32))] [(.int (-1 : Int32))])) _
    refine XS.istoreN X3.here hx rfl (hb hby d7_39) rfl (l' := #[.val (.ref o0), .val (.int p1), .val (.int (-1 : Int32)), .val (.int (0 : Int32))]) rfl ?_
    show Steps p.tables e below (T3.setTop (mkF m 40 #[.val (.ref o0), .val (.int p1), .val (.int (-1 : Int32)), .val (.int (0 : Int32))] [])) _
    refine XS.iinc X3.here hx rfl (hb hby d7_40) rfl (l' := #[.val (.ref o0), .val (.int p1), .val (.int (-1 : Int32)), .val (.int (2 : Int32))]) rfl ?_
    show Steps p.tables e below (T3.setTop (mkF m 43 #[.val (.ref o0), .val (.int p1), .val (.int (-1 : Int32)), .val (.int (2 : Int32))] [])) _
    refine XS.goto X3.here hx rfl (pc0 := 43) (pc' := 4) rfl (hb hby d7_43) (by decide) (by decide) ?_
    show Steps p.tables e below (T3.setTop (mkF m 4 #[.val (.ref o0), .val (.int p1), .val (.int (-1 : Int32)), .val (.int (2 : Int32))] [])) _
    refine XS.iloadN X3.here hx rfl (hb hby d7_4) rfl ?_
    show Steps p.tables e below (T3.setTop (mkF m 5 #[.val (.ref o0), .val (.int p1), .val (.int (-1 : Int32)), .val (.int (2 : Int32))] [(.int (2 : Int32))])) _
    refine XS.aloadN X3.here hx rfl (hb hby d7_5) rfl rfl ?_
    show Steps p.tables e below (T3.setTop (mkF m 6 #[.val (.ref o0), .val (.int p1), .val (.int (-1 : Int32)), .val (.int (2 : Int32))] [(.ref o0), (.int (2 : Int32))])) _
    refine st5 _ ?_
    show Steps p.tables e below (T5.setTop (mkF m 9 #[.val (.ref o0), .val (.int p1), .val (.int (-1 : Int32)), .val (.int (2 : Int32))] [(.ref ar), (.int (2 : Int32))])) _
    refine X5.arraylength hx (by rw [e5]; exact Ar6.1) (State.isArrayOf_alike hZ.alike Ar6.2.1) (g := (mkF m 9 #[.val (.ref o0), .val (.int p1), .val (.int (-1 : Int32)), .val (.int (2 : Int32))] [(.ref ar), (.int (2 : Int32))])) rfl rfl (hb hby d7_9) _ ?_
    rw [len_of Sz6 Ng6]
    show Steps p.tables e below (T5.setTop (mkF m 10 #[.val (.ref o0), .val (.int p1), .val (.int (-1 : Int32)), .val (.int (2 : Int32))] [(.int (2 : Int32)), (.int (2 : Int32))])) _
    refine XS.icmpYes X5.here hx rfl (pc0 := 10) (pc' := 46) rfl (hb hby d7_10) rfl (flt (by decide : ¬ ((2 : Int32) < (2 : Int32)))).2.1 (by decide) (by decide) ?_
    show Steps p.tables e below (T5.setTop (mkF m 46 #[.val (.ref o0), .val (.int p1), .val (.int (-1 : Int32)), .val (.int (2 : Int32))] [])) _
    refine XS.iloadN X5.here hx rfl (hb hby d7_46) rfl ?_
    show Steps p.tables e below (T5.setTop (mkF m 47 #[.val (.ref o0), .val (.int p1), .val (.int (-1 : Int32)), .val (.int (2 : Int32))] [(.int (-1 : Int32))])) _
    exact retI X5 hx Bd.returns (hb hby d7_47) hr
  · show own_Q (.int (own_get [(x0, y0)] p1)) h0 n0 _ T5.heap _
    rw [e5]
    exact by
      rw [hG]
      exact ⟨rfl, N0, rfl⟩
set_option maxRecDepth 65536 in
set_option maxHeartbeats 40000000 in
theorem rmG20 (l : Launch) (Z : State) (a0 : Array Value) (hw : ∀ d ∈ tables_1, d.before a0 Z = true) (ws : List Jvm.Cond) (o0 : Addr) (p1 : Int32) (x0 : Int32) (y0 : Int32) (x1 : Int32) (y1 : Int32) (ar : Addr) (ka : ClassId) (h0 : Heap) (n0 : Nat) (O0 : Old Z n0 h0) (F_agendaPlaces_o0 : Fld Z h0 o0 "com/example/kvasir/kvasir/tableau/Node" "agendaPlaces" "[I" (.ref ar)) (V_ar : Arv Z h0 ar ka .int (4 : Int32) [(.int x0), (.int y0), (.int x1), (.int y1)] (.int (0 : Int32))) (q0 : x0 = p1) (hy : ¬ y0 < (0 : Int32)) :
    MetFree l (⟨"com/example/kvasir/kvasir/tableau/Node", "agendaPlace", "(I)I"⟩ : MethodName) (head1 (Jvm.Cond.code (⟨"com/example/kvasir/kvasir/tableau/Node", "agendaPlace", "(I)I"⟩ : MethodName) prog_32_method_53_code 4 (some .int) :: ws) ({ frames := 0, cells := 0, slots := 0, locals := 0 } : Room)) (fun a U => a = #[(.ref o0), (.int p1)] ∧ Z.Warmed39 U.vm ∧ U.heap = h0) (fun _ _ _ _ _ => True) (fun _ U o U' => ∃ v L, o = .returned v ∧ own_Q (.int (own_get [(x0, y0), (x1, y1)] p1)) h0 n0 v U'.heap L ∧ FrameEnd U o U' L ({ frames := 0, cells := 0, slots := 0, locals := 0 } : Room).cells ({ frames := 0, cells := 0, slots := 0, locals := 0 } : Room).slots) := by
  refine MetFree.of_bodySF (plainFor_of_name pn_7) hisR ?_
  intro p e s m args below meth c s₁ Bd hml0 hP hK
  obtain ⟨rfl, hZ, hh⟩ := hP
  have hx := Bd.exec
  have hby := Bd.bytes
  have hml : c.maxLocals = 4 := hml0
  have hown : s.vm.findClass "com/example/kvasir/kvasir/tableau/Node" = some m.cls := findClass_of_methodNamed Bd.named
  have hnm := (name_of_methodNamed Bd.named Bd.method).1
  have X0 : Stand p l e ({ frames := 0, cells := 0, slots := 0, locals := 0 } : Room) s m #[(.ref o0), (.int p1)] below meth c s₁ [] 0 0 := Stand.of_body Bd
  have e0 : s₁.heap = h0 := by rw [← hh, Bd.state]; rfl
  have N0 := Fr.nil n0
  have pre0 : ∀ t, Steps p.tables e below (s₁.setTop (mkF m 0 #[.val (.ref o0), .val (.int p1), .unset, .unset] [])) t → Steps p.tables e below (s₁.setTop (entryFrame m #[(.ref o0), (.int p1)] 4)) t := fun t k => castTop (ef_7 m o0 p1) k
  obtain ⟨T1, X1, e1, st1⟩ := getF X0 hx hZ hown (host := "") (Or.inl (hw _ (List.mem_of_getElem? (i := 41) rfl))) Via.refl e0 F_agendaPlaces_o0 (g := (mkF m 6 #[.val (.ref o0), .val (.int p1), .val (.int (-1 : Int32)), .val (.int (0 : Int32))] [(.ref o0), (.int (0 : Int32))])) rfl rfl (hb hby d7_6)
  obtain ⟨cl2, Ar2, qa2, Sz2, Ng2, Hs2, Ft2⟩ := V_ar
  have V2o : Arv Z h0 ar ka .int (4 : Int32) [(.int x0), (.int y0), (.int x1), (.int y1)] (.int (0 : Int32)) := ⟨cl2, Ar2, qa2, Sz2, Ng2, Hs2, Ft2⟩
  obtain ⟨T3, X3, e3, st3⟩ := getF X1 hx hZ hown (host := "") (Or.inl (hw _ (List.mem_of_getElem? (i := 41) rfl))) Via.refl e1 F_agendaPlaces_o0 (g := (mkF m 18 #[.val (.ref o0), .val (.int p1), .val (.int (-1 : Int32)), .val (.int (0 : Int32))] [(.ref o0)])) rfl rfl (hb hby d7_18)
  obtain ⟨cl4, Ar4, qa4, Sz4, Ng4, Hs4, Ft4⟩ := V2o
  have hin4 := (inb_of (j := (0 : Int32)) Sz4 ⟨by decide, by decide⟩)
  have hat4 := Hs4.at (v := (.int x0)) hin4 rfl
  have V4o : Arv Z h0 ar ka .int (4 : Int32) [(.int x0), (.int y0), (.int x1), (.int y1)] (.int (0 : Int32)) := ⟨cl4, Ar4, qa4, Sz4, Ng4, Hs4, Ft4⟩
  obtain ⟨T5, X5, e5, st5⟩ := getF X3 hx hZ hown (host := "") (Or.inl (hw _ (List.mem_of_getElem? (i := 41) rfl))) Via.refl e3 F_agendaPlaces_o0 (g := (mkF m 28 #[.val (.ref o0), .val (.int p1), .val (.int (-1 : Int32)), .val (.int (0 : Int32))] [(.ref o0)])) rfl rfl (hb hby d7_28)
  obtain ⟨cl6, Ar6, qa6, Sz6, Ng6, Hs6, Ft6⟩ := V4o
  have hin6 := (inb_of (j := (1 : Int32)) Sz6 ⟨by decide, by decide⟩)
  have hat6 := Hs6.at (v := (.int y0)) hin6 rfl
  have V6o : Arv Z h0 ar ka .int (4 : Int32) [(.int x0), (.int y0), (.int x1), (.int y1)] (.int (0 : Int32)) := ⟨cl6, Ar6, qa6, Sz6, Ng6, Hs6, Ft6⟩
  obtain ⟨T7, X7, e7, st7⟩ := getF X5 hx hZ hown (host := "") (Or.inl (hw _ (List.mem_of_getElem? (i := 41) rfl))) Via.refl e5 F_agendaPlaces_o0 (g := (mkF m 6 #[.val (.ref o0), .val (.int p1), .val (.int y0), .val (.int (2 : Int32))] [(.ref o0), (.int (2 : Int32))])) rfl rfl (hb hby d7_6)
  obtain ⟨cl8, Ar8, qa8, Sz8, Ng8, Hs8, Ft8⟩ := V6o
  have V8o : Arv Z h0 ar ka .int (4 : Int32) [(.int x0), (.int y0), (.int x1), (.int y1)] (.int (0 : Int32)) := ⟨cl8, Ar8, qa8, Sz8, Ng8, Hs8, Ft8⟩
  have hG : own_get [(x0, y0), (x1, y1)] p1 = y0 := by simp [own_get, q0]
  obtain ⟨fs, hr, hrun, hended, hW, hsame⟩ := X7.leave (v := some (.int y0)) (fun h => by rw [Bd.returns] at h; cases h)
  refine ⟨_, _, pre0 _ ?_, hrun, hended, _, _, rfl, ?_, ⟨_, rfl⟩, hW, hsame.mono (by decide) (by decide)⟩
  · show Steps p.tables e below (s₁.setTop (mkF m 0 #[.val (.ref o0), .val (.int p1), .unset, .unset] [])) _
    refine XS.iconst X0.here hx rfl (hb hby d7_0) ?_
    show Steps p.tables e below (s₁.setTop (mkF m 1 #[.val (.ref o0), .val (.int p1), .unset, .unset] [(.int (-1 : Int32))])) _
    refine XS.istoreN X0.here hx rfl (hb hby d7_1) rfl (l' := #[.val (.ref o0), .val (.int p1), .val (.int (-1 : Int32)), .unset]) rfl ?_
    show Steps p.tables e below (s₁.setTop (mkF m 2 #[.val (.ref o0), .val (.int p1), .val (.int (-1 : Int32)), .unset] [])) _
    refine XS.iconst X0.here hx rfl (hb hby d7_2) ?_
    show Steps p.tables e below (s₁.setTop (mkF m 3 #[.val (.ref o0), .val (.int p1), .val (.int (-1 : Int32)), .unset] [(.int (0 : Int32))])) _
    refine XS.istoreN X0.here hx rfl (hb hby d7_3) rfl (l' := #[.val (.ref o0), .val (.int p1), .val (.int (-1 : Int32)), .val (.int (0 : Int32))]) rfl ?_
    show Steps p.tables e below (s₁.setTop (mkF m 4 #[.val (.ref o0), .val (.int p1), .val (.int (-1 : Int32)), .val (.int (0 : Int32))] [])) _
    refine XS.iloadN X0.here hx rfl (hb hby d7_4) rfl ?_
    show Steps p.tables e below (s₁.setTop (mkF m 5 #[.val (.ref o0), .val (.int p1), .val (.int (-1 : Int32)), .val (.int (0 : Int32))] [(.int (0 : Int32))])) _
    refine XS.aloadN X0.here hx rfl (hb hby d7_5) rfl rfl ?_
    show Steps p.tables e below (s₁.setTop (mkF m 6 #[.val (.ref o0), .val (.int p1), .val (.int (-1 : Int32)), .val (.int (0 : Int32))] [(.ref o0), (.int (0 : Int32))])) _
    refine st1 _ ?_
    show Steps p.tables e below (T1.setTop (mkF m 9 #[.val (.ref o0), .val (.int p1), .val (.int (-1 : Int32)), .val (.int (0 : Int32))] [(.ref ar), (.int (0 : Int32))])) _
    refine X1.arraylength hx (by rw [e1]; exact Ar2.1) (State.isArrayOf_alike hZ.alike Ar2.2.1) (g := (mkF m 9 #[.val (.ref o0), .val (.int p1), .val (.int (-1 : Int32)), .val (.int (0 : Int32))] [(.ref ar), (.int (0 : Int32))])) rfl rfl (hb hby d7_9) _ ?_
    rw [len_of Sz2 Ng2]
    show Steps p.tables e below (T1.setTop (mkF m 10 #[.val (.ref o0), .val (.int p1), .val (.int (-1 : Int32)), .val (.int (0 : Int32))] [(.int (4 : Int32)), (.int (0 : Int32))])) _
    refine XS.icmpNo X1.here hx rfl (hb hby d7_10) rfl (tlt (by decide : (0 : Int32) < (4 : Int32))).2.1 ?_
    show Steps p.tables e below (T1.setTop (mkF m 13 #[.val (.ref o0), .val (.int p1), .val (.int (-1 : Int32)), .val (.int (0 : Int32))] [])) _
    refine XS.iloadN X1.here hx rfl (hb hby d7_13) rfl ?_
    show Steps p.tables e below (T1.setTop (mkF m 14 #[.val (.ref o0), .val (.int p1), .val (.int (-1 : Int32)), .val (.int (0 : Int32))] [(.int (-1 : Int32))])) _
    refine XS.ifNo X1.here hx rfl (hb hby d7_14) rfl ((if0 _ _).trans (tlt (by decide : (-1 : Int32) < (0 : Int32))).2.1) ?_
    show Steps p.tables e below (T1.setTop (mkF m 17 #[.val (.ref o0), .val (.int p1), .val (.int (-1 : Int32)), .val (.int (0 : Int32))] [])) _
    refine XS.aloadN X1.here hx rfl (hb hby d7_17) rfl rfl ?_
    show Steps p.tables e below (T1.setTop (mkF m 18 #[.val (.ref o0), .val (.int p1), .val (.int (-1 : Int32)), .val (.int (0 : Int32))] [(.ref o0)])) _
    refine st3 _ ?_
    show Steps p.tables e below (T3.setTop (mkF m 21 #[.val (.ref o0), .val (.int p1), .val (.int (-1 : Int32)), .val (.int (0 : Int32))] [(.ref ar)])) _
    refine XS.iloadN X3.here hx rfl (hb hby d7_21) rfl ?_
    show Steps p.tables e below (T3.setTop (mkF m 22 #[.val (.ref o0), .val (.int p1), .val (.int (-1 : Int32)), .val (.int (0 : Int32))] [(.int (0 : Int32)), (.ref ar)])) _
    refine X3.iaload hx (j := (0 : Int32)) (v := (.int x0)) (by rw [e3]; exact Ar4.1) (State.isArrayOf_alike hZ.alike Ar4.2.1) Ar4.2.2 hin4 hat4 (g := (mkF m 22 #[.val (.ref o0), .val (.int p1), .val (.int (-1 : Int32)), .val (.int (0 : Int32))] [(.int (0 : Int32)), (.ref ar)])) rfl rfl (hb hby d7_22) _ ?_
    show Steps p.tables e below (T3.setTop (mkF m 23 #[.val (.ref o0), .val (.int p1), .val (.int (-1 : Int32)), .val (.int (0 : Int32))] [(.int x0)])) _
    refine XS.iloadN X3.here hx rfl (hb hby d7_23) rfl ?_
    show Steps p.tables e below (T3.setTop (mkF m 24 #[.val (.ref o0), .val (.int p1), .val (.int (-1 : Int32)), .val (.int (0 : Int32))] [(.int p1), (.int x0)])) _
    refine XS.icmpNo X3.here hx rfl (hb hby d7_24) rfl (teq q0).2 ?_
    show Steps p.tables e below (T3.setTop (mkF m 27 #[.val (.ref o0), .val (.int p1), .val (.int (-1 : Int32)), .val (.int (0 : Int32))] [])) _
    refine XS.aloadN X3.here hx rfl (hb hby d7_27) rfl rfl ?_
    show Steps p.tables e below (T3.setTop (mkF m 28 #[.val (.ref o0), .val (.int p1), .val (.int (-1 : Int32)), .val (.int (0 : Int32))] [(.ref o0)])) _
    refine st5 _ ?_
    show Steps p.tables e below (T5.setTop (mkF m 31 #[.val (.ref o0), .val (.int p1), .val (.int (-1 : Int32)), .val (.int (0 : Int32))] [(.ref ar)])) _
    refine XS.iloadN X5.here hx rfl (hb hby d7_31) rfl ?_
    show Steps p.tables e below (T5.setTop (mkF m 32 #[.val (.ref o0), .val (.int p1), .val (.int (-1 : Int32)), .val (.int (0 : Int32))] [(.int (0 : Int32)), (.ref ar)])) _
    refine XS.iconst X5.here hx rfl (hb hby d7_32) ?_
    show Steps p.tables e below (T5.setTop (mkF m 33 #[.val (.ref o0), .val (.int p1), .val (.int (-1 : Int32)), .val (.int (0 : Int32))] [(.int (1 : Int32)), (.int (0 : Int32)), (.ref ar)])) _
    refine XS.iadd X5.here hx rfl (hb hby d7_33) rfl ?_
    show Steps p.tables e below (T5.setTop (mkF m 34 #[.val (.ref o0), .val (.int p1), .val (.int (-1 : Int32)), .val (.int (0 : Int32))] [(.int (1 : Int32)), (.ref ar)])) _
    refine X5.iaload hx (j := (1 : Int32)) (v := (.int y0)) (by rw [e5]; exact Ar6.1) (State.isArrayOf_alike hZ.alike Ar6.2.1) Ar6.2.2 hin6 hat6 (g := (mkF m 34 #[.val (.ref o0), .val (.int p1), .val (.int (-1 : Int32)), .val (.int (0 : Int32))] [(.int (1 : Int32)), (.ref ar)])) rfl rfl (hb hby d7_34) _ ?_
    show Steps p.tables e below (T5.setTop (mkF m 35 #[.val (.ref o0), .val (.int p1), .val (.int (-1 : Int32)), .val (.int (0 : Int32))] [(.int y0)])) _
    refine XS.goto X5.here hx rfl (pc0 := 35) (pc' := 39) rfl (hb hby d7_35) (by decide) (by decide) ?_
    show Steps p.tables e below (T5.setTop (mkF m 39 #[.val (.ref o0), .val (.int p1), .val (.int (-1 : Int32)), .val (.int (0 : Int32))] [(.int y0)])) _
    refine XS.istoreN X5.here hx rfl (hb hby d7_39) rfl (l' := #[.val (.ref o0), .val (.int p1), .val (.int y0), .val (.int (0 : Int32))]) rfl ?_
    show Steps p.tables e below (T5.setTop (mkF m 40 #[.val (.ref o0), .val (.int p1), .val (.int y0), .val (.int (0 : Int32))] [])) _
    refine XS.iinc X5.here hx rfl (hb hby d7_40) rfl (l' := #[.val (.ref o0), .val (.int p1), .val (.int y0), .val (.int (2 : Int32))]) rfl ?_
    show Steps p.tables e below (T5.setTop (mkF m 43 #[.val (.ref o0), .val (.int p1), .val (.int y0), .val (.int (2 : Int32))] [])) _
    refine XS.goto X5.here hx rfl (pc0 := 43) (pc' := 4) rfl (hb hby d7_43) (by decide) (by decide) ?_
    show Steps p.tables e below (T5.setTop (mkF m 4 #[.val (.ref o0), .val (.int p1), .val (.int y0), .val (.int (2 : Int32))] [])) _
    refine XS.iloadN X5.here hx rfl (hb hby d7_4) rfl ?_
    show Steps p.tables e below (T5.setTop (mkF m 5 #[.val (.ref o0), .val (.int p1), .val (.int y0), .val (.int (2 : Int32))] [(.int (2 : Int32))])) _
    refine XS.aloadN X5.here hx rfl (hb hby d7_5) rfl rfl ?_
    show Steps p.tables e below (T5.setTop (mkF m 6 #[.val (.ref o0), .val (.int p1), .val (.int y0), .val (.int (2 : Int32))] [(.ref o0), (.int (2 : Int32))])) _
    refine st7 _ ?_
    show Steps p.tables e below (T7.setTop (mkF m 9 #[.val (.ref o0), .val (.int p1), .val (.int y0), .val (.int (2 : Int32))] [(.ref ar), (.int (2 : Int32))])) _
    refine X7.arraylength hx (by rw [e7]; exact Ar8.1) (State.isArrayOf_alike hZ.alike Ar8.2.1) (g := (mkF m 9 #[.val (.ref o0), .val (.int p1), .val (.int y0), .val (.int (2 : Int32))] [(.ref ar), (.int (2 : Int32))])) rfl rfl (hb hby d7_9) _ ?_
    rw [len_of Sz8 Ng8]
    show Steps p.tables e below (T7.setTop (mkF m 10 #[.val (.ref o0), .val (.int p1), .val (.int y0), .val (.int (2 : Int32))] [(.int (4 : Int32)), (.int (2 : Int32))])) _
    refine XS.icmpNo X7.here hx rfl (hb hby d7_10) rfl (tlt (by decide : (2 : Int32) < (4 : Int32))).2.1 ?_
    show Steps p.tables e below (T7.setTop (mkF m 13 #[.val (.ref o0), .val (.int p1), .val (.int y0), .val (.int (2 : Int32))] [])) _
    refine XS.iloadN X7.here hx rfl (hb hby d7_13) rfl ?_
    show Steps p.tables e below (T7.setTop (mkF m 14 #[.val (.ref o0), .val (.int p1), .val (.int y0), .val (.int (2 : Int32))] [(.int y0)])) _
    refine XS.ifYes X7.here hx rfl (pc0 := 14) (pc' := 46) rfl (hb hby d7_14) rfl ((if0 _ _).trans (flt hy).2.1) (by decide) (by decide) ?_
    show Steps p.tables e below (T7.setTop (mkF m 46 #[.val (.ref o0), .val (.int p1), .val (.int y0), .val (.int (2 : Int32))] [])) _
    refine XS.iloadN X7.here hx rfl (hb hby d7_46) rfl ?_
    show Steps p.tables e below (T7.setTop (mkF m 47 #[.val (.ref o0), .val (.int p1), .val (.int y0), .val (.int (2 : Int32))] [(.int y0)])) _
    exact retI X7 hx Bd.returns (hb hby d7_47) hr
  · show own_Q (.int (own_get [(x0, y0), (x1, y1)] p1)) h0 n0 _ T7.heap _
    rw [e7]
    exact by
      rw [hG]
      exact ⟨rfl, N0, rfl⟩
set_option maxRecDepth 65536 in
set_option maxHeartbeats 40000000 in
theorem rmG21 (l : Launch) (Z : State) (a0 : Array Value) (hw : ∀ d ∈ tables_1, d.before a0 Z = true) (ws : List Jvm.Cond) (o0 : Addr) (p1 : Int32) (x0 : Int32) (y0 : Int32) (x1 : Int32) (y1 : Int32) (ar : Addr) (ka : ClassId) (h0 : Heap) (n0 : Nat) (O0 : Old Z n0 h0) (F_agendaPlaces_o0 : Fld Z h0 o0 "com/example/kvasir/kvasir/tableau/Node" "agendaPlaces" "[I" (.ref ar)) (V_ar : Arv Z h0 ar ka .int (4 : Int32) [(.int x0), (.int y0), (.int x1), (.int y1)] (.int (0 : Int32))) (q0 : ¬ (x0 = p1)) (q1 : x1 = p1) (hy : ¬ y1 < (0 : Int32)) :
    MetFree l (⟨"com/example/kvasir/kvasir/tableau/Node", "agendaPlace", "(I)I"⟩ : MethodName) (head1 (Jvm.Cond.code (⟨"com/example/kvasir/kvasir/tableau/Node", "agendaPlace", "(I)I"⟩ : MethodName) prog_32_method_53_code 4 (some .int) :: ws) ({ frames := 0, cells := 0, slots := 0, locals := 0 } : Room)) (fun a U => a = #[(.ref o0), (.int p1)] ∧ Z.Warmed39 U.vm ∧ U.heap = h0) (fun _ _ _ _ _ => True) (fun _ U o U' => ∃ v L, o = .returned v ∧ own_Q (.int (own_get [(x0, y0), (x1, y1)] p1)) h0 n0 v U'.heap L ∧ FrameEnd U o U' L ({ frames := 0, cells := 0, slots := 0, locals := 0 } : Room).cells ({ frames := 0, cells := 0, slots := 0, locals := 0 } : Room).slots) := by
  refine MetFree.of_bodySF (plainFor_of_name pn_7) hisR ?_
  intro p e s m args below meth c s₁ Bd hml0 hP hK
  obtain ⟨rfl, hZ, hh⟩ := hP
  have hx := Bd.exec
  have hby := Bd.bytes
  have hml : c.maxLocals = 4 := hml0
  have hown : s.vm.findClass "com/example/kvasir/kvasir/tableau/Node" = some m.cls := findClass_of_methodNamed Bd.named
  have hnm := (name_of_methodNamed Bd.named Bd.method).1
  have X0 : Stand p l e ({ frames := 0, cells := 0, slots := 0, locals := 0 } : Room) s m #[(.ref o0), (.int p1)] below meth c s₁ [] 0 0 := Stand.of_body Bd
  have e0 : s₁.heap = h0 := by rw [← hh, Bd.state]; rfl
  have N0 := Fr.nil n0
  have pre0 : ∀ t, Steps p.tables e below (s₁.setTop (mkF m 0 #[.val (.ref o0), .val (.int p1), .unset, .unset] [])) t → Steps p.tables e below (s₁.setTop (entryFrame m #[(.ref o0), (.int p1)] 4)) t := fun t k => castTop (ef_7 m o0 p1) k
  obtain ⟨T1, X1, e1, st1⟩ := getF X0 hx hZ hown (host := "") (Or.inl (hw _ (List.mem_of_getElem? (i := 41) rfl))) Via.refl e0 F_agendaPlaces_o0 (g := (mkF m 6 #[.val (.ref o0), .val (.int p1), .val (.int (-1 : Int32)), .val (.int (0 : Int32))] [(.ref o0), (.int (0 : Int32))])) rfl rfl (hb hby d7_6)
  obtain ⟨cl2, Ar2, qa2, Sz2, Ng2, Hs2, Ft2⟩ := V_ar
  have V2o : Arv Z h0 ar ka .int (4 : Int32) [(.int x0), (.int y0), (.int x1), (.int y1)] (.int (0 : Int32)) := ⟨cl2, Ar2, qa2, Sz2, Ng2, Hs2, Ft2⟩
  obtain ⟨T3, X3, e3, st3⟩ := getF X1 hx hZ hown (host := "") (Or.inl (hw _ (List.mem_of_getElem? (i := 41) rfl))) Via.refl e1 F_agendaPlaces_o0 (g := (mkF m 18 #[.val (.ref o0), .val (.int p1), .val (.int (-1 : Int32)), .val (.int (0 : Int32))] [(.ref o0)])) rfl rfl (hb hby d7_18)
  obtain ⟨cl4, Ar4, qa4, Sz4, Ng4, Hs4, Ft4⟩ := V2o
  have hin4 := (inb_of (j := (0 : Int32)) Sz4 ⟨by decide, by decide⟩)
  have hat4 := Hs4.at (v := (.int x0)) hin4 rfl
  have V4o : Arv Z h0 ar ka .int (4 : Int32) [(.int x0), (.int y0), (.int x1), (.int y1)] (.int (0 : Int32)) := ⟨cl4, Ar4, qa4, Sz4, Ng4, Hs4, Ft4⟩
  obtain ⟨T5, X5, e5, st5⟩ := getF X3 hx hZ hown (host := "") (Or.inl (hw _ (List.mem_of_getElem? (i := 41) rfl))) Via.refl e3 F_agendaPlaces_o0 (g := (mkF m 6 #[.val (.ref o0), .val (.int p1), .val (.int (-1 : Int32)), .val (.int (2 : Int32))] [(.ref o0), (.int (2 : Int32))])) rfl rfl (hb hby d7_6)
  obtain ⟨cl6, Ar6, qa6, Sz6, Ng6, Hs6, Ft6⟩ := V4o
  have V6o : Arv Z h0 ar ka .int (4 : Int32) [(.int x0), (.int y0), (.int x1), (.int y1)] (.int (0 : Int32)) := ⟨cl6, Ar6, qa6, Sz6, Ng6, Hs6, Ft6⟩
  obtain ⟨T7, X7, e7, st7⟩ := getF X5 hx hZ hown (host := "") (Or.inl (hw _ (List.mem_of_getElem? (i := 41) rfl))) Via.refl e5 F_agendaPlaces_o0 (g := (mkF m 18 #[.val (.ref o0), .val (.int p1), .val (.int (-1 : Int32)), .val (.int (2 : Int32))] [(.ref o0)])) rfl rfl (hb hby d7_18)
  obtain ⟨cl8, Ar8, qa8, Sz8, Ng8, Hs8, Ft8⟩ := V6o
  have hin8 := (inb_of (j := (2 : Int32)) Sz8 ⟨by decide, by decide⟩)
  have hat8 := Hs8.at (v := (.int x1)) hin8 rfl
  have V8o : Arv Z h0 ar ka .int (4 : Int32) [(.int x0), (.int y0), (.int x1), (.int y1)] (.int (0 : Int32)) := ⟨cl8, Ar8, qa8, Sz8, Ng8, Hs8, Ft8⟩
  obtain ⟨T9, X9, e9, st9⟩ := getF X7 hx hZ hown (host := "") (Or.inl (hw _ (List.mem_of_getElem? (i := 41) rfl))) Via.refl e7 F_agendaPlaces_o0 (g := (mkF m 28 #[.val (.ref o0), .val (.int p1), .val (.int (-1 : Int32)), .val (.int (2 : Int32))] [(.ref o0)])) rfl rfl (hb hby d7_28)
  obtain ⟨cl10, Ar10, qa10, Sz10, Ng10, Hs10, Ft10⟩ := V8o
  have hin10 := (inb_of (j := (3 : Int32)) Sz10 ⟨by decide, by decide⟩)
  have hat10 := Hs10.at (v := (.int y1)) hin10 rfl
  have V10o : Arv Z h0 ar ka .int (4 : Int32) [(.int x0), (.int y0), (.int x1), (.int y1)] (.int (0 : Int32)) := ⟨cl10, Ar10, qa10, Sz10, Ng10, Hs10, Ft10⟩
  obtain ⟨T11, X11, e11, st11⟩ := getF X9 hx hZ hown (host := "") (Or.inl (hw _ (List.mem_of_getElem? (i := 41) rfl))) Via.refl e9 F_agendaPlaces_o0 (g := (mkF m 6 #[.val (.ref o0), .val (.int p1), .val (.int y1), .val (.int (4 : Int32))] [(.ref o0), (.int (4 : Int32))])) rfl rfl (hb hby d7_6)
  obtain ⟨cl12, Ar12, qa12, Sz12, Ng12, Hs12, Ft12⟩ := V10o
  have V12o : Arv Z h0 ar ka .int (4 : Int32) [(.int x0), (.int y0), (.int x1), (.int y1)] (.int (0 : Int32)) := ⟨cl12, Ar12, qa12, Sz12, Ng12, Hs12, Ft12⟩
  have hG : own_get [(x0, y0), (x1, y1)] p1 = y1 := by simp [own_get, q0, q1]
  obtain ⟨fs, hr, hrun, hended, hW, hsame⟩ := X11.leave (v := some (.int y1)) (fun h => by rw [Bd.returns] at h; cases h)
  refine ⟨_, _, pre0 _ ?_, hrun, hended, _, _, rfl, ?_, ⟨_, rfl⟩, hW, hsame.mono (by decide) (by decide)⟩
  · show Steps p.tables e below (s₁.setTop (mkF m 0 #[.val (.ref o0), .val (.int p1), .unset, .unset] [])) _
    refine XS.iconst X0.here hx rfl (hb hby d7_0) ?_
    show Steps p.tables e below (s₁.setTop (mkF m 1 #[.val (.ref o0), .val (.int p1), .unset, .unset] [(.int (-1 : Int32))])) _
    refine XS.istoreN X0.here hx rfl (hb hby d7_1) rfl (l' := #[.val (.ref o0), .val (.int p1), .val (.int (-1 : Int32)), .unset]) rfl ?_
    show Steps p.tables e below (s₁.setTop (mkF m 2 #[.val (.ref o0), .val (.int p1), .val (.int (-1 : Int32)), .unset] [])) _
    refine XS.iconst X0.here hx rfl (hb hby d7_2) ?_
    show Steps p.tables e below (s₁.setTop (mkF m 3 #[.val (.ref o0), .val (.int p1), .val (.int (-1 : Int32)), .unset] [(.int (0 : Int32))])) _
    refine XS.istoreN X0.here hx rfl (hb hby d7_3) rfl (l' := #[.val (.ref o0), .val (.int p1), .val (.int (-1 : Int32)), .val (.int (0 : Int32))]) rfl ?_
    show Steps p.tables e below (s₁.setTop (mkF m 4 #[.val (.ref o0), .val (.int p1), .val (.int (-1 : Int32)), .val (.int (0 : Int32))] [])) _
    refine XS.iloadN X0.here hx rfl (hb hby d7_4) rfl ?_
    show Steps p.tables e below (s₁.setTop (mkF m 5 #[.val (.ref o0), .val (.int p1), .val (.int (-1 : Int32)), .val (.int (0 : Int32))] [(.int (0 : Int32))])) _
    refine XS.aloadN X0.here hx rfl (hb hby d7_5) rfl rfl ?_
    show Steps p.tables e below (s₁.setTop (mkF m 6 #[.val (.ref o0), .val (.int p1), .val (.int (-1 : Int32)), .val (.int (0 : Int32))] [(.ref o0), (.int (0 : Int32))])) _
    refine st1 _ ?_
    show Steps p.tables e below (T1.setTop (mkF m 9 #[.val (.ref o0), .val (.int p1), .val (.int (-1 : Int32)), .val (.int (0 : Int32))] [(.ref ar), (.int (0 : Int32))])) _
    refine X1.arraylength hx (by rw [e1]; exact Ar2.1) (State.isArrayOf_alike hZ.alike Ar2.2.1) (g := (mkF m 9 #[.val (.ref o0), .val (.int p1), .val (.int (-1 : Int32)), .val (.int (0 : Int32))] [(.ref ar), (.int (0 : Int32))])) rfl rfl (hb hby d7_9) _ ?_
    rw [len_of Sz2 Ng2]
    show Steps p.tables e below (T1.setTop (mkF m 10 #[.val (.ref o0), .val (.int p1), .val (.int (-1 : Int32)), .val (.int (0 : Int32))] [(.int (4 : Int32)), (.int (0 : Int32))])) _
    refine XS.icmpNo X1.here hx rfl (hb hby d7_10) rfl (tlt (by decide : (0 : Int32) < (4 : Int32))).2.1 ?_
    show Steps p.tables e below (T1.setTop (mkF m 13 #[.val (.ref o0), .val (.int p1), .val (.int (-1 : Int32)), .val (.int (0 : Int32))] [])) _
    refine XS.iloadN X1.here hx rfl (hb hby d7_13) rfl ?_
    show Steps p.tables e below (T1.setTop (mkF m 14 #[.val (.ref o0), .val (.int p1), .val (.int (-1 : Int32)), .val (.int (0 : Int32))] [(.int (-1 : Int32))])) _
    refine XS.ifNo X1.here hx rfl (hb hby d7_14) rfl ((if0 _ _).trans (tlt (by decide : (-1 : Int32) < (0 : Int32))).2.1) ?_
    show Steps p.tables e below (T1.setTop (mkF m 17 #[.val (.ref o0), .val (.int p1), .val (.int (-1 : Int32)), .val (.int (0 : Int32))] [])) _
    refine XS.aloadN X1.here hx rfl (hb hby d7_17) rfl rfl ?_
    show Steps p.tables e below (T1.setTop (mkF m 18 #[.val (.ref o0), .val (.int p1), .val (.int (-1 : Int32)), .val (.int (0 : Int32))] [(.ref o0)])) _
    refine st3 _ ?_
    show Steps p.tables e below (T3.setTop (mkF m 21 #[.val (.ref o0), .val (.int p1), .val (.int (-1 : Int32)), .val (.int (0 : Int32))] [(.ref ar)])) _
    refine XS.iloadN X3.here hx rfl (hb hby d7_21) rfl ?_
    show Steps p.tables e below (T3.setTop (mkF m 22 #[.val (.ref o0), .val (.int p1), .val (.int (-1 : Int32)), .val (.int (0 : Int32))] [(.int (0 : Int32)), (.ref ar)])) _
    refine X3.iaload hx (j := (0 : Int32)) (v := (.int x0)) (by rw [e3]; exact Ar4.1) (State.isArrayOf_alike hZ.alike Ar4.2.1) Ar4.2.2 hin4 hat4 (g := (mkF m 22 #[.val (.ref o0), .val (.int p1), .val (.int (-1 : Int32)), .val (.int (0 : Int32))] [(.int (0 : Int32)), (.ref ar)])) rfl rfl (hb hby d7_22) _ ?_
    show Steps p.tables e below (T3.setTop (mkF m 23 #[.val (.ref o0), .val (.int p1), .val (.int (-1 : Int32)), .val (.int (0 : Int32))] [(.int x0)])) _
    refine XS.iloadN X3.here hx rfl (hb hby d7_23) rfl ?_
    show Steps p.tables e below (T3.setTop (mkF m 24 #[.val (.ref o0), .val (.int p1), .val (.int (-1 : Int32)), .val (.int (0 : Int32))] [(.int p1), (.int x0)])) _
    refine XS.icmpYes X3.here hx rfl (pc0 := 24) (pc' := 38) rfl (hb hby d7_24) rfl (feq q0).2 (by decide) (by decide) ?_
    show Steps p.tables e below (T3.setTop (mkF m 38 #[.val (.ref o0), .val (.int p1), .val (.int (-1 : Int32)), .val (.int (0 : Int32))] [])) _
    refine XS.iconst X3.here hx rfl (hb hby d7_38) ?_
    show Steps p.tables e below (T3.setTop (mkF m 39 #[.val (.ref o0), .val (.int p1), .val (.int (-1 : Int32)), .val (.int (0 : Int32))] [(.int (-1 : Int32))])) _
    refine XS.istoreN X3.here hx rfl (hb hby d7_39) rfl (l' := #[.val (.ref o0), .val (.int p1), .val (.int (-1 : Int32)), .val (.int (0 : Int32))]) rfl ?_
    show Steps p.tables e below (T3.setTop (mkF m 40 #[.val (.ref o0), .val (.int p1), .val (.int (-1 : Int32)), .val (.int (0 : Int32))] [])) _
    refine XS.iinc X3.here hx rfl (hb hby d7_40) rfl (l' := #[.val (.ref o0), .val (.int p1), .val (.int (-1 : Int32)), .val (.int (2 : Int32))]) rfl ?_
    show Steps p.tables e below (T3.setTop (mkF m 43 #[.val (.ref o0), .val (.int p1), .val (.int (-1 : Int32)), .val (.int (2 : Int32))] [])) _
    refine XS.goto X3.here hx rfl (pc0 := 43) (pc' := 4) rfl (hb hby d7_43) (by decide) (by decide) ?_
    show Steps p.tables e below (T3.setTop (mkF m 4 #[.val (.ref o0), .val (.int p1), .val (.int (-1 : Int32)), .val (.int (2 : Int32))] [])) _
    refine XS.iloadN X3.here hx rfl (hb hby d7_4) rfl ?_
    show Steps p.tables e below (T3.setTop (mkF m 5 #[.val (.ref o0), .val (.int p1), .val (.int (-1 : Int32)), .val (.int (2 : Int32))] [(.int (2 : Int32))])) _
    refine XS.aloadN X3.here hx rfl (hb hby d7_5) rfl rfl ?_
    show Steps p.tables e below (T3.setTop (mkF m 6 #[.val (.ref o0), .val (.int p1), .val (.int (-1 : Int32)), .val (.int (2 : Int32))] [(.ref o0), (.int (2 : Int32))])) _
    refine st5 _ ?_
    show Steps p.tables e below (T5.setTop (mkF m 9 #[.val (.ref o0), .val (.int p1), .val (.int (-1 : Int32)), .val (.int (2 : Int32))] [(.ref ar), (.int (2 : Int32))])) _
    refine X5.arraylength hx (by rw [e5]; exact Ar6.1) (State.isArrayOf_alike hZ.alike Ar6.2.1) (g := (mkF m 9 #[.val (.ref o0), .val (.int p1), .val (.int (-1 : Int32)), .val (.int (2 : Int32))] [(.ref ar), (.int (2 : Int32))])) rfl rfl (hb hby d7_9) _ ?_
    rw [len_of Sz6 Ng6]
    show Steps p.tables e below (T5.setTop (mkF m 10 #[.val (.ref o0), .val (.int p1), .val (.int (-1 : Int32)), .val (.int (2 : Int32))] [(.int (4 : Int32)), (.int (2 : Int32))])) _
    refine XS.icmpNo X5.here hx rfl (hb hby d7_10) rfl (tlt (by decide : (2 : Int32) < (4 : Int32))).2.1 ?_
    show Steps p.tables e below (T5.setTop (mkF m 13 #[.val (.ref o0), .val (.int p1), .val (.int (-1 : Int32)), .val (.int (2 : Int32))] [])) _
    refine XS.iloadN X5.here hx rfl (hb hby d7_13) rfl ?_
    show Steps p.tables e below (T5.setTop (mkF m 14 #[.val (.ref o0), .val (.int p1), .val (.int (-1 : Int32)), .val (.int (2 : Int32))] [(.int (-1 : Int32))])) _
    refine XS.ifNo X5.here hx rfl (hb hby d7_14) rfl ((if0 _ _).trans (tlt (by decide : (-1 : Int32) < (0 : Int32))).2.1) ?_
    show Steps p.tables e below (T5.setTop (mkF m 17 #[.val (.ref o0), .val (.int p1), .val (.int (-1 : Int32)), .val (.int (2 : Int32))] [])) _
    refine XS.aloadN X5.here hx rfl (hb hby d7_17) rfl rfl ?_
    show Steps p.tables e below (T5.setTop (mkF m 18 #[.val (.ref o0), .val (.int p1), .val (.int (-1 : Int32)), .val (.int (2 : Int32))] [(.ref o0)])) _
    refine st7 _ ?_
    show Steps p.tables e below (T7.setTop (mkF m 21 #[.val (.ref o0), .val (.int p1), .val (.int (-1 : Int32)), .val (.int (2 : Int32))] [(.ref ar)])) _
    refine XS.iloadN X7.here hx rfl (hb hby d7_21) rfl ?_
    show Steps p.tables e below (T7.setTop (mkF m 22 #[.val (.ref o0), .val (.int p1), .val (.int (-1 : Int32)), .val (.int (2 : Int32))] [(.int (2 : Int32)), (.ref ar)])) _
    refine X7.iaload hx (j := (2 : Int32)) (v := (.int x1)) (by rw [e7]; exact Ar8.1) (State.isArrayOf_alike hZ.alike Ar8.2.1) Ar8.2.2 hin8 hat8 (g := (mkF m 22 #[.val (.ref o0), .val (.int p1), .val (.int (-1 : Int32)), .val (.int (2 : Int32))] [(.int (2 : Int32)), (.ref ar)])) rfl rfl (hb hby d7_22) _ ?_
    show Steps p.tables e below (T7.setTop (mkF m 23 #[.val (.ref o0), .val (.int p1), .val (.int (-1 : Int32)), .val (.int (2 : Int32))] [(.int x1)])) _
    refine XS.iloadN X7.here hx rfl (hb hby d7_23) rfl ?_
    show Steps p.tables e below (T7.setTop (mkF m 24 #[.val (.ref o0), .val (.int p1), .val (.int (-1 : Int32)), .val (.int (2 : Int32))] [(.int p1), (.int x1)])) _
    refine XS.icmpNo X7.here hx rfl (hb hby d7_24) rfl (teq q1).2 ?_
    show Steps p.tables e below (T7.setTop (mkF m 27 #[.val (.ref o0), .val (.int p1), .val (.int (-1 : Int32)), .val (.int (2 : Int32))] [])) _
    refine XS.aloadN X7.here hx rfl (hb hby d7_27) rfl rfl ?_
    show Steps p.tables e below (T7.setTop (mkF m 28 #[.val (.ref o0), .val (.int p1), .val (.int (-1 : Int32)), .val (.int (2 : Int32))] [(.ref o0)])) _
    refine st9 _ ?_
    show Steps p.tables e below (T9.setTop (mkF m 31 #[.val (.ref o0), .val (.int p1), .val (.int (-1 : Int32)), .val (.int (2 : Int32))] [(.ref ar)])) _
    refine XS.iloadN X9.here hx rfl (hb hby d7_31) rfl ?_
    show Steps p.tables e below (T9.setTop (mkF m 32 #[.val (.ref o0), .val (.int p1), .val (.int (-1 : Int32)), .val (.int (2 : Int32))] [(.int (2 : Int32)), (.ref ar)])) _
    refine XS.iconst X9.here hx rfl (hb hby d7_32) ?_
    show Steps p.tables e below (T9.setTop (mkF m 33 #[.val (.ref o0), .val (.int p1), .val (.int (-1 : Int32)), .val (.int (2 : Int32))] [(.int (1 : Int32)), (.int (2 : Int32)), (.ref ar)])) _
    refine XS.iadd X9.here hx rfl (hb hby d7_33) rfl ?_
    show Steps p.tables e below (T9.setTop (mkF m 34 #[.val (.ref o0), .val (.int p1), .val (.int (-1 : Int32)), .val (.int (2 : Int32))] [(.int (3 : Int32)), (.ref ar)])) _
    refine X9.iaload hx (j := (3 : Int32)) (v := (.int y1)) (by rw [e9]; exact Ar10.1) (State.isArrayOf_alike hZ.alike Ar10.2.1) Ar10.2.2 hin10 hat10 (g := (mkF m 34 #[.val (.ref o0), .val (.int p1), .val (.int (-1 : Int32)), .val (.int (2 : Int32))] [(.int (3 : Int32)), (.ref ar)])) rfl rfl (hb hby d7_34) _ ?_
    show Steps p.tables e below (T9.setTop (mkF m 35 #[.val (.ref o0), .val (.int p1), .val (.int (-1 : Int32)), .val (.int (2 : Int32))] [(.int y1)])) _
    refine XS.goto X9.here hx rfl (pc0 := 35) (pc' := 39) rfl (hb hby d7_35) (by decide) (by decide) ?_
    show Steps p.tables e below (T9.setTop (mkF m 39 #[.val (.ref o0), .val (.int p1), .val (.int (-1 : Int32)), .val (.int (2 : Int32))] [(.int y1)])) _
    refine XS.istoreN X9.here hx rfl (hb hby d7_39) rfl (l' := #[.val (.ref o0), .val (.int p1), .val (.int y1), .val (.int (2 : Int32))]) rfl ?_
    show Steps p.tables e below (T9.setTop (mkF m 40 #[.val (.ref o0), .val (.int p1), .val (.int y1), .val (.int (2 : Int32))] [])) _
    refine XS.iinc X9.here hx rfl (hb hby d7_40) rfl (l' := #[.val (.ref o0), .val (.int p1), .val (.int y1), .val (.int (4 : Int32))]) rfl ?_
    show Steps p.tables e below (T9.setTop (mkF m 43 #[.val (.ref o0), .val (.int p1), .val (.int y1), .val (.int (4 : Int32))] [])) _
    refine XS.goto X9.here hx rfl (pc0 := 43) (pc' := 4) rfl (hb hby d7_43) (by decide) (by decide) ?_
    show Steps p.tables e below (T9.setTop (mkF m 4 #[.val (.ref o0), .val (.int p1), .val (.int y1), .val (.int (4 : Int32))] [])) _
    refine XS.iloadN X9.here hx rfl (hb hby d7_4) rfl ?_
    show Steps p.tables e below (T9.setTop (mkF m 5 #[.val (.ref o0), .val (.int p1), .val (.int y1), .val (.int (4 : Int32))] [(.int (4 : Int32))])) _
    refine XS.aloadN X9.here hx rfl (hb hby d7_5) rfl rfl ?_
    show Steps p.tables e below (T9.setTop (mkF m 6 #[.val (.ref o0), .val (.int p1), .val (.int y1), .val (.int (4 : Int32))] [(.ref o0), (.int (4 : Int32))])) _
    refine st11 _ ?_
    show Steps p.tables e below (T11.setTop (mkF m 9 #[.val (.ref o0), .val (.int p1), .val (.int y1), .val (.int (4 : Int32))] [(.ref ar), (.int (4 : Int32))])) _
    refine X11.arraylength hx (by rw [e11]; exact Ar12.1) (State.isArrayOf_alike hZ.alike Ar12.2.1) (g := (mkF m 9 #[.val (.ref o0), .val (.int p1), .val (.int y1), .val (.int (4 : Int32))] [(.ref ar), (.int (4 : Int32))])) rfl rfl (hb hby d7_9) _ ?_
    rw [len_of Sz12 Ng12]
    show Steps p.tables e below (T11.setTop (mkF m 10 #[.val (.ref o0), .val (.int p1), .val (.int y1), .val (.int (4 : Int32))] [(.int (4 : Int32)), (.int (4 : Int32))])) _
    refine XS.icmpYes X11.here hx rfl (pc0 := 10) (pc' := 46) rfl (hb hby d7_10) rfl (flt (by decide : ¬ ((4 : Int32) < (4 : Int32)))).2.1 (by decide) (by decide) ?_
    show Steps p.tables e below (T11.setTop (mkF m 46 #[.val (.ref o0), .val (.int p1), .val (.int y1), .val (.int (4 : Int32))] [])) _
    refine XS.iloadN X11.here hx rfl (hb hby d7_46) rfl ?_
    show Steps p.tables e below (T11.setTop (mkF m 47 #[.val (.ref o0), .val (.int p1), .val (.int y1), .val (.int (4 : Int32))] [(.int y1)])) _
    exact retI X11 hx Bd.returns (hb hby d7_47) hr
  · show own_Q (.int (own_get [(x0, y0), (x1, y1)] p1)) h0 n0 _ T11.heap _
    rw [e11]
    exact by
      rw [hG]
      exact ⟨rfl, N0, rfl⟩
set_option maxRecDepth 65536 in
set_option maxHeartbeats 40000000 in
theorem rmG2n (l : Launch) (Z : State) (a0 : Array Value) (hw : ∀ d ∈ tables_1, d.before a0 Z = true) (ws : List Jvm.Cond) (o0 : Addr) (p1 : Int32) (x0 : Int32) (y0 : Int32) (x1 : Int32) (y1 : Int32) (ar : Addr) (ka : ClassId) (h0 : Heap) (n0 : Nat) (O0 : Old Z n0 h0) (F_agendaPlaces_o0 : Fld Z h0 o0 "com/example/kvasir/kvasir/tableau/Node" "agendaPlaces" "[I" (.ref ar)) (V_ar : Arv Z h0 ar ka .int (4 : Int32) [(.int x0), (.int y0), (.int x1), (.int y1)] (.int (0 : Int32))) (q0 : ¬ (x0 = p1)) (q1 : ¬ (x1 = p1)) :
    MetFree l (⟨"com/example/kvasir/kvasir/tableau/Node", "agendaPlace", "(I)I"⟩ : MethodName) (head1 (Jvm.Cond.code (⟨"com/example/kvasir/kvasir/tableau/Node", "agendaPlace", "(I)I"⟩ : MethodName) prog_32_method_53_code 4 (some .int) :: ws) ({ frames := 0, cells := 0, slots := 0, locals := 0 } : Room)) (fun a U => a = #[(.ref o0), (.int p1)] ∧ Z.Warmed39 U.vm ∧ U.heap = h0) (fun _ _ _ _ _ => True) (fun _ U o U' => ∃ v L, o = .returned v ∧ own_Q (.int (own_get [(x0, y0), (x1, y1)] p1)) h0 n0 v U'.heap L ∧ FrameEnd U o U' L ({ frames := 0, cells := 0, slots := 0, locals := 0 } : Room).cells ({ frames := 0, cells := 0, slots := 0, locals := 0 } : Room).slots) := by
  refine MetFree.of_bodySF (plainFor_of_name pn_7) hisR ?_
  intro p e s m args below meth c s₁ Bd hml0 hP hK
  obtain ⟨rfl, hZ, hh⟩ := hP
  have hx := Bd.exec
  have hby := Bd.bytes
  have hml : c.maxLocals = 4 := hml0
  have hown : s.vm.findClass "com/example/kvasir/kvasir/tableau/Node" = some m.cls := findClass_of_methodNamed Bd.named
  have hnm := (name_of_methodNamed Bd.named Bd.method).1
  have X0 : Stand p l e ({ frames := 0, cells := 0, slots := 0, locals := 0 } : Room) s m #[(.ref o0), (.int p1)] below meth c s₁ [] 0 0 := Stand.of_body Bd
  have e0 : s₁.heap = h0 := by rw [← hh, Bd.state]; rfl
  have N0 := Fr.nil n0
  have pre0 : ∀ t, Steps p.tables e below (s₁.setTop (mkF m 0 #[.val (.ref o0), .val (.int p1), .unset, .unset] [])) t → Steps p.tables e below (s₁.setTop (entryFrame m #[(.ref o0), (.int p1)] 4)) t := fun t k => castTop (ef_7 m o0 p1) k
  obtain ⟨T1, X1, e1, st1⟩ := getF X0 hx hZ hown (host := "") (Or.inl (hw _ (List.mem_of_getElem? (i := 41) rfl))) Via.refl e0 F_agendaPlaces_o0 (g := (mkF m 6 #[.val (.ref o0), .val (.int p1), .val (.int (-1 : Int32)), .val (.int (0 : Int32))] [(.ref o0), (.int (0 : Int32))])) rfl rfl (hb hby d7_6)
  obtain ⟨cl2, Ar2, qa2, Sz2, Ng2, Hs2, Ft2⟩ := V_ar
  have V2o : Arv Z h0 ar ka .int (4 : Int32) [(.int x0), (.int y0), (.int x1), (.int y1)] (.int (0 : Int32)) := ⟨cl2, Ar2, qa2, Sz2, Ng2, Hs2, Ft2⟩
  obtain ⟨T3, X3, e3, st3⟩ := getF X1 hx hZ hown (host := "") (Or.inl (hw _ (List.mem_of_getElem? (i := 41) rfl))) Via.refl e1 F_agendaPlaces_o0 (g := (mkF m 18 #[.val (.ref o0), .val (.int p1), .val (.int (-1 : Int32)), .val (.int (0 : Int32))] [(.ref o0)])) rfl rfl (hb hby d7_18)
  obtain ⟨cl4, Ar4, qa4, Sz4, Ng4, Hs4, Ft4⟩ := V2o
  have hin4 := (inb_of (j := (0 : Int32)) Sz4 ⟨by decide, by decide⟩)
  have hat4 := Hs4.at (v := (.int x0)) hin4 rfl
  have V4o : Arv Z h0 ar ka .int (4 : Int32) [(.int x0), (.int y0), (.int x1), (.int y1)] (.int (0 : Int32)) := ⟨cl4, Ar4, qa4, Sz4, Ng4, Hs4, Ft4⟩
  obtain ⟨T5, X5, e5, st5⟩ := getF X3 hx hZ hown (host := "") (Or.inl (hw _ (List.mem_of_getElem? (i := 41) rfl))) Via.refl e3 F_agendaPlaces_o0 (g := (mkF m 6 #[.val (.ref o0), .val (.int p1), .val (.int (-1 : Int32)), .val (.int (2 : Int32))] [(.ref o0), (.int (2 : Int32))])) rfl rfl (hb hby d7_6)
  obtain ⟨cl6, Ar6, qa6, Sz6, Ng6, Hs6, Ft6⟩ := V4o
  have V6o : Arv Z h0 ar ka .int (4 : Int32) [(.int x0), (.int y0), (.int x1), (.int y1)] (.int (0 : Int32)) := ⟨cl6, Ar6, qa6, Sz6, Ng6, Hs6, Ft6⟩
  obtain ⟨T7, X7, e7, st7⟩ := getF X5 hx hZ hown (host := "") (Or.inl (hw _ (List.mem_of_getElem? (i := 41) rfl))) Via.refl e5 F_agendaPlaces_o0 (g := (mkF m 18 #[.val (.ref o0), .val (.int p1), .val (.int (-1 : Int32)), .val (.int (2 : Int32))] [(.ref o0)])) rfl rfl (hb hby d7_18)
  obtain ⟨cl8, Ar8, qa8, Sz8, Ng8, Hs8, Ft8⟩ := V6o
  have hin8 := (inb_of (j := (2 : Int32)) Sz8 ⟨by decide, by decide⟩)
  have hat8 := Hs8.at (v := (.int x1)) hin8 rfl
  have V8o : Arv Z h0 ar ka .int (4 : Int32) [(.int x0), (.int y0), (.int x1), (.int y1)] (.int (0 : Int32)) := ⟨cl8, Ar8, qa8, Sz8, Ng8, Hs8, Ft8⟩
  obtain ⟨T9, X9, e9, st9⟩ := getF X7 hx hZ hown (host := "") (Or.inl (hw _ (List.mem_of_getElem? (i := 41) rfl))) Via.refl e7 F_agendaPlaces_o0 (g := (mkF m 6 #[.val (.ref o0), .val (.int p1), .val (.int (-1 : Int32)), .val (.int (4 : Int32))] [(.ref o0), (.int (4 : Int32))])) rfl rfl (hb hby d7_6)
  obtain ⟨cl10, Ar10, qa10, Sz10, Ng10, Hs10, Ft10⟩ := V8o
  have V10o : Arv Z h0 ar ka .int (4 : Int32) [(.int x0), (.int y0), (.int x1), (.int y1)] (.int (0 : Int32)) := ⟨cl10, Ar10, qa10, Sz10, Ng10, Hs10, Ft10⟩
  have hG : own_get [(x0, y0), (x1, y1)] p1 = (-1 : Int32) := by simp [own_get, q0, q1]
  obtain ⟨fs, hr, hrun, hended, hW, hsame⟩ := X9.leave (v := some (.int (-1 : Int32))) (fun h => by rw [Bd.returns] at h; cases h)
  refine ⟨_, _, pre0 _ ?_, hrun, hended, _, _, rfl, ?_, ⟨_, rfl⟩, hW, hsame.mono (by decide) (by decide)⟩
  · show Steps p.tables e below (s₁.setTop (mkF m 0 #[.val (.ref o0), .val (.int p1), .unset, .unset] [])) _
    refine XS.iconst X0.here hx rfl (hb hby d7_0) ?_
    show Steps p.tables e below (s₁.setTop (mkF m 1 #[.val (.ref o0), .val (.int p1), .unset, .unset] [(.int (-1 : Int32))])) _
    refine XS.istoreN X0.here hx rfl (hb hby d7_1) rfl (l' := #[.val (.ref o0), .val (.int p1), .val (.int (-1 : Int32)), .unset]) rfl ?_
    show Steps p.tables e below (s₁.setTop (mkF m 2 #[.val (.ref o0), .val (.int p1), .val (.int (-1 : Int32)), .unset] [])) _
    refine XS.iconst X0.here hx rfl (hb hby d7_2) ?_
    show Steps p.tables e below (s₁.setTop (mkF m 3 #[.val (.ref o0), .val (.int p1), .val (.int (-1 : Int32)), .unset] [(.int (0 : Int32))])) _
    refine XS.istoreN X0.here hx rfl (hb hby d7_3) rfl (l' := #[.val (.ref o0), .val (.int p1), .val (.int (-1 : Int32)), .val (.int (0 : Int32))]) rfl ?_
    show Steps p.tables e below (s₁.setTop (mkF m 4 #[.val (.ref o0), .val (.int p1), .val (.int (-1 : Int32)), .val (.int (0 : Int32))] [])) _
    refine XS.iloadN X0.here hx rfl (hb hby d7_4) rfl ?_
    show Steps p.tables e below (s₁.setTop (mkF m 5 #[.val (.ref o0), .val (.int p1), .val (.int (-1 : Int32)), .val (.int (0 : Int32))] [(.int (0 : Int32))])) _
    refine XS.aloadN X0.here hx rfl (hb hby d7_5) rfl rfl ?_
    show Steps p.tables e below (s₁.setTop (mkF m 6 #[.val (.ref o0), .val (.int p1), .val (.int (-1 : Int32)), .val (.int (0 : Int32))] [(.ref o0), (.int (0 : Int32))])) _
    refine st1 _ ?_
    show Steps p.tables e below (T1.setTop (mkF m 9 #[.val (.ref o0), .val (.int p1), .val (.int (-1 : Int32)), .val (.int (0 : Int32))] [(.ref ar), (.int (0 : Int32))])) _
    refine X1.arraylength hx (by rw [e1]; exact Ar2.1) (State.isArrayOf_alike hZ.alike Ar2.2.1) (g := (mkF m 9 #[.val (.ref o0), .val (.int p1), .val (.int (-1 : Int32)), .val (.int (0 : Int32))] [(.ref ar), (.int (0 : Int32))])) rfl rfl (hb hby d7_9) _ ?_
    rw [len_of Sz2 Ng2]
    show Steps p.tables e below (T1.setTop (mkF m 10 #[.val (.ref o0), .val (.int p1), .val (.int (-1 : Int32)), .val (.int (0 : Int32))] [(.int (4 : Int32)), (.int (0 : Int32))])) _
    refine XS.icmpNo X1.here hx rfl (hb hby d7_10) rfl (tlt (by decide : (0 : Int32) < (4 : Int32))).2.1 ?_
    show Steps p.tables e below (T1.setTop (mkF m 13 #[.val (.ref o0), .val (.int p1), .val (.int (-1 : Int32)), .val (.int (0 : Int32))] [])) _
    refine XS.iloadN X1.here hx rfl (hb hby d7_13) rfl ?_
    show Steps p.tables e below (T1.setTop (mkF m 14 #[.val (.ref o0), .val (.int p1), .val (.int (-1 : Int32)), .val (.int (0 : Int32))] [(.int (-1 : Int32))])) _
    refine XS.ifNo X1.here hx rfl (hb hby d7_14) rfl ((if0 _ _).trans (tlt (by decide : (-1 : Int32) < (0 : Int32))).2.1) ?_
    show Steps p.tables e below (T1.setTop (mkF m 17 #[.val (.ref o0), .val (.int p1), .val (.int (-1 : Int32)), .val (.int (0 : Int32))] [])) _
    refine XS.aloadN X1.here hx rfl (hb hby d7_17) rfl rfl ?_
    show Steps p.tables e below (T1.setTop (mkF m 18 #[.val (.ref o0), .val (.int p1), .val (.int (-1 : Int32)), .val (.int (0 : Int32))] [(.ref o0)])) _
    refine st3 _ ?_
    show Steps p.tables e below (T3.setTop (mkF m 21 #[.val (.ref o0), .val (.int p1), .val (.int (-1 : Int32)), .val (.int (0 : Int32))] [(.ref ar)])) _
    refine XS.iloadN X3.here hx rfl (hb hby d7_21) rfl ?_
    show Steps p.tables e below (T3.setTop (mkF m 22 #[.val (.ref o0), .val (.int p1), .val (.int (-1 : Int32)), .val (.int (0 : Int32))] [(.int (0 : Int32)), (.ref ar)])) _
    refine X3.iaload hx (j := (0 : Int32)) (v := (.int x0)) (by rw [e3]; exact Ar4.1) (State.isArrayOf_alike hZ.alike Ar4.2.1) Ar4.2.2 hin4 hat4 (g := (mkF m 22 #[.val (.ref o0), .val (.int p1), .val (.int (-1 : Int32)), .val (.int (0 : Int32))] [(.int (0 : Int32)), (.ref ar)])) rfl rfl (hb hby d7_22) _ ?_
    show Steps p.tables e below (T3.setTop (mkF m 23 #[.val (.ref o0), .val (.int p1), .val (.int (-1 : Int32)), .val (.int (0 : Int32))] [(.int x0)])) _
    refine XS.iloadN X3.here hx rfl (hb hby d7_23) rfl ?_
    show Steps p.tables e below (T3.setTop (mkF m 24 #[.val (.ref o0), .val (.int p1), .val (.int (-1 : Int32)), .val (.int (0 : Int32))] [(.int p1), (.int x0)])) _
    refine XS.icmpYes X3.here hx rfl (pc0 := 24) (pc' := 38) rfl (hb hby d7_24) rfl (feq q0).2 (by decide) (by decide) ?_
    show Steps p.tables e below (T3.setTop (mkF m 38 #[.val (.ref o0), .val (.int p1), .val (.int (-1 : Int32)), .val (.int (0 : Int32))] [])) _
    refine XS.iconst X3.here hx rfl (hb hby d7_38) ?_
    show Steps p.tables e below (T3.setTop (mkF m 39 #[.val (.ref o0), .val (.int p1), .val (.int (-1 : Int32)), .val (.int (0 : Int32))] [(.int (-1 : Int32))])) _
    refine XS.istoreN X3.here hx rfl (hb hby d7_39) rfl (l' := #[.val (.ref o0), .val (.int p1), .val (.int (-1 : Int32)), .val (.int (0 : Int32))]) rfl ?_
    show Steps p.tables e below (T3.setTop (mkF m 40 #[.val (.ref o0), .val (.int p1), .val (.int (-1 : Int32)), .val (.int (0 : Int32))] [])) _
    refine XS.iinc X3.here hx rfl (hb hby d7_40) rfl (l' := #[.val (.ref o0), .val (.int p1), .val (.int (-1 : Int32)), .val (.int (2 : Int32))]) rfl ?_
    show Steps p.tables e below (T3.setTop (mkF m 43 #[.val (.ref o0), .val (.int p1), .val (.int (-1 : Int32)), .val (.int (2 : Int32))] [])) _
    refine XS.goto X3.here hx rfl (pc0 := 43) (pc' := 4) rfl (hb hby d7_43) (by decide) (by decide) ?_
    show Steps p.tables e below (T3.setTop (mkF m 4 #[.val (.ref o0), .val (.int p1), .val (.int (-1 : Int32)), .val (.int (2 : Int32))] [])) _
    refine XS.iloadN X3.here hx rfl (hb hby d7_4) rfl ?_
    show Steps p.tables e below (T3.setTop (mkF m 5 #[.val (.ref o0), .val (.int p1), .val (.int (-1 : Int32)), .val (.int (2 : Int32))] [(.int (2 : Int32))])) _
    refine XS.aloadN X3.here hx rfl (hb hby d7_5) rfl rfl ?_
    show Steps p.tables e below (T3.setTop (mkF m 6 #[.val (.ref o0), .val (.int p1), .val (.int (-1 : Int32)), .val (.int (2 : Int32))] [(.ref o0), (.int (2 : Int32))])) _
    refine st5 _ ?_
    show Steps p.tables e below (T5.setTop (mkF m 9 #[.val (.ref o0), .val (.int p1), .val (.int (-1 : Int32)), .val (.int (2 : Int32))] [(.ref ar), (.int (2 : Int32))])) _
    refine X5.arraylength hx (by rw [e5]; exact Ar6.1) (State.isArrayOf_alike hZ.alike Ar6.2.1) (g := (mkF m 9 #[.val (.ref o0), .val (.int p1), .val (.int (-1 : Int32)), .val (.int (2 : Int32))] [(.ref ar), (.int (2 : Int32))])) rfl rfl (hb hby d7_9) _ ?_
    rw [len_of Sz6 Ng6]
    show Steps p.tables e below (T5.setTop (mkF m 10 #[.val (.ref o0), .val (.int p1), .val (.int (-1 : Int32)), .val (.int (2 : Int32))] [(.int (4 : Int32)), (.int (2 : Int32))])) _
    refine XS.icmpNo X5.here hx rfl (hb hby d7_10) rfl (tlt (by decide : (2 : Int32) < (4 : Int32))).2.1 ?_
    show Steps p.tables e below (T5.setTop (mkF m 13 #[.val (.ref o0), .val (.int p1), .val (.int (-1 : Int32)), .val (.int (2 : Int32))] [])) _
    refine XS.iloadN X5.here hx rfl (hb hby d7_13) rfl ?_
    show Steps p.tables e below (T5.setTop (mkF m 14 #[.val (.ref o0), .val (.int p1), .val (.int (-1 : Int32)), .val (.int (2 : Int32))] [(.int (-1 : Int32))])) _
    refine XS.ifNo X5.here hx rfl (hb hby d7_14) rfl ((if0 _ _).trans (tlt (by decide : (-1 : Int32) < (0 : Int32))).2.1) ?_
    show Steps p.tables e below (T5.setTop (mkF m 17 #[.val (.ref o0), .val (.int p1), .val (.int (-1 : Int32)), .val (.int (2 : Int32))] [])) _
    refine XS.aloadN X5.here hx rfl (hb hby d7_17) rfl rfl ?_
    show Steps p.tables e below (T5.setTop (mkF m 18 #[.val (.ref o0), .val (.int p1), .val (.int (-1 : Int32)), .val (.int (2 : Int32))] [(.ref o0)])) _
    refine st7 _ ?_
    show Steps p.tables e below (T7.setTop (mkF m 21 #[.val (.ref o0), .val (.int p1), .val (.int (-1 : Int32)), .val (.int (2 : Int32))] [(.ref ar)])) _
    refine XS.iloadN X7.here hx rfl (hb hby d7_21) rfl ?_
    show Steps p.tables e below (T7.setTop (mkF m 22 #[.val (.ref o0), .val (.int p1), .val (.int (-1 : Int32)), .val (.int (2 : Int32))] [(.int (2 : Int32)), (.ref ar)])) _
    refine X7.iaload hx (j := (2 : Int32)) (v := (.int x1)) (by rw [e7]; exact Ar8.1) (State.isArrayOf_alike hZ.alike Ar8.2.1) Ar8.2.2 hin8 hat8 (g := (mkF m 22 #[.val (.ref o0), .val (.int p1), .val (.int (-1 : Int32)), .val (.int (2 : Int32))] [(.int (2 : Int32)), (.ref ar)])) rfl rfl (hb hby d7_22) _ ?_
    show Steps p.tables e below (T7.setTop (mkF m 23 #[.val (.ref o0), .val (.int p1), .val (.int (-1 : Int32)), .val (.int (2 : Int32))] [(.int x1)])) _
    refine XS.iloadN X7.here hx rfl (hb hby d7_23) rfl ?_
    show Steps p.tables e below (T7.setTop (mkF m 24 #[.val (.ref o0), .val (.int p1), .val (.int (-1 : Int32)), .val (.int (2 : Int32))] [(.int p1), (.int x1)])) _
    refine XS.icmpYes X7.here hx rfl (pc0 := 24) (pc' := 38) rfl (hb hby d7_24) rfl (feq q1).2 (by decide) (by decide) ?_
    show Steps p.tables e below (T7.setTop (mkF m 38 #[.val (.ref o0), .val (.int p1), .val (.int (-1 : Int32)), .val (.int (2 : Int32))] [])) _
    refine XS.iconst X7.here hx rfl (hb hby d7_38) ?_
    show Steps p.tables e below (T7.setTop (mkF m 39 #[.val (.ref o0), .val (.int p1), .val (.int (-1 : Int32)), .val (.int (2 : Int32))] [(.int (-1 : Int32))])) _
    refine XS.istoreN X7.here hx rfl (hb hby d7_39) rfl (l' := #[.val (.ref o0), .val (.int p1), .val (.int (-1 : Int32)), .val (.int (2 : Int32))]) rfl ?_
    show Steps p.tables e below (T7.setTop (mkF m 40 #[.val (.ref o0), .val (.int p1), .val (.int (-1 : Int32)), .val (.int (2 : Int32))] [])) _
    refine XS.iinc X7.here hx rfl (hb hby d7_40) rfl (l' := #[.val (.ref o0), .val (.int p1), .val (.int (-1 : Int32)), .val (.int (4 : Int32))]) rfl ?_
    show Steps p.tables e below (T7.setTop (mkF m 43 #[.val (.ref o0), .val (.int p1), .val (.int (-1 : Int32)), .val (.int (4 : Int32))] [])) _
    refine XS.goto X7.here hx rfl (pc0 := 43) (pc' := 4) rfl (hb hby d7_43) (by decide) (by decide) ?_
    show Steps p.tables e below (T7.setTop (mkF m 4 #[.val (.ref o0), .val (.int p1), .val (.int (-1 : Int32)), .val (.int (4 : Int32))] [])) _
    refine XS.iloadN X7.here hx rfl (hb hby d7_4) rfl ?_
    show Steps p.tables e below (T7.setTop (mkF m 5 #[.val (.ref o0), .val (.int p1), .val (.int (-1 : Int32)), .val (.int (4 : Int32))] [(.int (4 : Int32))])) _
    refine XS.aloadN X7.here hx rfl (hb hby d7_5) rfl rfl ?_
    show Steps p.tables e below (T7.setTop (mkF m 6 #[.val (.ref o0), .val (.int p1), .val (.int (-1 : Int32)), .val (.int (4 : Int32))] [(.ref o0), (.int (4 : Int32))])) _
    refine st9 _ ?_
    show Steps p.tables e below (T9.setTop (mkF m 9 #[.val (.ref o0), .val (.int p1), .val (.int (-1 : Int32)), .val (.int (4 : Int32))] [(.ref ar), (.int (4 : Int32))])) _
    refine X9.arraylength hx (by rw [e9]; exact Ar10.1) (State.isArrayOf_alike hZ.alike Ar10.2.1) (g := (mkF m 9 #[.val (.ref o0), .val (.int p1), .val (.int (-1 : Int32)), .val (.int (4 : Int32))] [(.ref ar), (.int (4 : Int32))])) rfl rfl (hb hby d7_9) _ ?_
    rw [len_of Sz10 Ng10]
    show Steps p.tables e below (T9.setTop (mkF m 10 #[.val (.ref o0), .val (.int p1), .val (.int (-1 : Int32)), .val (.int (4 : Int32))] [(.int (4 : Int32)), (.int (4 : Int32))])) _
    refine XS.icmpYes X9.here hx rfl (pc0 := 10) (pc' := 46) rfl (hb hby d7_10) rfl (flt (by decide : ¬ ((4 : Int32) < (4 : Int32)))).2.1 (by decide) (by decide) ?_
    show Steps p.tables e below (T9.setTop (mkF m 46 #[.val (.ref o0), .val (.int p1), .val (.int (-1 : Int32)), .val (.int (4 : Int32))] [])) _
    refine XS.iloadN X9.here hx rfl (hb hby d7_46) rfl ?_
    show Steps p.tables e below (T9.setTop (mkF m 47 #[.val (.ref o0), .val (.int p1), .val (.int (-1 : Int32)), .val (.int (4 : Int32))] [(.int (-1 : Int32))])) _
    exact retI X9 hx Bd.returns (hb hby d7_47) hr
  · show own_Q (.int (own_get [(x0, y0), (x1, y1)] p1)) h0 n0 _ T9.heap _
    rw [e9]
    exact by
      rw [hG]
      exact ⟨rfl, N0, rfl⟩
set_option maxRecDepth 65536 in
set_option maxHeartbeats 40000000 in
theorem rmG30 (l : Launch) (Z : State) (a0 : Array Value) (hw : ∀ d ∈ tables_1, d.before a0 Z = true) (ws : List Jvm.Cond) (o0 : Addr) (p1 : Int32) (x0 : Int32) (y0 : Int32) (x1 : Int32) (y1 : Int32) (x2 : Int32) (y2 : Int32) (ar : Addr) (ka : ClassId) (h0 : Heap) (n0 : Nat) (O0 : Old Z n0 h0) (F_agendaPlaces_o0 : Fld Z h0 o0 "com/example/kvasir/kvasir/tableau/Node" "agendaPlaces" "[I" (.ref ar)) (V_ar : Arv Z h0 ar ka .int (6 : Int32) [(.int x0), (.int y0), (.int x1), (.int y1), (.int x2), (.int y2)] (.int (0 : Int32))) (q0 : x0 = p1) (hy : ¬ y0 < (0 : Int32)) :
    MetFree l (⟨"com/example/kvasir/kvasir/tableau/Node", "agendaPlace", "(I)I"⟩ : MethodName) (head1 (Jvm.Cond.code (⟨"com/example/kvasir/kvasir/tableau/Node", "agendaPlace", "(I)I"⟩ : MethodName) prog_32_method_53_code 4 (some .int) :: ws) ({ frames := 0, cells := 0, slots := 0, locals := 0 } : Room)) (fun a U => a = #[(.ref o0), (.int p1)] ∧ Z.Warmed39 U.vm ∧ U.heap = h0) (fun _ _ _ _ _ => True) (fun _ U o U' => ∃ v L, o = .returned v ∧ own_Q (.int (own_get [(x0, y0), (x1, y1), (x2, y2)] p1)) h0 n0 v U'.heap L ∧ FrameEnd U o U' L ({ frames := 0, cells := 0, slots := 0, locals := 0 } : Room).cells ({ frames := 0, cells := 0, slots := 0, locals := 0 } : Room).slots) := by
  refine MetFree.of_bodySF (plainFor_of_name pn_7) hisR ?_
  intro p e s m args below meth c s₁ Bd hml0 hP hK
  obtain ⟨rfl, hZ, hh⟩ := hP
  have hx := Bd.exec
  have hby := Bd.bytes
  have hml : c.maxLocals = 4 := hml0
  have hown : s.vm.findClass "com/example/kvasir/kvasir/tableau/Node" = some m.cls := findClass_of_methodNamed Bd.named
  have hnm := (name_of_methodNamed Bd.named Bd.method).1
  have X0 : Stand p l e ({ frames := 0, cells := 0, slots := 0, locals := 0 } : Room) s m #[(.ref o0), (.int p1)] below meth c s₁ [] 0 0 := Stand.of_body Bd
  have e0 : s₁.heap = h0 := by rw [← hh, Bd.state]; rfl
  have N0 := Fr.nil n0
  have pre0 : ∀ t, Steps p.tables e below (s₁.setTop (mkF m 0 #[.val (.ref o0), .val (.int p1), .unset, .unset] [])) t → Steps p.tables e below (s₁.setTop (entryFrame m #[(.ref o0), (.int p1)] 4)) t := fun t k => castTop (ef_7 m o0 p1) k
  obtain ⟨T1, X1, e1, st1⟩ := getF X0 hx hZ hown (host := "") (Or.inl (hw _ (List.mem_of_getElem? (i := 41) rfl))) Via.refl e0 F_agendaPlaces_o0 (g := (mkF m 6 #[.val (.ref o0), .val (.int p1), .val (.int (-1 : Int32)), .val (.int (0 : Int32))] [(.ref o0), (.int (0 : Int32))])) rfl rfl (hb hby d7_6)
  obtain ⟨cl2, Ar2, qa2, Sz2, Ng2, Hs2, Ft2⟩ := V_ar
  have V2o : Arv Z h0 ar ka .int (6 : Int32) [(.int x0), (.int y0), (.int x1), (.int y1), (.int x2), (.int y2)] (.int (0 : Int32)) := ⟨cl2, Ar2, qa2, Sz2, Ng2, Hs2, Ft2⟩
  obtain ⟨T3, X3, e3, st3⟩ := getF X1 hx hZ hown (host := "") (Or.inl (hw _ (List.mem_of_getElem? (i := 41) rfl))) Via.refl e1 F_agendaPlaces_o0 (g := (mkF m 18 #[.val (.ref o0), .val (.int p1), .val (.int (-1 : Int32)), .val (.int (0 : Int32))] [(.ref o0)])) rfl rfl (hb hby d7_18)
  obtain ⟨cl4, Ar4, qa4, Sz4, Ng4, Hs4, Ft4⟩ := V2o
  have hin4 := (inb_of (j := (0 : Int32)) Sz4 ⟨by decide, by decide⟩)
  have hat4 := Hs4.at (v := (.int x0)) hin4 rfl
  have V4o : Arv Z h0 ar ka .int (6 : Int32) [(.int x0), (.int y0), (.int x1), (.int y1), (.int x2), (.int y2)] (.int (0 : Int32)) := ⟨cl4, Ar4, qa4, Sz4, Ng4, Hs4, Ft4⟩
  obtain ⟨T5, X5, e5, st5⟩ := getF X3 hx hZ hown (host := "") (Or.inl (hw _ (List.mem_of_getElem? (i := 41) rfl))) Via.refl e3 F_agendaPlaces_o0 (g := (mkF m 28 #[.val (.ref o0), .val (.int p1), .val (.int (-1 : Int32)), .val (.int (0 : Int32))] [(.ref o0)])) rfl rfl (hb hby d7_28)
  obtain ⟨cl6, Ar6, qa6, Sz6, Ng6, Hs6, Ft6⟩ := V4o
  have hin6 := (inb_of (j := (1 : Int32)) Sz6 ⟨by decide, by decide⟩)
  have hat6 := Hs6.at (v := (.int y0)) hin6 rfl
  have V6o : Arv Z h0 ar ka .int (6 : Int32) [(.int x0), (.int y0), (.int x1), (.int y1), (.int x2), (.int y2)] (.int (0 : Int32)) := ⟨cl6, Ar6, qa6, Sz6, Ng6, Hs6, Ft6⟩
  obtain ⟨T7, X7, e7, st7⟩ := getF X5 hx hZ hown (host := "") (Or.inl (hw _ (List.mem_of_getElem? (i := 41) rfl))) Via.refl e5 F_agendaPlaces_o0 (g := (mkF m 6 #[.val (.ref o0), .val (.int p1), .val (.int y0), .val (.int (2 : Int32))] [(.ref o0), (.int (2 : Int32))])) rfl rfl (hb hby d7_6)
  obtain ⟨cl8, Ar8, qa8, Sz8, Ng8, Hs8, Ft8⟩ := V6o
  have V8o : Arv Z h0 ar ka .int (6 : Int32) [(.int x0), (.int y0), (.int x1), (.int y1), (.int x2), (.int y2)] (.int (0 : Int32)) := ⟨cl8, Ar8, qa8, Sz8, Ng8, Hs8, Ft8⟩
  have hG : own_get [(x0, y0), (x1, y1), (x2, y2)] p1 = y0 := by simp [own_get, q0]
  obtain ⟨fs, hr, hrun, hended, hW, hsame⟩ := X7.leave (v := some (.int y0)) (fun h => by rw [Bd.returns] at h; cases h)
  refine ⟨_, _, pre0 _ ?_, hrun, hended, _, _, rfl, ?_, ⟨_, rfl⟩, hW, hsame.mono (by decide) (by decide)⟩
  · show Steps p.tables e below (s₁.setTop (mkF m 0 #[.val (.ref o0), .val (.int p1), .unset, .unset] [])) _
    refine XS.iconst X0.here hx rfl (hb hby d7_0) ?_
    show Steps p.tables e below (s₁.setTop (mkF m 1 #[.val (.ref o0), .val (.int p1), .unset, .unset] [(.int (-1 : Int32))])) _
    refine XS.istoreN X0.here hx rfl (hb hby d7_1) rfl (l' := #[.val (.ref o0), .val (.int p1), .val (.int (-1 : Int32)), .unset]) rfl ?_
    show Steps p.tables e below (s₁.setTop (mkF m 2 #[.val (.ref o0), .val (.int p1), .val (.int (-1 : Int32)), .unset] [])) _
    refine XS.iconst X0.here hx rfl (hb hby d7_2) ?_
    show Steps p.tables e below (s₁.setTop (mkF m 3 #[.val (.ref o0), .val (.int p1), .val (.int (-1 : Int32)), .unset] [(.int (0 : Int32))])) _
    refine XS.istoreN X0.here hx rfl (hb hby d7_3) rfl (l' := #[.val (.ref o0), .val (.int p1), .val (.int (-1 : Int32)), .val (.int (0 : Int32))]) rfl ?_
    show Steps p.tables e below (s₁.setTop (mkF m 4 #[.val (.ref o0), .val (.int p1), .val (.int (-1 : Int32)), .val (.int (0 : Int32))] [])) _
    refine XS.iloadN X0.here hx rfl (hb hby d7_4) rfl ?_
    show Steps p.tables e below (s₁.setTop (mkF m 5 #[.val (.ref o0), .val (.int p1), .val (.int (-1 : Int32)), .val (.int (0 : Int32))] [(.int (0 : Int32))])) _
    refine XS.aloadN X0.here hx rfl (hb hby d7_5) rfl rfl ?_
    show Steps p.tables e below (s₁.setTop (mkF m 6 #[.val (.ref o0), .val (.int p1), .val (.int (-1 : Int32)), .val (.int (0 : Int32))] [(.ref o0), (.int (0 : Int32))])) _
    refine st1 _ ?_
    show Steps p.tables e below (T1.setTop (mkF m 9 #[.val (.ref o0), .val (.int p1), .val (.int (-1 : Int32)), .val (.int (0 : Int32))] [(.ref ar), (.int (0 : Int32))])) _
    refine X1.arraylength hx (by rw [e1]; exact Ar2.1) (State.isArrayOf_alike hZ.alike Ar2.2.1) (g := (mkF m 9 #[.val (.ref o0), .val (.int p1), .val (.int (-1 : Int32)), .val (.int (0 : Int32))] [(.ref ar), (.int (0 : Int32))])) rfl rfl (hb hby d7_9) _ ?_
    rw [len_of Sz2 Ng2]
    show Steps p.tables e below (T1.setTop (mkF m 10 #[.val (.ref o0), .val (.int p1), .val (.int (-1 : Int32)), .val (.int (0 : Int32))] [(.int (6 : Int32)), (.int (0 : Int32))])) _
    refine XS.icmpNo X1.here hx rfl (hb hby d7_10) rfl (tlt (by decide : (0 : Int32) < (6 : Int32))).2.1 ?_
    show Steps p.tables e below (T1.setTop (mkF m 13 #[.val (.ref o0), .val (.int p1), .val (.int (-1 : Int32)), .val (.int (0 : Int32))] [])) _
    refine XS.iloadN X1.here hx rfl (hb hby d7_13) rfl ?_
    show Steps p.tables e below (T1.setTop (mkF m 14 #[.val (.ref o0), .val (.int p1), .val (.int (-1 : Int32)), .val (.int (0 : Int32))] [(.int (-1 : Int32))])) _
    refine XS.ifNo X1.here hx rfl (hb hby d7_14) rfl ((if0 _ _).trans (tlt (by decide : (-1 : Int32) < (0 : Int32))).2.1) ?_
    show Steps p.tables e below (T1.setTop (mkF m 17 #[.val (.ref o0), .val (.int p1), .val (.int (-1 : Int32)), .val (.int (0 : Int32))] [])) _
    refine XS.aloadN X1.here hx rfl (hb hby d7_17) rfl rfl ?_
    show Steps p.tables e below (T1.setTop (mkF m 18 #[.val (.ref o0), .val (.int p1), .val (.int (-1 : Int32)), .val (.int (0 : Int32))] [(.ref o0)])) _
    refine st3 _ ?_
    show Steps p.tables e below (T3.setTop (mkF m 21 #[.val (.ref o0), .val (.int p1), .val (.int (-1 : Int32)), .val (.int (0 : Int32))] [(.ref ar)])) _
    refine XS.iloadN X3.here hx rfl (hb hby d7_21) rfl ?_
    show Steps p.tables e below (T3.setTop (mkF m 22 #[.val (.ref o0), .val (.int p1), .val (.int (-1 : Int32)), .val (.int (0 : Int32))] [(.int (0 : Int32)), (.ref ar)])) _
    refine X3.iaload hx (j := (0 : Int32)) (v := (.int x0)) (by rw [e3]; exact Ar4.1) (State.isArrayOf_alike hZ.alike Ar4.2.1) Ar4.2.2 hin4 hat4 (g := (mkF m 22 #[.val (.ref o0), .val (.int p1), .val (.int (-1 : Int32)), .val (.int (0 : Int32))] [(.int (0 : Int32)), (.ref ar)])) rfl rfl (hb hby d7_22) _ ?_
    show Steps p.tables e below (T3.setTop (mkF m 23 #[.val (.ref o0), .val (.int p1), .val (.int (-1 : Int32)), .val (.int (0 : Int32))] [(.int x0)])) _
    refine XS.iloadN X3.here hx rfl (hb hby d7_23) rfl ?_
    show Steps p.tables e below (T3.setTop (mkF m 24 #[.val (.ref o0), .val (.int p1), .val (.int (-1 : Int32)), .val (.int (0 : Int32))] [(.int p1), (.int x0)])) _
    refine XS.icmpNo X3.here hx rfl (hb hby d7_24) rfl (teq q0).2 ?_
    show Steps p.tables e below (T3.setTop (mkF m 27 #[.val (.ref o0), .val (.int p1), .val (.int (-1 : Int32)), .val (.int (0 : Int32))] [])) _
    refine XS.aloadN X3.here hx rfl (hb hby d7_27) rfl rfl ?_
    show Steps p.tables e below (T3.setTop (mkF m 28 #[.val (.ref o0), .val (.int p1), .val (.int (-1 : Int32)), .val (.int (0 : Int32))] [(.ref o0)])) _
    refine st5 _ ?_
    show Steps p.tables e below (T5.setTop (mkF m 31 #[.val (.ref o0), .val (.int p1), .val (.int (-1 : Int32)), .val (.int (0 : Int32))] [(.ref ar)])) _
    refine XS.iloadN X5.here hx rfl (hb hby d7_31) rfl ?_
    show Steps p.tables e below (T5.setTop (mkF m 32 #[.val (.ref o0), .val (.int p1), .val (.int (-1 : Int32)), .val (.int (0 : Int32))] [(.int (0 : Int32)), (.ref ar)])) _
    refine XS.iconst X5.here hx rfl (hb hby d7_32) ?_
    show Steps p.tables e below (T5.setTop (mkF m 33 #[.val (.ref o0), .val (.int p1), .val (.int (-1 : Int32)), .val (.int (0 : Int32))] [(.int (1 : Int32)), (.int (0 : Int32)), (.ref ar)])) _
    refine XS.iadd X5.here hx rfl (hb hby d7_33) rfl ?_
    show Steps p.tables e below (T5.setTop (mkF m 34 #[.val (.ref o0), .val (.int p1), .val (.int (-1 : Int32)), .val (.int (0 : Int32))] [(.int (1 : Int32)), (.ref ar)])) _
    refine X5.iaload hx (j := (1 : Int32)) (v := (.int y0)) (by rw [e5]; exact Ar6.1) (State.isArrayOf_alike hZ.alike Ar6.2.1) Ar6.2.2 hin6 hat6 (g := (mkF m 34 #[.val (.ref o0), .val (.int p1), .val (.int (-1 : Int32)), .val (.int (0 : Int32))] [(.int (1 : Int32)), (.ref ar)])) rfl rfl (hb hby d7_34) _ ?_
    show Steps p.tables e below (T5.setTop (mkF m 35 #[.val (.ref o0), .val (.int p1), .val (.int (-1 : Int32)), .val (.int (0 : Int32))] [(.int y0)])) _
    refine XS.goto X5.here hx rfl (pc0 := 35) (pc' := 39) rfl (hb hby d7_35) (by decide) (by decide) ?_
    show Steps p.tables e below (T5.setTop (mkF m 39 #[.val (.ref o0), .val (.int p1), .val (.int (-1 : Int32)), .val (.int (0 : Int32))] [(.int y0)])) _
    refine XS.istoreN X5.here hx rfl (hb hby d7_39) rfl (l' := #[.val (.ref o0), .val (.int p1), .val (.int y0), .val (.int (0 : Int32))]) rfl ?_
    show Steps p.tables e below (T5.setTop (mkF m 40 #[.val (.ref o0), .val (.int p1), .val (.int y0), .val (.int (0 : Int32))] [])) _
    refine XS.iinc X5.here hx rfl (hb hby d7_40) rfl (l' := #[.val (.ref o0), .val (.int p1), .val (.int y0), .val (.int (2 : Int32))]) rfl ?_
    show Steps p.tables e below (T5.setTop (mkF m 43 #[.val (.ref o0), .val (.int p1), .val (.int y0), .val (.int (2 : Int32))] [])) _
    refine XS.goto X5.here hx rfl (pc0 := 43) (pc' := 4) rfl (hb hby d7_43) (by decide) (by decide) ?_
    show Steps p.tables e below (T5.setTop (mkF m 4 #[.val (.ref o0), .val (.int p1), .val (.int y0), .val (.int (2 : Int32))] [])) _
    refine XS.iloadN X5.here hx rfl (hb hby d7_4) rfl ?_
    show Steps p.tables e below (T5.setTop (mkF m 5 #[.val (.ref o0), .val (.int p1), .val (.int y0), .val (.int (2 : Int32))] [(.int (2 : Int32))])) _
    refine XS.aloadN X5.here hx rfl (hb hby d7_5) rfl rfl ?_
    show Steps p.tables e below (T5.setTop (mkF m 6 #[.val (.ref o0), .val (.int p1), .val (.int y0), .val (.int (2 : Int32))] [(.ref o0), (.int (2 : Int32))])) _
    refine st7 _ ?_
    show Steps p.tables e below (T7.setTop (mkF m 9 #[.val (.ref o0), .val (.int p1), .val (.int y0), .val (.int (2 : Int32))] [(.ref ar), (.int (2 : Int32))])) _
    refine X7.arraylength hx (by rw [e7]; exact Ar8.1) (State.isArrayOf_alike hZ.alike Ar8.2.1) (g := (mkF m 9 #[.val (.ref o0), .val (.int p1), .val (.int y0), .val (.int (2 : Int32))] [(.ref ar), (.int (2 : Int32))])) rfl rfl (hb hby d7_9) _ ?_
    rw [len_of Sz8 Ng8]
    show Steps p.tables e below (T7.setTop (mkF m 10 #[.val (.ref o0), .val (.int p1), .val (.int y0), .val (.int (2 : Int32))] [(.int (6 : Int32)), (.int (2 : Int32))])) _
    refine XS.icmpNo X7.here hx rfl (hb hby d7_10) rfl (tlt (by decide : (2 : Int32) < (6 : Int32))).2.1 ?_
    show Steps p.tables e below (T7.setTop (mkF m 13 #[.val (.ref o0), .val (.int p1), .val (.int y0), .val (.int (2 : Int32))] [])) _
    refine XS.iloadN X7.here hx rfl (hb hby d7_13) rfl ?_
    show Steps p.tables e below (T7.setTop (mkF m 14 #[.val (.ref o0), .val (.int p1), .val (.int y0), .val (.int (2 : Int32))] [(.int y0)])) _
    refine XS.ifYes X7.here hx rfl (pc0 := 14) (pc' := 46) rfl (hb hby d7_14) rfl ((if0 _ _).trans (flt hy).2.1) (by decide) (by decide) ?_
    show Steps p.tables e below (T7.setTop (mkF m 46 #[.val (.ref o0), .val (.int p1), .val (.int y0), .val (.int (2 : Int32))] [])) _
    refine XS.iloadN X7.here hx rfl (hb hby d7_46) rfl ?_
    show Steps p.tables e below (T7.setTop (mkF m 47 #[.val (.ref o0), .val (.int p1), .val (.int y0), .val (.int (2 : Int32))] [(.int y0)])) _
    exact retI X7 hx Bd.returns (hb hby d7_47) hr
  · show own_Q (.int (own_get [(x0, y0), (x1, y1), (x2, y2)] p1)) h0 n0 _ T7.heap _
    rw [e7]
    exact by
      rw [hG]
      exact ⟨rfl, N0, rfl⟩
set_option maxRecDepth 65536 in
set_option maxHeartbeats 40000000 in
theorem rmG31 (l : Launch) (Z : State) (a0 : Array Value) (hw : ∀ d ∈ tables_1, d.before a0 Z = true) (ws : List Jvm.Cond) (o0 : Addr) (p1 : Int32) (x0 : Int32) (y0 : Int32) (x1 : Int32) (y1 : Int32) (x2 : Int32) (y2 : Int32) (ar : Addr) (ka : ClassId) (h0 : Heap) (n0 : Nat) (O0 : Old Z n0 h0) (F_agendaPlaces_o0 : Fld Z h0 o0 "com/example/kvasir/kvasir/tableau/Node" "agendaPlaces" "[I" (.ref ar)) (V_ar : Arv Z h0 ar ka .int (6 : Int32) [(.int x0), (.int y0), (.int x1), (.int y1), (.int x2), (.int y2)] (.int (0 : Int32))) (q0 : ¬ (x0 = p1)) (q1 : x1 = p1) (hy : ¬ y1 < (0 : Int32)) :
    MetFree l (⟨"com/example/kvasir/kvasir/tableau/Node", "agendaPlace", "(I)I"⟩ : MethodName) (head1 (Jvm.Cond.code (⟨"com/example/kvasir/kvasir/tableau/Node", "agendaPlace", "(I)I"⟩ : MethodName) prog_32_method_53_code 4 (some .int) :: ws) ({ frames := 0, cells := 0, slots := 0, locals := 0 } : Room)) (fun a U => a = #[(.ref o0), (.int p1)] ∧ Z.Warmed39 U.vm ∧ U.heap = h0) (fun _ _ _ _ _ => True) (fun _ U o U' => ∃ v L, o = .returned v ∧ own_Q (.int (own_get [(x0, y0), (x1, y1), (x2, y2)] p1)) h0 n0 v U'.heap L ∧ FrameEnd U o U' L ({ frames := 0, cells := 0, slots := 0, locals := 0 } : Room).cells ({ frames := 0, cells := 0, slots := 0, locals := 0 } : Room).slots) := by
  refine MetFree.of_bodySF (plainFor_of_name pn_7) hisR ?_
  intro p e s m args below meth c s₁ Bd hml0 hP hK
  obtain ⟨rfl, hZ, hh⟩ := hP
  have hx := Bd.exec
  have hby := Bd.bytes
  have hml : c.maxLocals = 4 := hml0
  have hown : s.vm.findClass "com/example/kvasir/kvasir/tableau/Node" = some m.cls := findClass_of_methodNamed Bd.named
  have hnm := (name_of_methodNamed Bd.named Bd.method).1
  have X0 : Stand p l e ({ frames := 0, cells := 0, slots := 0, locals := 0 } : Room) s m #[(.ref o0), (.int p1)] below meth c s₁ [] 0 0 := Stand.of_body Bd
  have e0 : s₁.heap = h0 := by rw [← hh, Bd.state]; rfl
  have N0 := Fr.nil n0
  have pre0 : ∀ t, Steps p.tables e below (s₁.setTop (mkF m 0 #[.val (.ref o0), .val (.int p1), .unset, .unset] [])) t → Steps p.tables e below (s₁.setTop (entryFrame m #[(.ref o0), (.int p1)] 4)) t := fun t k => castTop (ef_7 m o0 p1) k
  obtain ⟨T1, X1, e1, st1⟩ := getF X0 hx hZ hown (host := "") (Or.inl (hw _ (List.mem_of_getElem? (i := 41) rfl))) Via.refl e0 F_agendaPlaces_o0 (g := (mkF m 6 #[.val (.ref o0), .val (.int p1), .val (.int (-1 : Int32)), .val (.int (0 : Int32))] [(.ref o0), (.int (0 : Int32))])) rfl rfl (hb hby d7_6)
  obtain ⟨cl2, Ar2, qa2, Sz2, Ng2, Hs2, Ft2⟩ := V_ar
  have V2o : Arv Z h0 ar ka .int (6 : Int32) [(.int x0), (.int y0), (.int x1), (.int y1), (.int x2), (.int y2)] (.int (0 : Int32)) := ⟨cl2, Ar2, qa2, Sz2, Ng2, Hs2, Ft2⟩
  obtain ⟨T3, X3, e3, st3⟩ := getF X1 hx hZ hown (host := "") (Or.inl (hw _ (List.mem_of_getElem? (i := 41) rfl))) Via.refl e1 F_agendaPlaces_o0 (g := (mkF m 18 #[.val (.ref o0), .val (.int p1), .val (.int (-1 : Int32)), .val (.int (0 : Int32))] [(.ref o0)])) rfl rfl (hb hby d7_18)
  obtain ⟨cl4, Ar4, qa4, Sz4, Ng4, Hs4, Ft4⟩ := V2o
  have hin4 := (inb_of (j := (0 : Int32)) Sz4 ⟨by decide, by decide⟩)
  have hat4 := Hs4.at (v := (.int x0)) hin4 rfl
  have V4o : Arv Z h0 ar ka .int (6 : Int32) [(.int x0), (.int y0), (.int x1), (.int y1), (.int x2), (.int y2)] (.int (0 : Int32)) := ⟨cl4, Ar4, qa4, Sz4, Ng4, Hs4, Ft4⟩
  obtain ⟨T5, X5, e5, st5⟩ := getF X3 hx hZ hown (host := "") (Or.inl (hw _ (List.mem_of_getElem? (i := 41) rfl))) Via.refl e3 F_agendaPlaces_o0 (g := (mkF m 6 #[.val (.ref o0), .val (.int p1), .val (.int (-1 : Int32)), .val (.int (2 : Int32))] [(.ref o0), (.int (2 : Int32))])) rfl rfl (hb hby d7_6)
  obtain ⟨cl6, Ar6, qa6, Sz6, Ng6, Hs6, Ft6⟩ := V4o
  have V6o : Arv Z h0 ar ka .int (6 : Int32) [(.int x0), (.int y0), (.int x1), (.int y1), (.int x2), (.int y2)] (.int (0 : Int32)) := ⟨cl6, Ar6, qa6, Sz6, Ng6, Hs6, Ft6⟩
  obtain ⟨T7, X7, e7, st7⟩ := getF X5 hx hZ hown (host := "") (Or.inl (hw _ (List.mem_of_getElem? (i := 41) rfl))) Via.refl e5 F_agendaPlaces_o0 (g := (mkF m 18 #[.val (.ref o0), .val (.int p1), .val (.int (-1 : Int32)), .val (.int (2 : Int32))] [(.ref o0)])) rfl rfl (hb hby d7_18)
  obtain ⟨cl8, Ar8, qa8, Sz8, Ng8, Hs8, Ft8⟩ := V6o
  have hin8 := (inb_of (j := (2 : Int32)) Sz8 ⟨by decide, by decide⟩)
  have hat8 := Hs8.at (v := (.int x1)) hin8 rfl
  have V8o : Arv Z h0 ar ka .int (6 : Int32) [(.int x0), (.int y0), (.int x1), (.int y1), (.int x2), (.int y2)] (.int (0 : Int32)) := ⟨cl8, Ar8, qa8, Sz8, Ng8, Hs8, Ft8⟩
  obtain ⟨T9, X9, e9, st9⟩ := getF X7 hx hZ hown (host := "") (Or.inl (hw _ (List.mem_of_getElem? (i := 41) rfl))) Via.refl e7 F_agendaPlaces_o0 (g := (mkF m 28 #[.val (.ref o0), .val (.int p1), .val (.int (-1 : Int32)), .val (.int (2 : Int32))] [(.ref o0)])) rfl rfl (hb hby d7_28)
  obtain ⟨cl10, Ar10, qa10, Sz10, Ng10, Hs10, Ft10⟩ := V8o
  have hin10 := (inb_of (j := (3 : Int32)) Sz10 ⟨by decide, by decide⟩)
  have hat10 := Hs10.at (v := (.int y1)) hin10 rfl
  have V10o : Arv Z h0 ar ka .int (6 : Int32) [(.int x0), (.int y0), (.int x1), (.int y1), (.int x2), (.int y2)] (.int (0 : Int32)) := ⟨cl10, Ar10, qa10, Sz10, Ng10, Hs10, Ft10⟩
  obtain ⟨T11, X11, e11, st11⟩ := getF X9 hx hZ hown (host := "") (Or.inl (hw _ (List.mem_of_getElem? (i := 41) rfl))) Via.refl e9 F_agendaPlaces_o0 (g := (mkF m 6 #[.val (.ref o0), .val (.int p1), .val (.int y1), .val (.int (4 : Int32))] [(.ref o0), (.int (4 : Int32))])) rfl rfl (hb hby d7_6)
  obtain ⟨cl12, Ar12, qa12, Sz12, Ng12, Hs12, Ft12⟩ := V10o
  have V12o : Arv Z h0 ar ka .int (6 : Int32) [(.int x0), (.int y0), (.int x1), (.int y1), (.int x2), (.int y2)] (.int (0 : Int32)) := ⟨cl12, Ar12, qa12, Sz12, Ng12, Hs12, Ft12⟩
  have hG : own_get [(x0, y0), (x1, y1), (x2, y2)] p1 = y1 := by simp [own_get, q0, q1]
  obtain ⟨fs, hr, hrun, hended, hW, hsame⟩ := X11.leave (v := some (.int y1)) (fun h => by rw [Bd.returns] at h; cases h)
  refine ⟨_, _, pre0 _ ?_, hrun, hended, _, _, rfl, ?_, ⟨_, rfl⟩, hW, hsame.mono (by decide) (by decide)⟩
  · show Steps p.tables e below (s₁.setTop (mkF m 0 #[.val (.ref o0), .val (.int p1), .unset, .unset] [])) _
    refine XS.iconst X0.here hx rfl (hb hby d7_0) ?_
    show Steps p.tables e below (s₁.setTop (mkF m 1 #[.val (.ref o0), .val (.int p1), .unset, .unset] [(.int (-1 : Int32))])) _
    refine XS.istoreN X0.here hx rfl (hb hby d7_1) rfl (l' := #[.val (.ref o0), .val (.int p1), .val (.int (-1 : Int32)), .unset]) rfl ?_
    show Steps p.tables e below (s₁.setTop (mkF m 2 #[.val (.ref o0), .val (.int p1), .val (.int (-1 : Int32)), .unset] [])) _
    refine XS.iconst X0.here hx rfl (hb hby d7_2) ?_
    show Steps p.tables e below (s₁.setTop (mkF m 3 #[.val (.ref o0), .val (.int p1), .val (.int (-1 : Int32)), .unset] [(.int (0 : Int32))])) _
    refine XS.istoreN X0.here hx rfl (hb hby d7_3) rfl (l' := #[.val (.ref o0), .val (.int p1), .val (.int (-1 : Int32)), .val (.int (0 : Int32))]) rfl ?_
    show Steps p.tables e below (s₁.setTop (mkF m 4 #[.val (.ref o0), .val (.int p1), .val (.int (-1 : Int32)), .val (.int (0 : Int32))] [])) _
    refine XS.iloadN X0.here hx rfl (hb hby d7_4) rfl ?_
    show Steps p.tables e below (s₁.setTop (mkF m 5 #[.val (.ref o0), .val (.int p1), .val (.int (-1 : Int32)), .val (.int (0 : Int32))] [(.int (0 : Int32))])) _
    refine XS.aloadN X0.here hx rfl (hb hby d7_5) rfl rfl ?_
    show Steps p.tables e below (s₁.setTop (mkF m 6 #[.val (.ref o0), .val (.int p1), .val (.int (-1 : Int32)), .val (.int (0 : Int32))] [(.ref o0), (.int (0 : Int32))])) _
    refine st1 _ ?_
    show Steps p.tables e below (T1.setTop (mkF m 9 #[.val (.ref o0), .val (.int p1), .val (.int (-1 : Int32)), .val (.int (0 : Int32))] [(.ref ar), (.int (0 : Int32))])) _
    refine X1.arraylength hx (by rw [e1]; exact Ar2.1) (State.isArrayOf_alike hZ.alike Ar2.2.1) (g := (mkF m 9 #[.val (.ref o0), .val (.int p1), .val (.int (-1 : Int32)), .val (.int (0 : Int32))] [(.ref ar), (.int (0 : Int32))])) rfl rfl (hb hby d7_9) _ ?_
    rw [len_of Sz2 Ng2]
    show Steps p.tables e below (T1.setTop (mkF m 10 #[.val (.ref o0), .val (.int p1), .val (.int (-1 : Int32)), .val (.int (0 : Int32))] [(.int (6 : Int32)), (.int (0 : Int32))])) _
    refine XS.icmpNo X1.here hx rfl (hb hby d7_10) rfl (tlt (by decide : (0 : Int32) < (6 : Int32))).2.1 ?_
    show Steps p.tables e below (T1.setTop (mkF m 13 #[.val (.ref o0), .val (.int p1), .val (.int (-1 : Int32)), .val (.int (0 : Int32))] [])) _
    refine XS.iloadN X1.here hx rfl (hb hby d7_13) rfl ?_
    show Steps p.tables e below (T1.setTop (mkF m 14 #[.val (.ref o0), .val (.int p1), .val (.int (-1 : Int32)), .val (.int (0 : Int32))] [(.int (-1 : Int32))])) _
    refine XS.ifNo X1.here hx rfl (hb hby d7_14) rfl ((if0 _ _).trans (tlt (by decide : (-1 : Int32) < (0 : Int32))).2.1) ?_
    show Steps p.tables e below (T1.setTop (mkF m 17 #[.val (.ref o0), .val (.int p1), .val (.int (-1 : Int32)), .val (.int (0 : Int32))] [])) _
    refine XS.aloadN X1.here hx rfl (hb hby d7_17) rfl rfl ?_
    show Steps p.tables e below (T1.setTop (mkF m 18 #[.val (.ref o0), .val (.int p1), .val (.int (-1 : Int32)), .val (.int (0 : Int32))] [(.ref o0)])) _
    refine st3 _ ?_
    show Steps p.tables e below (T3.setTop (mkF m 21 #[.val (.ref o0), .val (.int p1), .val (.int (-1 : Int32)), .val (.int (0 : Int32))] [(.ref ar)])) _
    refine XS.iloadN X3.here hx rfl (hb hby d7_21) rfl ?_
    show Steps p.tables e below (T3.setTop (mkF m 22 #[.val (.ref o0), .val (.int p1), .val (.int (-1 : Int32)), .val (.int (0 : Int32))] [(.int (0 : Int32)), (.ref ar)])) _
    refine X3.iaload hx (j := (0 : Int32)) (v := (.int x0)) (by rw [e3]; exact Ar4.1) (State.isArrayOf_alike hZ.alike Ar4.2.1) Ar4.2.2 hin4 hat4 (g := (mkF m 22 #[.val (.ref o0), .val (.int p1), .val (.int (-1 : Int32)), .val (.int (0 : Int32))] [(.int (0 : Int32)), (.ref ar)])) rfl rfl (hb hby d7_22) _ ?_
    show Steps p.tables e below (T3.setTop (mkF m 23 #[.val (.ref o0), .val (.int p1), .val (.int (-1 : Int32)), .val (.int (0 : Int32))] [(.int x0)])) _
    refine XS.iloadN X3.here hx rfl (hb hby d7_23) rfl ?_
    show Steps p.tables e below (T3.setTop (mkF m 24 #[.val (.ref o0), .val (.int p1), .val (.int (-1 : Int32)), .val (.int (0 : Int32))] [(.int p1), (.int x0)])) _
    refine XS.icmpYes X3.here hx rfl (pc0 := 24) (pc' := 38) rfl (hb hby d7_24) rfl (feq q0).2 (by decide) (by decide) ?_
    show Steps p.tables e below (T3.setTop (mkF m 38 #[.val (.ref o0), .val (.int p1), .val (.int (-1 : Int32)), .val (.int (0 : Int32))] [])) _
    refine XS.iconst X3.here hx rfl (hb hby d7_38) ?_
    show Steps p.tables e below (T3.setTop (mkF m 39 #[.val (.ref o0), .val (.int p1), .val (.int (-1 : Int32)), .val (.int (0 : Int32))] [(.int (-1 : Int32))])) _
    refine XS.istoreN X3.here hx rfl (hb hby d7_39) rfl (l' := #[.val (.ref o0), .val (.int p1), .val (.int (-1 : Int32)), .val (.int (0 : Int32))]) rfl ?_
    show Steps p.tables e below (T3.setTop (mkF m 40 #[.val (.ref o0), .val (.int p1), .val (.int (-1 : Int32)), .val (.int (0 : Int32))] [])) _
    refine XS.iinc X3.here hx rfl (hb hby d7_40) rfl (l' := #[.val (.ref o0), .val (.int p1), .val (.int (-1 : Int32)), .val (.int (2 : Int32))]) rfl ?_
    show Steps p.tables e below (T3.setTop (mkF m 43 #[.val (.ref o0), .val (.int p1), .val (.int (-1 : Int32)), .val (.int (2 : Int32))] [])) _
    refine XS.goto X3.here hx rfl (pc0 := 43) (pc' := 4) rfl (hb hby d7_43) (by decide) (by decide) ?_
    show Steps p.tables e below (T3.setTop (mkF m 4 #[.val (.ref o0), .val (.int p1), .val (.int (-1 : Int32)), .val (.int (2 : Int32))] [])) _
    refine XS.iloadN X3.here hx rfl (hb hby d7_4) rfl ?_
    show Steps p.tables e below (T3.setTop (mkF m 5 #[.val (.ref o0), .val (.int p1), .val (.int (-1 : Int32)), .val (.int (2 : Int32))] [(.int (2 : Int32))])) _
    refine XS.aloadN X3.here hx rfl (hb hby d7_5) rfl rfl ?_
    show Steps p.tables e below (T3.setTop (mkF m 6 #[.val (.ref o0), .val (.int p1), .val (.int (-1 : Int32)), .val (.int (2 : Int32))] [(.ref o0), (.int (2 : Int32))])) _
    refine st5 _ ?_
    show Steps p.tables e below (T5.setTop (mkF m 9 #[.val (.ref o0), .val (.int p1), .val (.int (-1 : Int32)), .val (.int (2 : Int32))] [(.ref ar), (.int (2 : Int32))])) _
    refine X5.arraylength hx (by rw [e5]; exact Ar6.1) (State.isArrayOf_alike hZ.alike Ar6.2.1) (g := (mkF m 9 #[.val (.ref o0), .val (.int p1), .val (.int (-1 : Int32)), .val (.int (2 : Int32))] [(.ref ar), (.int (2 : Int32))])) rfl rfl (hb hby d7_9) _ ?_
    rw [len_of Sz6 Ng6]
    show Steps p.tables e below (T5.setTop (mkF m 10 #[.val (.ref o0), .val (.int p1), .val (.int (-1 : Int32)), .val (.int (2 : Int32))] [(.int (6 : Int32)), (.int (2 : Int32))])) _
    refine XS.icmpNo X5.here hx rfl (hb hby d7_10) rfl (tlt (by decide : (2 : Int32) < (6 : Int32))).2.1 ?_
    show Steps p.tables e below (T5.setTop (mkF m 13 #[.val (.ref o0), .val (.int p1), .val (.int (-1 : Int32)), .val (.int (2 : Int32))] [])) _
    refine XS.iloadN X5.here hx rfl (hb hby d7_13) rfl ?_
    show Steps p.tables e below (T5.setTop (mkF m 14 #[.val (.ref o0), .val (.int p1), .val (.int (-1 : Int32)), .val (.int (2 : Int32))] [(.int (-1 : Int32))])) _
    refine XS.ifNo X5.here hx rfl (hb hby d7_14) rfl ((if0 _ _).trans (tlt (by decide : (-1 : Int32) < (0 : Int32))).2.1) ?_
    show Steps p.tables e below (T5.setTop (mkF m 17 #[.val (.ref o0), .val (.int p1), .val (.int (-1 : Int32)), .val (.int (2 : Int32))] [])) _
    refine XS.aloadN X5.here hx rfl (hb hby d7_17) rfl rfl ?_
    show Steps p.tables e below (T5.setTop (mkF m 18 #[.val (.ref o0), .val (.int p1), .val (.int (-1 : Int32)), .val (.int (2 : Int32))] [(.ref o0)])) _
    refine st7 _ ?_
    show Steps p.tables e below (T7.setTop (mkF m 21 #[.val (.ref o0), .val (.int p1), .val (.int (-1 : Int32)), .val (.int (2 : Int32))] [(.ref ar)])) _
    refine XS.iloadN X7.here hx rfl (hb hby d7_21) rfl ?_
    show Steps p.tables e below (T7.setTop (mkF m 22 #[.val (.ref o0), .val (.int p1), .val (.int (-1 : Int32)), .val (.int (2 : Int32))] [(.int (2 : Int32)), (.ref ar)])) _
    refine X7.iaload hx (j := (2 : Int32)) (v := (.int x1)) (by rw [e7]; exact Ar8.1) (State.isArrayOf_alike hZ.alike Ar8.2.1) Ar8.2.2 hin8 hat8 (g := (mkF m 22 #[.val (.ref o0), .val (.int p1), .val (.int (-1 : Int32)), .val (.int (2 : Int32))] [(.int (2 : Int32)), (.ref ar)])) rfl rfl (hb hby d7_22) _ ?_
    show Steps p.tables e below (T7.setTop (mkF m 23 #[.val (.ref o0), .val (.int p1), .val (.int (-1 : Int32)), .val (.int (2 : Int32))] [(.int x1)])) _
    refine XS.iloadN X7.here hx rfl (hb hby d7_23) rfl ?_
    show Steps p.tables e below (T7.setTop (mkF m 24 #[.val (.ref o0), .val (.int p1), .val (.int (-1 : Int32)), .val (.int (2 : Int32))] [(.int p1), (.int x1)])) _
    refine XS.icmpNo X7.here hx rfl (hb hby d7_24) rfl (teq q1).2 ?_
    show Steps p.tables e below (T7.setTop (mkF m 27 #[.val (.ref o0), .val (.int p1), .val (.int (-1 : Int32)), .val (.int (2 : Int32))] [])) _
    refine XS.aloadN X7.here hx rfl (hb hby d7_27) rfl rfl ?_
    show Steps p.tables e below (T7.setTop (mkF m 28 #[.val (.ref o0), .val (.int p1), .val (.int (-1 : Int32)), .val (.int (2 : Int32))] [(.ref o0)])) _
    refine st9 _ ?_
    show Steps p.tables e below (T9.setTop (mkF m 31 #[.val (.ref o0), .val (.int p1), .val (.int (-1 : Int32)), .val (.int (2 : Int32))] [(.ref ar)])) _
    refine XS.iloadN X9.here hx rfl (hb hby d7_31) rfl ?_
    show Steps p.tables e below (T9.setTop (mkF m 32 #[.val (.ref o0), .val (.int p1), .val (.int (-1 : Int32)), .val (.int (2 : Int32))] [(.int (2 : Int32)), (.ref ar)])) _
    refine XS.iconst X9.here hx rfl (hb hby d7_32) ?_
    show Steps p.tables e below (T9.setTop (mkF m 33 #[.val (.ref o0), .val (.int p1), .val (.int (-1 : Int32)), .val (.int (2 : Int32))] [(.int (1 : Int32)), (.int (2 : Int32)), (.ref ar)])) _
    refine XS.iadd X9.here hx rfl (hb hby d7_33) rfl ?_
    show Steps p.tables e below (T9.setTop (mkF m 34 #[.val (.ref o0), .val (.int p1), .val (.int (-1 : Int32)), .val (.int (2 : Int32))] [(.int (3 : Int32)), (.ref ar)])) _
    refine X9.iaload hx (j := (3 : Int32)) (v := (.int y1)) (by rw [e9]; exact Ar10.1) (State.isArrayOf_alike hZ.alike Ar10.2.1) Ar10.2.2 hin10 hat10 (g := (mkF m 34 #[.val (.ref o0), .val (.int p1), .val (.int (-1 : Int32)), .val (.int (2 : Int32))] [(.int (3 : Int32)), (.ref ar)])) rfl rfl (hb hby d7_34) _ ?_
    show Steps p.tables e below (T9.setTop (mkF m 35 #[.val (.ref o0), .val (.int p1), .val (.int (-1 : Int32)), .val (.int (2 : Int32))] [(.int y1)])) _
    refine XS.goto X9.here hx rfl (pc0 := 35) (pc' := 39) rfl (hb hby d7_35) (by decide) (by decide) ?_
    show Steps p.tables e below (T9.setTop (mkF m 39 #[.val (.ref o0), .val (.int p1), .val (.int (-1 : Int32)), .val (.int (2 : Int32))] [(.int y1)])) _
    refine XS.istoreN X9.here hx rfl (hb hby d7_39) rfl (l' := #[.val (.ref o0), .val (.int p1), .val (.int y1), .val (.int (2 : Int32))]) rfl ?_
    show Steps p.tables e below (T9.setTop (mkF m 40 #[.val (.ref o0), .val (.int p1), .val (.int y1), .val (.int (2 : Int32))] [])) _
    refine XS.iinc X9.here hx rfl (hb hby d7_40) rfl (l' := #[.val (.ref o0), .val (.int p1), .val (.int y1), .val (.int (4 : Int32))]) rfl ?_
    show Steps p.tables e below (T9.setTop (mkF m 43 #[.val (.ref o0), .val (.int p1), .val (.int y1), .val (.int (4 : Int32))] [])) _
    refine XS.goto X9.here hx rfl (pc0 := 43) (pc' := 4) rfl (hb hby d7_43) (by decide) (by decide) ?_
    show Steps p.tables e below (T9.setTop (mkF m 4 #[.val (.ref o0), .val (.int p1), .val (.int y1), .val (.int (4 : Int32))] [])) _
    refine XS.iloadN X9.here hx rfl (hb hby d7_4) rfl ?_
    show Steps p.tables e below (T9.setTop (mkF m 5 #[.val (.ref o0), .val (.int p1), .val (.int y1), .val (.int (4 : Int32))] [(.int (4 : Int32))])) _
    refine XS.aloadN X9.here hx rfl (hb hby d7_5) rfl rfl ?_
    show Steps p.tables e below (T9.setTop (mkF m 6 #[.val (.ref o0), .val (.int p1), .val (.int y1), .val (.int (4 : Int32))] [(.ref o0), (.int (4 : Int32))])) _
    refine st11 _ ?_
    show Steps p.tables e below (T11.setTop (mkF m 9 #[.val (.ref o0), .val (.int p1), .val (.int y1), .val (.int (4 : Int32))] [(.ref ar), (.int (4 : Int32))])) _
    refine X11.arraylength hx (by rw [e11]; exact Ar12.1) (State.isArrayOf_alike hZ.alike Ar12.2.1) (g := (mkF m 9 #[.val (.ref o0), .val (.int p1), .val (.int y1), .val (.int (4 : Int32))] [(.ref ar), (.int (4 : Int32))])) rfl rfl (hb hby d7_9) _ ?_
    rw [len_of Sz12 Ng12]
    show Steps p.tables e below (T11.setTop (mkF m 10 #[.val (.ref o0), .val (.int p1), .val (.int y1), .val (.int (4 : Int32))] [(.int (6 : Int32)), (.int (4 : Int32))])) _
    refine XS.icmpNo X11.here hx rfl (hb hby d7_10) rfl (tlt (by decide : (4 : Int32) < (6 : Int32))).2.1 ?_
    show Steps p.tables e below (T11.setTop (mkF m 13 #[.val (.ref o0), .val (.int p1), .val (.int y1), .val (.int (4 : Int32))] [])) _
    refine XS.iloadN X11.here hx rfl (hb hby d7_13) rfl ?_
    show Steps p.tables e below (T11.setTop (mkF m 14 #[.val (.ref o0), .val (.int p1), .val (.int y1), .val (.int (4 : Int32))] [(.int y1)])) _
    refine XS.ifYes X11.here hx rfl (pc0 := 14) (pc' := 46) rfl (hb hby d7_14) rfl ((if0 _ _).trans (flt hy).2.1) (by decide) (by decide) ?_
    show Steps p.tables e below (T11.setTop (mkF m 46 #[.val (.ref o0), .val (.int p1), .val (.int y1), .val (.int (4 : Int32))] [])) _
    refine XS.iloadN X11.here hx rfl (hb hby d7_46) rfl ?_
    show Steps p.tables e below (T11.setTop (mkF m 47 #[.val (.ref o0), .val (.int p1), .val (.int y1), .val (.int (4 : Int32))] [(.int y1)])) _
    exact retI X11 hx Bd.returns (hb hby d7_47) hr
  · show own_Q (.int (own_get [(x0, y0), (x1, y1), (x2, y2)] p1)) h0 n0 _ T11.heap _
    rw [e11]
    exact by
      rw [hG]
      exact ⟨rfl, N0, rfl⟩
set_option maxRecDepth 65536 in
set_option maxHeartbeats 40000000 in
theorem rmG32 (l : Launch) (Z : State) (a0 : Array Value) (hw : ∀ d ∈ tables_1, d.before a0 Z = true) (ws : List Jvm.Cond) (o0 : Addr) (p1 : Int32) (x0 : Int32) (y0 : Int32) (x1 : Int32) (y1 : Int32) (x2 : Int32) (y2 : Int32) (ar : Addr) (ka : ClassId) (h0 : Heap) (n0 : Nat) (O0 : Old Z n0 h0) (F_agendaPlaces_o0 : Fld Z h0 o0 "com/example/kvasir/kvasir/tableau/Node" "agendaPlaces" "[I" (.ref ar)) (V_ar : Arv Z h0 ar ka .int (6 : Int32) [(.int x0), (.int y0), (.int x1), (.int y1), (.int x2), (.int y2)] (.int (0 : Int32))) (q0 : ¬ (x0 = p1)) (q1 : ¬ (x1 = p1)) (q2 : x2 = p1) (hy : ¬ y2 < (0 : Int32)) :
    MetFree l (⟨"com/example/kvasir/kvasir/tableau/Node", "agendaPlace", "(I)I"⟩ : MethodName) (head1 (Jvm.Cond.code (⟨"com/example/kvasir/kvasir/tableau/Node", "agendaPlace", "(I)I"⟩ : MethodName) prog_32_method_53_code 4 (some .int) :: ws) ({ frames := 0, cells := 0, slots := 0, locals := 0 } : Room)) (fun a U => a = #[(.ref o0), (.int p1)] ∧ Z.Warmed39 U.vm ∧ U.heap = h0) (fun _ _ _ _ _ => True) (fun _ U o U' => ∃ v L, o = .returned v ∧ own_Q (.int (own_get [(x0, y0), (x1, y1), (x2, y2)] p1)) h0 n0 v U'.heap L ∧ FrameEnd U o U' L ({ frames := 0, cells := 0, slots := 0, locals := 0 } : Room).cells ({ frames := 0, cells := 0, slots := 0, locals := 0 } : Room).slots) := by
  refine MetFree.of_bodySF (plainFor_of_name pn_7) hisR ?_
  intro p e s m args below meth c s₁ Bd hml0 hP hK
  obtain ⟨rfl, hZ, hh⟩ := hP
  have hx := Bd.exec
  have hby := Bd.bytes
  have hml : c.maxLocals = 4 := hml0
  have hown : s.vm.findClass "com/example/kvasir/kvasir/tableau/Node" = some m.cls := findClass_of_methodNamed Bd.named
  have hnm := (name_of_methodNamed Bd.named Bd.method).1
  have X0 : Stand p l e ({ frames := 0, cells := 0, slots := 0, locals := 0 } : Room) s m #[(.ref o0), (.int p1)] below meth c s₁ [] 0 0 := Stand.of_body Bd
  have e0 : s₁.heap = h0 := by rw [← hh, Bd.state]; rfl
  have N0 := Fr.nil n0
  have pre0 : ∀ t, Steps p.tables e below (s₁.setTop (mkF m 0 #[.val (.ref o0), .val (.int p1), .unset, .unset] [])) t → Steps p.tables e below (s₁.setTop (entryFrame m #[(.ref o0), (.int p1)] 4)) t := fun t k => castTop (ef_7 m o0 p1) k
  obtain ⟨T1, X1, e1, st1⟩ := getF X0 hx hZ hown (host := "") (Or.inl (hw _ (List.mem_of_getElem? (i := 41) rfl))) Via.refl e0 F_agendaPlaces_o0 (g := (mkF m 6 #[.val (.ref o0), .val (.int p1), .val (.int (-1 : Int32)), .val (.int (0 : Int32))] [(.ref o0), (.int (0 : Int32))])) rfl rfl (hb hby d7_6)
  obtain ⟨cl2, Ar2, qa2, Sz2, Ng2, Hs2, Ft2⟩ := V_ar
  have V2o : Arv Z h0 ar ka .int (6 : Int32) [(.int x0), (.int y0), (.int x1), (.int y1), (.int x2), (.int y2)] (.int (0 : Int32)) := ⟨cl2, Ar2, qa2, Sz2, Ng2, Hs2, Ft2⟩
  obtain ⟨T3, X3, e3, st3⟩ := getF X1 hx hZ hown (host := "") (Or.inl (hw _ (List.mem_of_getElem? (i := 41) rfl))) Via.refl e1 F_agendaPlaces_o0 (g := (mkF m 18 #[.val (.ref o0), .val (.int p1), .val (.int (-1 : Int32)), .val (.int (0 : Int32))] [(.ref o0)])) rfl rfl (hb hby d7_18)
  obtain ⟨cl4, Ar4, qa4, Sz4, Ng4, Hs4, Ft4⟩ := V2o
  have hin4 := (inb_of (j := (0 : Int32)) Sz4 ⟨by decide, by decide⟩)
  have hat4 := Hs4.at (v := (.int x0)) hin4 rfl
  have V4o : Arv Z h0 ar ka .int (6 : Int32) [(.int x0), (.int y0), (.int x1), (.int y1), (.int x2), (.int y2)] (.int (0 : Int32)) := ⟨cl4, Ar4, qa4, Sz4, Ng4, Hs4, Ft4⟩
  obtain ⟨T5, X5, e5, st5⟩ := getF X3 hx hZ hown (host := "") (Or.inl (hw _ (List.mem_of_getElem? (i := 41) rfl))) Via.refl e3 F_agendaPlaces_o0 (g := (mkF m 6 #[.val (.ref o0), .val (.int p1), .val (.int (-1 : Int32)), .val (.int (2 : Int32))] [(.ref o0), (.int (2 : Int32))])) rfl rfl (hb hby d7_6)
  obtain ⟨cl6, Ar6, qa6, Sz6, Ng6, Hs6, Ft6⟩ := V4o
  have V6o : Arv Z h0 ar ka .int (6 : Int32) [(.int x0), (.int y0), (.int x1), (.int y1), (.int x2), (.int y2)] (.int (0 : Int32)) := ⟨cl6, Ar6, qa6, Sz6, Ng6, Hs6, Ft6⟩
  obtain ⟨T7, X7, e7, st7⟩ := getF X5 hx hZ hown (host := "") (Or.inl (hw _ (List.mem_of_getElem? (i := 41) rfl))) Via.refl e5 F_agendaPlaces_o0 (g := (mkF m 18 #[.val (.ref o0), .val (.int p1), .val (.int (-1 : Int32)), .val (.int (2 : Int32))] [(.ref o0)])) rfl rfl (hb hby d7_18)
  obtain ⟨cl8, Ar8, qa8, Sz8, Ng8, Hs8, Ft8⟩ := V6o
  have hin8 := (inb_of (j := (2 : Int32)) Sz8 ⟨by decide, by decide⟩)
  have hat8 := Hs8.at (v := (.int x1)) hin8 rfl
  have V8o : Arv Z h0 ar ka .int (6 : Int32) [(.int x0), (.int y0), (.int x1), (.int y1), (.int x2), (.int y2)] (.int (0 : Int32)) := ⟨cl8, Ar8, qa8, Sz8, Ng8, Hs8, Ft8⟩
  obtain ⟨T9, X9, e9, st9⟩ := getF X7 hx hZ hown (host := "") (Or.inl (hw _ (List.mem_of_getElem? (i := 41) rfl))) Via.refl e7 F_agendaPlaces_o0 (g := (mkF m 6 #[.val (.ref o0), .val (.int p1), .val (.int (-1 : Int32)), .val (.int (4 : Int32))] [(.ref o0), (.int (4 : Int32))])) rfl rfl (hb hby d7_6)
  obtain ⟨cl10, Ar10, qa10, Sz10, Ng10, Hs10, Ft10⟩ := V8o
  have V10o : Arv Z h0 ar ka .int (6 : Int32) [(.int x0), (.int y0), (.int x1), (.int y1), (.int x2), (.int y2)] (.int (0 : Int32)) := ⟨cl10, Ar10, qa10, Sz10, Ng10, Hs10, Ft10⟩
  obtain ⟨T11, X11, e11, st11⟩ := getF X9 hx hZ hown (host := "") (Or.inl (hw _ (List.mem_of_getElem? (i := 41) rfl))) Via.refl e9 F_agendaPlaces_o0 (g := (mkF m 18 #[.val (.ref o0), .val (.int p1), .val (.int (-1 : Int32)), .val (.int (4 : Int32))] [(.ref o0)])) rfl rfl (hb hby d7_18)
  obtain ⟨cl12, Ar12, qa12, Sz12, Ng12, Hs12, Ft12⟩ := V10o
  have hin12 := (inb_of (j := (4 : Int32)) Sz12 ⟨by decide, by decide⟩)
  have hat12 := Hs12.at (v := (.int x2)) hin12 rfl
  have V12o : Arv Z h0 ar ka .int (6 : Int32) [(.int x0), (.int y0), (.int x1), (.int y1), (.int x2), (.int y2)] (.int (0 : Int32)) := ⟨cl12, Ar12, qa12, Sz12, Ng12, Hs12, Ft12⟩
  obtain ⟨T13, X13, e13, st13⟩ := getF X11 hx hZ hown (host := "") (Or.inl (hw _ (List.mem_of_getElem? (i := 41) rfl))) Via.refl e11 F_agendaPlaces_o0 (g := (mkF m 28 #[.val (.ref o0), .val (.int p1), .val (.int (-1 : Int32)), .val (.int (4 : Int32))] [(.ref o0)])) rfl rfl (hb hby d7_28)
  obtain ⟨cl14, Ar14, qa14, Sz14, Ng14, Hs14, Ft14⟩ := V12o
  have hin14 := (inb_of (j := (5 : Int32)) Sz14 ⟨by decide, by decide⟩)
  have hat14 := Hs14.at (v := (.int y2)) hin14 rfl
  have V14o : Arv Z h0 ar ka .int (6 : Int32) [(.int x0), (.int y0), (.int x1), (.int y1), (.int x2), (.int y2)] (.int (0 : Int32)) := ⟨cl14, Ar14, qa14, Sz14, Ng14, Hs14, Ft14⟩
  obtain ⟨T15, X15, e15, st15⟩ := getF X13 hx hZ hown (host := "") (Or.inl (hw _ (List.mem_of_getElem? (i := 41) rfl))) Via.refl e13 F_agendaPlaces_o0 (g := (mkF m 6 #[.val (.ref o0), .val (.int p1), .val (.int y2), .val (.int (6 : Int32))] [(.ref o0), (.int (6 : Int32))])) rfl rfl (hb hby d7_6)
  obtain ⟨cl16, Ar16, qa16, Sz16, Ng16, Hs16, Ft16⟩ := V14o
  have V16o : Arv Z h0 ar ka .int (6 : Int32) [(.int x0), (.int y0), (.int x1), (.int y1), (.int x2), (.int y2)] (.int (0 : Int32)) := ⟨cl16, Ar16, qa16, Sz16, Ng16, Hs16, Ft16⟩
  have hG : own_get [(x0, y0), (x1, y1), (x2, y2)] p1 = y2 := by simp [own_get, q0, q1, q2]
  obtain ⟨fs, hr, hrun, hended, hW, hsame⟩ := X15.leave (v := some (.int y2)) (fun h => by rw [Bd.returns] at h; cases h)
  refine ⟨_, _, pre0 _ ?_, hrun, hended, _, _, rfl, ?_, ⟨_, rfl⟩, hW, hsame.mono (by decide) (by decide)⟩
  · show Steps p.tables e below (s₁.setTop (mkF m 0 #[.val (.ref o0), .val (.int p1), .unset, .unset] [])) _
    refine XS.iconst X0.here hx rfl (hb hby d7_0) ?_
    show Steps p.tables e below (s₁.setTop (mkF m 1 #[.val (.ref o0), .val (.int p1), .unset, .unset] [(.int (-1 : Int32))])) _
    refine XS.istoreN X0.here hx rfl (hb hby d7_1) rfl (l' := #[.val (.ref o0), .val (.int p1), .val (.int (-1 : Int32)), .unset]) rfl ?_
    show Steps p.tables e below (s₁.setTop (mkF m 2 #[.val (.ref o0), .val (.int p1), .val (.int (-1 : Int32)), .unset] [])) _
    refine XS.iconst X0.here hx rfl (hb hby d7_2) ?_
    show Steps p.tables e below (s₁.setTop (mkF m 3 #[.val (.ref o0), .val (.int p1), .val (.int (-1 : Int32)), .unset] [(.int (0 : Int32))])) _
    refine XS.istoreN X0.here hx rfl (hb hby d7_3) rfl (l' := #[.val (.ref o0), .val (.int p1), .val (.int (-1 : Int32)), .val (.int (0 : Int32))]) rfl ?_
    show Steps p.tables e below (s₁.setTop (mkF m 4 #[.val (.ref o0), .val (.int p1), .val (.int (-1 : Int32)), .val (.int (0 : Int32))] [])) _
    refine XS.iloadN X0.here hx rfl (hb hby d7_4) rfl ?_
    show Steps p.tables e below (s₁.setTop (mkF m 5 #[.val (.ref o0), .val (.int p1), .val (.int (-1 : Int32)), .val (.int (0 : Int32))] [(.int (0 : Int32))])) _
    refine XS.aloadN X0.here hx rfl (hb hby d7_5) rfl rfl ?_
    show Steps p.tables e below (s₁.setTop (mkF m 6 #[.val (.ref o0), .val (.int p1), .val (.int (-1 : Int32)), .val (.int (0 : Int32))] [(.ref o0), (.int (0 : Int32))])) _
    refine st1 _ ?_
    show Steps p.tables e below (T1.setTop (mkF m 9 #[.val (.ref o0), .val (.int p1), .val (.int (-1 : Int32)), .val (.int (0 : Int32))] [(.ref ar), (.int (0 : Int32))])) _
    refine X1.arraylength hx (by rw [e1]; exact Ar2.1) (State.isArrayOf_alike hZ.alike Ar2.2.1) (g := (mkF m 9 #[.val (.ref o0), .val (.int p1), .val (.int (-1 : Int32)), .val (.int (0 : Int32))] [(.ref ar), (.int (0 : Int32))])) rfl rfl (hb hby d7_9) _ ?_
    rw [len_of Sz2 Ng2]
    show Steps p.tables e below (T1.setTop (mkF m 10 #[.val (.ref o0), .val (.int p1), .val (.int (-1 : Int32)), .val (.int (0 : Int32))] [(.int (6 : Int32)), (.int (0 : Int32))])) _
    refine XS.icmpNo X1.here hx rfl (hb hby d7_10) rfl (tlt (by decide : (0 : Int32) < (6 : Int32))).2.1 ?_
    show Steps p.tables e below (T1.setTop (mkF m 13 #[.val (.ref o0), .val (.int p1), .val (.int (-1 : Int32)), .val (.int (0 : Int32))] [])) _
    refine XS.iloadN X1.here hx rfl (hb hby d7_13) rfl ?_
    show Steps p.tables e below (T1.setTop (mkF m 14 #[.val (.ref o0), .val (.int p1), .val (.int (-1 : Int32)), .val (.int (0 : Int32))] [(.int (-1 : Int32))])) _
    refine XS.ifNo X1.here hx rfl (hb hby d7_14) rfl ((if0 _ _).trans (tlt (by decide : (-1 : Int32) < (0 : Int32))).2.1) ?_
    show Steps p.tables e below (T1.setTop (mkF m 17 #[.val (.ref o0), .val (.int p1), .val (.int (-1 : Int32)), .val (.int (0 : Int32))] [])) _
    refine XS.aloadN X1.here hx rfl (hb hby d7_17) rfl rfl ?_
    show Steps p.tables e below (T1.setTop (mkF m 18 #[.val (.ref o0), .val (.int p1), .val (.int (-1 : Int32)), .val (.int (0 : Int32))] [(.ref o0)])) _
    refine st3 _ ?_
    show Steps p.tables e below (T3.setTop (mkF m 21 #[.val (.ref o0), .val (.int p1), .val (.int (-1 : Int32)), .val (.int (0 : Int32))] [(.ref ar)])) _
    refine XS.iloadN X3.here hx rfl (hb hby d7_21) rfl ?_
    show Steps p.tables e below (T3.setTop (mkF m 22 #[.val (.ref o0), .val (.int p1), .val (.int (-1 : Int32)), .val (.int (0 : Int32))] [(.int (0 : Int32)), (.ref ar)])) _
    refine X3.iaload hx (j := (0 : Int32)) (v := (.int x0)) (by rw [e3]; exact Ar4.1) (State.isArrayOf_alike hZ.alike Ar4.2.1) Ar4.2.2 hin4 hat4 (g := (mkF m 22 #[.val (.ref o0), .val (.int p1), .val (.int (-1 : Int32)), .val (.int (0 : Int32))] [(.int (0 : Int32)), (.ref ar)])) rfl rfl (hb hby d7_22) _ ?_
    show Steps p.tables e below (T3.setTop (mkF m 23 #[.val (.ref o0), .val (.int p1), .val (.int (-1 : Int32)), .val (.int (0 : Int32))] [(.int x0)])) _
    refine XS.iloadN X3.here hx rfl (hb hby d7_23) rfl ?_
    show Steps p.tables e below (T3.setTop (mkF m 24 #[.val (.ref o0), .val (.int p1), .val (.int (-1 : Int32)), .val (.int (0 : Int32))] [(.int p1), (.int x0)])) _
    refine XS.icmpYes X3.here hx rfl (pc0 := 24) (pc' := 38) rfl (hb hby d7_24) rfl (feq q0).2 (by decide) (by decide) ?_
    show Steps p.tables e below (T3.setTop (mkF m 38 #[.val (.ref o0), .val (.int p1), .val (.int (-1 : Int32)), .val (.int (0 : Int32))] [])) _
    refine XS.iconst X3.here hx rfl (hb hby d7_38) ?_
    show Steps p.tables e below (T3.setTop (mkF m 39 #[.val (.ref o0), .val (.int p1), .val (.int (-1 : Int32)), .val (.int (0 : Int32))] [(.int (-1 : Int32))])) _
    refine XS.istoreN X3.here hx rfl (hb hby d7_39) rfl (l' := #[.val (.ref o0), .val (.int p1), .val (.int (-1 : Int32)), .val (.int (0 : Int32))]) rfl ?_
    show Steps p.tables e below (T3.setTop (mkF m 40 #[.val (.ref o0), .val (.int p1), .val (.int (-1 : Int32)), .val (.int (0 : Int32))] [])) _
    refine XS.iinc X3.here hx rfl (hb hby d7_40) rfl (l' := #[.val (.ref o0), .val (.int p1), .val (.int (-1 : Int32)), .val (.int (2 : Int32))]) rfl ?_
    show Steps p.tables e below (T3.setTop (mkF m 43 #[.val (.ref o0), .val (.int p1), .val (.int (-1 : Int32)), .val (.int (2 : Int32))] [])) _
    refine XS.goto X3.here hx rfl (pc0 := 43) (pc' := 4) rfl (hb hby d7_43) (by decide) (by decide) ?_
    show Steps p.tables e below (T3.setTop (mkF m 4 #[.val (.ref o0), .val (.int p1), .val (.int (-1 : Int32)), .val (.int (2 : Int32))] [])) _
    refine XS.iloadN X3.here hx rfl (hb hby d7_4) rfl ?_
    show Steps p.tables e below (T3.setTop (mkF m 5 #[.val (.ref o0), .val (.int p1), .val (.int (-1 : Int32)), .val (.int (2 : Int32))] [(.int (2 : Int32))])) _
    refine XS.aloadN X3.here hx rfl (hb hby d7_5) rfl rfl ?_
    show Steps p.tables e below (T3.setTop (mkF m 6 #[.val (.ref o0), .val (.int p1), .val (.int (-1 : Int32)), .val (.int (2 : Int32))] [(.ref o0), (.int (2 : Int32))])) _
    refine st5 _ ?_
    show Steps p.tables e below (T5.setTop (mkF m 9 #[.val (.ref o0), .val (.int p1), .val (.int (-1 : Int32)), .val (.int (2 : Int32))] [(.ref ar), (.int (2 : Int32))])) _
    refine X5.arraylength hx (by rw [e5]; exact Ar6.1) (State.isArrayOf_alike hZ.alike Ar6.2.1) (g := (mkF m 9 #[.val (.ref o0), .val (.int p1), .val (.int (-1 : Int32)), .val (.int (2 : Int32))] [(.ref ar), (.int (2 : Int32))])) rfl rfl (hb hby d7_9) _ ?_
    rw [len_of Sz6 Ng6]
    show Steps p.tables e below (T5.setTop (mkF m 10 #[.val (.ref o0), .val (.int p1), .val (.int (-1 : Int32)), .val (.int (2 : Int32))] [(.int (6 : Int32)), (.int (2 : Int32))])) _
    refine XS.icmpNo X5.here hx rfl (hb hby d7_10) rfl (tlt (by decide : (2 : Int32) < (6 : Int32))).2.1 ?_
    show Steps p.tables e below (T5.setTop (mkF m 13 #[.val (.ref o0), .val (.int p1), .val (.int (-1 : Int32)), .val (.int (2 : Int32))] [])) _
    refine XS.iloadN X5.here hx rfl (hb hby d7_13) rfl ?_
    show Steps p.tables e below (T5.setTop (mkF m 14 #[.val (.ref o0), .val (.int p1), .val (.int (-1 : Int32)), .val (.int (2 : Int32))] [(.int (-1 : Int32))])) _
    refine XS.ifNo X5.here hx rfl (hb hby d7_14) rfl ((if0 _ _).trans (tlt (by decide : (-1 : Int32) < (0 : Int32))).2.1) ?_
    show Steps p.tables e below (T5.setTop (mkF m 17 #[.val (.ref o0), .val (.int p1), .val (.int (-1 : Int32)), .val (.int (2 : Int32))] [])) _
    refine XS.aloadN X5.here hx rfl (hb hby d7_17) rfl rfl ?_
    show Steps p.tables e below (T5.setTop (mkF m 18 #[.val (.ref o0), .val (.int p1), .val (.int (-1 : Int32)), .val (.int (2 : Int32))] [(.ref o0)])) _
    refine st7 _ ?_
    show Steps p.tables e below (T7.setTop (mkF m 21 #[.val (.ref o0), .val (.int p1), .val (.int (-1 : Int32)), .val (.int (2 : Int32))] [(.ref ar)])) _
    refine XS.iloadN X7.here hx rfl (hb hby d7_21) rfl ?_
    show Steps p.tables e below (T7.setTop (mkF m 22 #[.val (.ref o0), .val (.int p1), .val (.int (-1 : Int32)), .val (.int (2 : Int32))] [(.int (2 : Int32)), (.ref ar)])) _
    refine X7.iaload hx (j := (2 : Int32)) (v := (.int x1)) (by rw [e7]; exact Ar8.1) (State.isArrayOf_alike hZ.alike Ar8.2.1) Ar8.2.2 hin8 hat8 (g := (mkF m 22 #[.val (.ref o0), .val (.int p1), .val (.int (-1 : Int32)), .val (.int (2 : Int32))] [(.int (2 : Int32)), (.ref ar)])) rfl rfl (hb hby d7_22) _ ?_
    show Steps p.tables e below (T7.setTop (mkF m 23 #[.val (.ref o0), .val (.int p1), .val (.int (-1 : Int32)), .val (.int (2 : Int32))] [(.int x1)])) _
    refine XS.iloadN X7.here hx rfl (hb hby d7_23) rfl ?_
    show Steps p.tables e below (T7.setTop (mkF m 24 #[.val (.ref o0), .val (.int p1), .val (.int (-1 : Int32)), .val (.int (2 : Int32))] [(.int p1), (.int x1)])) _
    refine XS.icmpYes X7.here hx rfl (pc0 := 24) (pc' := 38) rfl (hb hby d7_24) rfl (feq q1).2 (by decide) (by decide) ?_
    show Steps p.tables e below (T7.setTop (mkF m 38 #[.val (.ref o0), .val (.int p1), .val (.int (-1 : Int32)), .val (.int (2 : Int32))] [])) _
    refine XS.iconst X7.here hx rfl (hb hby d7_38) ?_
    show Steps p.tables e below (T7.setTop (mkF m 39 #[.val (.ref o0), .val (.int p1), .val (.int (-1 : Int32)), .val (.int (2 : Int32))] [(.int (-1 : Int32))])) _
    refine XS.istoreN X7.here hx rfl (hb hby d7_39) rfl (l' := #[.val (.ref o0), .val (.int p1), .val (.int (-1 : Int32)), .val (.int (2 : Int32))]) rfl ?_
    show Steps p.tables e below (T7.setTop (mkF m 40 #[.val (.ref o0), .val (.int p1), .val (.int (-1 : Int32)), .val (.int (2 : Int32))] [])) _
    refine XS.iinc X7.here hx rfl (hb hby d7_40) rfl (l' := #[.val (.ref o0), .val (.int p1), .val (.int (-1 : Int32)), .val (.int (4 : Int32))]) rfl ?_
    show Steps p.tables e below (T7.setTop (mkF m 43 #[.val (.ref o0), .val (.int p1), .val (.int (-1 : Int32)), .val (.int (4 : Int32))] [])) _
    refine XS.goto X7.here hx rfl (pc0 := 43) (pc' := 4) rfl (hb hby d7_43) (by decide) (by decide) ?_
    show Steps p.tables e below (T7.setTop (mkF m 4 #[.val (.ref o0), .val (.int p1), .val (.int (-1 : Int32)), .val (.int (4 : Int32))] [])) _
    refine XS.iloadN X7.here hx rfl (hb hby d7_4) rfl ?_
    show Steps p.tables e below (T7.setTop (mkF m 5 #[.val (.ref o0), .val (.int p1), .val (.int (-1 : Int32)), .val (.int (4 : Int32))] [(.int (4 : Int32))])) _
    refine XS.aloadN X7.here hx rfl (hb hby d7_5) rfl rfl ?_
    show Steps p.tables e below (T7.setTop (mkF m 6 #[.val (.ref o0), .val (.int p1), .val (.int (-1 : Int32)), .val (.int (4 : Int32))] [(.ref o0), (.int (4 : Int32))])) _
    refine st9 _ ?_
    show Steps p.tables e below (T9.setTop (mkF m 9 #[.val (.ref o0), .val (.int p1), .val (.int (-1 : Int32)), .val (.int (4 : Int32))] [(.ref ar), (.int (4 : Int32))])) _
    refine X9.arraylength hx (by rw [e9]; exact Ar10.1) (State.isArrayOf_alike hZ.alike Ar10.2.1) (g := (mkF m 9 #[.val (.ref o0), .val (.int p1), .val (.int (-1 : Int32)), .val (.int (4 : Int32))] [(.ref ar), (.int (4 : Int32))])) rfl rfl (hb hby d7_9) _ ?_
    rw [len_of Sz10 Ng10]
    show Steps p.tables e below (T9.setTop (mkF m 10 #[.val (.ref o0), .val (.int p1), .val (.int (-1 : Int32)), .val (.int (4 : Int32))] [(.int (6 : Int32)), (.int (4 : Int32))])) _
    refine XS.icmpNo X9.here hx rfl (hb hby d7_10) rfl (tlt (by decide : (4 : Int32) < (6 : Int32))).2.1 ?_
    show Steps p.tables e below (T9.setTop (mkF m 13 #[.val (.ref o0), .val (.int p1), .val (.int (-1 : Int32)), .val (.int (4 : Int32))] [])) _
    refine XS.iloadN X9.here hx rfl (hb hby d7_13) rfl ?_
    show Steps p.tables e below (T9.setTop (mkF m 14 #[.val (.ref o0), .val (.int p1), .val (.int (-1 : Int32)), .val (.int (4 : Int32))] [(.int (-1 : Int32))])) _
    refine XS.ifNo X9.here hx rfl (hb hby d7_14) rfl ((if0 _ _).trans (tlt (by decide : (-1 : Int32) < (0 : Int32))).2.1) ?_
    show Steps p.tables e below (T9.setTop (mkF m 17 #[.val (.ref o0), .val (.int p1), .val (.int (-1 : Int32)), .val (.int (4 : Int32))] [])) _
    refine XS.aloadN X9.here hx rfl (hb hby d7_17) rfl rfl ?_
    show Steps p.tables e below (T9.setTop (mkF m 18 #[.val (.ref o0), .val (.int p1), .val (.int (-1 : Int32)), .val (.int (4 : Int32))] [(.ref o0)])) _
    refine st11 _ ?_
    show Steps p.tables e below (T11.setTop (mkF m 21 #[.val (.ref o0), .val (.int p1), .val (.int (-1 : Int32)), .val (.int (4 : Int32))] [(.ref ar)])) _
    refine XS.iloadN X11.here hx rfl (hb hby d7_21) rfl ?_
    show Steps p.tables e below (T11.setTop (mkF m 22 #[.val (.ref o0), .val (.int p1), .val (.int (-1 : Int32)), .val (.int (4 : Int32))] [(.int (4 : Int32)), (.ref ar)])) _
    refine X11.iaload hx (j := (4 : Int32)) (v := (.int x2)) (by rw [e11]; exact Ar12.1) (State.isArrayOf_alike hZ.alike Ar12.2.1) Ar12.2.2 hin12 hat12 (g := (mkF m 22 #[.val (.ref o0), .val (.int p1), .val (.int (-1 : Int32)), .val (.int (4 : Int32))] [(.int (4 : Int32)), (.ref ar)])) rfl rfl (hb hby d7_22) _ ?_
    show Steps p.tables e below (T11.setTop (mkF m 23 #[.val (.ref o0), .val (.int p1), .val (.int (-1 : Int32)), .val (.int (4 : Int32))] [(.int x2)])) _
    refine XS.iloadN X11.here hx rfl (hb hby d7_23) rfl ?_
    show Steps p.tables e below (T11.setTop (mkF m 24 #[.val (.ref o0), .val (.int p1), .val (.int (-1 : Int32)), .val (.int (4 : Int32))] [(.int p1), (.int x2)])) _
    refine XS.icmpNo X11.here hx rfl (hb hby d7_24) rfl (teq q2).2 ?_
    show Steps p.tables e below (T11.setTop (mkF m 27 #[.val (.ref o0), .val (.int p1), .val (.int (-1 : Int32)), .val (.int (4 : Int32))] [])) _
    refine XS.aloadN X11.here hx rfl (hb hby d7_27) rfl rfl ?_
    show Steps p.tables e below (T11.setTop (mkF m 28 #[.val (.ref o0), .val (.int p1), .val (.int (-1 : Int32)), .val (.int (4 : Int32))] [(.ref o0)])) _
    refine st13 _ ?_
    show Steps p.tables e below (T13.setTop (mkF m 31 #[.val (.ref o0), .val (.int p1), .val (.int (-1 : Int32)), .val (.int (4 : Int32))] [(.ref ar)])) _
    refine XS.iloadN X13.here hx rfl (hb hby d7_31) rfl ?_
    show Steps p.tables e below (T13.setTop (mkF m 32 #[.val (.ref o0), .val (.int p1), .val (.int (-1 : Int32)), .val (.int (4 : Int32))] [(.int (4 : Int32)), (.ref ar)])) _
    refine XS.iconst X13.here hx rfl (hb hby d7_32) ?_
    show Steps p.tables e below (T13.setTop (mkF m 33 #[.val (.ref o0), .val (.int p1), .val (.int (-1 : Int32)), .val (.int (4 : Int32))] [(.int (1 : Int32)), (.int (4 : Int32)), (.ref ar)])) _
    refine XS.iadd X13.here hx rfl (hb hby d7_33) rfl ?_
    show Steps p.tables e below (T13.setTop (mkF m 34 #[.val (.ref o0), .val (.int p1), .val (.int (-1 : Int32)), .val (.int (4 : Int32))] [(.int (5 : Int32)), (.ref ar)])) _
    refine X13.iaload hx (j := (5 : Int32)) (v := (.int y2)) (by rw [e13]; exact Ar14.1) (State.isArrayOf_alike hZ.alike Ar14.2.1) Ar14.2.2 hin14 hat14 (g := (mkF m 34 #[.val (.ref o0), .val (.int p1), .val (.int (-1 : Int32)), .val (.int (4 : Int32))] [(.int (5 : Int32)), (.ref ar)])) rfl rfl (hb hby d7_34) _ ?_
    show Steps p.tables e below (T13.setTop (mkF m 35 #[.val (.ref o0), .val (.int p1), .val (.int (-1 : Int32)), .val (.int (4 : Int32))] [(.int y2)])) _
    refine XS.goto X13.here hx rfl (pc0 := 35) (pc' := 39) rfl (hb hby d7_35) (by decide) (by decide) ?_
    show Steps p.tables e below (T13.setTop (mkF m 39 #[.val (.ref o0), .val (.int p1), .val (.int (-1 : Int32)), .val (.int (4 : Int32))] [(.int y2)])) _
    refine XS.istoreN X13.here hx rfl (hb hby d7_39) rfl (l' := #[.val (.ref o0), .val (.int p1), .val (.int y2), .val (.int (4 : Int32))]) rfl ?_
    show Steps p.tables e below (T13.setTop (mkF m 40 #[.val (.ref o0), .val (.int p1), .val (.int y2), .val (.int (4 : Int32))] [])) _
    refine XS.iinc X13.here hx rfl (hb hby d7_40) rfl (l' := #[.val (.ref o0), .val (.int p1), .val (.int y2), .val (.int (6 : Int32))]) rfl ?_
    show Steps p.tables e below (T13.setTop (mkF m 43 #[.val (.ref o0), .val (.int p1), .val (.int y2), .val (.int (6 : Int32))] [])) _
    refine XS.goto X13.here hx rfl (pc0 := 43) (pc' := 4) rfl (hb hby d7_43) (by decide) (by decide) ?_
    show Steps p.tables e below (T13.setTop (mkF m 4 #[.val (.ref o0), .val (.int p1), .val (.int y2), .val (.int (6 : Int32))] [])) _
    refine XS.iloadN X13.here hx rfl (hb hby d7_4) rfl ?_
    show Steps p.tables e below (T13.setTop (mkF m 5 #[.val (.ref o0), .val (.int p1), .val (.int y2), .val (.int (6 : Int32))] [(.int (6 : Int32))])) _
    refine XS.aloadN X13.here hx rfl (hb hby d7_5) rfl rfl ?_
    show Steps p.tables e below (T13.setTop (mkF m 6 #[.val (.ref o0), .val (.int p1), .val (.int y2), .val (.int (6 : Int32))] [(.ref o0), (.int (6 : Int32))])) _
    refine st15 _ ?_
    show Steps p.tables e below (T15.setTop (mkF m 9 #[.val (.ref o0), .val (.int p1), .val (.int y2), .val (.int (6 : Int32))] [(.ref ar), (.int (6 : Int32))])) _
    refine X15.arraylength hx (by rw [e15]; exact Ar16.1) (State.isArrayOf_alike hZ.alike Ar16.2.1) (g := (mkF m 9 #[.val (.ref o0), .val (.int p1), .val (.int y2), .val (.int (6 : Int32))] [(.ref ar), (.int (6 : Int32))])) rfl rfl (hb hby d7_9) _ ?_
    rw [len_of Sz16 Ng16]
    show Steps p.tables e below (T15.setTop (mkF m 10 #[.val (.ref o0), .val (.int p1), .val (.int y2), .val (.int (6 : Int32))] [(.int (6 : Int32)), (.int (6 : Int32))])) _
    refine XS.icmpYes X15.here hx rfl (pc0 := 10) (pc' := 46) rfl (hb hby d7_10) rfl (flt (by decide : ¬ ((6 : Int32) < (6 : Int32)))).2.1 (by decide) (by decide) ?_
    show Steps p.tables e below (T15.setTop (mkF m 46 #[.val (.ref o0), .val (.int p1), .val (.int y2), .val (.int (6 : Int32))] [])) _
    refine XS.iloadN X15.here hx rfl (hb hby d7_46) rfl ?_
    show Steps p.tables e below (T15.setTop (mkF m 47 #[.val (.ref o0), .val (.int p1), .val (.int y2), .val (.int (6 : Int32))] [(.int y2)])) _
    exact retI X15 hx Bd.returns (hb hby d7_47) hr
  · show own_Q (.int (own_get [(x0, y0), (x1, y1), (x2, y2)] p1)) h0 n0 _ T15.heap _
    rw [e15]
    exact by
      rw [hG]
      exact ⟨rfl, N0, rfl⟩
set_option maxRecDepth 65536 in
set_option maxHeartbeats 40000000 in
theorem rmG3n (l : Launch) (Z : State) (a0 : Array Value) (hw : ∀ d ∈ tables_1, d.before a0 Z = true) (ws : List Jvm.Cond) (o0 : Addr) (p1 : Int32) (x0 : Int32) (y0 : Int32) (x1 : Int32) (y1 : Int32) (x2 : Int32) (y2 : Int32) (ar : Addr) (ka : ClassId) (h0 : Heap) (n0 : Nat) (O0 : Old Z n0 h0) (F_agendaPlaces_o0 : Fld Z h0 o0 "com/example/kvasir/kvasir/tableau/Node" "agendaPlaces" "[I" (.ref ar)) (V_ar : Arv Z h0 ar ka .int (6 : Int32) [(.int x0), (.int y0), (.int x1), (.int y1), (.int x2), (.int y2)] (.int (0 : Int32))) (q0 : ¬ (x0 = p1)) (q1 : ¬ (x1 = p1)) (q2 : ¬ (x2 = p1)) :
    MetFree l (⟨"com/example/kvasir/kvasir/tableau/Node", "agendaPlace", "(I)I"⟩ : MethodName) (head1 (Jvm.Cond.code (⟨"com/example/kvasir/kvasir/tableau/Node", "agendaPlace", "(I)I"⟩ : MethodName) prog_32_method_53_code 4 (some .int) :: ws) ({ frames := 0, cells := 0, slots := 0, locals := 0 } : Room)) (fun a U => a = #[(.ref o0), (.int p1)] ∧ Z.Warmed39 U.vm ∧ U.heap = h0) (fun _ _ _ _ _ => True) (fun _ U o U' => ∃ v L, o = .returned v ∧ own_Q (.int (own_get [(x0, y0), (x1, y1), (x2, y2)] p1)) h0 n0 v U'.heap L ∧ FrameEnd U o U' L ({ frames := 0, cells := 0, slots := 0, locals := 0 } : Room).cells ({ frames := 0, cells := 0, slots := 0, locals := 0 } : Room).slots) := by
  refine MetFree.of_bodySF (plainFor_of_name pn_7) hisR ?_
  intro p e s m args below meth c s₁ Bd hml0 hP hK
  obtain ⟨rfl, hZ, hh⟩ := hP
  have hx := Bd.exec
  have hby := Bd.bytes
  have hml : c.maxLocals = 4 := hml0
  have hown : s.vm.findClass "com/example/kvasir/kvasir/tableau/Node" = some m.cls := findClass_of_methodNamed Bd.named
  have hnm := (name_of_methodNamed Bd.named Bd.method).1
  have X0 : Stand p l e ({ frames := 0, cells := 0, slots := 0, locals := 0 } : Room) s m #[(.ref o0), (.int p1)] below meth c s₁ [] 0 0 := Stand.of_body Bd
  have e0 : s₁.heap = h0 := by rw [← hh, Bd.state]; rfl
  have N0 := Fr.nil n0
  have pre0 : ∀ t, Steps p.tables e below (s₁.setTop (mkF m 0 #[.val (.ref o0), .val (.int p1), .unset, .unset] [])) t → Steps p.tables e below (s₁.setTop (entryFrame m #[(.ref o0), (.int p1)] 4)) t := fun t k => castTop (ef_7 m o0 p1) k
  obtain ⟨T1, X1, e1, st1⟩ := getF X0 hx hZ hown (host := "") (Or.inl (hw _ (List.mem_of_getElem? (i := 41) rfl))) Via.refl e0 F_agendaPlaces_o0 (g := (mkF m 6 #[.val (.ref o0), .val (.int p1), .val (.int (-1 : Int32)), .val (.int (0 : Int32))] [(.ref o0), (.int (0 : Int32))])) rfl rfl (hb hby d7_6)
  obtain ⟨cl2, Ar2, qa2, Sz2, Ng2, Hs2, Ft2⟩ := V_ar
  have V2o : Arv Z h0 ar ka .int (6 : Int32) [(.int x0), (.int y0), (.int x1), (.int y1), (.int x2), (.int y2)] (.int (0 : Int32)) := ⟨cl2, Ar2, qa2, Sz2, Ng2, Hs2, Ft2⟩
  obtain ⟨T3, X3, e3, st3⟩ := getF X1 hx hZ hown (host := "") (Or.inl (hw _ (List.mem_of_getElem? (i := 41) rfl))) Via.refl e1 F_agendaPlaces_o0 (g := (mkF m 18 #[.val (.ref o0), .val (.int p1), .val (.int (-1 : Int32)), .val (.int (0 : Int32))] [(.ref o0)])) rfl rfl (hb hby d7_18)
  obtain ⟨cl4, Ar4, qa4, Sz4, Ng4, Hs4, Ft4⟩ := V2o
  have hin4 := (inb_of (j := (0 : Int32)) Sz4 ⟨by decide, by decide⟩)
  have hat4 := Hs4.at (v := (.int x0)) hin4 rfl
  have V4o : Arv Z h0 ar ka .int (6 : Int32) [(.int x0), (.int y0), (.int x1), (.int y1), (.int x2), (.int y2)] (.int (0 : Int32)) := ⟨cl4, Ar4, qa4, Sz4, Ng4, Hs4, Ft4⟩
  obtain ⟨T5, X5, e5, st5⟩ := getF X3 hx hZ hown (host := "") (Or.inl (hw _ (List.mem_of_getElem? (i := 41) rfl))) Via.refl e3 F_agendaPlaces_o0 (g := (mkF m 6 #[.val (.ref o0), .val (.int p1), .val (.int (-1 : Int32)), .val (.int (2 : Int32))] [(.ref o0), (.int (2 : Int32))])) rfl rfl (hb hby d7_6)
  obtain ⟨cl6, Ar6, qa6, Sz6, Ng6, Hs6, Ft6⟩ := V4o
  have V6o : Arv Z h0 ar ka .int (6 : Int32) [(.int x0), (.int y0), (.int x1), (.int y1), (.int x2), (.int y2)] (.int (0 : Int32)) := ⟨cl6, Ar6, qa6, Sz6, Ng6, Hs6, Ft6⟩
  obtain ⟨T7, X7, e7, st7⟩ := getF X5 hx hZ hown (host := "") (Or.inl (hw _ (List.mem_of_getElem? (i := 41) rfl))) Via.refl e5 F_agendaPlaces_o0 (g := (mkF m 18 #[.val (.ref o0), .val (.int p1), .val (.int (-1 : Int32)), .val (.int (2 : Int32))] [(.ref o0)])) rfl rfl (hb hby d7_18)
  obtain ⟨cl8, Ar8, qa8, Sz8, Ng8, Hs8, Ft8⟩ := V6o
  have hin8 := (inb_of (j := (2 : Int32)) Sz8 ⟨by decide, by decide⟩)
  have hat8 := Hs8.at (v := (.int x1)) hin8 rfl
  have V8o : Arv Z h0 ar ka .int (6 : Int32) [(.int x0), (.int y0), (.int x1), (.int y1), (.int x2), (.int y2)] (.int (0 : Int32)) := ⟨cl8, Ar8, qa8, Sz8, Ng8, Hs8, Ft8⟩
  obtain ⟨T9, X9, e9, st9⟩ := getF X7 hx hZ hown (host := "") (Or.inl (hw _ (List.mem_of_getElem? (i := 41) rfl))) Via.refl e7 F_agendaPlaces_o0 (g := (mkF m 6 #[.val (.ref o0), .val (.int p1), .val (.int (-1 : Int32)), .val (.int (4 : Int32))] [(.ref o0), (.int (4 : Int32))])) rfl rfl (hb hby d7_6)
  obtain ⟨cl10, Ar10, qa10, Sz10, Ng10, Hs10, Ft10⟩ := V8o
  have V10o : Arv Z h0 ar ka .int (6 : Int32) [(.int x0), (.int y0), (.int x1), (.int y1), (.int x2), (.int y2)] (.int (0 : Int32)) := ⟨cl10, Ar10, qa10, Sz10, Ng10, Hs10, Ft10⟩
  obtain ⟨T11, X11, e11, st11⟩ := getF X9 hx hZ hown (host := "") (Or.inl (hw _ (List.mem_of_getElem? (i := 41) rfl))) Via.refl e9 F_agendaPlaces_o0 (g := (mkF m 18 #[.val (.ref o0), .val (.int p1), .val (.int (-1 : Int32)), .val (.int (4 : Int32))] [(.ref o0)])) rfl rfl (hb hby d7_18)
  obtain ⟨cl12, Ar12, qa12, Sz12, Ng12, Hs12, Ft12⟩ := V10o
  have hin12 := (inb_of (j := (4 : Int32)) Sz12 ⟨by decide, by decide⟩)
  have hat12 := Hs12.at (v := (.int x2)) hin12 rfl
  have V12o : Arv Z h0 ar ka .int (6 : Int32) [(.int x0), (.int y0), (.int x1), (.int y1), (.int x2), (.int y2)] (.int (0 : Int32)) := ⟨cl12, Ar12, qa12, Sz12, Ng12, Hs12, Ft12⟩
  obtain ⟨T13, X13, e13, st13⟩ := getF X11 hx hZ hown (host := "") (Or.inl (hw _ (List.mem_of_getElem? (i := 41) rfl))) Via.refl e11 F_agendaPlaces_o0 (g := (mkF m 6 #[.val (.ref o0), .val (.int p1), .val (.int (-1 : Int32)), .val (.int (6 : Int32))] [(.ref o0), (.int (6 : Int32))])) rfl rfl (hb hby d7_6)
  obtain ⟨cl14, Ar14, qa14, Sz14, Ng14, Hs14, Ft14⟩ := V12o
  have V14o : Arv Z h0 ar ka .int (6 : Int32) [(.int x0), (.int y0), (.int x1), (.int y1), (.int x2), (.int y2)] (.int (0 : Int32)) := ⟨cl14, Ar14, qa14, Sz14, Ng14, Hs14, Ft14⟩
  have hG : own_get [(x0, y0), (x1, y1), (x2, y2)] p1 = (-1 : Int32) := by simp [own_get, q0, q1, q2]
  obtain ⟨fs, hr, hrun, hended, hW, hsame⟩ := X13.leave (v := some (.int (-1 : Int32))) (fun h => by rw [Bd.returns] at h; cases h)
  refine ⟨_, _, pre0 _ ?_, hrun, hended, _, _, rfl, ?_, ⟨_, rfl⟩, hW, hsame.mono (by decide) (by decide)⟩
  · show Steps p.tables e below (s₁.setTop (mkF m 0 #[.val (.ref o0), .val (.int p1), .unset, .unset] [])) _
    refine XS.iconst X0.here hx rfl (hb hby d7_0) ?_
    show Steps p.tables e below (s₁.setTop (mkF m 1 #[.val (.ref o0), .val (.int p1), .unset, .unset] [(.int (-1 : Int32))])) _
    refine XS.istoreN X0.here hx rfl (hb hby d7_1) rfl (l' := #[.val (.ref o0), .val (.int p1), .val (.int (-1 : Int32)), .unset]) rfl ?_
    show Steps p.tables e below (s₁.setTop (mkF m 2 #[.val (.ref o0), .val (.int p1), .val (.int (-1 : Int32)), .unset] [])) _
    refine XS.iconst X0.here hx rfl (hb hby d7_2) ?_
    show Steps p.tables e below (s₁.setTop (mkF m 3 #[.val (.ref o0), .val (.int p1), .val (.int (-1 : Int32)), .unset] [(.int (0 : Int32))])) _
    refine XS.istoreN X0.here hx rfl (hb hby d7_3) rfl (l' := #[.val (.ref o0), .val (.int p1), .val (.int (-1 : Int32)), .val (.int (0 : Int32))]) rfl ?_
    show Steps p.tables e below (s₁.setTop (mkF m 4 #[.val (.ref o0), .val (.int p1), .val (.int (-1 : Int32)), .val (.int (0 : Int32))] [])) _
    refine XS.iloadN X0.here hx rfl (hb hby d7_4) rfl ?_
    show Steps p.tables e below (s₁.setTop (mkF m 5 #[.val (.ref o0), .val (.int p1), .val (.int (-1 : Int32)), .val (.int (0 : Int32))] [(.int (0 : Int32))])) _
    refine XS.aloadN X0.here hx rfl (hb hby d7_5) rfl rfl ?_
    show Steps p.tables e below (s₁.setTop (mkF m 6 #[.val (.ref o0), .val (.int p1), .val (.int (-1 : Int32)), .val (.int (0 : Int32))] [(.ref o0), (.int (0 : Int32))])) _
    refine st1 _ ?_
    show Steps p.tables e below (T1.setTop (mkF m 9 #[.val (.ref o0), .val (.int p1), .val (.int (-1 : Int32)), .val (.int (0 : Int32))] [(.ref ar), (.int (0 : Int32))])) _
    refine X1.arraylength hx (by rw [e1]; exact Ar2.1) (State.isArrayOf_alike hZ.alike Ar2.2.1) (g := (mkF m 9 #[.val (.ref o0), .val (.int p1), .val (.int (-1 : Int32)), .val (.int (0 : Int32))] [(.ref ar), (.int (0 : Int32))])) rfl rfl (hb hby d7_9) _ ?_
    rw [len_of Sz2 Ng2]
    show Steps p.tables e below (T1.setTop (mkF m 10 #[.val (.ref o0), .val (.int p1), .val (.int (-1 : Int32)), .val (.int (0 : Int32))] [(.int (6 : Int32)), (.int (0 : Int32))])) _
    refine XS.icmpNo X1.here hx rfl (hb hby d7_10) rfl (tlt (by decide : (0 : Int32) < (6 : Int32))).2.1 ?_
    show Steps p.tables e below (T1.setTop (mkF m 13 #[.val (.ref o0), .val (.int p1), .val (.int (-1 : Int32)), .val (.int (0 : Int32))] [])) _
    refine XS.iloadN X1.here hx rfl (hb hby d7_13) rfl ?_
    show Steps p.tables e below (T1.setTop (mkF m 14 #[.val (.ref o0), .val (.int p1), .val (.int (-1 : Int32)), .val (.int (0 : Int32))] [(.int (-1 : Int32))])) _
    refine XS.ifNo X1.here hx rfl (hb hby d7_14) rfl ((if0 _ _).trans (tlt (by decide : (-1 : Int32) < (0 : Int32))).2.1) ?_
    show Steps p.tables e below (T1.setTop (mkF m 17 #[.val (.ref o0), .val (.int p1), .val (.int (-1 : Int32)), .val (.int (0 : Int32))] [])) _
    refine XS.aloadN X1.here hx rfl (hb hby d7_17) rfl rfl ?_
    show Steps p.tables e below (T1.setTop (mkF m 18 #[.val (.ref o0), .val (.int p1), .val (.int (-1 : Int32)), .val (.int (0 : Int32))] [(.ref o0)])) _
    refine st3 _ ?_
    show Steps p.tables e below (T3.setTop (mkF m 21 #[.val (.ref o0), .val (.int p1), .val (.int (-1 : Int32)), .val (.int (0 : Int32))] [(.ref ar)])) _
    refine XS.iloadN X3.here hx rfl (hb hby d7_21) rfl ?_
    show Steps p.tables e below (T3.setTop (mkF m 22 #[.val (.ref o0), .val (.int p1), .val (.int (-1 : Int32)), .val (.int (0 : Int32))] [(.int (0 : Int32)), (.ref ar)])) _
    refine X3.iaload hx (j := (0 : Int32)) (v := (.int x0)) (by rw [e3]; exact Ar4.1) (State.isArrayOf_alike hZ.alike Ar4.2.1) Ar4.2.2 hin4 hat4 (g := (mkF m 22 #[.val (.ref o0), .val (.int p1), .val (.int (-1 : Int32)), .val (.int (0 : Int32))] [(.int (0 : Int32)), (.ref ar)])) rfl rfl (hb hby d7_22) _ ?_
    show Steps p.tables e below (T3.setTop (mkF m 23 #[.val (.ref o0), .val (.int p1), .val (.int (-1 : Int32)), .val (.int (0 : Int32))] [(.int x0)])) _
    refine XS.iloadN X3.here hx rfl (hb hby d7_23) rfl ?_
    show Steps p.tables e below (T3.setTop (mkF m 24 #[.val (.ref o0), .val (.int p1), .val (.int (-1 : Int32)), .val (.int (0 : Int32))] [(.int p1), (.int x0)])) _
    refine XS.icmpYes X3.here hx rfl (pc0 := 24) (pc' := 38) rfl (hb hby d7_24) rfl (feq q0).2 (by decide) (by decide) ?_
    show Steps p.tables e below (T3.setTop (mkF m 38 #[.val (.ref o0), .val (.int p1), .val (.int (-1 : Int32)), .val (.int (0 : Int32))] [])) _
    refine XS.iconst X3.here hx rfl (hb hby d7_38) ?_
    show Steps p.tables e below (T3.setTop (mkF m 39 #[.val (.ref o0), .val (.int p1), .val (.int (-1 : Int32)), .val (.int (0 : Int32))] [(.int (-1 : Int32))])) _
    refine XS.istoreN X3.here hx rfl (hb hby d7_39) rfl (l' := #[.val (.ref o0), .val (.int p1), .val (.int (-1 : Int32)), .val (.int (0 : Int32))]) rfl ?_
    show Steps p.tables e below (T3.setTop (mkF m 40 #[.val (.ref o0), .val (.int p1), .val (.int (-1 : Int32)), .val (.int (0 : Int32))] [])) _
    refine XS.iinc X3.here hx rfl (hb hby d7_40) rfl (l' := #[.val (.ref o0), .val (.int p1), .val (.int (-1 : Int32)), .val (.int (2 : Int32))]) rfl ?_
    show Steps p.tables e below (T3.setTop (mkF m 43 #[.val (.ref o0), .val (.int p1), .val (.int (-1 : Int32)), .val (.int (2 : Int32))] [])) _
    refine XS.goto X3.here hx rfl (pc0 := 43) (pc' := 4) rfl (hb hby d7_43) (by decide) (by decide) ?_
    show Steps p.tables e below (T3.setTop (mkF m 4 #[.val (.ref o0), .val (.int p1), .val (.int (-1 : Int32)), .val (.int (2 : Int32))] [])) _
    refine XS.iloadN X3.here hx rfl (hb hby d7_4) rfl ?_
    show Steps p.tables e below (T3.setTop (mkF m 5 #[.val (.ref o0), .val (.int p1), .val (.int (-1 : Int32)), .val (.int (2 : Int32))] [(.int (2 : Int32))])) _
    refine XS.aloadN X3.here hx rfl (hb hby d7_5) rfl rfl ?_
    show Steps p.tables e below (T3.setTop (mkF m 6 #[.val (.ref o0), .val (.int p1), .val (.int (-1 : Int32)), .val (.int (2 : Int32))] [(.ref o0), (.int (2 : Int32))])) _
    refine st5 _ ?_
    show Steps p.tables e below (T5.setTop (mkF m 9 #[.val (.ref o0), .val (.int p1), .val (.int (-1 : Int32)), .val (.int (2 : Int32))] [(.ref ar), (.int (2 : Int32))])) _
    refine X5.arraylength hx (by rw [e5]; exact Ar6.1) (State.isArrayOf_alike hZ.alike Ar6.2.1) (g := (mkF m 9 #[.val (.ref o0), .val (.int p1), .val (.int (-1 : Int32)), .val (.int (2 : Int32))] [(.ref ar), (.int (2 : Int32))])) rfl rfl (hb hby d7_9) _ ?_
    rw [len_of Sz6 Ng6]
    show Steps p.tables e below (T5.setTop (mkF m 10 #[.val (.ref o0), .val (.int p1), .val (.int (-1 : Int32)), .val (.int (2 : Int32))] [(.int (6 : Int32)), (.int (2 : Int32))])) _
    refine XS.icmpNo X5.here hx rfl (hb hby d7_10) rfl (tlt (by decide : (2 : Int32) < (6 : Int32))).2.1 ?_
    show Steps p.tables e below (T5.setTop (mkF m 13 #[.val (.ref o0), .val (.int p1), .val (.int (-1 : Int32)), .val (.int (2 : Int32))] [])) _
    refine XS.iloadN X5.here hx rfl (hb hby d7_13) rfl ?_
    show Steps p.tables e below (T5.setTop (mkF m 14 #[.val (.ref o0), .val (.int p1), .val (.int (-1 : Int32)), .val (.int (2 : Int32))] [(.int (-1 : Int32))])) _
    refine XS.ifNo X5.here hx rfl (hb hby d7_14) rfl ((if0 _ _).trans (tlt (by decide : (-1 : Int32) < (0 : Int32))).2.1) ?_
    show Steps p.tables e below (T5.setTop (mkF m 17 #[.val (.ref o0), .val (.int p1), .val (.int (-1 : Int32)), .val (.int (2 : Int32))] [])) _
    refine XS.aloadN X5.here hx rfl (hb hby d7_17) rfl rfl ?_
    show Steps p.tables e below (T5.setTop (mkF m 18 #[.val (.ref o0), .val (.int p1), .val (.int (-1 : Int32)), .val (.int (2 : Int32))] [(.ref o0)])) _
    refine st7 _ ?_
    show Steps p.tables e below (T7.setTop (mkF m 21 #[.val (.ref o0), .val (.int p1), .val (.int (-1 : Int32)), .val (.int (2 : Int32))] [(.ref ar)])) _
    refine XS.iloadN X7.here hx rfl (hb hby d7_21) rfl ?_
    show Steps p.tables e below (T7.setTop (mkF m 22 #[.val (.ref o0), .val (.int p1), .val (.int (-1 : Int32)), .val (.int (2 : Int32))] [(.int (2 : Int32)), (.ref ar)])) _
    refine X7.iaload hx (j := (2 : Int32)) (v := (.int x1)) (by rw [e7]; exact Ar8.1) (State.isArrayOf_alike hZ.alike Ar8.2.1) Ar8.2.2 hin8 hat8 (g := (mkF m 22 #[.val (.ref o0), .val (.int p1), .val (.int (-1 : Int32)), .val (.int (2 : Int32))] [(.int (2 : Int32)), (.ref ar)])) rfl rfl (hb hby d7_22) _ ?_
    show Steps p.tables e below (T7.setTop (mkF m 23 #[.val (.ref o0), .val (.int p1), .val (.int (-1 : Int32)), .val (.int (2 : Int32))] [(.int x1)])) _
    refine XS.iloadN X7.here hx rfl (hb hby d7_23) rfl ?_
    show Steps p.tables e below (T7.setTop (mkF m 24 #[.val (.ref o0), .val (.int p1), .val (.int (-1 : Int32)), .val (.int (2 : Int32))] [(.int p1), (.int x1)])) _
    refine XS.icmpYes X7.here hx rfl (pc0 := 24) (pc' := 38) rfl (hb hby d7_24) rfl (feq q1).2 (by decide) (by decide) ?_
    show Steps p.tables e below (T7.setTop (mkF m 38 #[.val (.ref o0), .val (.int p1), .val (.int (-1 : Int32)), .val (.int (2 : Int32))] [])) _
    refine XS.iconst X7.here hx rfl (hb hby d7_38) ?_
    show Steps p.tables e below (T7.setTop (mkF m 39 #[.val (.ref o0), .val (.int p1), .val (.int (-1 : Int32)), .val (.int (2 : Int32))] [(.int (-1 : Int32))])) _
    refine XS.istoreN X7.here hx rfl (hb hby d7_39) rfl (l' := #[.val (.ref o0), .val (.int p1), .val (.int (-1 : Int32)), .val (.int (2 : Int32))]) rfl ?_
    show Steps p.tables e below (T7.setTop (mkF m 40 #[.val (.ref o0), .val (.int p1), .val (.int (-1 : Int32)), .val (.int (2 : Int32))] [])) _
    refine XS.iinc X7.here hx rfl (hb hby d7_40) rfl (l' := #[.val (.ref o0), .val (.int p1), .val (.int (-1 : Int32)), .val (.int (4 : Int32))]) rfl ?_
    show Steps p.tables e below (T7.setTop (mkF m 43 #[.val (.ref o0), .val (.int p1), .val (.int (-1 : Int32)), .val (.int (4 : Int32))] [])) _
    refine XS.goto X7.here hx rfl (pc0 := 43) (pc' := 4) rfl (hb hby d7_43) (by decide) (by decide) ?_
    show Steps p.tables e below (T7.setTop (mkF m 4 #[.val (.ref o0), .val (.int p1), .val (.int (-1 : Int32)), .val (.int (4 : Int32))] [])) _
    refine XS.iloadN X7.here hx rfl (hb hby d7_4) rfl ?_
    show Steps p.tables e below (T7.setTop (mkF m 5 #[.val (.ref o0), .val (.int p1), .val (.int (-1 : Int32)), .val (.int (4 : Int32))] [(.int (4 : Int32))])) _
    refine XS.aloadN X7.here hx rfl (hb hby d7_5) rfl rfl ?_
    show Steps p.tables e below (T7.setTop (mkF m 6 #[.val (.ref o0), .val (.int p1), .val (.int (-1 : Int32)), .val (.int (4 : Int32))] [(.ref o0), (.int (4 : Int32))])) _
    refine st9 _ ?_
    show Steps p.tables e below (T9.setTop (mkF m 9 #[.val (.ref o0), .val (.int p1), .val (.int (-1 : Int32)), .val (.int (4 : Int32))] [(.ref ar), (.int (4 : Int32))])) _
    refine X9.arraylength hx (by rw [e9]; exact Ar10.1) (State.isArrayOf_alike hZ.alike Ar10.2.1) (g := (mkF m 9 #[.val (.ref o0), .val (.int p1), .val (.int (-1 : Int32)), .val (.int (4 : Int32))] [(.ref ar), (.int (4 : Int32))])) rfl rfl (hb hby d7_9) _ ?_
    rw [len_of Sz10 Ng10]
    show Steps p.tables e below (T9.setTop (mkF m 10 #[.val (.ref o0), .val (.int p1), .val (.int (-1 : Int32)), .val (.int (4 : Int32))] [(.int (6 : Int32)), (.int (4 : Int32))])) _
    refine XS.icmpNo X9.here hx rfl (hb hby d7_10) rfl (tlt (by decide : (4 : Int32) < (6 : Int32))).2.1 ?_
    show Steps p.tables e below (T9.setTop (mkF m 13 #[.val (.ref o0), .val (.int p1), .val (.int (-1 : Int32)), .val (.int (4 : Int32))] [])) _
    refine XS.iloadN X9.here hx rfl (hb hby d7_13) rfl ?_
    show Steps p.tables e below (T9.setTop (mkF m 14 #[.val (.ref o0), .val (.int p1), .val (.int (-1 : Int32)), .val (.int (4 : Int32))] [(.int (-1 : Int32))])) _
    refine XS.ifNo X9.here hx rfl (hb hby d7_14) rfl ((if0 _ _).trans (tlt (by decide : (-1 : Int32) < (0 : Int32))).2.1) ?_
    show Steps p.tables e below (T9.setTop (mkF m 17 #[.val (.ref o0), .val (.int p1), .val (.int (-1 : Int32)), .val (.int (4 : Int32))] [])) _
    refine XS.aloadN X9.here hx rfl (hb hby d7_17) rfl rfl ?_
    show Steps p.tables e below (T9.setTop (mkF m 18 #[.val (.ref o0), .val (.int p1), .val (.int (-1 : Int32)), .val (.int (4 : Int32))] [(.ref o0)])) _
    refine st11 _ ?_
    show Steps p.tables e below (T11.setTop (mkF m 21 #[.val (.ref o0), .val (.int p1), .val (.int (-1 : Int32)), .val (.int (4 : Int32))] [(.ref ar)])) _
    refine XS.iloadN X11.here hx rfl (hb hby d7_21) rfl ?_
    show Steps p.tables e below (T11.setTop (mkF m 22 #[.val (.ref o0), .val (.int p1), .val (.int (-1 : Int32)), .val (.int (4 : Int32))] [(.int (4 : Int32)), (.ref ar)])) _
    refine X11.iaload hx (j := (4 : Int32)) (v := (.int x2)) (by rw [e11]; exact Ar12.1) (State.isArrayOf_alike hZ.alike Ar12.2.1) Ar12.2.2 hin12 hat12 (g := (mkF m 22 #[.val (.ref o0), .val (.int p1), .val (.int (-1 : Int32)), .val (.int (4 : Int32))] [(.int (4 : Int32)), (.ref ar)])) rfl rfl (hb hby d7_22) _ ?_
    show Steps p.tables e below (T11.setTop (mkF m 23 #[.val (.ref o0), .val (.int p1), .val (.int (-1 : Int32)), .val (.int (4 : Int32))] [(.int x2)])) _
    refine XS.iloadN X11.here hx rfl (hb hby d7_23) rfl ?_
    show Steps p.tables e below (T11.setTop (mkF m 24 #[.val (.ref o0), .val (.int p1), .val (.int (-1 : Int32)), .val (.int (4 : Int32))] [(.int p1), (.int x2)])) _
    refine XS.icmpYes X11.here hx rfl (pc0 := 24) (pc' := 38) rfl (hb hby d7_24) rfl (feq q2).2 (by decide) (by decide) ?_
    show Steps p.tables e below (T11.setTop (mkF m 38 #[.val (.ref o0), .val (.int p1), .val (.int (-1 : Int32)), .val (.int (4 : Int32))] [])) _
    refine XS.iconst X11.here hx rfl (hb hby d7_38) ?_
    show Steps p.tables e below (T11.setTop (mkF m 39 #[.val (.ref o0), .val (.int p1), .val (.int (-1 : Int32)), .val (.int (4 : Int32))] [(.int (-1 : Int32))])) _
    refine XS.istoreN X11.here hx rfl (hb hby d7_39) rfl (l' := #[.val (.ref o0), .val (.int p1), .val (.int (-1 : Int32)), .val (.int (4 : Int32))]) rfl ?_
    show Steps p.tables e below (T11.setTop (mkF m 40 #[.val (.ref o0), .val (.int p1), .val (.int (-1 : Int32)), .val (.int (4 : Int32))] [])) _
    refine XS.iinc X11.here hx rfl (hb hby d7_40) rfl (l' := #[.val (.ref o0), .val (.int p1), .val (.int (-1 : Int32)), .val (.int (6 : Int32))]) rfl ?_
    show Steps p.tables e below (T11.setTop (mkF m 43 #[.val (.ref o0), .val (.int p1), .val (.int (-1 : Int32)), .val (.int (6 : Int32))] [])) _
    refine XS.goto X11.here hx rfl (pc0 := 43) (pc' := 4) rfl (hb hby d7_43) (by decide) (by decide) ?_
    show Steps p.tables e below (T11.setTop (mkF m 4 #[.val (.ref o0), .val (.int p1), .val (.int (-1 : Int32)), .val (.int (6 : Int32))] [])) _
    refine XS.iloadN X11.here hx rfl (hb hby d7_4) rfl ?_
    show Steps p.tables e below (T11.setTop (mkF m 5 #[.val (.ref o0), .val (.int p1), .val (.int (-1 : Int32)), .val (.int (6 : Int32))] [(.int (6 : Int32))])) _
    refine XS.aloadN X11.here hx rfl (hb hby d7_5) rfl rfl ?_
    show Steps p.tables e below (T11.setTop (mkF m 6 #[.val (.ref o0), .val (.int p1), .val (.int (-1 : Int32)), .val (.int (6 : Int32))] [(.ref o0), (.int (6 : Int32))])) _
    refine st13 _ ?_
    show Steps p.tables e below (T13.setTop (mkF m 9 #[.val (.ref o0), .val (.int p1), .val (.int (-1 : Int32)), .val (.int (6 : Int32))] [(.ref ar), (.int (6 : Int32))])) _
    refine X13.arraylength hx (by rw [e13]; exact Ar14.1) (State.isArrayOf_alike hZ.alike Ar14.2.1) (g := (mkF m 9 #[.val (.ref o0), .val (.int p1), .val (.int (-1 : Int32)), .val (.int (6 : Int32))] [(.ref ar), (.int (6 : Int32))])) rfl rfl (hb hby d7_9) _ ?_
    rw [len_of Sz14 Ng14]
    show Steps p.tables e below (T13.setTop (mkF m 10 #[.val (.ref o0), .val (.int p1), .val (.int (-1 : Int32)), .val (.int (6 : Int32))] [(.int (6 : Int32)), (.int (6 : Int32))])) _
    refine XS.icmpYes X13.here hx rfl (pc0 := 10) (pc' := 46) rfl (hb hby d7_10) rfl (flt (by decide : ¬ ((6 : Int32) < (6 : Int32)))).2.1 (by decide) (by decide) ?_
    show Steps p.tables e below (T13.setTop (mkF m 46 #[.val (.ref o0), .val (.int p1), .val (.int (-1 : Int32)), .val (.int (6 : Int32))] [])) _
    refine XS.iloadN X13.here hx rfl (hb hby d7_46) rfl ?_
    show Steps p.tables e below (T13.setTop (mkF m 47 #[.val (.ref o0), .val (.int p1), .val (.int (-1 : Int32)), .val (.int (6 : Int32))] [(.int (-1 : Int32))])) _
    exact retI X13 hx Bd.returns (hb hby d7_47) hr
  · show own_Q (.int (own_get [(x0, y0), (x1, y1), (x2, y2)] p1)) h0 n0 _ T13.heap _
    rw [e13]
    exact by
      rw [hG]
      exact ⟨rfl, N0, rfl⟩
theorem rmG (l : Launch) (Z : State) (a0 : Array Value) (hw : ∀ d ∈ tables_1, d.before a0 Z = true) (ws : List Jvm.Cond) (o0 : Addr) (p1 : Int32) (A : List (Int32 × Int32)) (h0 : Heap) (n0 : Nat) (O0 : Old Z n0 h0) (Ag : own_Ag Z h0 o0 n0 A) (hl : A.length ≤ 3) (hnn : own_nn A) :
    MetFree l (⟨"com/example/kvasir/kvasir/tableau/Node", "agendaPlace", "(I)I"⟩ : MethodName) (head1 (Jvm.Cond.code (⟨"com/example/kvasir/kvasir/tableau/Node", "agendaPlace", "(I)I"⟩ : MethodName) prog_32_method_53_code 4 (some .int) :: ws) ({ frames := 0, cells := 0, slots := 0, locals := 0 } : Room)) (fun a U => a = #[(.ref o0), (.int p1)] ∧ Z.Warmed39 U.vm ∧ U.heap = h0) (fun _ _ _ _ _ => True) (fun _ U o U' => ∃ v L, o = .returned v ∧ own_Q (.int (own_get A p1)) h0 n0 v U'.heap L ∧ FrameEnd U o U' L ({ frames := 0, cells := 0, slots := 0, locals := 0 } : Room).cells ({ frames := 0, cells := 0, slots := 0, locals := 0 } : Room).slots) := by
  obtain ⟨E, go, ar, ka, F, V, ga, nq⟩ := Ag
  match A, hl, V, hnn with
  | [], _, V, hnn =>
    exact rmG0n l Z a0 hw ws o0 p1  ar ka h0 n0 O0 F V
  | [(x0, y0)], _, V, hnn =>
    by_cases q0 : x0 = p1
    · exact rmG10 l Z a0 hw ws o0 p1 x0 y0 ar ka h0 n0 O0 F V q0 hnn.1
    · skip
      exact rmG1n l Z a0 hw ws o0 p1 x0 y0 ar ka h0 n0 O0 F V q0
  | [(x0, y0), (x1, y1)], _, V, hnn =>
    by_cases q0 : x0 = p1
    · exact rmG20 l Z a0 hw ws o0 p1 x0 y0 x1 y1 ar ka h0 n0 O0 F V q0 hnn.1
    · skip
      by_cases q1 : x1 = p1
      · exact rmG21 l Z a0 hw ws o0 p1 x0 y0 x1 y1 ar ka h0 n0 O0 F V q0 q1 hnn.2.1
      · skip
        exact rmG2n l Z a0 hw ws o0 p1 x0 y0 x1 y1 ar ka h0 n0 O0 F V q0 q1
  | [(x0, y0), (x1, y1), (x2, y2)], _, V, hnn =>
    by_cases q0 : x0 = p1
    · exact rmG30 l Z a0 hw ws o0 p1 x0 y0 x1 y1 x2 y2 ar ka h0 n0 O0 F V q0 hnn.1
    · skip
      by_cases q1 : x1 = p1
      · exact rmG31 l Z a0 hw ws o0 p1 x0 y0 x1 y1 x2 y2 ar ka h0 n0 O0 F V q0 q1 hnn.2.1
      · skip
        by_cases q2 : x2 = p1
        · exact rmG32 l Z a0 hw ws o0 p1 x0 y0 x1 y1 x2 y2 ar ka h0 n0 O0 F V q0 q1 q2 hnn.2.2.1
        · skip
          exact rmG3n l Z a0 hw ws o0 p1 x0 y0 x1 y1 x2 y2 ar ka h0 n0 O0 F V q0 q1 q2
  | _ :: _ :: _ :: _ :: _, hl, _, _ => exact absurd hl (by simp)
theorem own_exp_A (p0 p1 c3 q v1 v2 v3 ex1 ex2 ex3 : Int32) (hx1 : ex1 = (-1 : Int32)) (hx2 : ex2 = ex1) (hx3 : ex3 = ex2) : own_get [] q = ex3 := by
  simp only [@eq_comm _ _ q, own_get]
  have b1 := hx1 <;> have b2 := hx2 <;> have b3 := hx3 <;> simp_all
theorem pd_3 : parseMethodDescriptor "(IIZ)V" = some ⟨[.int, .int, .boolean], none⟩ := by decide +kernel
theorem pd_4 : parseMethodDescriptor "(I)I" = some ⟨[.int], some .int⟩ := by decide +kernel
theorem ef_0 (m : MethodId) (x0 : Int32) (x1 : Int32) (x2 : Int32) (x3 : Int32) (x4 : Int32) (x5 : Int32) : entryFrame m #[(.int x0), (.int x1), (.int x2), (.int x3), (.int x4), (.int x5)] maxLocals = mkF m 0 #[.val (.int x0), .val (.int x1), .val (.int x2), .val (.int x3), .val (.int x4), .val (.int x5), .unset, .unset, .unset, .unset, .unset, .unset, .unset, .unset, .unset, .unset] [] := by first | (simp [entryFrame, mkF, argsToLocals, Value.category, maxLocals]; done) | rfl
theorem pn_0 : plainName "com/example/kvasir/kvasir/tableau/NodeAgendaPlacePinLaw" = true := by first | (simp [plainName, overriddenIn]; done) | decide +kernel
set_option maxRecDepth 65536 in
set_option maxHeartbeats 40000000 in
theorem rm0A (l : Launch) (Z : State) (a0 : Array Value) (hw : ∀ d ∈ tables_1, d.before a0 Z = true) (ws : List Jvm.Cond) (p0 : Int32) (p1 : Int32) (p2 : Int32) (p3 : Int32) (p4 : Int32) (p5 : Int32) (wE : Addr) (u1 u2 u3 vn sl c3 q ex1 ex2 ex3 : Int32) (h0 : Heap) (n0 : Nat) (O0 : Old Z n0 h0) (S_EMPTY : Sta Z Z.heap "com/example/kvasir/kvasir/tableau/DependencySet" "EMPTY" "Lcom/example/kvasir/kvasir/tableau/DependencySet;" (.ref wE)) (hu1 : (p2 &&& (2147483647 : Int32)) = u1) (hu2 : (p3 &&& (2147483647 : Int32)) = u2) (hu3 : (p4 &&& (2147483647 : Int32)) = u3) (hvn : (((p5.toUInt32 >>> ((4 : Int32) &&& 31).toUInt32).toInt32) &&& (3 : Int32)) = vn) (hsl : (((p5.toUInt32 >>> ((2 : Int32) &&& 31).toUInt32).toInt32) &&& (3 : Int32)) = sl) (hn1 : vn < (1 : Int32)) (hn2 : vn < (2 : Int32)) (hn3 : (p5 &&& (1 : Int32)) = (0 : Int32)) (hc3 : ((p5 &&& (2 : Int32)) = (0 : Int32) ∧ c3 = p1) ∨ (¬ ((p5 &&& (2 : Int32)) = (0 : Int32)) ∧ c3 = p0)) (hq : (sl = (0 : Int32) ∧ q = p0) ∨ (¬ (sl = (0 : Int32)) ∧ sl = (1 : Int32) ∧ q = p1) ∨ (¬ (sl = (0 : Int32)) ∧ ¬ (sl = (1 : Int32)) ∧ sl = (2 : Int32) ∧ q = (p0 + (1 : Int32))) ∨ (¬ (sl = (0 : Int32)) ∧ ¬ (sl = (1 : Int32)) ∧ ¬ (sl = (2 : Int32)) ∧ q = p5)) (hx1 : ex1 = (-1 : Int32)) (hx2 : ex2 = ex1) (hx3 : ex3 = ex2) :
    MetFree l x (head1 (Jvm.Cond.code x code maxLocals ret :: ws) room_1) (fun a U => a = #[(.int p0), (.int p1), (.int p2), (.int p3), (.int p4), (.int p5)] ∧ Z.Warmed39 U.vm ∧ U.heap = h0) (fun _ _ _ _ _ => True) (fun _ U o U' => ∃ v L, o = .returned v ∧ own_R n0 v U'.heap L ∧ FrameEnd U o U' L room_1.cells room_1.slots) := by
  refine MetFree.of_bodySF (plainFor_of_name pn_0) hisR ?_
  intro p e s m args below meth c s₁ Bd hml0 hP hK
  obtain ⟨rfl, hZ, hh⟩ := hP
  have hx := Bd.exec
  have hby := Bd.bytes
  have hml : c.maxLocals = 16 := hml0
  have hown : s.vm.findClass "com/example/kvasir/kvasir/tableau/NodeAgendaPlacePinLaw" = some m.cls := findClass_of_methodNamed Bd.named
  have hnm := (name_of_methodNamed Bd.named Bd.method).1
  have X0 : Stand p l e room_1 s m #[(.int p0), (.int p1), (.int p2), (.int p3), (.int p4), (.int p5)] below meth c s₁ [] 0 0 := Stand.of_body Bd
  have e0 : s₁.heap = h0 := by rw [← hh, Bd.state]; rfl
  have N0 := Fr.nil n0
  have pre0 : ∀ t, Steps p.tables e below (s₁.setTop (mkF m 0 #[.val (.int p0), .val (.int p1), .val (.int p2), .val (.int p3), .val (.int p4), .val (.int p5), .unset, .unset, .unset, .unset, .unset, .unset, .unset, .unset, .unset, .unset] [])) t → Steps p.tables e below (s₁.setTop (entryFrame m #[(.int p0), (.int p1), (.int p2), (.int p3), (.int p4), (.int p5)] maxLocals)) t := fun t k => castTop (ef_0 m p0 p1 p2 p3 p4 p5) k
  have fk1 : ∀ target, Steps p.tables e below (s₁.setTop (mkF m 53 #[.val (.int p0), .val (.int p1), .val (.int p2), .val (.int p3), .val (.int p4), .val (.int p5), .val (.int u1), .val (.int u2), .val (.int u3), .val (.int vn), .val (.int (0 : Int32)), .unset, .unset, .unset, .unset, .unset] [(.int c3)])) target → Steps p.tables e below (s₁.setTop (mkF m 41 #[.val (.int p0), .val (.int p1), .val (.int p2), .val (.int p3), .val (.int p4), .val (.int p5), .val (.int u1), .val (.int u2), .val (.int u3), .val (.int vn), .val (.int (0 : Int32)), .unset, .unset, .unset, .unset, .unset] [])) target := by
    intro target kt
    rcases hc3 with ⟨z1, z2⟩ | ⟨z1, z2⟩
    · rw [z2] at kt
      show Steps p.tables e below (s₁.setTop (mkF m 41 #[.val (.int p0), .val (.int p1), .val (.int p2), .val (.int p3), .val (.int p4), .val (.int p5), .val (.int u1), .val (.int u2), .val (.int u3), .val (.int vn), .val (.int (0 : Int32)), .unset, .unset, .unset, .unset, .unset] [])) _
      refine XS.iload X0.here hx rfl (hb hby at_41) rfl ?_
      show Steps p.tables e below (s₁.setTop (mkF m 43 #[.val (.int p0), .val (.int p1), .val (.int p2), .val (.int p3), .val (.int p4), .val (.int p5), .val (.int u1), .val (.int u2), .val (.int u3), .val (.int vn), .val (.int (0 : Int32)), .unset, .unset, .unset, .unset, .unset] [(.int p5)])) _
      refine XS.iconst X0.here hx rfl (hb hby at_43) ?_
      show Steps p.tables e below (s₁.setTop (mkF m 44 #[.val (.int p0), .val (.int p1), .val (.int p2), .val (.int p3), .val (.int p4), .val (.int p5), .val (.int u1), .val (.int u2), .val (.int u3), .val (.int vn), .val (.int (0 : Int32)), .unset, .unset, .unset, .unset, .unset] [(.int (2 : Int32)), (.int p5)])) _
      refine XS.iand X0.here hx rfl (hb hby at_44) rfl ?_
      show Steps p.tables e below (s₁.setTop (mkF m 45 #[.val (.int p0), .val (.int p1), .val (.int p2), .val (.int p3), .val (.int p4), .val (.int p5), .val (.int u1), .val (.int u2), .val (.int u3), .val (.int vn), .val (.int (0 : Int32)), .unset, .unset, .unset, .unset, .unset] [(.int (p5 &&& (2 : Int32)))])) _
      refine XS.ifYes X0.here hx rfl (pc0 := 45) (pc' := 52) rfl (hb hby at_45) rfl ((if0 _ _).trans (teq z1).1) (by decide) (by decide) ?_
      show Steps p.tables e below (s₁.setTop (mkF m 52 #[.val (.int p0), .val (.int p1), .val (.int p2), .val (.int p3), .val (.int p4), .val (.int p5), .val (.int u1), .val (.int u2), .val (.int u3), .val (.int vn), .val (.int (0 : Int32)), .unset, .unset, .unset, .unset, .unset] [])) _
      refine XS.iloadN X0.here hx rfl (hb hby at_52) rfl ?_
      show Steps p.tables e below (s₁.setTop (mkF m 53 #[.val (.int p0), .val (.int p1), .val (.int p2), .val (.int p3), .val (.int p4), .val (.int p5), .val (.int u1), .val (.int u2), .val (.int u3), .val (.int vn), .val (.int (0 : Int32)), .unset, .unset, .unset, .unset, .unset] [(.int p1)])) _
      exact kt
    · rw [z2] at kt
      show Steps p.tables e below (s₁.setTop (mkF m 41 #[.val (.int p0), .val (.int p1), .val (.int p2), .val (.int p3), .val (.int p4), .val (.int p5), .val (.int u1), .val (.int u2), .val (.int u3), .val (.int vn), .val (.int (0 : Int32)), .unset, .unset, .unset, .unset, .unset] [])) _
      refine XS.iload X0.here hx rfl (hb hby at_41) rfl ?_
      show Steps p.tables e below (s₁.setTop (mkF m 43 #[.val (.int p0), .val (.int p1), .val (.int p2), .val (.int p3), .val (.int p4), .val (.int p5), .val (.int u1), .val (.int u2), .val (.int u3), .val (.int vn), .val (.int (0 : Int32)), .unset, .unset, .unset, .unset, .unset] [(.int p5)])) _
      refine XS.iconst X0.here hx rfl (hb hby at_43) ?_
      show Steps p.tables e below (s₁.setTop (mkF m 44 #[.val (.int p0), .val (.int p1), .val (.int p2), .val (.int p3), .val (.int p4), .val (.int p5), .val (.int u1), .val (.int u2), .val (.int u3), .val (.int vn), .val (.int (0 : Int32)), .unset, .unset, .unset, .unset, .unset] [(.int (2 : Int32)), (.int p5)])) _
      refine XS.iand X0.here hx rfl (hb hby at_44) rfl ?_
      show Steps p.tables e below (s₁.setTop (mkF m 45 #[.val (.int p0), .val (.int p1), .val (.int p2), .val (.int p3), .val (.int p4), .val (.int p5), .val (.int u1), .val (.int u2), .val (.int u3), .val (.int vn), .val (.int (0 : Int32)), .unset, .unset, .unset, .unset, .unset] [(.int (p5 &&& (2 : Int32)))])) _
      refine XS.ifNo X0.here hx rfl (hb hby at_45) rfl ((if0 _ _).trans (feq z1).1) ?_
      show Steps p.tables e below (s₁.setTop (mkF m 48 #[.val (.int p0), .val (.int p1), .val (.int p2), .val (.int p3), .val (.int p4), .val (.int p5), .val (.int u1), .val (.int u2), .val (.int u3), .val (.int vn), .val (.int (0 : Int32)), .unset, .unset, .unset, .unset, .unset] [])) _
      refine XS.iloadN X0.here hx rfl (hb hby at_48) rfl ?_
      show Steps p.tables e below (s₁.setTop (mkF m 49 #[.val (.int p0), .val (.int p1), .val (.int p2), .val (.int p3), .val (.int p4), .val (.int p5), .val (.int u1), .val (.int u2), .val (.int u3), .val (.int vn), .val (.int (0 : Int32)), .unset, .unset, .unset, .unset, .unset] [(.int p0)])) _
      refine XS.goto X0.here hx rfl (pc0 := 49) (pc' := 53) rfl (hb hby at_49) (by decide) (by decide) ?_
      show Steps p.tables e below (s₁.setTop (mkF m 53 #[.val (.int p0), .val (.int p1), .val (.int p2), .val (.int p3), .val (.int p4), .val (.int p5), .val (.int u1), .val (.int u2), .val (.int u3), .val (.int vn), .val (.int (0 : Int32)), .unset, .unset, .unset, .unset, .unset] [(.int p0)])) _
      exact kt
  have fk2 : ∀ target, Steps p.tables e below (s₁.setTop (mkF m 104 #[.val (.int p0), .val (.int p1), .val (.int p2), .val (.int p3), .val (.int p4), .val (.int p5), .val (.int u1), .val (.int u2), .val (.int u3), .val (.int vn), .val (.int (0 : Int32)), .val (.int c3), .val (.int sl), .val (.int q), .unset, .unset] [])) target → Steps p.tables e below (s₁.setTop (mkF m 63 #[.val (.int p0), .val (.int p1), .val (.int p2), .val (.int p3), .val (.int p4), .val (.int p5), .val (.int u1), .val (.int u2), .val (.int u3), .val (.int vn), .val (.int (0 : Int32)), .val (.int c3), .val (.int sl), .unset, .unset, .unset] [])) target := by
    intro target kt
    rcases hq with ⟨z1, z2⟩ | ⟨z1, z2, z3⟩ | ⟨z1, z2, z3, z4⟩ | ⟨z1, z2, z3, z4⟩
    · rw [z2] at kt
      show Steps p.tables e below (s₁.setTop (mkF m 63 #[.val (.int p0), .val (.int p1), .val (.int p2), .val (.int p3), .val (.int p4), .val (.int p5), .val (.int u1), .val (.int u2), .val (.int u3), .val (.int vn), .val (.int (0 : Int32)), .val (.int c3), .val (.int sl), .unset, .unset, .unset] [])) _
      refine XS.iload X0.here hx rfl (hb hby at_63) rfl ?_
      show Steps p.tables e below (s₁.setTop (mkF m 65 #[.val (.int p0), .val (.int p1), .val (.int p2), .val (.int p3), .val (.int p4), .val (.int p5), .val (.int u1), .val (.int u2), .val (.int u3), .val (.int vn), .val (.int (0 : Int32)), .val (.int c3), .val (.int sl), .unset, .unset, .unset] [(.int sl)])) _
      refine XS.ifNo X0.here hx rfl (hb hby at_65) rfl ((if0 _ _).trans (teq z1).2) ?_
      show Steps p.tables e below (s₁.setTop (mkF m 68 #[.val (.int p0), .val (.int p1), .val (.int p2), .val (.int p3), .val (.int p4), .val (.int p5), .val (.int u1), .val (.int u2), .val (.int u3), .val (.int vn), .val (.int (0 : Int32)), .val (.int c3), .val (.int sl), .unset, .unset, .unset] [])) _
      refine XS.iloadN X0.here hx rfl (hb hby at_68) rfl ?_
      show Steps p.tables e below (s₁.setTop (mkF m 69 #[.val (.int p0), .val (.int p1), .val (.int p2), .val (.int p3), .val (.int p4), .val (.int p5), .val (.int u1), .val (.int u2), .val (.int u3), .val (.int vn), .val (.int (0 : Int32)), .val (.int c3), .val (.int sl), .unset, .unset, .unset] [(.int p0)])) _
      refine XS.istore X0.here hx rfl (hb hby at_69) rfl (l' := #[.val (.int p0), .val (.int p1), .val (.int p2), .val (.int p3), .val (.int p4), .val (.int p5), .val (.int u1), .val (.int u2), .val (.int u3), .val (.int vn), .val (.int (0 : Int32)), .val (.int c3), .val (.int sl), .val (.int p0), .unset, .unset]) rfl ?_
      show Steps p.tables e below (s₁.setTop (mkF m 71 #[.val (.int p0), .val (.int p1), .val (.int p2), .val (.int p3), .val (.int p4), .val (.int p5), .val (.int u1), .val (.int u2), .val (.int u3), .val (.int vn), .val (.int (0 : Int32)), .val (.int c3), .val (.int sl), .val (.int p0), .unset, .unset] [])) _
      refine XS.goto X0.here hx rfl (pc0 := 71) (pc' := 104) rfl (hb hby at_71) (by decide) (by decide) ?_
      show Steps p.tables e below (s₁.setTop (mkF m 104 #[.val (.int p0), .val (.int p1), .val (.int p2), .val (.int p3), .val (.int p4), .val (.int p5), .val (.int u1), .val (.int u2), .val (.int u3), .val (.int vn), .val (.int (0 : Int32)), .val (.int c3), .val (.int sl), .val (.int p0), .unset, .unset] [])) _
      exact kt
    · rw [z3] at kt
      show Steps p.tables e below (s₁.setTop (mkF m 63 #[.val (.int p0), .val (.int p1), .val (.int p2), .val (.int p3), .val (.int p4), .val (.int p5), .val (.int u1), .val (.int u2), .val (.int u3), .val (.int vn), .val (.int (0 : Int32)), .val (.int c3), .val (.int sl), .unset, .unset, .unset] [])) _
      refine XS.iload X0.here hx rfl (hb hby at_63) rfl ?_
      show Steps p.tables e below (s₁.setTop (mkF m 65 #[.val (.int p0), .val (.int p1), .val (.int p2), .val (.int p3), .val (.int p4), .val (.int p5), .val (.int u1), .val (.int u2), .val (.int u3), .val (.int vn), .val (.int (0 : Int32)), .val (.int c3), .val (.int sl), .unset, .unset, .unset] [(.int sl)])) _
      refine XS.ifYes X0.here hx rfl (pc0 := 65) (pc' := 74) rfl (hb hby at_65) rfl ((if0 _ _).trans (feq z1).2) (by decide) (by decide) ?_
      show Steps p.tables e below (s₁.setTop (mkF m 74 #[.val (.int p0), .val (.int p1), .val (.int p2), .val (.int p3), .val (.int p4), .val (.int p5), .val (.int u1), .val (.int u2), .val (.int u3), .val (.int vn), .val (.int (0 : Int32)), .val (.int c3), .val (.int sl), .unset, .unset, .unset] [])) _
      refine XS.iload X0.here hx rfl (hb hby at_74) rfl ?_
      show Steps p.tables e below (s₁.setTop (mkF m 76 #[.val (.int p0), .val (.int p1), .val (.int p2), .val (.int p3), .val (.int p4), .val (.int p5), .val (.int u1), .val (.int u2), .val (.int u3), .val (.int vn), .val (.int (0 : Int32)), .val (.int c3), .val (.int sl), .unset, .unset, .unset] [(.int sl)])) _
      refine XS.iconst X0.here hx rfl (hb hby at_76) ?_
      show Steps p.tables e below (s₁.setTop (mkF m 77 #[.val (.int p0), .val (.int p1), .val (.int p2), .val (.int p3), .val (.int p4), .val (.int p5), .val (.int u1), .val (.int u2), .val (.int u3), .val (.int vn), .val (.int (0 : Int32)), .val (.int c3), .val (.int sl), .unset, .unset, .unset] [(.int (1 : Int32)), (.int sl)])) _
      refine XS.icmpNo X0.here hx rfl (hb hby at_77) rfl (teq z2).2 ?_
      show Steps p.tables e below (s₁.setTop (mkF m 80 #[.val (.int p0), .val (.int p1), .val (.int p2), .val (.int p3), .val (.int p4), .val (.int p5), .val (.int u1), .val (.int u2), .val (.int u3), .val (.int vn), .val (.int (0 : Int32)), .val (.int c3), .val (.int sl), .unset, .unset, .unset] [])) _
      refine XS.iloadN X0.here hx rfl (hb hby at_80) rfl ?_
      show Steps p.tables e below (s₁.setTop (mkF m 81 #[.val (.int p0), .val (.int p1), .val (.int p2), .val (.int p3), .val (.int p4), .val (.int p5), .val (.int u1), .val (.int u2), .val (.int u3), .val (.int vn), .val (.int (0 : Int32)), .val (.int c3), .val (.int sl), .unset, .unset, .unset] [(.int p1)])) _
      refine XS.istore X0.here hx rfl (hb hby at_81) rfl (l' := #[.val (.int p0), .val (.int p1), .val (.int p2), .val (.int p3), .val (.int p4), .val (.int p5), .val (.int u1), .val (.int u2), .val (.int u3), .val (.int vn), .val (.int (0 : Int32)), .val (.int c3), .val (.int sl), .val (.int p1), .unset, .unset]) rfl ?_
      show Steps p.tables e below (s₁.setTop (mkF m 83 #[.val (.int p0), .val (.int p1), .val (.int p2), .val (.int p3), .val (.int p4), .val (.int p5), .val (.int u1), .val (.int u2), .val (.int u3), .val (.int vn), .val (.int (0 : Int32)), .val (.int c3), .val (.int sl), .val (.int p1), .unset, .unset] [])) _
      refine XS.goto X0.here hx rfl (pc0 := 83) (pc' := 104) rfl (hb hby at_83) (by decide) (by decide) ?_
      show Steps p.tables e below (s₁.setTop (mkF m 104 #[.val (.int p0), .val (.int p1), .val (.int p2), .val (.int p3), .val (.int p4), .val (.int p5), .val (.int u1), .val (.int u2), .val (.int u3), .val (.int vn), .val (.int (0 : Int32)), .val (.int c3), .val (.int sl), .val (.int p1), .unset, .unset] [])) _
      exact kt
    · rw [z4] at kt
      show Steps p.tables e below (s₁.setTop (mkF m 63 #[.val (.int p0), .val (.int p1), .val (.int p2), .val (.int p3), .val (.int p4), .val (.int p5), .val (.int u1), .val (.int u2), .val (.int u3), .val (.int vn), .val (.int (0 : Int32)), .val (.int c3), .val (.int sl), .unset, .unset, .unset] [])) _
      refine XS.iload X0.here hx rfl (hb hby at_63) rfl ?_
      show Steps p.tables e below (s₁.setTop (mkF m 65 #[.val (.int p0), .val (.int p1), .val (.int p2), .val (.int p3), .val (.int p4), .val (.int p5), .val (.int u1), .val (.int u2), .val (.int u3), .val (.int vn), .val (.int (0 : Int32)), .val (.int c3), .val (.int sl), .unset, .unset, .unset] [(.int sl)])) _
      refine XS.ifYes X0.here hx rfl (pc0 := 65) (pc' := 74) rfl (hb hby at_65) rfl ((if0 _ _).trans (feq z1).2) (by decide) (by decide) ?_
      show Steps p.tables e below (s₁.setTop (mkF m 74 #[.val (.int p0), .val (.int p1), .val (.int p2), .val (.int p3), .val (.int p4), .val (.int p5), .val (.int u1), .val (.int u2), .val (.int u3), .val (.int vn), .val (.int (0 : Int32)), .val (.int c3), .val (.int sl), .unset, .unset, .unset] [])) _
      refine XS.iload X0.here hx rfl (hb hby at_74) rfl ?_
      show Steps p.tables e below (s₁.setTop (mkF m 76 #[.val (.int p0), .val (.int p1), .val (.int p2), .val (.int p3), .val (.int p4), .val (.int p5), .val (.int u1), .val (.int u2), .val (.int u3), .val (.int vn), .val (.int (0 : Int32)), .val (.int c3), .val (.int sl), .unset, .unset, .unset] [(.int sl)])) _
      refine XS.iconst X0.here hx rfl (hb hby at_76) ?_
      show Steps p.tables e below (s₁.setTop (mkF m 77 #[.val (.int p0), .val (.int p1), .val (.int p2), .val (.int p3), .val (.int p4), .val (.int p5), .val (.int u1), .val (.int u2), .val (.int u3), .val (.int vn), .val (.int (0 : Int32)), .val (.int c3), .val (.int sl), .unset, .unset, .unset] [(.int (1 : Int32)), (.int sl)])) _
      refine XS.icmpYes X0.here hx rfl (pc0 := 77) (pc' := 86) rfl (hb hby at_77) rfl (feq z2).2 (by decide) (by decide) ?_
      show Steps p.tables e below (s₁.setTop (mkF m 86 #[.val (.int p0), .val (.int p1), .val (.int p2), .val (.int p3), .val (.int p4), .val (.int p5), .val (.int u1), .val (.int u2), .val (.int u3), .val (.int vn), .val (.int (0 : Int32)), .val (.int c3), .val (.int sl), .unset, .unset, .unset] [])) _
      refine XS.iload X0.here hx rfl (hb hby at_86) rfl ?_
      show Steps p.tables e below (s₁.setTop (mkF m 88 #[.val (.int p0), .val (.int p1), .val (.int p2), .val (.int p3), .val (.int p4), .val (.int p5), .val (.int u1), .val (.int u2), .val (.int u3), .val (.int vn), .val (.int (0 : Int32)), .val (.int c3), .val (.int sl), .unset, .unset, .unset] [(.int sl)])) _
      refine XS.iconst X0.here hx rfl (hb hby at_88) ?_
      show Steps p.tables e below (s₁.setTop (mkF m 89 #[.val (.int p0), .val (.int p1), .val (.int p2), .val (.int p3), .val (.int p4), .val (.int p5), .val (.int u1), .val (.int u2), .val (.int u3), .val (.int vn), .val (.int (0 : Int32)), .val (.int c3), .val (.int sl), .unset, .unset, .unset] [(.int (2 : Int32)), (.int sl)])) _
      refine XS.icmpNo X0.here hx rfl (hb hby at_89) rfl (teq z3).2 ?_
      show Steps p.tables e below (s₁.setTop (mkF m 92 #[.val (.int p0), .val (.int p1), .val (.int p2), .val (.int p3), .val (.int p4), .val (.int p5), .val (.int u1), .val (.int u2), .val (.int u3), .val (.int vn), .val (.int (0 : Int32)), .val (.int c3), .val (.int sl), .unset, .unset, .unset] [])) _
      refine XS.iloadN X0.here hx rfl (hb hby at_92) rfl ?_
      show Steps p.tables e below (s₁.setTop (mkF m 93 #[.val (.int p0), .val (.int p1), .val (.int p2), .val (.int p3), .val (.int p4), .val (.int p5), .val (.int u1), .val (.int u2), .val (.int u3), .val (.int vn), .val (.int (0 : Int32)), .val (.int c3), .val (.int sl), .unset, .unset, .unset] [(.int p0)])) _
      refine XS.iconst X0.here hx rfl (hb hby at_93) ?_
      show Steps p.tables e below (s₁.setTop (mkF m 94 #[.val (.int p0), .val (.int p1), .val (.int p2), .val (.int p3), .val (.int p4), .val (.int p5), .val (.int u1), .val (.int u2), .val (.int u3), .val (.int vn), .val (.int (0 : Int32)), .val (.int c3), .val (.int sl), .unset, .unset, .unset] [(.int (1 : Int32)), (.int p0)])) _
      refine XS.iadd X0.here hx rfl (hb hby at_94) rfl ?_
      show Steps p.tables e below (s₁.setTop (mkF m 95 #[.val (.int p0), .val (.int p1), .val (.int p2), .val (.int p3), .val (.int p4), .val (.int p5), .val (.int u1), .val (.int u2), .val (.int u3), .val (.int vn), .val (.int (0 : Int32)), .val (.int c3), .val (.int sl), .unset, .unset, .unset] [(.int (p0 + (1 : Int32)))])) _
      refine XS.istore X0.here hx rfl (hb hby at_95) rfl (l' := #[.val (.int p0), .val (.int p1), .val (.int p2), .val (.int p3), .val (.int p4), .val (.int p5), .val (.int u1), .val (.int u2), .val (.int u3), .val (.int vn), .val (.int (0 : Int32)), .val (.int c3), .val (.int sl), .val (.int (p0 + (1 : Int32))), .unset, .unset]) rfl ?_
      show Steps p.tables e below (s₁.setTop (mkF m 97 #[.val (.int p0), .val (.int p1), .val (.int p2), .val (.int p3), .val (.int p4), .val (.int p5), .val (.int u1), .val (.int u2), .val (.int u3), .val (.int vn), .val (.int (0 : Int32)), .val (.int c3), .val (.int sl), .val (.int (p0 + (1 : Int32))), .unset, .unset] [])) _
      refine XS.goto X0.here hx rfl (pc0 := 97) (pc' := 104) rfl (hb hby at_97) (by decide) (by decide) ?_
      show Steps p.tables e below (s₁.setTop (mkF m 104 #[.val (.int p0), .val (.int p1), .val (.int p2), .val (.int p3), .val (.int p4), .val (.int p5), .val (.int u1), .val (.int u2), .val (.int u3), .val (.int vn), .val (.int (0 : Int32)), .val (.int c3), .val (.int sl), .val (.int (p0 + (1 : Int32))), .unset, .unset] [])) _
      exact kt
    · rw [z4] at kt
      show Steps p.tables e below (s₁.setTop (mkF m 63 #[.val (.int p0), .val (.int p1), .val (.int p2), .val (.int p3), .val (.int p4), .val (.int p5), .val (.int u1), .val (.int u2), .val (.int u3), .val (.int vn), .val (.int (0 : Int32)), .val (.int c3), .val (.int sl), .unset, .unset, .unset] [])) _
      refine XS.iload X0.here hx rfl (hb hby at_63) rfl ?_
      show Steps p.tables e below (s₁.setTop (mkF m 65 #[.val (.int p0), .val (.int p1), .val (.int p2), .val (.int p3), .val (.int p4), .val (.int p5), .val (.int u1), .val (.int u2), .val (.int u3), .val (.int vn), .val (.int (0 : Int32)), .val (.int c3), .val (.int sl), .unset, .unset, .unset] [(.int sl)])) _
      refine XS.ifYes X0.here hx rfl (pc0 := 65) (pc' := 74) rfl (hb hby at_65) rfl ((if0 _ _).trans (feq z1).2) (by decide) (by decide) ?_
      show Steps p.tables e below (s₁.setTop (mkF m 74 #[.val (.int p0), .val (.int p1), .val (.int p2), .val (.int p3), .val (.int p4), .val (.int p5), .val (.int u1), .val (.int u2), .val (.int u3), .val (.int vn), .val (.int (0 : Int32)), .val (.int c3), .val (.int sl), .unset, .unset, .unset] [])) _
      refine XS.iload X0.here hx rfl (hb hby at_74) rfl ?_
      show Steps p.tables e below (s₁.setTop (mkF m 76 #[.val (.int p0), .val (.int p1), .val (.int p2), .val (.int p3), .val (.int p4), .val (.int p5), .val (.int u1), .val (.int u2), .val (.int u3), .val (.int vn), .val (.int (0 : Int32)), .val (.int c3), .val (.int sl), .unset, .unset, .unset] [(.int sl)])) _
      refine XS.iconst X0.here hx rfl (hb hby at_76) ?_
      show Steps p.tables e below (s₁.setTop (mkF m 77 #[.val (.int p0), .val (.int p1), .val (.int p2), .val (.int p3), .val (.int p4), .val (.int p5), .val (.int u1), .val (.int u2), .val (.int u3), .val (.int vn), .val (.int (0 : Int32)), .val (.int c3), .val (.int sl), .unset, .unset, .unset] [(.int (1 : Int32)), (.int sl)])) _
      refine XS.icmpYes X0.here hx rfl (pc0 := 77) (pc' := 86) rfl (hb hby at_77) rfl (feq z2).2 (by decide) (by decide) ?_
      show Steps p.tables e below (s₁.setTop (mkF m 86 #[.val (.int p0), .val (.int p1), .val (.int p2), .val (.int p3), .val (.int p4), .val (.int p5), .val (.int u1), .val (.int u2), .val (.int u3), .val (.int vn), .val (.int (0 : Int32)), .val (.int c3), .val (.int sl), .unset, .unset, .unset] [])) _
      refine XS.iload X0.here hx rfl (hb hby at_86) rfl ?_
      show Steps p.tables e below (s₁.setTop (mkF m 88 #[.val (.int p0), .val (.int p1), .val (.int p2), .val (.int p3), .val (.int p4), .val (.int p5), .val (.int u1), .val (.int u2), .val (.int u3), .val (.int vn), .val (.int (0 : Int32)), .val (.int c3), .val (.int sl), .unset, .unset, .unset] [(.int sl)])) _
      refine XS.iconst X0.here hx rfl (hb hby at_88) ?_
      show Steps p.tables e below (s₁.setTop (mkF m 89 #[.val (.int p0), .val (.int p1), .val (.int p2), .val (.int p3), .val (.int p4), .val (.int p5), .val (.int u1), .val (.int u2), .val (.int u3), .val (.int vn), .val (.int (0 : Int32)), .val (.int c3), .val (.int sl), .unset, .unset, .unset] [(.int (2 : Int32)), (.int sl)])) _
      refine XS.icmpYes X0.here hx rfl (pc0 := 89) (pc' := 100) rfl (hb hby at_89) rfl (feq z3).2 (by decide) (by decide) ?_
      show Steps p.tables e below (s₁.setTop (mkF m 100 #[.val (.int p0), .val (.int p1), .val (.int p2), .val (.int p3), .val (.int p4), .val (.int p5), .val (.int u1), .val (.int u2), .val (.int u3), .val (.int vn), .val (.int (0 : Int32)), .val (.int c3), .val (.int sl), .unset, .unset, .unset] [])) _
      refine XS.iload X0.here hx rfl (hb hby at_100) rfl ?_
      show Steps p.tables e below (s₁.setTop (mkF m 102 #[.val (.int p0), .val (.int p1), .val (.int p2), .val (.int p3), .val (.int p4), .val (.int p5), .val (.int u1), .val (.int u2), .val (.int u3), .val (.int vn), .val (.int (0 : Int32)), .val (.int c3), .val (.int sl), .unset, .unset, .unset] [(.int p5)])) _
      refine XS.istore X0.here hx rfl (hb hby at_102) rfl (l' := #[.val (.int p0), .val (.int p1), .val (.int p2), .val (.int p3), .val (.int p4), .val (.int p5), .val (.int u1), .val (.int u2), .val (.int u3), .val (.int vn), .val (.int (0 : Int32)), .val (.int c3), .val (.int sl), .val (.int p5), .unset, .unset]) rfl ?_
      show Steps p.tables e below (s₁.setTop (mkF m 104 #[.val (.int p0), .val (.int p1), .val (.int p2), .val (.int p3), .val (.int p4), .val (.int p5), .val (.int u1), .val (.int u2), .val (.int u3), .val (.int vn), .val (.int (0 : Int32)), .val (.int c3), .val (.int sl), .val (.int p5), .unset, .unset] [])) _
      exact kt
  obtain ⟨T3, h3, X3, e3, E3, A3, D3, U3, st3⟩ := newO X0 hx hZ hown (hw _ (List.mem_of_getElem? (i := 1) rfl)) (hw _ (List.mem_of_getElem? (i := 2) rfl)) (hw _ (List.mem_of_getElem? (i := 3) rfl)) e0 (g := (mkF m 104 #[.val (.int p0), .val (.int p1), .val (.int p2), .val (.int p3), .val (.int p4), .val (.int p5), .val (.int u1), .val (.int u2), .val (.int u3), .val (.int vn), .val (.int (0 : Int32)), .val (.int c3), .val (.int sl), .val (.int q), .unset, .unset] [])) rfl (hb hby at_104) (by decide) (by decide)
  obtain ⟨b3, g3⟩ : ∃ z, z = h0.size := ⟨_, rfl⟩
  rw [← g3] at A3 D3 U3 st3
  have Ut3 : Unt h3 b3 := U3
  have g_b3 : n0 ≤ b3 := Nat.le_trans (own_le O0) (Nat.le_of_eq g3.symm)
  have O3 := O0.ext E3
  have F_concepts_b3 : Fld Z h3 b3 "com/example/kvasir/kvasir/tableau/Node" "concepts" "[I" .null := D3 (Or.inl (hw _ (List.mem_of_getElem? (i := 18) rfl))) (ty := (.array .int)) (by decide)
  have F_reasons_b3 : Fld Z h3 b3 "com/example/kvasir/kvasir/tableau/Node" "reasons" "[Lcom/example/kvasir/kvasir/tableau/DependencySet;" .null := D3 (Or.inl (hw _ (List.mem_of_getElem? (i := 22) rfl))) (ty := (.array (.object "com/example/kvasir/kvasir/tableau/DependencySet"))) (by decide)
  have F_edgeRoles_b3 : Fld Z h3 b3 "com/example/kvasir/kvasir/tableau/Node" "edgeRoles" "[I" .null := D3 (Or.inl (hw _ (List.mem_of_getElem? (i := 24) rfl))) (ty := (.array .int)) (by decide)
  have F_edgeTargets_b3 : Fld Z h3 b3 "com/example/kvasir/kvasir/tableau/Node" "edgeTargets" "[Lcom/example/kvasir/kvasir/tableau/Node;" .null := D3 (Or.inl (hw _ (List.mem_of_getElem? (i := 28) rfl))) (ty := (.array (.object "com/example/kvasir/kvasir/tableau/Node"))) (by decide)
  have F_edgeReasons_b3 : Fld Z h3 b3 "com/example/kvasir/kvasir/tableau/Node" "edgeReasons" "[Lcom/example/kvasir/kvasir/tableau/DependencySet;" .null := D3 (Or.inl (hw _ (List.mem_of_getElem? (i := 30) rfl))) (ty := (.array (.object "com/example/kvasir/kvasir/tableau/DependencySet"))) (by decide)
  have F_apart_b3 : Fld Z h3 b3 "com/example/kvasir/kvasir/tableau/Node" "apart" "[Lcom/example/kvasir/kvasir/tableau/Node;" .null := D3 (Or.inl (hw _ (List.mem_of_getElem? (i := 32) rfl))) (ty := (.array (.object "com/example/kvasir/kvasir/tableau/Node"))) (by decide)
  have F_apartReasons_b3 : Fld Z h3 b3 "com/example/kvasir/kvasir/tableau/Node" "apartReasons" "[Lcom/example/kvasir/kvasir/tableau/DependencySet;" .null := D3 (Or.inl (hw _ (List.mem_of_getElem? (i := 34) rfl))) (ty := (.array (.object "com/example/kvasir/kvasir/tableau/DependencySet"))) (by decide)
  have F_groups_b3 : Fld Z h3 b3 "com/example/kvasir/kvasir/tableau/Node" "groups" "[Lcom/example/kvasir/kvasir/tableau/ApartGroup;" .null := D3 (Or.inl (hw _ (List.mem_of_getElem? (i := 38) rfl))) (ty := (.array (.object "com/example/kvasir/kvasir/tableau/ApartGroup"))) (by decide)
  have F_groupReasons_b3 : Fld Z h3 b3 "com/example/kvasir/kvasir/tableau/Node" "groupReasons" "[Lcom/example/kvasir/kvasir/tableau/DependencySet;" .null := D3 (Or.inl (hw _ (List.mem_of_getElem? (i := 40) rfl))) (ty := (.array (.object "com/example/kvasir/kvasir/tableau/DependencySet"))) (by decide)
  have F_agendaPlaces_b3 : Fld Z h3 b3 "com/example/kvasir/kvasir/tableau/Node" "agendaPlaces" "[I" .null := D3 (Or.inl (hw _ (List.mem_of_getElem? (i := 42) rfl))) (ty := (.array .int)) (by decide)
  have F_parent_b3 : Fld Z h3 b3 "com/example/kvasir/kvasir/tableau/Node" "parent" "Lcom/example/kvasir/kvasir/tableau/Node;" .null := D3 (Or.inr (hw _ (List.mem_of_getElem? (i := 44) rfl))) (ty := (.object "com/example/kvasir/kvasir/tableau/Node")) (by decide)
  have F_number_b3 : Fld Z h3 b3 "com/example/kvasir/kvasir/tableau/Node" "number" "I" (.int (0 : Int32)) := D3 (Or.inr (hw _ (List.mem_of_getElem? (i := 46) rfl))) (ty := .int) (by decide)
  have F_value_b3 : Fld Z h3 b3 "com/example/kvasir/kvasir/tableau/Node" "value" "Z" (.int (0 : Int32)) := D3 (Or.inr (hw _ (List.mem_of_getElem? (i := 48) rfl))) (ty := .boolean) (by decide)
  have F_copies_b3 : Fld Z h3 b3 "com/example/kvasir/kvasir/tableau/Node" "copies" "J" (.long (0 : Int64)) := D3 (Or.inr (hw _ (List.mem_of_getElem? (i := 50) rfl))) (ty := .long) (by decide)
  have F_madeFor_b3 : Fld Z h3 b3 "com/example/kvasir/kvasir/tableau/Node" "madeFor" "I" (.int (0 : Int32)) := D3 (Or.inr (hw _ (List.mem_of_getElem? (i := 52) rfl))) (ty := .int) (by decide)
  have F_madeBecause_b3 : Fld Z h3 b3 "com/example/kvasir/kvasir/tableau/Node" "madeBecause" "Lcom/example/kvasir/kvasir/tableau/DependencySet;" .null := D3 (Or.inr (hw _ (List.mem_of_getElem? (i := 54) rfl))) (ty := (.object "com/example/kvasir/kvasir/tableau/DependencySet")) (by decide)
  have F_members_b3 : Fld Z h3 b3 "com/example/kvasir/kvasir/tableau/Node" "members" "[J" .null := D3 (Or.inr (hw _ (List.mem_of_getElem? (i := 57) rfl))) (ty := (.array .long)) (by decide)
  obtain ⟨_, _, ⟨T4, L4, k4, n4⟩, -, X4, ⟨Lc4, hQ4, l4, y4, z4⟩, st4⟩ := X3.specialBack hx (y := (⟨"com/example/kvasir/kvasir/tableau/Node", "<init>", "(IIZ)V"⟩ : MethodName)) rfl hown (mvT hZ (hw _ (List.mem_of_getElem? (i := 4) rfl))) (mvT hZ (hw _ (List.mem_of_getElem? (i := 5) rfl))) (mvT hZ (hw _ (List.mem_of_getElem? (i := 6) rfl))) (by decide) (backOf (W := 1) (rmC1 l Z a0 hw [] b3 wE  h3 n0 O3 S_EMPTY A3 Ut3 g_b3) hZ (hw _ (List.mem_of_getElem? (i := 6) rfl)) (hw _ (List.mem_of_getElem? (i := 3) rfl)) (by decide) (by decide)) (g := (mkF m 112 #[.val (.int p0), .val (.int p1), .val (.int p2), .val (.int p3), .val (.int p4), .val (.int p5), .val (.int u1), .val (.int u2), .val (.int u3), .val (.int vn), .val (.int (0 : Int32)), .val (.int c3), .val (.int sl), .val (.int q), .unset, .unset] [(.int (0 : Int32)), (.int (64 : Int32)), (.int (0 : Int32)), (.ref b3), (.ref b3)])) rfl (by rw [hml]; rfl) (Steps.refl _) (a := b3) (argsL := [(.int (0 : Int32)), (.int (64 : Int32)), (.int (0 : Int32))]) (rest := [(.ref b3)]) (lenOf pd_3 rfl) rfl (by show 2 * 0 + _ ≤ _; exact Nat.le_of_eq rfl) (hb hby at_112) (fun _ _ => ⟨rfl, e3, (by decide : 1 + 11 ≤ _), (by decide : 29 + 23 ≤ _)⟩)
  dsimp only [Pt.U, Pt.locs, Pt.cells, Pt.slots] at X4 l4 y4 z4 st4 hQ4
  subst l4 y4 z4
  obtain ⟨rfl, N4q, O4, Ag4⟩ := hQ4
  have N4 := Fr.app N0 N4q
  have fk5 : ∀ target, Steps p.tables e below (T4.setTop (mkF m 178 #[.val (.int p0), .val (.int p1), .val (.int p2), .val (.int p3), .val (.int p4), .val (.int p5), .val (.int u1), .val (.int u2), .val (.int u3), .val (.int vn), .val (.int (0 : Int32)), .val (.int c3), .val (.int sl), .val (.int q), .val (.ref b3), .val (.int ex1)] [])) target → Steps p.tables e below (T4.setTop (mkF m 162 #[.val (.int p0), .val (.int p1), .val (.int p2), .val (.int p3), .val (.int p4), .val (.int p5), .val (.int u1), .val (.int u2), .val (.int u3), .val (.int vn), .val (.int (0 : Int32)), .val (.int c3), .val (.int sl), .val (.int q), .val (.ref b3), .val (.int (-1 : Int32))] [])) target := by
    intro target kt
    have z2 := hx1
    · rw [z2] at kt
      show Steps p.tables e below (T4.setTop (mkF m 162 #[.val (.int p0), .val (.int p1), .val (.int p2), .val (.int p3), .val (.int p4), .val (.int p5), .val (.int u1), .val (.int u2), .val (.int u3), .val (.int vn), .val (.int (0 : Int32)), .val (.int c3), .val (.int sl), .val (.int q), .val (.ref b3), .val (.int (-1 : Int32))] [])) _
      refine XS.iload X4.here hx rfl (hb hby at_162) rfl ?_
      show Steps p.tables e below (T4.setTop (mkF m 164 #[.val (.int p0), .val (.int p1), .val (.int p2), .val (.int p3), .val (.int p4), .val (.int p5), .val (.int u1), .val (.int u2), .val (.int u3), .val (.int vn), .val (.int (0 : Int32)), .val (.int c3), .val (.int sl), .val (.int q), .val (.ref b3), .val (.int (-1 : Int32))] [(.int vn)])) _
      refine XS.iconst X4.here hx rfl (hb hby at_164) ?_
      show Steps p.tables e below (T4.setTop (mkF m 165 #[.val (.int p0), .val (.int p1), .val (.int p2), .val (.int p3), .val (.int p4), .val (.int p5), .val (.int u1), .val (.int u2), .val (.int u3), .val (.int vn), .val (.int (0 : Int32)), .val (.int c3), .val (.int sl), .val (.int q), .val (.ref b3), .val (.int (-1 : Int32))] [(.int (1 : Int32)), (.int vn)])) _
      refine XS.icmpYes X4.here hx rfl (pc0 := 165) (pc' := 178) rfl (hb hby at_165) rfl (tlt hn1).1 (by decide) (by decide) ?_
      show Steps p.tables e below (T4.setTop (mkF m 178 #[.val (.int p0), .val (.int p1), .val (.int p2), .val (.int p3), .val (.int p4), .val (.int p5), .val (.int u1), .val (.int u2), .val (.int u3), .val (.int vn), .val (.int (0 : Int32)), .val (.int c3), .val (.int sl), .val (.int q), .val (.ref b3), .val (.int (-1 : Int32))] [])) _
      exact kt
  have fk6 : ∀ target, Steps p.tables e below (T4.setTop (mkF m 194 #[.val (.int p0), .val (.int p1), .val (.int p2), .val (.int p3), .val (.int p4), .val (.int p5), .val (.int u1), .val (.int u2), .val (.int u3), .val (.int vn), .val (.int (0 : Int32)), .val (.int c3), .val (.int sl), .val (.int q), .val (.ref b3), .val (.int ex2)] [])) target → Steps p.tables e below (T4.setTop (mkF m 178 #[.val (.int p0), .val (.int p1), .val (.int p2), .val (.int p3), .val (.int p4), .val (.int p5), .val (.int u1), .val (.int u2), .val (.int u3), .val (.int vn), .val (.int (0 : Int32)), .val (.int c3), .val (.int sl), .val (.int q), .val (.ref b3), .val (.int ex1)] [])) target := by
    intro target kt
    have z2 := hx2
    · rw [z2] at kt
      show Steps p.tables e below (T4.setTop (mkF m 178 #[.val (.int p0), .val (.int p1), .val (.int p2), .val (.int p3), .val (.int p4), .val (.int p5), .val (.int u1), .val (.int u2), .val (.int u3), .val (.int vn), .val (.int (0 : Int32)), .val (.int c3), .val (.int sl), .val (.int q), .val (.ref b3), .val (.int ex1)] [])) _
      refine XS.iload X4.here hx rfl (hb hby at_178) rfl ?_
      show Steps p.tables e below (T4.setTop (mkF m 180 #[.val (.int p0), .val (.int p1), .val (.int p2), .val (.int p3), .val (.int p4), .val (.int p5), .val (.int u1), .val (.int u2), .val (.int u3), .val (.int vn), .val (.int (0 : Int32)), .val (.int c3), .val (.int sl), .val (.int q), .val (.ref b3), .val (.int ex1)] [(.int vn)])) _
      refine XS.iconst X4.here hx rfl (hb hby at_180) ?_
      show Steps p.tables e below (T4.setTop (mkF m 181 #[.val (.int p0), .val (.int p1), .val (.int p2), .val (.int p3), .val (.int p4), .val (.int p5), .val (.int u1), .val (.int u2), .val (.int u3), .val (.int vn), .val (.int (0 : Int32)), .val (.int c3), .val (.int sl), .val (.int q), .val (.ref b3), .val (.int ex1)] [(.int (2 : Int32)), (.int vn)])) _
      refine XS.icmpYes X4.here hx rfl (pc0 := 181) (pc' := 194) rfl (hb hby at_181) rfl (tlt hn2).1 (by decide) (by decide) ?_
      show Steps p.tables e below (T4.setTop (mkF m 194 #[.val (.int p0), .val (.int p1), .val (.int p2), .val (.int p3), .val (.int p4), .val (.int p5), .val (.int u1), .val (.int u2), .val (.int u3), .val (.int vn), .val (.int (0 : Int32)), .val (.int c3), .val (.int sl), .val (.int q), .val (.ref b3), .val (.int ex1)] [])) _
      exact kt
  have fk7 : ∀ target, Steps p.tables e below (T4.setTop (mkF m 210 #[.val (.int p0), .val (.int p1), .val (.int p2), .val (.int p3), .val (.int p4), .val (.int p5), .val (.int u1), .val (.int u2), .val (.int u3), .val (.int vn), .val (.int (0 : Int32)), .val (.int c3), .val (.int sl), .val (.int q), .val (.ref b3), .val (.int ex3)] [])) target → Steps p.tables e below (T4.setTop (mkF m 194 #[.val (.int p0), .val (.int p1), .val (.int p2), .val (.int p3), .val (.int p4), .val (.int p5), .val (.int u1), .val (.int u2), .val (.int u3), .val (.int vn), .val (.int (0 : Int32)), .val (.int c3), .val (.int sl), .val (.int q), .val (.ref b3), .val (.int ex2)] [])) target := by
    intro target kt
    have z2 := hx3
    · rw [z2] at kt
      show Steps p.tables e below (T4.setTop (mkF m 194 #[.val (.int p0), .val (.int p1), .val (.int p2), .val (.int p3), .val (.int p4), .val (.int p5), .val (.int u1), .val (.int u2), .val (.int u3), .val (.int vn), .val (.int (0 : Int32)), .val (.int c3), .val (.int sl), .val (.int q), .val (.ref b3), .val (.int ex2)] [])) _
      refine XS.iload X4.here hx rfl (hb hby at_194) rfl ?_
      show Steps p.tables e below (T4.setTop (mkF m 196 #[.val (.int p0), .val (.int p1), .val (.int p2), .val (.int p3), .val (.int p4), .val (.int p5), .val (.int u1), .val (.int u2), .val (.int u3), .val (.int vn), .val (.int (0 : Int32)), .val (.int c3), .val (.int sl), .val (.int q), .val (.ref b3), .val (.int ex2)] [(.int (0 : Int32))])) _
      refine XS.ifYes X4.here hx rfl (pc0 := 196) (pc' := 210) rfl (hb hby at_196) rfl ((if0 _ _).trans (teq (by decide : (0 : Int32) = (0 : Int32))).1) (by decide) (by decide) ?_
      show Steps p.tables e below (T4.setTop (mkF m 210 #[.val (.int p0), .val (.int p1), .val (.int p2), .val (.int p3), .val (.int p4), .val (.int p5), .val (.int u1), .val (.int u2), .val (.int u3), .val (.int vn), .val (.int (0 : Int32)), .val (.int c3), .val (.int sl), .val (.int q), .val (.ref b3), .val (.int ex2)] [])) _
      exact kt
  have hget : own_get [] q = ex3 := by
    exact own_exp_A p0 p1 c3 q u1 u2 u3 ex1 ex2 ex3 hx1 hx2 hx3
  obtain ⟨cq8, kq8, q8a, q8b, q8c⟩ := isOf hZ rfl Ag4.1
  obtain ⟨_, _, ⟨T8, L8, k8, n8⟩, -, X8, ⟨Lc8, hQ8, l8, y8, z8⟩, st8⟩ := X4.virtualBack hx (y := (⟨"com/example/kvasir/kvasir/tableau/Node", "agendaPlace", "(I)I"⟩ : MethodName)) (z := (⟨"com/example/kvasir/kvasir/tableau/Node", "agendaPlace", "(I)I"⟩ : MethodName)) hown (mvT hZ (hw _ (List.mem_of_getElem? (i := 75) rfl))) (mvT hZ (hw _ (List.mem_of_getElem? (i := 76) rfl))) (notFace_of_selects (args := #[]) (mvT hZ (hw _ (List.mem_of_getElem? (i := 78) rfl)))) (mvT hZ (hw _ (List.mem_of_getElem? (i := 78) rfl))) (mvT hZ (hw _ (List.mem_of_getElem? (i := 77) rfl))) (by decide) (backOf (W := 0) (rmG l Z a0 hw [] b3 q [] T4.heap n0 O4 Ag4 (by decide) trivial) hZ (hw _ (List.mem_of_getElem? (i := 79) rfl)) (hw _ (List.mem_of_getElem? (i := 3) rfl)) (by decide) (by decide)) q8a q8c (g := (mkF m 214 #[.val (.int p0), .val (.int p1), .val (.int p2), .val (.int p3), .val (.int p4), .val (.int p5), .val (.int u1), .val (.int u2), .val (.int u3), .val (.int vn), .val (.int (0 : Int32)), .val (.int c3), .val (.int sl), .val (.int q), .val (.ref b3), .val (.int ex3)] [(.int q), (.ref b3)])) rfl (by rw [hml]; rfl) (Steps.refl _) (argsL := [(.int q)]) (rest := []) (lenOf pd_4 rfl) rfl (by show 2 * 0 + _ ≤ _; exact Nat.le_of_eq rfl) (hb hby at_214) (fun _ _ => ⟨rfl, rfl, (by decide : 12 + 0 ≤ _), (by decide : 52 + 0 ≤ _)⟩)
  dsimp only [Pt.U, Pt.locs, Pt.cells, Pt.slots] at X8 l8 y8 z8 st8 hQ8
  subst l8 y8 z8
  obtain ⟨rfl, N8q, e8⟩ := hQ8
  have N8 := Fr.app N4 N8q
  obtain ⟨fs, hr, hrun, hended, hW, hsame⟩ := X8.leave (v := some (.int (1 : Int32))) (fun h => by rw [Bd.returns] at h; cases h)
  refine ⟨_, _, pre0 _ ?_, hrun, hended, _, _, rfl, ?_, ⟨_, rfl⟩, hW, hsame.mono (by decide) (by decide)⟩
  · show Steps p.tables e below (s₁.setTop (mkF m 0 #[.val (.int p0), .val (.int p1), .val (.int p2), .val (.int p3), .val (.int p4), .val (.int p5), .unset, .unset, .unset, .unset, .unset, .unset, .unset, .unset, .unset, .unset] [])) _
    refine XS.iloadN X0.here hx rfl (hb hby at_0) rfl ?_
    show Steps p.tables e below (s₁.setTop (mkF m 1 #[.val (.int p0), .val (.int p1), .val (.int p2), .val (.int p3), .val (.int p4), .val (.int p5), .unset, .unset, .unset, .unset, .unset, .unset, .unset, .unset, .unset, .unset] [(.int p2)])) _
    refine X0.ldcInt hx hown (mvT hZ (hw _ (List.mem_of_getElem? (i := 0) rfl))) (g := (mkF m 1 #[.val (.int p0), .val (.int p1), .val (.int p2), .val (.int p3), .val (.int p4), .val (.int p5), .unset, .unset, .unset, .unset, .unset, .unset, .unset, .unset, .unset, .unset] [(.int p2)])) rfl (hb hby at_1) _ ?_
    show Steps p.tables e below (s₁.setTop (mkF m 3 #[.val (.int p0), .val (.int p1), .val (.int p2), .val (.int p3), .val (.int p4), .val (.int p5), .unset, .unset, .unset, .unset, .unset, .unset, .unset, .unset, .unset, .unset] [(.int (2147483647 : Int32)), (.int p2)])) _
    refine XS.iand X0.here hx rfl (hb hby at_3) rfl ?_
    show Steps p.tables e below (s₁.setTop (mkF m 4 #[.val (.int p0), .val (.int p1), .val (.int p2), .val (.int p3), .val (.int p4), .val (.int p5), .unset, .unset, .unset, .unset, .unset, .unset, .unset, .unset, .unset, .unset] [(.int (p2 &&& (2147483647 : Int32)))])) _
    rw [hu1]
    show Steps p.tables e below (s₁.setTop (mkF m 4 #[.val (.int p0), .val (.int p1), .val (.int p2), .val (.int p3), .val (.int p4), .val (.int p5), .unset, .unset, .unset, .unset, .unset, .unset, .unset, .unset, .unset, .unset] [(.int u1)])) _
    refine XS.istore X0.here hx rfl (hb hby at_4) rfl (l' := #[.val (.int p0), .val (.int p1), .val (.int p2), .val (.int p3), .val (.int p4), .val (.int p5), .val (.int u1), .unset, .unset, .unset, .unset, .unset, .unset, .unset, .unset, .unset]) rfl ?_
    show Steps p.tables e below (s₁.setTop (mkF m 6 #[.val (.int p0), .val (.int p1), .val (.int p2), .val (.int p3), .val (.int p4), .val (.int p5), .val (.int u1), .unset, .unset, .unset, .unset, .unset, .unset, .unset, .unset, .unset] [])) _
    refine XS.iloadN X0.here hx rfl (hb hby at_6) rfl ?_
    show Steps p.tables e below (s₁.setTop (mkF m 7 #[.val (.int p0), .val (.int p1), .val (.int p2), .val (.int p3), .val (.int p4), .val (.int p5), .val (.int u1), .unset, .unset, .unset, .unset, .unset, .unset, .unset, .unset, .unset] [(.int p3)])) _
    refine X0.ldcInt hx hown (mvT hZ (hw _ (List.mem_of_getElem? (i := 0) rfl))) (g := (mkF m 7 #[.val (.int p0), .val (.int p1), .val (.int p2), .val (.int p3), .val (.int p4), .val (.int p5), .val (.int u1), .unset, .unset, .unset, .unset, .unset, .unset, .unset, .unset, .unset] [(.int p3)])) rfl (hb hby at_7) _ ?_
    show Steps p.tables e below (s₁.setTop (mkF m 9 #[.val (.int p0), .val (.int p1), .val (.int p2), .val (.int p3), .val (.int p4), .val (.int p5), .val (.int u1), .unset, .unset, .unset, .unset, .unset, .unset, .unset, .unset, .unset] [(.int (2147483647 : Int32)), (.int p3)])) _
    refine XS.iand X0.here hx rfl (hb hby at_9) rfl ?_
    show Steps p.tables e below (s₁.setTop (mkF m 10 #[.val (.int p0), .val (.int p1), .val (.int p2), .val (.int p3), .val (.int p4), .val (.int p5), .val (.int u1), .unset, .unset, .unset, .unset, .unset, .unset, .unset, .unset, .unset] [(.int (p3 &&& (2147483647 : Int32)))])) _
    rw [hu2]
    show Steps p.tables e below (s₁.setTop (mkF m 10 #[.val (.int p0), .val (.int p1), .val (.int p2), .val (.int p3), .val (.int p4), .val (.int p5), .val (.int u1), .unset, .unset, .unset, .unset, .unset, .unset, .unset, .unset, .unset] [(.int u2)])) _
    refine XS.istore X0.here hx rfl (hb hby at_10) rfl (l' := #[.val (.int p0), .val (.int p1), .val (.int p2), .val (.int p3), .val (.int p4), .val (.int p5), .val (.int u1), .val (.int u2), .unset, .unset, .unset, .unset, .unset, .unset, .unset, .unset]) rfl ?_
    show Steps p.tables e below (s₁.setTop (mkF m 12 #[.val (.int p0), .val (.int p1), .val (.int p2), .val (.int p3), .val (.int p4), .val (.int p5), .val (.int u1), .val (.int u2), .unset, .unset, .unset, .unset, .unset, .unset, .unset, .unset] [])) _
    refine XS.iload X0.here hx rfl (hb hby at_12) rfl ?_
    show Steps p.tables e below (s₁.setTop (mkF m 14 #[.val (.int p0), .val (.int p1), .val (.int p2), .val (.int p3), .val (.int p4), .val (.int p5), .val (.int u1), .val (.int u2), .unset, .unset, .unset, .unset, .unset, .unset, .unset, .unset] [(.int p4)])) _
    refine X0.ldcInt hx hown (mvT hZ (hw _ (List.mem_of_getElem? (i := 0) rfl))) (g := (mkF m 14 #[.val (.int p0), .val (.int p1), .val (.int p2), .val (.int p3), .val (.int p4), .val (.int p5), .val (.int u1), .val (.int u2), .unset, .unset, .unset, .unset, .unset, .unset, .unset, .unset] [(.int p4)])) rfl (hb hby at_14) _ ?_
    show Steps p.tables e below (s₁.setTop (mkF m 16 #[.val (.int p0), .val (.int p1), .val (.int p2), .val (.int p3), .val (.int p4), .val (.int p5), .val (.int u1), .val (.int u2), .unset, .unset, .unset, .unset, .unset, .unset, .unset, .unset] [(.int (2147483647 : Int32)), (.int p4)])) _
    refine XS.iand X0.here hx rfl (hb hby at_16) rfl ?_
    show Steps p.tables e below (s₁.setTop (mkF m 17 #[.val (.int p0), .val (.int p1), .val (.int p2), .val (.int p3), .val (.int p4), .val (.int p5), .val (.int u1), .val (.int u2), .unset, .unset, .unset, .unset, .unset, .unset, .unset, .unset] [(.int (p4 &&& (2147483647 : Int32)))])) _
    rw [hu3]
    show Steps p.tables e below (s₁.setTop (mkF m 17 #[.val (.int p0), .val (.int p1), .val (.int p2), .val (.int p3), .val (.int p4), .val (.int p5), .val (.int u1), .val (.int u2), .unset, .unset, .unset, .unset, .unset, .unset, .unset, .unset] [(.int u3)])) _
    refine XS.istore X0.here hx rfl (hb hby at_17) rfl (l' := #[.val (.int p0), .val (.int p1), .val (.int p2), .val (.int p3), .val (.int p4), .val (.int p5), .val (.int u1), .val (.int u2), .val (.int u3), .unset, .unset, .unset, .unset, .unset, .unset, .unset]) rfl ?_
    show Steps p.tables e below (s₁.setTop (mkF m 19 #[.val (.int p0), .val (.int p1), .val (.int p2), .val (.int p3), .val (.int p4), .val (.int p5), .val (.int u1), .val (.int u2), .val (.int u3), .unset, .unset, .unset, .unset, .unset, .unset, .unset] [])) _
    refine XS.iload X0.here hx rfl (hb hby at_19) rfl ?_
    show Steps p.tables e below (s₁.setTop (mkF m 21 #[.val (.int p0), .val (.int p1), .val (.int p2), .val (.int p3), .val (.int p4), .val (.int p5), .val (.int u1), .val (.int u2), .val (.int u3), .unset, .unset, .unset, .unset, .unset, .unset, .unset] [(.int p5)])) _
    refine XS.iconst X0.here hx rfl (hb hby at_21) ?_
    show Steps p.tables e below (s₁.setTop (mkF m 22 #[.val (.int p0), .val (.int p1), .val (.int p2), .val (.int p3), .val (.int p4), .val (.int p5), .val (.int u1), .val (.int u2), .val (.int u3), .unset, .unset, .unset, .unset, .unset, .unset, .unset] [(.int (4 : Int32)), (.int p5)])) _
    refine XS.iushr X0.here hx rfl (hb hby at_22) rfl ?_
    show Steps p.tables e below (s₁.setTop (mkF m 23 #[.val (.int p0), .val (.int p1), .val (.int p2), .val (.int p3), .val (.int p4), .val (.int p5), .val (.int u1), .val (.int u2), .val (.int u3), .unset, .unset, .unset, .unset, .unset, .unset, .unset] [(.int ((p5.toUInt32 >>> ((4 : Int32) &&& 31).toUInt32).toInt32))])) _
    refine XS.iconst X0.here hx rfl (hb hby at_23) ?_
    show Steps p.tables e below (s₁.setTop (mkF m 24 #[.val (.int p0), .val (.int p1), .val (.int p2), .val (.int p3), .val (.int p4), .val (.int p5), .val (.int u1), .val (.int u2), .val (.int u3), .unset, .unset, .unset, .unset, .unset, .unset, .unset] [(.int (3 : Int32)), (.int ((p5.toUInt32 >>> ((4 : Int32) &&& 31).toUInt32).toInt32))])) _
    refine XS.iand X0.here hx rfl (hb hby at_24) rfl ?_
    show Steps p.tables e below (s₁.setTop (mkF m 25 #[.val (.int p0), .val (.int p1), .val (.int p2), .val (.int p3), .val (.int p4), .val (.int p5), .val (.int u1), .val (.int u2), .val (.int u3), .unset, .unset, .unset, .unset, .unset, .unset, .unset] [(.int (((p5.toUInt32 >>> ((4 : Int32) &&& 31).toUInt32).toInt32) &&& (3 : Int32)))])) _
    rw [hvn]
    show Steps p.tables e below (s₁.setTop (mkF m 25 #[.val (.int p0), .val (.int p1), .val (.int p2), .val (.int p3), .val (.int p4), .val (.int p5), .val (.int u1), .val (.int u2), .val (.int u3), .unset, .unset, .unset, .unset, .unset, .unset, .unset] [(.int vn)])) _
    refine XS.istore X0.here hx rfl (hb hby at_25) rfl (l' := #[.val (.int p0), .val (.int p1), .val (.int p2), .val (.int p3), .val (.int p4), .val (.int p5), .val (.int u1), .val (.int u2), .val (.int u3), .val (.int vn), .unset, .unset, .unset, .unset, .unset, .unset]) rfl ?_
    show Steps p.tables e below (s₁.setTop (mkF m 27 #[.val (.int p0), .val (.int p1), .val (.int p2), .val (.int p3), .val (.int p4), .val (.int p5), .val (.int u1), .val (.int u2), .val (.int u3), .val (.int vn), .unset, .unset, .unset, .unset, .unset, .unset] [])) _
    refine XS.iload X0.here hx rfl (hb hby at_27) rfl ?_
    show Steps p.tables e below (s₁.setTop (mkF m 29 #[.val (.int p0), .val (.int p1), .val (.int p2), .val (.int p3), .val (.int p4), .val (.int p5), .val (.int u1), .val (.int u2), .val (.int u3), .val (.int vn), .unset, .unset, .unset, .unset, .unset, .unset] [(.int p5)])) _
    refine XS.iconst X0.here hx rfl (hb hby at_29) ?_
    show Steps p.tables e below (s₁.setTop (mkF m 30 #[.val (.int p0), .val (.int p1), .val (.int p2), .val (.int p3), .val (.int p4), .val (.int p5), .val (.int u1), .val (.int u2), .val (.int u3), .val (.int vn), .unset, .unset, .unset, .unset, .unset, .unset] [(.int (1 : Int32)), (.int p5)])) _
    refine XS.iand X0.here hx rfl (hb hby at_30) rfl ?_
    show Steps p.tables e below (s₁.setTop (mkF m 31 #[.val (.int p0), .val (.int p1), .val (.int p2), .val (.int p3), .val (.int p4), .val (.int p5), .val (.int u1), .val (.int u2), .val (.int u3), .val (.int vn), .unset, .unset, .unset, .unset, .unset, .unset] [(.int (p5 &&& (1 : Int32)))])) _
    refine XS.ifYes X0.here hx rfl (pc0 := 31) (pc' := 38) rfl (hb hby at_31) rfl ((if0 _ _).trans (teq hn3).1) (by decide) (by decide) ?_
    show Steps p.tables e below (s₁.setTop (mkF m 38 #[.val (.int p0), .val (.int p1), .val (.int p2), .val (.int p3), .val (.int p4), .val (.int p5), .val (.int u1), .val (.int u2), .val (.int u3), .val (.int vn), .unset, .unset, .unset, .unset, .unset, .unset] [])) _
    refine XS.iconst X0.here hx rfl (hb hby at_38) ?_
    show Steps p.tables e below (s₁.setTop (mkF m 39 #[.val (.int p0), .val (.int p1), .val (.int p2), .val (.int p3), .val (.int p4), .val (.int p5), .val (.int u1), .val (.int u2), .val (.int u3), .val (.int vn), .unset, .unset, .unset, .unset, .unset, .unset] [(.int (0 : Int32))])) _
    refine XS.istore X0.here hx rfl (hb hby at_39) rfl (l' := #[.val (.int p0), .val (.int p1), .val (.int p2), .val (.int p3), .val (.int p4), .val (.int p5), .val (.int u1), .val (.int u2), .val (.int u3), .val (.int vn), .val (.int (0 : Int32)), .unset, .unset, .unset, .unset, .unset]) rfl ?_
    show Steps p.tables e below (s₁.setTop (mkF m 41 #[.val (.int p0), .val (.int p1), .val (.int p2), .val (.int p3), .val (.int p4), .val (.int p5), .val (.int u1), .val (.int u2), .val (.int u3), .val (.int vn), .val (.int (0 : Int32)), .unset, .unset, .unset, .unset, .unset] [])) _
    refine fk1 _ ?_
    show Steps p.tables e below (s₁.setTop (mkF m 53 #[.val (.int p0), .val (.int p1), .val (.int p2), .val (.int p3), .val (.int p4), .val (.int p5), .val (.int u1), .val (.int u2), .val (.int u3), .val (.int vn), .val (.int (0 : Int32)), .unset, .unset, .unset, .unset, .unset] [(.int c3)])) _
    refine XS.istore X0.here hx rfl (hb hby at_53) rfl (l' := #[.val (.int p0), .val (.int p1), .val (.int p2), .val (.int p3), .val (.int p4), .val (.int p5), .val (.int u1), .val (.int u2), .val (.int u3), .val (.int vn), .val (.int (0 : Int32)), .val (.int c3), .unset, .unset, .unset, .unset]) rfl ?_
    show Steps p.tables e below (s₁.setTop (mkF m 55 #[.val (.int p0), .val (.int p1), .val (.int p2), .val (.int p3), .val (.int p4), .val (.int p5), .val (.int u1), .val (.int u2), .val (.int u3), .val (.int vn), .val (.int (0 : Int32)), .val (.int c3), .unset, .unset, .unset, .unset] [])) _
    refine XS.iload X0.here hx rfl (hb hby at_55) rfl ?_
    show Steps p.tables e below (s₁.setTop (mkF m 57 #[.val (.int p0), .val (.int p1), .val (.int p2), .val (.int p3), .val (.int p4), .val (.int p5), .val (.int u1), .val (.int u2), .val (.int u3), .val (.int vn), .val (.int (0 : Int32)), .val (.int c3), .unset, .unset, .unset, .unset] [(.int p5)])) _
    refine XS.iconst X0.here hx rfl (hb hby at_57) ?_
    show Steps p.tables e below (s₁.setTop (mkF m 58 #[.val (.int p0), .val (.int p1), .val (.int p2), .val (.int p3), .val (.int p4), .val (.int p5), .val (.int u1), .val (.int u2), .val (.int u3), .val (.int vn), .val (.int (0 : Int32)), .val (.int c3), .unset, .unset, .unset, .unset] [(.int (2 : Int32)), (.int p5)])) _
    refine XS.iushr X0.here hx rfl (hb hby at_58) rfl ?_
    show Steps p.tables e below (s₁.setTop (mkF m 59 #[.val (.int p0), .val (.int p1), .val (.int p2), .val (.int p3), .val (.int p4), .val (.int p5), .val (.int u1), .val (.int u2), .val (.int u3), .val (.int vn), .val (.int (0 : Int32)), .val (.int c3), .unset, .unset, .unset, .unset] [(.int ((p5.toUInt32 >>> ((2 : Int32) &&& 31).toUInt32).toInt32))])) _
    refine XS.iconst X0.here hx rfl (hb hby at_59) ?_
    show Steps p.tables e below (s₁.setTop (mkF m 60 #[.val (.int p0), .val (.int p1), .val (.int p2), .val (.int p3), .val (.int p4), .val (.int p5), .val (.int u1), .val (.int u2), .val (.int u3), .val (.int vn), .val (.int (0 : Int32)), .val (.int c3), .unset, .unset, .unset, .unset] [(.int (3 : Int32)), (.int ((p5.toUInt32 >>> ((2 : Int32) &&& 31).toUInt32).toInt32))])) _
    refine XS.iand X0.here hx rfl (hb hby at_60) rfl ?_
    show Steps p.tables e below (s₁.setTop (mkF m 61 #[.val (.int p0), .val (.int p1), .val (.int p2), .val (.int p3), .val (.int p4), .val (.int p5), .val (.int u1), .val (.int u2), .val (.int u3), .val (.int vn), .val (.int (0 : Int32)), .val (.int c3), .unset, .unset, .unset, .unset] [(.int (((p5.toUInt32 >>> ((2 : Int32) &&& 31).toUInt32).toInt32) &&& (3 : Int32)))])) _
    rw [hsl]
    show Steps p.tables e below (s₁.setTop (mkF m 61 #[.val (.int p0), .val (.int p1), .val (.int p2), .val (.int p3), .val (.int p4), .val (.int p5), .val (.int u1), .val (.int u2), .val (.int u3), .val (.int vn), .val (.int (0 : Int32)), .val (.int c3), .unset, .unset, .unset, .unset] [(.int sl)])) _
    refine XS.istore X0.here hx rfl (hb hby at_61) rfl (l' := #[.val (.int p0), .val (.int p1), .val (.int p2), .val (.int p3), .val (.int p4), .val (.int p5), .val (.int u1), .val (.int u2), .val (.int u3), .val (.int vn), .val (.int (0 : Int32)), .val (.int c3), .val (.int sl), .unset, .unset, .unset]) rfl ?_
    show Steps p.tables e below (s₁.setTop (mkF m 63 #[.val (.int p0), .val (.int p1), .val (.int p2), .val (.int p3), .val (.int p4), .val (.int p5), .val (.int u1), .val (.int u2), .val (.int u3), .val (.int vn), .val (.int (0 : Int32)), .val (.int c3), .val (.int sl), .unset, .unset, .unset] [])) _
    refine fk2 _ ?_
    show Steps p.tables e below (s₁.setTop (mkF m 104 #[.val (.int p0), .val (.int p1), .val (.int p2), .val (.int p3), .val (.int p4), .val (.int p5), .val (.int u1), .val (.int u2), .val (.int u3), .val (.int vn), .val (.int (0 : Int32)), .val (.int c3), .val (.int sl), .val (.int q), .unset, .unset] [])) _
    refine st3 _ ?_
    show Steps p.tables e below (T3.setTop (mkF m 107 #[.val (.int p0), .val (.int p1), .val (.int p2), .val (.int p3), .val (.int p4), .val (.int p5), .val (.int u1), .val (.int u2), .val (.int u3), .val (.int vn), .val (.int (0 : Int32)), .val (.int c3), .val (.int sl), .val (.int q), .unset, .unset] [(.ref b3)])) _
    refine XS.dup X3.here hx rfl (hb hby at_107) rfl rfl ?_
    show Steps p.tables e below (T3.setTop (mkF m 108 #[.val (.int p0), .val (.int p1), .val (.int p2), .val (.int p3), .val (.int p4), .val (.int p5), .val (.int u1), .val (.int u2), .val (.int u3), .val (.int vn), .val (.int (0 : Int32)), .val (.int c3), .val (.int sl), .val (.int q), .unset, .unset] [(.ref b3), (.ref b3)])) _
    refine XS.iconst X3.here hx rfl (hb hby at_108) ?_
    show Steps p.tables e below (T3.setTop (mkF m 109 #[.val (.int p0), .val (.int p1), .val (.int p2), .val (.int p3), .val (.int p4), .val (.int p5), .val (.int u1), .val (.int u2), .val (.int u3), .val (.int vn), .val (.int (0 : Int32)), .val (.int c3), .val (.int sl), .val (.int q), .unset, .unset] [(.int (0 : Int32)), (.ref b3), (.ref b3)])) _
    refine XS.bipush X3.here hx rfl (hb hby at_109) ?_
    show Steps p.tables e below (T3.setTop (mkF m 111 #[.val (.int p0), .val (.int p1), .val (.int p2), .val (.int p3), .val (.int p4), .val (.int p5), .val (.int u1), .val (.int u2), .val (.int u3), .val (.int vn), .val (.int (0 : Int32)), .val (.int c3), .val (.int sl), .val (.int q), .unset, .unset] [(.int (64 : Int32)), (.int (0 : Int32)), (.ref b3), (.ref b3)])) _
    refine XS.iconst X3.here hx rfl (hb hby at_111) ?_
    show Steps p.tables e below (T3.setTop (mkF m 112 #[.val (.int p0), .val (.int p1), .val (.int p2), .val (.int p3), .val (.int p4), .val (.int p5), .val (.int u1), .val (.int u2), .val (.int u3), .val (.int vn), .val (.int (0 : Int32)), .val (.int c3), .val (.int sl), .val (.int q), .unset, .unset] [(.int (0 : Int32)), (.int (64 : Int32)), (.int (0 : Int32)), (.ref b3), (.ref b3)])) _
    refine st4.trans ?_
    show Steps p.tables e below (T4.setTop (mkF m 115 #[.val (.int p0), .val (.int p1), .val (.int p2), .val (.int p3), .val (.int p4), .val (.int p5), .val (.int u1), .val (.int u2), .val (.int u3), .val (.int vn), .val (.int (0 : Int32)), .val (.int c3), .val (.int sl), .val (.int q), .unset, .unset] [(.ref b3)])) _
    refine XS.astore X4.here hx rfl (hb hby at_115) rfl rfl (l' := #[.val (.int p0), .val (.int p1), .val (.int p2), .val (.int p3), .val (.int p4), .val (.int p5), .val (.int u1), .val (.int u2), .val (.int u3), .val (.int vn), .val (.int (0 : Int32)), .val (.int c3), .val (.int sl), .val (.int q), .val (.ref b3), .unset]) rfl ?_
    show Steps p.tables e below (T4.setTop (mkF m 117 #[.val (.int p0), .val (.int p1), .val (.int p2), .val (.int p3), .val (.int p4), .val (.int p5), .val (.int u1), .val (.int u2), .val (.int u3), .val (.int vn), .val (.int (0 : Int32)), .val (.int c3), .val (.int sl), .val (.int q), .val (.ref b3), .unset] [])) _
    refine XS.iload X4.here hx rfl (hb hby at_117) rfl ?_
    show Steps p.tables e below (T4.setTop (mkF m 119 #[.val (.int p0), .val (.int p1), .val (.int p2), .val (.int p3), .val (.int p4), .val (.int p5), .val (.int u1), .val (.int u2), .val (.int u3), .val (.int vn), .val (.int (0 : Int32)), .val (.int c3), .val (.int sl), .val (.int q), .val (.ref b3), .unset] [(.int vn)])) _
    refine XS.iconst X4.here hx rfl (hb hby at_119) ?_
    show Steps p.tables e below (T4.setTop (mkF m 120 #[.val (.int p0), .val (.int p1), .val (.int p2), .val (.int p3), .val (.int p4), .val (.int p5), .val (.int u1), .val (.int u2), .val (.int u3), .val (.int vn), .val (.int (0 : Int32)), .val (.int c3), .val (.int sl), .val (.int q), .val (.ref b3), .unset] [(.int (1 : Int32)), (.int vn)])) _
    refine XS.icmpYes X4.here hx rfl (pc0 := 120) (pc' := 131) rfl (hb hby at_120) rfl (tlt hn1).1 (by decide) (by decide) ?_
    show Steps p.tables e below (T4.setTop (mkF m 131 #[.val (.int p0), .val (.int p1), .val (.int p2), .val (.int p3), .val (.int p4), .val (.int p5), .val (.int u1), .val (.int u2), .val (.int u3), .val (.int vn), .val (.int (0 : Int32)), .val (.int c3), .val (.int sl), .val (.int q), .val (.ref b3), .unset] [])) _
    refine XS.iload X4.here hx rfl (hb hby at_131) rfl ?_
    show Steps p.tables e below (T4.setTop (mkF m 133 #[.val (.int p0), .val (.int p1), .val (.int p2), .val (.int p3), .val (.int p4), .val (.int p5), .val (.int u1), .val (.int u2), .val (.int u3), .val (.int vn), .val (.int (0 : Int32)), .val (.int c3), .val (.int sl), .val (.int q), .val (.ref b3), .unset] [(.int vn)])) _
    refine XS.iconst X4.here hx rfl (hb hby at_133) ?_
    show Steps p.tables e below (T4.setTop (mkF m 134 #[.val (.int p0), .val (.int p1), .val (.int p2), .val (.int p3), .val (.int p4), .val (.int p5), .val (.int u1), .val (.int u2), .val (.int u3), .val (.int vn), .val (.int (0 : Int32)), .val (.int c3), .val (.int sl), .val (.int q), .val (.ref b3), .unset] [(.int (2 : Int32)), (.int vn)])) _
    refine XS.icmpYes X4.here hx rfl (pc0 := 134) (pc' := 145) rfl (hb hby at_134) rfl (tlt hn2).1 (by decide) (by decide) ?_
    show Steps p.tables e below (T4.setTop (mkF m 145 #[.val (.int p0), .val (.int p1), .val (.int p2), .val (.int p3), .val (.int p4), .val (.int p5), .val (.int u1), .val (.int u2), .val (.int u3), .val (.int vn), .val (.int (0 : Int32)), .val (.int c3), .val (.int sl), .val (.int q), .val (.ref b3), .unset] [])) _
    refine XS.iload X4.here hx rfl (hb hby at_145) rfl ?_
    show Steps p.tables e below (T4.setTop (mkF m 147 #[.val (.int p0), .val (.int p1), .val (.int p2), .val (.int p3), .val (.int p4), .val (.int p5), .val (.int u1), .val (.int u2), .val (.int u3), .val (.int vn), .val (.int (0 : Int32)), .val (.int c3), .val (.int sl), .val (.int q), .val (.ref b3), .unset] [(.int (0 : Int32))])) _
    refine XS.ifYes X4.here hx rfl (pc0 := 147) (pc' := 159) rfl (hb hby at_147) rfl ((if0 _ _).trans (teq (by decide : (0 : Int32) = (0 : Int32))).1) (by decide) (by decide) ?_
    show Steps p.tables e below (T4.setTop (mkF m 159 #[.val (.int p0), .val (.int p1), .val (.int p2), .val (.int p3), .val (.int p4), .val (.int p5), .val (.int u1), .val (.int u2), .val (.int u3), .val (.int vn), .val (.int (0 : Int32)), .val (.int c3), .val (.int sl), .val (.int q), .val (.ref b3), .unset] [])) _
    refine XS.iconst X4.here hx rfl (hb hby at_159) ?_
    show Steps p.tables e below (T4.setTop (mkF m 160 #[.val (.int p0), .val (.int p1), .val (.int p2), .val (.int p3), .val (.int p4), .val (.int p5), .val (.int u1), .val (.int u2), .val (.int u3), .val (.int vn), .val (.int (0 : Int32)), .val (.int c3), .val (.int sl), .val (.int q), .val (.ref b3), .unset] [(.int (-1 : Int32))])) _
    refine XS.istore X4.here hx rfl (hb hby at_160) rfl (l' := #[.val (.int p0), .val (.int p1), .val (.int p2), .val (.int p3), .val (.int p4), .val (.int p5), .val (.int u1), .val (.int u2), .val (.int u3), .val (.int vn), .val (.int (0 : Int32)), .val (.int c3), .val (.int sl), .val (.int q), .val (.ref b3), .val (.int (-1 : Int32))]) rfl ?_
    show Steps p.tables e below (T4.setTop (mkF m 162 #[.val (.int p0), .val (.int p1), .val (.int p2), .val (.int p3), .val (.int p4), .val (.int p5), .val (.int u1), .val (.int u2), .val (.int u3), .val (.int vn), .val (.int (0 : Int32)), .val (.int c3), .val (.int sl), .val (.int q), .val (.ref b3), .val (.int (-1 : Int32))] [])) _
    refine fk5 _ ?_
    show Steps p.tables e below (T4.setTop (mkF m 178 #[.val (.int p0), .val (.int p1), .val (.int p2), .val (.int p3), .val (.int p4), .val (.int p5), .val (.int u1), .val (.int u2), .val (.int u3), .val (.int vn), .val (.int (0 : Int32)), .val (.int c3), .val (.int sl), .val (.int q), .val (.ref b3), .val (.int ex1)] [])) _
    refine fk6 _ ?_
    show Steps p.tables e below (T4.setTop (mkF m 194 #[.val (.int p0), .val (.int p1), .val (.int p2), .val (.int p3), .val (.int p4), .val (.int p5), .val (.int u1), .val (.int u2), .val (.int u3), .val (.int vn), .val (.int (0 : Int32)), .val (.int c3), .val (.int sl), .val (.int q), .val (.ref b3), .val (.int ex2)] [])) _
    refine fk7 _ ?_
    show Steps p.tables e below (T4.setTop (mkF m 210 #[.val (.int p0), .val (.int p1), .val (.int p2), .val (.int p3), .val (.int p4), .val (.int p5), .val (.int u1), .val (.int u2), .val (.int u3), .val (.int vn), .val (.int (0 : Int32)), .val (.int c3), .val (.int sl), .val (.int q), .val (.ref b3), .val (.int ex3)] [])) _
    refine XS.aload X4.here hx rfl (hb hby at_210) rfl rfl ?_
    show Steps p.tables e below (T4.setTop (mkF m 212 #[.val (.int p0), .val (.int p1), .val (.int p2), .val (.int p3), .val (.int p4), .val (.int p5), .val (.int u1), .val (.int u2), .val (.int u3), .val (.int vn), .val (.int (0 : Int32)), .val (.int c3), .val (.int sl), .val (.int q), .val (.ref b3), .val (.int ex3)] [(.ref b3)])) _
    refine XS.iload X4.here hx rfl (hb hby at_212) rfl ?_
    show Steps p.tables e below (T4.setTop (mkF m 214 #[.val (.int p0), .val (.int p1), .val (.int p2), .val (.int p3), .val (.int p4), .val (.int p5), .val (.int u1), .val (.int u2), .val (.int u3), .val (.int vn), .val (.int (0 : Int32)), .val (.int c3), .val (.int sl), .val (.int q), .val (.ref b3), .val (.int ex3)] [(.int q), (.ref b3)])) _
    refine st8.trans ?_
    show Steps p.tables e below (T8.setTop (mkF m 217 #[.val (.int p0), .val (.int p1), .val (.int p2), .val (.int p3), .val (.int p4), .val (.int p5), .val (.int u1), .val (.int u2), .val (.int u3), .val (.int vn), .val (.int (0 : Int32)), .val (.int c3), .val (.int sl), .val (.int q), .val (.ref b3), .val (.int ex3)] [(.int (own_get [] q))])) _
    refine XS.iload X8.here hx rfl (hb hby at_217) rfl ?_
    show Steps p.tables e below (T8.setTop (mkF m 219 #[.val (.int p0), .val (.int p1), .val (.int p2), .val (.int p3), .val (.int p4), .val (.int p5), .val (.int u1), .val (.int u2), .val (.int u3), .val (.int vn), .val (.int (0 : Int32)), .val (.int c3), .val (.int sl), .val (.int q), .val (.ref b3), .val (.int ex3)] [(.int ex3), (.int (own_get [] q))])) _
    refine XS.icmpNo X8.here hx rfl (hb hby at_219) rfl (teq hget).2 ?_
    show Steps p.tables e below (T8.setTop (mkF m 222 #[.val (.int p0), .val (.int p1), .val (.int p2), .val (.int p3), .val (.int p4), .val (.int p5), .val (.int u1), .val (.int u2), .val (.int u3), .val (.int vn), .val (.int (0 : Int32)), .val (.int c3), .val (.int sl), .val (.int q), .val (.ref b3), .val (.int ex3)] [])) _
    refine XS.iconst X8.here hx rfl (hb hby at_222) ?_
    show Steps p.tables e below (T8.setTop (mkF m 223 #[.val (.int p0), .val (.int p1), .val (.int p2), .val (.int p3), .val (.int p4), .val (.int p5), .val (.int u1), .val (.int u2), .val (.int u3), .val (.int vn), .val (.int (0 : Int32)), .val (.int c3), .val (.int sl), .val (.int q), .val (.ref b3), .val (.int ex3)] [(.int (1 : Int32))])) _
    refine XS.goto X8.here hx rfl (pc0 := 223) (pc' := 227) rfl (hb hby at_223) (by decide) (by decide) ?_
    show Steps p.tables e below (T8.setTop (mkF m 227 #[.val (.int p0), .val (.int p1), .val (.int p2), .val (.int p3), .val (.int p4), .val (.int p5), .val (.int u1), .val (.int u2), .val (.int u3), .val (.int vn), .val (.int (0 : Int32)), .val (.int c3), .val (.int sl), .val (.int q), .val (.ref b3), .val (.int ex3)] [(.int (1 : Int32))])) _
    exact retN X8 hx (t := .boolean) Bd.returns (by simp) (hb hby at_227) hr
  · show own_R n0 _ T8.heap _
    rw [e8]
    exact ⟨rfl, N8⟩
theorem own_exp_B (p0 p1 c3 q v1 v2 v3 ex1 ex2 ex3 : Int32) (hx1 : ex1 = (-1 : Int32)) (hx2 : ex2 = ex1) (hx3 : (q = c3 ∧ ex3 = v3) ∨ (¬ (q = c3) ∧ ex3 = ex2)) : (if c3 = q then v3 else own_get [] q) = ex3 := by
  simp only [@eq_comm _ _ q, own_get]
  have b1 := hx1 <;> have b2 := hx2 <;> rcases hx3 with ⟨a3, b3⟩ | ⟨a3, b3⟩ <;> simp_all
theorem pd_5 : parseMethodDescriptor "(II)V" = some ⟨[.int, .int], none⟩ := by decide +kernel
set_option maxRecDepth 65536 in
set_option maxHeartbeats 40000000 in
theorem rm0B (l : Launch) (Z : State) (a0 : Array Value) (hw : ∀ d ∈ tables_1, d.before a0 Z = true) (ws : List Jvm.Cond) (p0 : Int32) (p1 : Int32) (p2 : Int32) (p3 : Int32) (p4 : Int32) (p5 : Int32) (wE : Addr) (u1 u2 u3 vn sl c3 q ex1 ex2 ex3 : Int32) (h0 : Heap) (n0 : Nat) (O0 : Old Z n0 h0) (S_EMPTY : Sta Z Z.heap "com/example/kvasir/kvasir/tableau/DependencySet" "EMPTY" "Lcom/example/kvasir/kvasir/tableau/DependencySet;" (.ref wE)) (hu1 : (p2 &&& (2147483647 : Int32)) = u1) (hu2 : (p3 &&& (2147483647 : Int32)) = u2) (hu3 : (p4 &&& (2147483647 : Int32)) = u3) (hvn : (((p5.toUInt32 >>> ((4 : Int32) &&& 31).toUInt32).toInt32) &&& (3 : Int32)) = vn) (hsl : (((p5.toUInt32 >>> ((2 : Int32) &&& 31).toUInt32).toInt32) &&& (3 : Int32)) = sl) (hn1 : vn < (1 : Int32)) (hn2 : vn < (2 : Int32)) (hn3 : ¬ ((p5 &&& (1 : Int32)) = (0 : Int32))) (hc3 : ((p5 &&& (2 : Int32)) = (0 : Int32) ∧ c3 = p1) ∨ (¬ ((p5 &&& (2 : Int32)) = (0 : Int32)) ∧ c3 = p0)) (hq : (sl = (0 : Int32) ∧ q = p0) ∨ (¬ (sl = (0 : Int32)) ∧ sl = (1 : Int32) ∧ q = p1) ∨ (¬ (sl = (0 : Int32)) ∧ ¬ (sl = (1 : Int32)) ∧ sl = (2 : Int32) ∧ q = (p0 + (1 : Int32))) ∨ (¬ (sl = (0 : Int32)) ∧ ¬ (sl = (1 : Int32)) ∧ ¬ (sl = (2 : Int32)) ∧ q = p5)) (hx1 : ex1 = (-1 : Int32)) (hx2 : ex2 = ex1) (hx3 : (q = c3 ∧ ex3 = u3) ∨ (¬ (q = c3) ∧ ex3 = ex2)) :
    MetFree l x (head1 (Jvm.Cond.code x code maxLocals ret :: ws) room_1) (fun a U => a = #[(.int p0), (.int p1), (.int p2), (.int p3), (.int p4), (.int p5)] ∧ Z.Warmed39 U.vm ∧ U.heap = h0) (fun _ _ _ _ _ => True) (fun _ U o U' => ∃ v L, o = .returned v ∧ own_R n0 v U'.heap L ∧ FrameEnd U o U' L room_1.cells room_1.slots) := by
  refine MetFree.of_bodySF (plainFor_of_name pn_0) hisR ?_
  intro p e s m args below meth c s₁ Bd hml0 hP hK
  obtain ⟨rfl, hZ, hh⟩ := hP
  have hx := Bd.exec
  have hby := Bd.bytes
  have hml : c.maxLocals = 16 := hml0
  have hown : s.vm.findClass "com/example/kvasir/kvasir/tableau/NodeAgendaPlacePinLaw" = some m.cls := findClass_of_methodNamed Bd.named
  have hnm := (name_of_methodNamed Bd.named Bd.method).1
  have X0 : Stand p l e room_1 s m #[(.int p0), (.int p1), (.int p2), (.int p3), (.int p4), (.int p5)] below meth c s₁ [] 0 0 := Stand.of_body Bd
  have e0 : s₁.heap = h0 := by rw [← hh, Bd.state]; rfl
  have N0 := Fr.nil n0
  have pre0 : ∀ t, Steps p.tables e below (s₁.setTop (mkF m 0 #[.val (.int p0), .val (.int p1), .val (.int p2), .val (.int p3), .val (.int p4), .val (.int p5), .unset, .unset, .unset, .unset, .unset, .unset, .unset, .unset, .unset, .unset] [])) t → Steps p.tables e below (s₁.setTop (entryFrame m #[(.int p0), (.int p1), (.int p2), (.int p3), (.int p4), (.int p5)] maxLocals)) t := fun t k => castTop (ef_0 m p0 p1 p2 p3 p4 p5) k
  have fk1 : ∀ target, Steps p.tables e below (s₁.setTop (mkF m 53 #[.val (.int p0), .val (.int p1), .val (.int p2), .val (.int p3), .val (.int p4), .val (.int p5), .val (.int u1), .val (.int u2), .val (.int u3), .val (.int vn), .val (.int (1 : Int32)), .unset, .unset, .unset, .unset, .unset] [(.int c3)])) target → Steps p.tables e below (s₁.setTop (mkF m 41 #[.val (.int p0), .val (.int p1), .val (.int p2), .val (.int p3), .val (.int p4), .val (.int p5), .val (.int u1), .val (.int u2), .val (.int u3), .val (.int vn), .val (.int (1 : Int32)), .unset, .unset, .unset, .unset, .unset] [])) target := by
    intro target kt
    rcases hc3 with ⟨z1, z2⟩ | ⟨z1, z2⟩
    · rw [z2] at kt
      show Steps p.tables e below (s₁.setTop (mkF m 41 #[.val (.int p0), .val (.int p1), .val (.int p2), .val (.int p3), .val (.int p4), .val (.int p5), .val (.int u1), .val (.int u2), .val (.int u3), .val (.int vn), .val (.int (1 : Int32)), .unset, .unset, .unset, .unset, .unset] [])) _
      refine XS.iload X0.here hx rfl (hb hby at_41) rfl ?_
      show Steps p.tables e below (s₁.setTop (mkF m 43 #[.val (.int p0), .val (.int p1), .val (.int p2), .val (.int p3), .val (.int p4), .val (.int p5), .val (.int u1), .val (.int u2), .val (.int u3), .val (.int vn), .val (.int (1 : Int32)), .unset, .unset, .unset, .unset, .unset] [(.int p5)])) _
      refine XS.iconst X0.here hx rfl (hb hby at_43) ?_
      show Steps p.tables e below (s₁.setTop (mkF m 44 #[.val (.int p0), .val (.int p1), .val (.int p2), .val (.int p3), .val (.int p4), .val (.int p5), .val (.int u1), .val (.int u2), .val (.int u3), .val (.int vn), .val (.int (1 : Int32)), .unset, .unset, .unset, .unset, .unset] [(.int (2 : Int32)), (.int p5)])) _
      refine XS.iand X0.here hx rfl (hb hby at_44) rfl ?_
      show Steps p.tables e below (s₁.setTop (mkF m 45 #[.val (.int p0), .val (.int p1), .val (.int p2), .val (.int p3), .val (.int p4), .val (.int p5), .val (.int u1), .val (.int u2), .val (.int u3), .val (.int vn), .val (.int (1 : Int32)), .unset, .unset, .unset, .unset, .unset] [(.int (p5 &&& (2 : Int32)))])) _
      refine XS.ifYes X0.here hx rfl (pc0 := 45) (pc' := 52) rfl (hb hby at_45) rfl ((if0 _ _).trans (teq z1).1) (by decide) (by decide) ?_
      show Steps p.tables e below (s₁.setTop (mkF m 52 #[.val (.int p0), .val (.int p1), .val (.int p2), .val (.int p3), .val (.int p4), .val (.int p5), .val (.int u1), .val (.int u2), .val (.int u3), .val (.int vn), .val (.int (1 : Int32)), .unset, .unset, .unset, .unset, .unset] [])) _
      refine XS.iloadN X0.here hx rfl (hb hby at_52) rfl ?_
      show Steps p.tables e below (s₁.setTop (mkF m 53 #[.val (.int p0), .val (.int p1), .val (.int p2), .val (.int p3), .val (.int p4), .val (.int p5), .val (.int u1), .val (.int u2), .val (.int u3), .val (.int vn), .val (.int (1 : Int32)), .unset, .unset, .unset, .unset, .unset] [(.int p1)])) _
      exact kt
    · rw [z2] at kt
      show Steps p.tables e below (s₁.setTop (mkF m 41 #[.val (.int p0), .val (.int p1), .val (.int p2), .val (.int p3), .val (.int p4), .val (.int p5), .val (.int u1), .val (.int u2), .val (.int u3), .val (.int vn), .val (.int (1 : Int32)), .unset, .unset, .unset, .unset, .unset] [])) _
      refine XS.iload X0.here hx rfl (hb hby at_41) rfl ?_
      show Steps p.tables e below (s₁.setTop (mkF m 43 #[.val (.int p0), .val (.int p1), .val (.int p2), .val (.int p3), .val (.int p4), .val (.int p5), .val (.int u1), .val (.int u2), .val (.int u3), .val (.int vn), .val (.int (1 : Int32)), .unset, .unset, .unset, .unset, .unset] [(.int p5)])) _
      refine XS.iconst X0.here hx rfl (hb hby at_43) ?_
      show Steps p.tables e below (s₁.setTop (mkF m 44 #[.val (.int p0), .val (.int p1), .val (.int p2), .val (.int p3), .val (.int p4), .val (.int p5), .val (.int u1), .val (.int u2), .val (.int u3), .val (.int vn), .val (.int (1 : Int32)), .unset, .unset, .unset, .unset, .unset] [(.int (2 : Int32)), (.int p5)])) _
      refine XS.iand X0.here hx rfl (hb hby at_44) rfl ?_
      show Steps p.tables e below (s₁.setTop (mkF m 45 #[.val (.int p0), .val (.int p1), .val (.int p2), .val (.int p3), .val (.int p4), .val (.int p5), .val (.int u1), .val (.int u2), .val (.int u3), .val (.int vn), .val (.int (1 : Int32)), .unset, .unset, .unset, .unset, .unset] [(.int (p5 &&& (2 : Int32)))])) _
      refine XS.ifNo X0.here hx rfl (hb hby at_45) rfl ((if0 _ _).trans (feq z1).1) ?_
      show Steps p.tables e below (s₁.setTop (mkF m 48 #[.val (.int p0), .val (.int p1), .val (.int p2), .val (.int p3), .val (.int p4), .val (.int p5), .val (.int u1), .val (.int u2), .val (.int u3), .val (.int vn), .val (.int (1 : Int32)), .unset, .unset, .unset, .unset, .unset] [])) _
      refine XS.iloadN X0.here hx rfl (hb hby at_48) rfl ?_
      show Steps p.tables e below (s₁.setTop (mkF m 49 #[.val (.int p0), .val (.int p1), .val (.int p2), .val (.int p3), .val (.int p4), .val (.int p5), .val (.int u1), .val (.int u2), .val (.int u3), .val (.int vn), .val (.int (1 : Int32)), .unset, .unset, .unset, .unset, .unset] [(.int p0)])) _
      refine XS.goto X0.here hx rfl (pc0 := 49) (pc' := 53) rfl (hb hby at_49) (by decide) (by decide) ?_
      show Steps p.tables e below (s₁.setTop (mkF m 53 #[.val (.int p0), .val (.int p1), .val (.int p2), .val (.int p3), .val (.int p4), .val (.int p5), .val (.int u1), .val (.int u2), .val (.int u3), .val (.int vn), .val (.int (1 : Int32)), .unset, .unset, .unset, .unset, .unset] [(.int p0)])) _
      exact kt
  have fk2 : ∀ target, Steps p.tables e below (s₁.setTop (mkF m 104 #[.val (.int p0), .val (.int p1), .val (.int p2), .val (.int p3), .val (.int p4), .val (.int p5), .val (.int u1), .val (.int u2), .val (.int u3), .val (.int vn), .val (.int (1 : Int32)), .val (.int c3), .val (.int sl), .val (.int q), .unset, .unset] [])) target → Steps p.tables e below (s₁.setTop (mkF m 63 #[.val (.int p0), .val (.int p1), .val (.int p2), .val (.int p3), .val (.int p4), .val (.int p5), .val (.int u1), .val (.int u2), .val (.int u3), .val (.int vn), .val (.int (1 : Int32)), .val (.int c3), .val (.int sl), .unset, .unset, .unset] [])) target := by
    intro target kt
    rcases hq with ⟨z1, z2⟩ | ⟨z1, z2, z3⟩ | ⟨z1, z2, z3, z4⟩ | ⟨z1, z2, z3, z4⟩
    · rw [z2] at kt
      show Steps p.tables e below (s₁.setTop (mkF m 63 #[.val (.int p0), .val (.int p1), .val (.int p2), .val (.int p3), .val (.int p4), .val (.int p5), .val (.int u1), .val (.int u2), .val (.int u3), .val (.int vn), .val (.int (1 : Int32)), .val (.int c3), .val (.int sl), .unset, .unset, .unset] [])) _
      refine XS.iload X0.here hx rfl (hb hby at_63) rfl ?_
      show Steps p.tables e below (s₁.setTop (mkF m 65 #[.val (.int p0), .val (.int p1), .val (.int p2), .val (.int p3), .val (.int p4), .val (.int p5), .val (.int u1), .val (.int u2), .val (.int u3), .val (.int vn), .val (.int (1 : Int32)), .val (.int c3), .val (.int sl), .unset, .unset, .unset] [(.int sl)])) _
      refine XS.ifNo X0.here hx rfl (hb hby at_65) rfl ((if0 _ _).trans (teq z1).2) ?_
      show Steps p.tables e below (s₁.setTop (mkF m 68 #[.val (.int p0), .val (.int p1), .val (.int p2), .val (.int p3), .val (.int p4), .val (.int p5), .val (.int u1), .val (.int u2), .val (.int u3), .val (.int vn), .val (.int (1 : Int32)), .val (.int c3), .val (.int sl), .unset, .unset, .unset] [])) _
      refine XS.iloadN X0.here hx rfl (hb hby at_68) rfl ?_
      show Steps p.tables e below (s₁.setTop (mkF m 69 #[.val (.int p0), .val (.int p1), .val (.int p2), .val (.int p3), .val (.int p4), .val (.int p5), .val (.int u1), .val (.int u2), .val (.int u3), .val (.int vn), .val (.int (1 : Int32)), .val (.int c3), .val (.int sl), .unset, .unset, .unset] [(.int p0)])) _
      refine XS.istore X0.here hx rfl (hb hby at_69) rfl (l' := #[.val (.int p0), .val (.int p1), .val (.int p2), .val (.int p3), .val (.int p4), .val (.int p5), .val (.int u1), .val (.int u2), .val (.int u3), .val (.int vn), .val (.int (1 : Int32)), .val (.int c3), .val (.int sl), .val (.int p0), .unset, .unset]) rfl ?_
      show Steps p.tables e below (s₁.setTop (mkF m 71 #[.val (.int p0), .val (.int p1), .val (.int p2), .val (.int p3), .val (.int p4), .val (.int p5), .val (.int u1), .val (.int u2), .val (.int u3), .val (.int vn), .val (.int (1 : Int32)), .val (.int c3), .val (.int sl), .val (.int p0), .unset, .unset] [])) _
      refine XS.goto X0.here hx rfl (pc0 := 71) (pc' := 104) rfl (hb hby at_71) (by decide) (by decide) ?_
      show Steps p.tables e below (s₁.setTop (mkF m 104 #[.val (.int p0), .val (.int p1), .val (.int p2), .val (.int p3), .val (.int p4), .val (.int p5), .val (.int u1), .val (.int u2), .val (.int u3), .val (.int vn), .val (.int (1 : Int32)), .val (.int c3), .val (.int sl), .val (.int p0), .unset, .unset] [])) _
      exact kt
    · rw [z3] at kt
      show Steps p.tables e below (s₁.setTop (mkF m 63 #[.val (.int p0), .val (.int p1), .val (.int p2), .val (.int p3), .val (.int p4), .val (.int p5), .val (.int u1), .val (.int u2), .val (.int u3), .val (.int vn), .val (.int (1 : Int32)), .val (.int c3), .val (.int sl), .unset, .unset, .unset] [])) _
      refine XS.iload X0.here hx rfl (hb hby at_63) rfl ?_
      show Steps p.tables e below (s₁.setTop (mkF m 65 #[.val (.int p0), .val (.int p1), .val (.int p2), .val (.int p3), .val (.int p4), .val (.int p5), .val (.int u1), .val (.int u2), .val (.int u3), .val (.int vn), .val (.int (1 : Int32)), .val (.int c3), .val (.int sl), .unset, .unset, .unset] [(.int sl)])) _
      refine XS.ifYes X0.here hx rfl (pc0 := 65) (pc' := 74) rfl (hb hby at_65) rfl ((if0 _ _).trans (feq z1).2) (by decide) (by decide) ?_
      show Steps p.tables e below (s₁.setTop (mkF m 74 #[.val (.int p0), .val (.int p1), .val (.int p2), .val (.int p3), .val (.int p4), .val (.int p5), .val (.int u1), .val (.int u2), .val (.int u3), .val (.int vn), .val (.int (1 : Int32)), .val (.int c3), .val (.int sl), .unset, .unset, .unset] [])) _
      refine XS.iload X0.here hx rfl (hb hby at_74) rfl ?_
      show Steps p.tables e below (s₁.setTop (mkF m 76 #[.val (.int p0), .val (.int p1), .val (.int p2), .val (.int p3), .val (.int p4), .val (.int p5), .val (.int u1), .val (.int u2), .val (.int u3), .val (.int vn), .val (.int (1 : Int32)), .val (.int c3), .val (.int sl), .unset, .unset, .unset] [(.int sl)])) _
      refine XS.iconst X0.here hx rfl (hb hby at_76) ?_
      show Steps p.tables e below (s₁.setTop (mkF m 77 #[.val (.int p0), .val (.int p1), .val (.int p2), .val (.int p3), .val (.int p4), .val (.int p5), .val (.int u1), .val (.int u2), .val (.int u3), .val (.int vn), .val (.int (1 : Int32)), .val (.int c3), .val (.int sl), .unset, .unset, .unset] [(.int (1 : Int32)), (.int sl)])) _
      refine XS.icmpNo X0.here hx rfl (hb hby at_77) rfl (teq z2).2 ?_
      show Steps p.tables e below (s₁.setTop (mkF m 80 #[.val (.int p0), .val (.int p1), .val (.int p2), .val (.int p3), .val (.int p4), .val (.int p5), .val (.int u1), .val (.int u2), .val (.int u3), .val (.int vn), .val (.int (1 : Int32)), .val (.int c3), .val (.int sl), .unset, .unset, .unset] [])) _
      refine XS.iloadN X0.here hx rfl (hb hby at_80) rfl ?_
      show Steps p.tables e below (s₁.setTop (mkF m 81 #[.val (.int p0), .val (.int p1), .val (.int p2), .val (.int p3), .val (.int p4), .val (.int p5), .val (.int u1), .val (.int u2), .val (.int u3), .val (.int vn), .val (.int (1 : Int32)), .val (.int c3), .val (.int sl), .unset, .unset, .unset] [(.int p1)])) _
      refine XS.istore X0.here hx rfl (hb hby at_81) rfl (l' := #[.val (.int p0), .val (.int p1), .val (.int p2), .val (.int p3), .val (.int p4), .val (.int p5), .val (.int u1), .val (.int u2), .val (.int u3), .val (.int vn), .val (.int (1 : Int32)), .val (.int c3), .val (.int sl), .val (.int p1), .unset, .unset]) rfl ?_
      show Steps p.tables e below (s₁.setTop (mkF m 83 #[.val (.int p0), .val (.int p1), .val (.int p2), .val (.int p3), .val (.int p4), .val (.int p5), .val (.int u1), .val (.int u2), .val (.int u3), .val (.int vn), .val (.int (1 : Int32)), .val (.int c3), .val (.int sl), .val (.int p1), .unset, .unset] [])) _
      refine XS.goto X0.here hx rfl (pc0 := 83) (pc' := 104) rfl (hb hby at_83) (by decide) (by decide) ?_
      show Steps p.tables e below (s₁.setTop (mkF m 104 #[.val (.int p0), .val (.int p1), .val (.int p2), .val (.int p3), .val (.int p4), .val (.int p5), .val (.int u1), .val (.int u2), .val (.int u3), .val (.int vn), .val (.int (1 : Int32)), .val (.int c3), .val (.int sl), .val (.int p1), .unset, .unset] [])) _
      exact kt
    · rw [z4] at kt
      show Steps p.tables e below (s₁.setTop (mkF m 63 #[.val (.int p0), .val (.int p1), .val (.int p2), .val (.int p3), .val (.int p4), .val (.int p5), .val (.int u1), .val (.int u2), .val (.int u3), .val (.int vn), .val (.int (1 : Int32)), .val (.int c3), .val (.int sl), .unset, .unset, .unset] [])) _
      refine XS.iload X0.here hx rfl (hb hby at_63) rfl ?_
      show Steps p.tables e below (s₁.setTop (mkF m 65 #[.val (.int p0), .val (.int p1), .val (.int p2), .val (.int p3), .val (.int p4), .val (.int p5), .val (.int u1), .val (.int u2), .val (.int u3), .val (.int vn), .val (.int (1 : Int32)), .val (.int c3), .val (.int sl), .unset, .unset, .unset] [(.int sl)])) _
      refine XS.ifYes X0.here hx rfl (pc0 := 65) (pc' := 74) rfl (hb hby at_65) rfl ((if0 _ _).trans (feq z1).2) (by decide) (by decide) ?_
      show Steps p.tables e below (s₁.setTop (mkF m 74 #[.val (.int p0), .val (.int p1), .val (.int p2), .val (.int p3), .val (.int p4), .val (.int p5), .val (.int u1), .val (.int u2), .val (.int u3), .val (.int vn), .val (.int (1 : Int32)), .val (.int c3), .val (.int sl), .unset, .unset, .unset] [])) _
      refine XS.iload X0.here hx rfl (hb hby at_74) rfl ?_
      show Steps p.tables e below (s₁.setTop (mkF m 76 #[.val (.int p0), .val (.int p1), .val (.int p2), .val (.int p3), .val (.int p4), .val (.int p5), .val (.int u1), .val (.int u2), .val (.int u3), .val (.int vn), .val (.int (1 : Int32)), .val (.int c3), .val (.int sl), .unset, .unset, .unset] [(.int sl)])) _
      refine XS.iconst X0.here hx rfl (hb hby at_76) ?_
      show Steps p.tables e below (s₁.setTop (mkF m 77 #[.val (.int p0), .val (.int p1), .val (.int p2), .val (.int p3), .val (.int p4), .val (.int p5), .val (.int u1), .val (.int u2), .val (.int u3), .val (.int vn), .val (.int (1 : Int32)), .val (.int c3), .val (.int sl), .unset, .unset, .unset] [(.int (1 : Int32)), (.int sl)])) _
      refine XS.icmpYes X0.here hx rfl (pc0 := 77) (pc' := 86) rfl (hb hby at_77) rfl (feq z2).2 (by decide) (by decide) ?_
      show Steps p.tables e below (s₁.setTop (mkF m 86 #[.val (.int p0), .val (.int p1), .val (.int p2), .val (.int p3), .val (.int p4), .val (.int p5), .val (.int u1), .val (.int u2), .val (.int u3), .val (.int vn), .val (.int (1 : Int32)), .val (.int c3), .val (.int sl), .unset, .unset, .unset] [])) _
      refine XS.iload X0.here hx rfl (hb hby at_86) rfl ?_
      show Steps p.tables e below (s₁.setTop (mkF m 88 #[.val (.int p0), .val (.int p1), .val (.int p2), .val (.int p3), .val (.int p4), .val (.int p5), .val (.int u1), .val (.int u2), .val (.int u3), .val (.int vn), .val (.int (1 : Int32)), .val (.int c3), .val (.int sl), .unset, .unset, .unset] [(.int sl)])) _
      refine XS.iconst X0.here hx rfl (hb hby at_88) ?_
      show Steps p.tables e below (s₁.setTop (mkF m 89 #[.val (.int p0), .val (.int p1), .val (.int p2), .val (.int p3), .val (.int p4), .val (.int p5), .val (.int u1), .val (.int u2), .val (.int u3), .val (.int vn), .val (.int (1 : Int32)), .val (.int c3), .val (.int sl), .unset, .unset, .unset] [(.int (2 : Int32)), (.int sl)])) _
      refine XS.icmpNo X0.here hx rfl (hb hby at_89) rfl (teq z3).2 ?_
      show Steps p.tables e below (s₁.setTop (mkF m 92 #[.val (.int p0), .val (.int p1), .val (.int p2), .val (.int p3), .val (.int p4), .val (.int p5), .val (.int u1), .val (.int u2), .val (.int u3), .val (.int vn), .val (.int (1 : Int32)), .val (.int c3), .val (.int sl), .unset, .unset, .unset] [])) _
      refine XS.iloadN X0.here hx rfl (hb hby at_92) rfl ?_
      show Steps p.tables e below (s₁.setTop (mkF m 93 #[.val (.int p0), .val (.int p1), .val (.int p2), .val (.int p3), .val (.int p4), .val (.int p5), .val (.int u1), .val (.int u2), .val (.int u3), .val (.int vn), .val (.int (1 : Int32)), .val (.int c3), .val (.int sl), .unset, .unset, .unset] [(.int p0)])) _
      refine XS.iconst X0.here hx rfl (hb hby at_93) ?_
      show Steps p.tables e below (s₁.setTop (mkF m 94 #[.val (.int p0), .val (.int p1), .val (.int p2), .val (.int p3), .val (.int p4), .val (.int p5), .val (.int u1), .val (.int u2), .val (.int u3), .val (.int vn), .val (.int (1 : Int32)), .val (.int c3), .val (.int sl), .unset, .unset, .unset] [(.int (1 : Int32)), (.int p0)])) _
      refine XS.iadd X0.here hx rfl (hb hby at_94) rfl ?_
      show Steps p.tables e below (s₁.setTop (mkF m 95 #[.val (.int p0), .val (.int p1), .val (.int p2), .val (.int p3), .val (.int p4), .val (.int p5), .val (.int u1), .val (.int u2), .val (.int u3), .val (.int vn), .val (.int (1 : Int32)), .val (.int c3), .val (.int sl), .unset, .unset, .unset] [(.int (p0 + (1 : Int32)))])) _
      refine XS.istore X0.here hx rfl (hb hby at_95) rfl (l' := #[.val (.int p0), .val (.int p1), .val (.int p2), .val (.int p3), .val (.int p4), .val (.int p5), .val (.int u1), .val (.int u2), .val (.int u3), .val (.int vn), .val (.int (1 : Int32)), .val (.int c3), .val (.int sl), .val (.int (p0 + (1 : Int32))), .unset, .unset]) rfl ?_
      show Steps p.tables e below (s₁.setTop (mkF m 97 #[.val (.int p0), .val (.int p1), .val (.int p2), .val (.int p3), .val (.int p4), .val (.int p5), .val (.int u1), .val (.int u2), .val (.int u3), .val (.int vn), .val (.int (1 : Int32)), .val (.int c3), .val (.int sl), .val (.int (p0 + (1 : Int32))), .unset, .unset] [])) _
      refine XS.goto X0.here hx rfl (pc0 := 97) (pc' := 104) rfl (hb hby at_97) (by decide) (by decide) ?_
      show Steps p.tables e below (s₁.setTop (mkF m 104 #[.val (.int p0), .val (.int p1), .val (.int p2), .val (.int p3), .val (.int p4), .val (.int p5), .val (.int u1), .val (.int u2), .val (.int u3), .val (.int vn), .val (.int (1 : Int32)), .val (.int c3), .val (.int sl), .val (.int (p0 + (1 : Int32))), .unset, .unset] [])) _
      exact kt
    · rw [z4] at kt
      show Steps p.tables e below (s₁.setTop (mkF m 63 #[.val (.int p0), .val (.int p1), .val (.int p2), .val (.int p3), .val (.int p4), .val (.int p5), .val (.int u1), .val (.int u2), .val (.int u3), .val (.int vn), .val (.int (1 : Int32)), .val (.int c3), .val (.int sl), .unset, .unset, .unset] [])) _
      refine XS.iload X0.here hx rfl (hb hby at_63) rfl ?_
      show Steps p.tables e below (s₁.setTop (mkF m 65 #[.val (.int p0), .val (.int p1), .val (.int p2), .val (.int p3), .val (.int p4), .val (.int p5), .val (.int u1), .val (.int u2), .val (.int u3), .val (.int vn), .val (.int (1 : Int32)), .val (.int c3), .val (.int sl), .unset, .unset, .unset] [(.int sl)])) _
      refine XS.ifYes X0.here hx rfl (pc0 := 65) (pc' := 74) rfl (hb hby at_65) rfl ((if0 _ _).trans (feq z1).2) (by decide) (by decide) ?_
      show Steps p.tables e below (s₁.setTop (mkF m 74 #[.val (.int p0), .val (.int p1), .val (.int p2), .val (.int p3), .val (.int p4), .val (.int p5), .val (.int u1), .val (.int u2), .val (.int u3), .val (.int vn), .val (.int (1 : Int32)), .val (.int c3), .val (.int sl), .unset, .unset, .unset] [])) _
      refine XS.iload X0.here hx rfl (hb hby at_74) rfl ?_
      show Steps p.tables e below (s₁.setTop (mkF m 76 #[.val (.int p0), .val (.int p1), .val (.int p2), .val (.int p3), .val (.int p4), .val (.int p5), .val (.int u1), .val (.int u2), .val (.int u3), .val (.int vn), .val (.int (1 : Int32)), .val (.int c3), .val (.int sl), .unset, .unset, .unset] [(.int sl)])) _
      refine XS.iconst X0.here hx rfl (hb hby at_76) ?_
      show Steps p.tables e below (s₁.setTop (mkF m 77 #[.val (.int p0), .val (.int p1), .val (.int p2), .val (.int p3), .val (.int p4), .val (.int p5), .val (.int u1), .val (.int u2), .val (.int u3), .val (.int vn), .val (.int (1 : Int32)), .val (.int c3), .val (.int sl), .unset, .unset, .unset] [(.int (1 : Int32)), (.int sl)])) _
      refine XS.icmpYes X0.here hx rfl (pc0 := 77) (pc' := 86) rfl (hb hby at_77) rfl (feq z2).2 (by decide) (by decide) ?_
      show Steps p.tables e below (s₁.setTop (mkF m 86 #[.val (.int p0), .val (.int p1), .val (.int p2), .val (.int p3), .val (.int p4), .val (.int p5), .val (.int u1), .val (.int u2), .val (.int u3), .val (.int vn), .val (.int (1 : Int32)), .val (.int c3), .val (.int sl), .unset, .unset, .unset] [])) _
      refine XS.iload X0.here hx rfl (hb hby at_86) rfl ?_
      show Steps p.tables e below (s₁.setTop (mkF m 88 #[.val (.int p0), .val (.int p1), .val (.int p2), .val (.int p3), .val (.int p4), .val (.int p5), .val (.int u1), .val (.int u2), .val (.int u3), .val (.int vn), .val (.int (1 : Int32)), .val (.int c3), .val (.int sl), .unset, .unset, .unset] [(.int sl)])) _
      refine XS.iconst X0.here hx rfl (hb hby at_88) ?_
      show Steps p.tables e below (s₁.setTop (mkF m 89 #[.val (.int p0), .val (.int p1), .val (.int p2), .val (.int p3), .val (.int p4), .val (.int p5), .val (.int u1), .val (.int u2), .val (.int u3), .val (.int vn), .val (.int (1 : Int32)), .val (.int c3), .val (.int sl), .unset, .unset, .unset] [(.int (2 : Int32)), (.int sl)])) _
      refine XS.icmpYes X0.here hx rfl (pc0 := 89) (pc' := 100) rfl (hb hby at_89) rfl (feq z3).2 (by decide) (by decide) ?_
      show Steps p.tables e below (s₁.setTop (mkF m 100 #[.val (.int p0), .val (.int p1), .val (.int p2), .val (.int p3), .val (.int p4), .val (.int p5), .val (.int u1), .val (.int u2), .val (.int u3), .val (.int vn), .val (.int (1 : Int32)), .val (.int c3), .val (.int sl), .unset, .unset, .unset] [])) _
      refine XS.iload X0.here hx rfl (hb hby at_100) rfl ?_
      show Steps p.tables e below (s₁.setTop (mkF m 102 #[.val (.int p0), .val (.int p1), .val (.int p2), .val (.int p3), .val (.int p4), .val (.int p5), .val (.int u1), .val (.int u2), .val (.int u3), .val (.int vn), .val (.int (1 : Int32)), .val (.int c3), .val (.int sl), .unset, .unset, .unset] [(.int p5)])) _
      refine XS.istore X0.here hx rfl (hb hby at_102) rfl (l' := #[.val (.int p0), .val (.int p1), .val (.int p2), .val (.int p3), .val (.int p4), .val (.int p5), .val (.int u1), .val (.int u2), .val (.int u3), .val (.int vn), .val (.int (1 : Int32)), .val (.int c3), .val (.int sl), .val (.int p5), .unset, .unset]) rfl ?_
      show Steps p.tables e below (s₁.setTop (mkF m 104 #[.val (.int p0), .val (.int p1), .val (.int p2), .val (.int p3), .val (.int p4), .val (.int p5), .val (.int u1), .val (.int u2), .val (.int u3), .val (.int vn), .val (.int (1 : Int32)), .val (.int c3), .val (.int sl), .val (.int p5), .unset, .unset] [])) _
      exact kt
  obtain ⟨T3, h3, X3, e3, E3, A3, D3, U3, st3⟩ := newO X0 hx hZ hown (hw _ (List.mem_of_getElem? (i := 1) rfl)) (hw _ (List.mem_of_getElem? (i := 2) rfl)) (hw _ (List.mem_of_getElem? (i := 3) rfl)) e0 (g := (mkF m 104 #[.val (.int p0), .val (.int p1), .val (.int p2), .val (.int p3), .val (.int p4), .val (.int p5), .val (.int u1), .val (.int u2), .val (.int u3), .val (.int vn), .val (.int (1 : Int32)), .val (.int c3), .val (.int sl), .val (.int q), .unset, .unset] [])) rfl (hb hby at_104) (by decide) (by decide)
  obtain ⟨b3, g3⟩ : ∃ z, z = h0.size := ⟨_, rfl⟩
  rw [← g3] at A3 D3 U3 st3
  have Ut3 : Unt h3 b3 := U3
  have g_b3 : n0 ≤ b3 := Nat.le_trans (own_le O0) (Nat.le_of_eq g3.symm)
  have O3 := O0.ext E3
  have F_concepts_b3 : Fld Z h3 b3 "com/example/kvasir/kvasir/tableau/Node" "concepts" "[I" .null := D3 (Or.inl (hw _ (List.mem_of_getElem? (i := 18) rfl))) (ty := (.array .int)) (by decide)
  have F_reasons_b3 : Fld Z h3 b3 "com/example/kvasir/kvasir/tableau/Node" "reasons" "[Lcom/example/kvasir/kvasir/tableau/DependencySet;" .null := D3 (Or.inl (hw _ (List.mem_of_getElem? (i := 22) rfl))) (ty := (.array (.object "com/example/kvasir/kvasir/tableau/DependencySet"))) (by decide)
  have F_edgeRoles_b3 : Fld Z h3 b3 "com/example/kvasir/kvasir/tableau/Node" "edgeRoles" "[I" .null := D3 (Or.inl (hw _ (List.mem_of_getElem? (i := 24) rfl))) (ty := (.array .int)) (by decide)
  have F_edgeTargets_b3 : Fld Z h3 b3 "com/example/kvasir/kvasir/tableau/Node" "edgeTargets" "[Lcom/example/kvasir/kvasir/tableau/Node;" .null := D3 (Or.inl (hw _ (List.mem_of_getElem? (i := 28) rfl))) (ty := (.array (.object "com/example/kvasir/kvasir/tableau/Node"))) (by decide)
  have F_edgeReasons_b3 : Fld Z h3 b3 "com/example/kvasir/kvasir/tableau/Node" "edgeReasons" "[Lcom/example/kvasir/kvasir/tableau/DependencySet;" .null := D3 (Or.inl (hw _ (List.mem_of_getElem? (i := 30) rfl))) (ty := (.array (.object "com/example/kvasir/kvasir/tableau/DependencySet"))) (by decide)
  have F_apart_b3 : Fld Z h3 b3 "com/example/kvasir/kvasir/tableau/Node" "apart" "[Lcom/example/kvasir/kvasir/tableau/Node;" .null := D3 (Or.inl (hw _ (List.mem_of_getElem? (i := 32) rfl))) (ty := (.array (.object "com/example/kvasir/kvasir/tableau/Node"))) (by decide)
  have F_apartReasons_b3 : Fld Z h3 b3 "com/example/kvasir/kvasir/tableau/Node" "apartReasons" "[Lcom/example/kvasir/kvasir/tableau/DependencySet;" .null := D3 (Or.inl (hw _ (List.mem_of_getElem? (i := 34) rfl))) (ty := (.array (.object "com/example/kvasir/kvasir/tableau/DependencySet"))) (by decide)
  have F_groups_b3 : Fld Z h3 b3 "com/example/kvasir/kvasir/tableau/Node" "groups" "[Lcom/example/kvasir/kvasir/tableau/ApartGroup;" .null := D3 (Or.inl (hw _ (List.mem_of_getElem? (i := 38) rfl))) (ty := (.array (.object "com/example/kvasir/kvasir/tableau/ApartGroup"))) (by decide)
  have F_groupReasons_b3 : Fld Z h3 b3 "com/example/kvasir/kvasir/tableau/Node" "groupReasons" "[Lcom/example/kvasir/kvasir/tableau/DependencySet;" .null := D3 (Or.inl (hw _ (List.mem_of_getElem? (i := 40) rfl))) (ty := (.array (.object "com/example/kvasir/kvasir/tableau/DependencySet"))) (by decide)
  have F_agendaPlaces_b3 : Fld Z h3 b3 "com/example/kvasir/kvasir/tableau/Node" "agendaPlaces" "[I" .null := D3 (Or.inl (hw _ (List.mem_of_getElem? (i := 42) rfl))) (ty := (.array .int)) (by decide)
  have F_parent_b3 : Fld Z h3 b3 "com/example/kvasir/kvasir/tableau/Node" "parent" "Lcom/example/kvasir/kvasir/tableau/Node;" .null := D3 (Or.inr (hw _ (List.mem_of_getElem? (i := 44) rfl))) (ty := (.object "com/example/kvasir/kvasir/tableau/Node")) (by decide)
  have F_number_b3 : Fld Z h3 b3 "com/example/kvasir/kvasir/tableau/Node" "number" "I" (.int (0 : Int32)) := D3 (Or.inr (hw _ (List.mem_of_getElem? (i := 46) rfl))) (ty := .int) (by decide)
  have F_value_b3 : Fld Z h3 b3 "com/example/kvasir/kvasir/tableau/Node" "value" "Z" (.int (0 : Int32)) := D3 (Or.inr (hw _ (List.mem_of_getElem? (i := 48) rfl))) (ty := .boolean) (by decide)
  have F_copies_b3 : Fld Z h3 b3 "com/example/kvasir/kvasir/tableau/Node" "copies" "J" (.long (0 : Int64)) := D3 (Or.inr (hw _ (List.mem_of_getElem? (i := 50) rfl))) (ty := .long) (by decide)
  have F_madeFor_b3 : Fld Z h3 b3 "com/example/kvasir/kvasir/tableau/Node" "madeFor" "I" (.int (0 : Int32)) := D3 (Or.inr (hw _ (List.mem_of_getElem? (i := 52) rfl))) (ty := .int) (by decide)
  have F_madeBecause_b3 : Fld Z h3 b3 "com/example/kvasir/kvasir/tableau/Node" "madeBecause" "Lcom/example/kvasir/kvasir/tableau/DependencySet;" .null := D3 (Or.inr (hw _ (List.mem_of_getElem? (i := 54) rfl))) (ty := (.object "com/example/kvasir/kvasir/tableau/DependencySet")) (by decide)
  have F_members_b3 : Fld Z h3 b3 "com/example/kvasir/kvasir/tableau/Node" "members" "[J" .null := D3 (Or.inr (hw _ (List.mem_of_getElem? (i := 57) rfl))) (ty := (.array .long)) (by decide)
  obtain ⟨_, _, ⟨T4, L4, k4, n4⟩, -, X4, ⟨Lc4, hQ4, l4, y4, z4⟩, st4⟩ := X3.specialBack hx (y := (⟨"com/example/kvasir/kvasir/tableau/Node", "<init>", "(IIZ)V"⟩ : MethodName)) rfl hown (mvT hZ (hw _ (List.mem_of_getElem? (i := 4) rfl))) (mvT hZ (hw _ (List.mem_of_getElem? (i := 5) rfl))) (mvT hZ (hw _ (List.mem_of_getElem? (i := 6) rfl))) (by decide) (backOf (W := 1) (rmC1 l Z a0 hw [] b3 wE  h3 n0 O3 S_EMPTY A3 Ut3 g_b3) hZ (hw _ (List.mem_of_getElem? (i := 6) rfl)) (hw _ (List.mem_of_getElem? (i := 3) rfl)) (by decide) (by decide)) (g := (mkF m 112 #[.val (.int p0), .val (.int p1), .val (.int p2), .val (.int p3), .val (.int p4), .val (.int p5), .val (.int u1), .val (.int u2), .val (.int u3), .val (.int vn), .val (.int (1 : Int32)), .val (.int c3), .val (.int sl), .val (.int q), .unset, .unset] [(.int (0 : Int32)), (.int (64 : Int32)), (.int (0 : Int32)), (.ref b3), (.ref b3)])) rfl (by rw [hml]; rfl) (Steps.refl _) (a := b3) (argsL := [(.int (0 : Int32)), (.int (64 : Int32)), (.int (0 : Int32))]) (rest := [(.ref b3)]) (lenOf pd_3 rfl) rfl (by show 2 * 0 + _ ≤ _; exact Nat.le_of_eq rfl) (hb hby at_112) (fun _ _ => ⟨rfl, e3, (by decide : 1 + 11 ≤ _), (by decide : 29 + 23 ≤ _)⟩)
  dsimp only [Pt.U, Pt.locs, Pt.cells, Pt.slots] at X4 l4 y4 z4 st4 hQ4
  subst l4 y4 z4
  obtain ⟨rfl, N4q, O4, Ag4⟩ := hQ4
  have N4 := Fr.app N0 N4q
  obtain ⟨cq5, kq5, q5a, q5b, q5c⟩ := isOf hZ rfl Ag4.1
  obtain ⟨_, _, ⟨T5, L5, k5, n5⟩, -, X5, ⟨Lc5, hQ5, l5, y5, z5⟩, st5⟩ := X4.virtualBack hx (y := (⟨"com/example/kvasir/kvasir/tableau/Node", "placeOnAgenda", "(II)V"⟩ : MethodName)) (z := (⟨"com/example/kvasir/kvasir/tableau/Node", "placeOnAgenda", "(II)V"⟩ : MethodName)) hown (mvT hZ (hw _ (List.mem_of_getElem? (i := 58) rfl))) (mvT hZ (hw _ (List.mem_of_getElem? (i := 59) rfl))) (notFace_of_selects (args := #[]) (mvT hZ (hw _ (List.mem_of_getElem? (i := 61) rfl)))) (mvT hZ (hw _ (List.mem_of_getElem? (i := 61) rfl))) (mvT hZ (hw _ (List.mem_of_getElem? (i := 60) rfl))) (by decide) (backOf (W := 0) (rmP l Z a0 hw [] b3 c3 u3 [] T4.heap n0 O4 Ag4 (by decide)) hZ (hw _ (List.mem_of_getElem? (i := 62) rfl)) (hw _ (List.mem_of_getElem? (i := 3) rfl)) (by decide) (by decide)) q5a q5c (g := (mkF m 156 #[.val (.int p0), .val (.int p1), .val (.int p2), .val (.int p3), .val (.int p4), .val (.int p5), .val (.int u1), .val (.int u2), .val (.int u3), .val (.int vn), .val (.int (1 : Int32)), .val (.int c3), .val (.int sl), .val (.int q), .val (.ref b3), .unset] [(.int u3), (.int c3), (.ref b3)])) rfl (by rw [hml]; rfl) (Steps.refl _) (argsL := [(.int c3), (.int u3)]) (rest := []) (lenOf pd_5 rfl) rfl (by show 2 * 0 + _ ≤ _; exact Nat.le_of_eq rfl) (hb hby at_156) (fun _ _ => ⟨rfl, rfl, (by decide : 12 + 1 ≤ _), (by decide : 52 + 6 ≤ _)⟩)
  dsimp only [Pt.U, Pt.locs, Pt.cells, Pt.slots] at X5 l5 y5 z5 st5 hQ5
  subst l5 y5 z5
  obtain ⟨rfl, N5q, O5, Ag5⟩ := hQ5
  have N5 := Fr.app N4 N5q
  have fk6 : ∀ target, Steps p.tables e below (T5.setTop (mkF m 178 #[.val (.int p0), .val (.int p1), .val (.int p2), .val (.int p3), .val (.int p4), .val (.int p5), .val (.int u1), .val (.int u2), .val (.int u3), .val (.int vn), .val (.int (1 : Int32)), .val (.int c3), .val (.int sl), .val (.int q), .val (.ref b3), .val (.int ex1)] [])) target → Steps p.tables e below (T5.setTop (mkF m 162 #[.val (.int p0), .val (.int p1), .val (.int p2), .val (.int p3), .val (.int p4), .val (.int p5), .val (.int u1), .val (.int u2), .val (.int u3), .val (.int vn), .val (.int (1 : Int32)), .val (.int c3), .val (.int sl), .val (.int q), .val (.ref b3), .val (.int (-1 : Int32))] [])) target := by
    intro target kt
    have z2 := hx1
    · rw [z2] at kt
      show Steps p.tables e below (T5.setTop (mkF m 162 #[.val (.int p0), .val (.int p1), .val (.int p2), .val (.int p3), .val (.int p4), .val (.int p5), .val (.int u1), .val (.int u2), .val (.int u3), .val (.int vn), .val (.int (1 : Int32)), .val (.int c3), .val (.int sl), .val (.int q), .val (.ref b3), .val (.int (-1 : Int32))] [])) _
      refine XS.iload X5.here hx rfl (hb hby at_162) rfl ?_
      show Steps p.tables e below (T5.setTop (mkF m 164 #[.val (.int p0), .val (.int p1), .val (.int p2), .val (.int p3), .val (.int p4), .val (.int p5), .val (.int u1), .val (.int u2), .val (.int u3), .val (.int vn), .val (.int (1 : Int32)), .val (.int c3), .val (.int sl), .val (.int q), .val (.ref b3), .val (.int (-1 : Int32))] [(.int vn)])) _
      refine XS.iconst X5.here hx rfl (hb hby at_164) ?_
      show Steps p.tables e below (T5.setTop (mkF m 165 #[.val (.int p0), .val (.int p1), .val (.int p2), .val (.int p3), .val (.int p4), .val (.int p5), .val (.int u1), .val (.int u2), .val (.int u3), .val (.int vn), .val (.int (1 : Int32)), .val (.int c3), .val (.int sl), .val (.int q), .val (.ref b3), .val (.int (-1 : Int32))] [(.int (1 : Int32)), (.int vn)])) _
      refine XS.icmpYes X5.here hx rfl (pc0 := 165) (pc' := 178) rfl (hb hby at_165) rfl (tlt hn1).1 (by decide) (by decide) ?_
      show Steps p.tables e below (T5.setTop (mkF m 178 #[.val (.int p0), .val (.int p1), .val (.int p2), .val (.int p3), .val (.int p4), .val (.int p5), .val (.int u1), .val (.int u2), .val (.int u3), .val (.int vn), .val (.int (1 : Int32)), .val (.int c3), .val (.int sl), .val (.int q), .val (.ref b3), .val (.int (-1 : Int32))] [])) _
      exact kt
  have fk7 : ∀ target, Steps p.tables e below (T5.setTop (mkF m 194 #[.val (.int p0), .val (.int p1), .val (.int p2), .val (.int p3), .val (.int p4), .val (.int p5), .val (.int u1), .val (.int u2), .val (.int u3), .val (.int vn), .val (.int (1 : Int32)), .val (.int c3), .val (.int sl), .val (.int q), .val (.ref b3), .val (.int ex2)] [])) target → Steps p.tables e below (T5.setTop (mkF m 178 #[.val (.int p0), .val (.int p1), .val (.int p2), .val (.int p3), .val (.int p4), .val (.int p5), .val (.int u1), .val (.int u2), .val (.int u3), .val (.int vn), .val (.int (1 : Int32)), .val (.int c3), .val (.int sl), .val (.int q), .val (.ref b3), .val (.int ex1)] [])) target := by
    intro target kt
    have z2 := hx2
    · rw [z2] at kt
      show Steps p.tables e below (T5.setTop (mkF m 178 #[.val (.int p0), .val (.int p1), .val (.int p2), .val (.int p3), .val (.int p4), .val (.int p5), .val (.int u1), .val (.int u2), .val (.int u3), .val (.int vn), .val (.int (1 : Int32)), .val (.int c3), .val (.int sl), .val (.int q), .val (.ref b3), .val (.int ex1)] [])) _
      refine XS.iload X5.here hx rfl (hb hby at_178) rfl ?_
      show Steps p.tables e below (T5.setTop (mkF m 180 #[.val (.int p0), .val (.int p1), .val (.int p2), .val (.int p3), .val (.int p4), .val (.int p5), .val (.int u1), .val (.int u2), .val (.int u3), .val (.int vn), .val (.int (1 : Int32)), .val (.int c3), .val (.int sl), .val (.int q), .val (.ref b3), .val (.int ex1)] [(.int vn)])) _
      refine XS.iconst X5.here hx rfl (hb hby at_180) ?_
      show Steps p.tables e below (T5.setTop (mkF m 181 #[.val (.int p0), .val (.int p1), .val (.int p2), .val (.int p3), .val (.int p4), .val (.int p5), .val (.int u1), .val (.int u2), .val (.int u3), .val (.int vn), .val (.int (1 : Int32)), .val (.int c3), .val (.int sl), .val (.int q), .val (.ref b3), .val (.int ex1)] [(.int (2 : Int32)), (.int vn)])) _
      refine XS.icmpYes X5.here hx rfl (pc0 := 181) (pc' := 194) rfl (hb hby at_181) rfl (tlt hn2).1 (by decide) (by decide) ?_
      show Steps p.tables e below (T5.setTop (mkF m 194 #[.val (.int p0), .val (.int p1), .val (.int p2), .val (.int p3), .val (.int p4), .val (.int p5), .val (.int u1), .val (.int u2), .val (.int u3), .val (.int vn), .val (.int (1 : Int32)), .val (.int c3), .val (.int sl), .val (.int q), .val (.ref b3), .val (.int ex1)] [])) _
      exact kt
  have fk8 : ∀ target, Steps p.tables e below (T5.setTop (mkF m 210 #[.val (.int p0), .val (.int p1), .val (.int p2), .val (.int p3), .val (.int p4), .val (.int p5), .val (.int u1), .val (.int u2), .val (.int u3), .val (.int vn), .val (.int (1 : Int32)), .val (.int c3), .val (.int sl), .val (.int q), .val (.ref b3), .val (.int ex3)] [])) target → Steps p.tables e below (T5.setTop (mkF m 194 #[.val (.int p0), .val (.int p1), .val (.int p2), .val (.int p3), .val (.int p4), .val (.int p5), .val (.int u1), .val (.int u2), .val (.int u3), .val (.int vn), .val (.int (1 : Int32)), .val (.int c3), .val (.int sl), .val (.int q), .val (.ref b3), .val (.int ex2)] [])) target := by
    intro target kt
    rcases hx3 with ⟨z1, z2⟩ | ⟨z1, z2⟩
    · rw [z2] at kt
      show Steps p.tables e below (T5.setTop (mkF m 194 #[.val (.int p0), .val (.int p1), .val (.int p2), .val (.int p3), .val (.int p4), .val (.int p5), .val (.int u1), .val (.int u2), .val (.int u3), .val (.int vn), .val (.int (1 : Int32)), .val (.int c3), .val (.int sl), .val (.int q), .val (.ref b3), .val (.int ex2)] [])) _
      refine XS.iload X5.here hx rfl (hb hby at_194) rfl ?_
      show Steps p.tables e below (T5.setTop (mkF m 196 #[.val (.int p0), .val (.int p1), .val (.int p2), .val (.int p3), .val (.int p4), .val (.int p5), .val (.int u1), .val (.int u2), .val (.int u3), .val (.int vn), .val (.int (1 : Int32)), .val (.int c3), .val (.int sl), .val (.int q), .val (.ref b3), .val (.int ex2)] [(.int (1 : Int32))])) _
      refine XS.ifNo X5.here hx rfl (hb hby at_196) rfl ((if0 _ _).trans (feq (by decide : ¬ ((1 : Int32) = (0 : Int32)))).1) ?_
      show Steps p.tables e below (T5.setTop (mkF m 199 #[.val (.int p0), .val (.int p1), .val (.int p2), .val (.int p3), .val (.int p4), .val (.int p5), .val (.int u1), .val (.int u2), .val (.int u3), .val (.int vn), .val (.int (1 : Int32)), .val (.int c3), .val (.int sl), .val (.int q), .val (.ref b3), .val (.int ex2)] [])) _
      refine XS.iload X5.here hx rfl (hb hby at_199) rfl ?_
      show Steps p.tables e below (T5.setTop (mkF m 201 #[.val (.int p0), .val (.int p1), .val (.int p2), .val (.int p3), .val (.int p4), .val (.int p5), .val (.int u1), .val (.int u2), .val (.int u3), .val (.int vn), .val (.int (1 : Int32)), .val (.int c3), .val (.int sl), .val (.int q), .val (.ref b3), .val (.int ex2)] [(.int q)])) _
      refine XS.iload X5.here hx rfl (hb hby at_201) rfl ?_
      show Steps p.tables e below (T5.setTop (mkF m 203 #[.val (.int p0), .val (.int p1), .val (.int p2), .val (.int p3), .val (.int p4), .val (.int p5), .val (.int u1), .val (.int u2), .val (.int u3), .val (.int vn), .val (.int (1 : Int32)), .val (.int c3), .val (.int sl), .val (.int q), .val (.ref b3), .val (.int ex2)] [(.int c3), (.int q)])) _
      refine XS.icmpNo X5.here hx rfl (hb hby at_203) rfl (teq z1).2 ?_
      show Steps p.tables e below (T5.setTop (mkF m 206 #[.val (.int p0), .val (.int p1), .val (.int p2), .val (.int p3), .val (.int p4), .val (.int p5), .val (.int u1), .val (.int u2), .val (.int u3), .val (.int vn), .val (.int (1 : Int32)), .val (.int c3), .val (.int sl), .val (.int q), .val (.ref b3), .val (.int ex2)] [])) _
      refine XS.iload X5.here hx rfl (hb hby at_206) rfl ?_
      show Steps p.tables e below (T5.setTop (mkF m 208 #[.val (.int p0), .val (.int p1), .val (.int p2), .val (.int p3), .val (.int p4), .val (.int p5), .val (.int u1), .val (.int u2), .val (.int u3), .val (.int vn), .val (.int (1 : Int32)), .val (.int c3), .val (.int sl), .val (.int q), .val (.ref b3), .val (.int ex2)] [(.int u3)])) _
      refine XS.istore X5.here hx rfl (hb hby at_208) rfl (l' := #[.val (.int p0), .val (.int p1), .val (.int p2), .val (.int p3), .val (.int p4), .val (.int p5), .val (.int u1), .val (.int u2), .val (.int u3), .val (.int vn), .val (.int (1 : Int32)), .val (.int c3), .val (.int sl), .val (.int q), .val (.ref b3), .val (.int u3)]) rfl ?_
      show Steps p.tables e below (T5.setTop (mkF m 210 #[.val (.int p0), .val (.int p1), .val (.int p2), .val (.int p3), .val (.int p4), .val (.int p5), .val (.int u1), .val (.int u2), .val (.int u3), .val (.int vn), .val (.int (1 : Int32)), .val (.int c3), .val (.int sl), .val (.int q), .val (.ref b3), .val (.int u3)] [])) _
      exact kt
    · rw [z2] at kt
      show Steps p.tables e below (T5.setTop (mkF m 194 #[.val (.int p0), .val (.int p1), .val (.int p2), .val (.int p3), .val (.int p4), .val (.int p5), .val (.int u1), .val (.int u2), .val (.int u3), .val (.int vn), .val (.int (1 : Int32)), .val (.int c3), .val (.int sl), .val (.int q), .val (.ref b3), .val (.int ex2)] [])) _
      refine XS.iload X5.here hx rfl (hb hby at_194) rfl ?_
      show Steps p.tables e below (T5.setTop (mkF m 196 #[.val (.int p0), .val (.int p1), .val (.int p2), .val (.int p3), .val (.int p4), .val (.int p5), .val (.int u1), .val (.int u2), .val (.int u3), .val (.int vn), .val (.int (1 : Int32)), .val (.int c3), .val (.int sl), .val (.int q), .val (.ref b3), .val (.int ex2)] [(.int (1 : Int32))])) _
      refine XS.ifNo X5.here hx rfl (hb hby at_196) rfl ((if0 _ _).trans (feq (by decide : ¬ ((1 : Int32) = (0 : Int32)))).1) ?_
      show Steps p.tables e below (T5.setTop (mkF m 199 #[.val (.int p0), .val (.int p1), .val (.int p2), .val (.int p3), .val (.int p4), .val (.int p5), .val (.int u1), .val (.int u2), .val (.int u3), .val (.int vn), .val (.int (1 : Int32)), .val (.int c3), .val (.int sl), .val (.int q), .val (.ref b3), .val (.int ex2)] [])) _
      refine XS.iload X5.here hx rfl (hb hby at_199) rfl ?_
      show Steps p.tables e below (T5.setTop (mkF m 201 #[.val (.int p0), .val (.int p1), .val (.int p2), .val (.int p3), .val (.int p4), .val (.int p5), .val (.int u1), .val (.int u2), .val (.int u3), .val (.int vn), .val (.int (1 : Int32)), .val (.int c3), .val (.int sl), .val (.int q), .val (.ref b3), .val (.int ex2)] [(.int q)])) _
      refine XS.iload X5.here hx rfl (hb hby at_201) rfl ?_
      show Steps p.tables e below (T5.setTop (mkF m 203 #[.val (.int p0), .val (.int p1), .val (.int p2), .val (.int p3), .val (.int p4), .val (.int p5), .val (.int u1), .val (.int u2), .val (.int u3), .val (.int vn), .val (.int (1 : Int32)), .val (.int c3), .val (.int sl), .val (.int q), .val (.ref b3), .val (.int ex2)] [(.int c3), (.int q)])) _
      refine XS.icmpYes X5.here hx rfl (pc0 := 203) (pc' := 210) rfl (hb hby at_203) rfl (feq z1).2 (by decide) (by decide) ?_
      show Steps p.tables e below (T5.setTop (mkF m 210 #[.val (.int p0), .val (.int p1), .val (.int p2), .val (.int p3), .val (.int p4), .val (.int p5), .val (.int u1), .val (.int u2), .val (.int u3), .val (.int vn), .val (.int (1 : Int32)), .val (.int c3), .val (.int sl), .val (.int q), .val (.ref b3), .val (.int ex2)] [])) _
      exact kt
  have hget : own_get (own_put [] c3 u3) q = ex3 := by
    simp only [own_get_put]
    exact own_exp_B p0 p1 c3 q u1 u2 u3 ex1 ex2 ex3 hx1 hx2 hx3
  obtain ⟨cq9, kq9, q9a, q9b, q9c⟩ := isOf hZ rfl Ag5.1
  obtain ⟨_, _, ⟨T9, L9, k9, n9⟩, -, X9, ⟨Lc9, hQ9, l9, y9, z9⟩, st9⟩ := X5.virtualBack hx (y := (⟨"com/example/kvasir/kvasir/tableau/Node", "agendaPlace", "(I)I"⟩ : MethodName)) (z := (⟨"com/example/kvasir/kvasir/tableau/Node", "agendaPlace", "(I)I"⟩ : MethodName)) hown (mvT hZ (hw _ (List.mem_of_getElem? (i := 75) rfl))) (mvT hZ (hw _ (List.mem_of_getElem? (i := 76) rfl))) (notFace_of_selects (args := #[]) (mvT hZ (hw _ (List.mem_of_getElem? (i := 78) rfl)))) (mvT hZ (hw _ (List.mem_of_getElem? (i := 78) rfl))) (mvT hZ (hw _ (List.mem_of_getElem? (i := 77) rfl))) (by decide) (backOf (W := 0) (rmG l Z a0 hw [] b3 q (own_put [] c3 u3) T5.heap n0 O5 Ag5 (Nat.le_trans (own_len_put _ _ _) (by decide)) (own_nn_put _ _ _ trivial (hu3 ▸ own_mask_nn _))) hZ (hw _ (List.mem_of_getElem? (i := 79) rfl)) (hw _ (List.mem_of_getElem? (i := 3) rfl)) (by decide) (by decide)) q9a q9c (g := (mkF m 214 #[.val (.int p0), .val (.int p1), .val (.int p2), .val (.int p3), .val (.int p4), .val (.int p5), .val (.int u1), .val (.int u2), .val (.int u3), .val (.int vn), .val (.int (1 : Int32)), .val (.int c3), .val (.int sl), .val (.int q), .val (.ref b3), .val (.int ex3)] [(.int q), (.ref b3)])) rfl (by rw [hml]; rfl) (Steps.refl _) (argsL := [(.int q)]) (rest := []) (lenOf pd_4 rfl) rfl (by show 2 * 0 + _ ≤ _; exact Nat.le_of_eq rfl) (hb hby at_214) (fun _ _ => ⟨rfl, rfl, (by decide : 13 + 0 ≤ _), (by decide : 58 + 0 ≤ _)⟩)
  dsimp only [Pt.U, Pt.locs, Pt.cells, Pt.slots] at X9 l9 y9 z9 st9 hQ9
  subst l9 y9 z9
  obtain ⟨rfl, N9q, e9⟩ := hQ9
  have N9 := Fr.app N5 N9q
  obtain ⟨fs, hr, hrun, hended, hW, hsame⟩ := X9.leave (v := some (.int (1 : Int32))) (fun h => by rw [Bd.returns] at h; cases h)
  refine ⟨_, _, pre0 _ ?_, hrun, hended, _, _, rfl, ?_, ⟨_, rfl⟩, hW, hsame.mono (by decide) (by decide)⟩
  · show Steps p.tables e below (s₁.setTop (mkF m 0 #[.val (.int p0), .val (.int p1), .val (.int p2), .val (.int p3), .val (.int p4), .val (.int p5), .unset, .unset, .unset, .unset, .unset, .unset, .unset, .unset, .unset, .unset] [])) _
    refine XS.iloadN X0.here hx rfl (hb hby at_0) rfl ?_
    show Steps p.tables e below (s₁.setTop (mkF m 1 #[.val (.int p0), .val (.int p1), .val (.int p2), .val (.int p3), .val (.int p4), .val (.int p5), .unset, .unset, .unset, .unset, .unset, .unset, .unset, .unset, .unset, .unset] [(.int p2)])) _
    refine X0.ldcInt hx hown (mvT hZ (hw _ (List.mem_of_getElem? (i := 0) rfl))) (g := (mkF m 1 #[.val (.int p0), .val (.int p1), .val (.int p2), .val (.int p3), .val (.int p4), .val (.int p5), .unset, .unset, .unset, .unset, .unset, .unset, .unset, .unset, .unset, .unset] [(.int p2)])) rfl (hb hby at_1) _ ?_
    show Steps p.tables e below (s₁.setTop (mkF m 3 #[.val (.int p0), .val (.int p1), .val (.int p2), .val (.int p3), .val (.int p4), .val (.int p5), .unset, .unset, .unset, .unset, .unset, .unset, .unset, .unset, .unset, .unset] [(.int (2147483647 : Int32)), (.int p2)])) _
    refine XS.iand X0.here hx rfl (hb hby at_3) rfl ?_
    show Steps p.tables e below (s₁.setTop (mkF m 4 #[.val (.int p0), .val (.int p1), .val (.int p2), .val (.int p3), .val (.int p4), .val (.int p5), .unset, .unset, .unset, .unset, .unset, .unset, .unset, .unset, .unset, .unset] [(.int (p2 &&& (2147483647 : Int32)))])) _
    rw [hu1]
    show Steps p.tables e below (s₁.setTop (mkF m 4 #[.val (.int p0), .val (.int p1), .val (.int p2), .val (.int p3), .val (.int p4), .val (.int p5), .unset, .unset, .unset, .unset, .unset, .unset, .unset, .unset, .unset, .unset] [(.int u1)])) _
    refine XS.istore X0.here hx rfl (hb hby at_4) rfl (l' := #[.val (.int p0), .val (.int p1), .val (.int p2), .val (.int p3), .val (.int p4), .val (.int p5), .val (.int u1), .unset, .unset, .unset, .unset, .unset, .unset, .unset, .unset, .unset]) rfl ?_
    show Steps p.tables e below (s₁.setTop (mkF m 6 #[.val (.int p0), .val (.int p1), .val (.int p2), .val (.int p3), .val (.int p4), .val (.int p5), .val (.int u1), .unset, .unset, .unset, .unset, .unset, .unset, .unset, .unset, .unset] [])) _
    refine XS.iloadN X0.here hx rfl (hb hby at_6) rfl ?_
    show Steps p.tables e below (s₁.setTop (mkF m 7 #[.val (.int p0), .val (.int p1), .val (.int p2), .val (.int p3), .val (.int p4), .val (.int p5), .val (.int u1), .unset, .unset, .unset, .unset, .unset, .unset, .unset, .unset, .unset] [(.int p3)])) _
    refine X0.ldcInt hx hown (mvT hZ (hw _ (List.mem_of_getElem? (i := 0) rfl))) (g := (mkF m 7 #[.val (.int p0), .val (.int p1), .val (.int p2), .val (.int p3), .val (.int p4), .val (.int p5), .val (.int u1), .unset, .unset, .unset, .unset, .unset, .unset, .unset, .unset, .unset] [(.int p3)])) rfl (hb hby at_7) _ ?_
    show Steps p.tables e below (s₁.setTop (mkF m 9 #[.val (.int p0), .val (.int p1), .val (.int p2), .val (.int p3), .val (.int p4), .val (.int p5), .val (.int u1), .unset, .unset, .unset, .unset, .unset, .unset, .unset, .unset, .unset] [(.int (2147483647 : Int32)), (.int p3)])) _
    refine XS.iand X0.here hx rfl (hb hby at_9) rfl ?_
    show Steps p.tables e below (s₁.setTop (mkF m 10 #[.val (.int p0), .val (.int p1), .val (.int p2), .val (.int p3), .val (.int p4), .val (.int p5), .val (.int u1), .unset, .unset, .unset, .unset, .unset, .unset, .unset, .unset, .unset] [(.int (p3 &&& (2147483647 : Int32)))])) _
    rw [hu2]
    show Steps p.tables e below (s₁.setTop (mkF m 10 #[.val (.int p0), .val (.int p1), .val (.int p2), .val (.int p3), .val (.int p4), .val (.int p5), .val (.int u1), .unset, .unset, .unset, .unset, .unset, .unset, .unset, .unset, .unset] [(.int u2)])) _
    refine XS.istore X0.here hx rfl (hb hby at_10) rfl (l' := #[.val (.int p0), .val (.int p1), .val (.int p2), .val (.int p3), .val (.int p4), .val (.int p5), .val (.int u1), .val (.int u2), .unset, .unset, .unset, .unset, .unset, .unset, .unset, .unset]) rfl ?_
    show Steps p.tables e below (s₁.setTop (mkF m 12 #[.val (.int p0), .val (.int p1), .val (.int p2), .val (.int p3), .val (.int p4), .val (.int p5), .val (.int u1), .val (.int u2), .unset, .unset, .unset, .unset, .unset, .unset, .unset, .unset] [])) _
    refine XS.iload X0.here hx rfl (hb hby at_12) rfl ?_
    show Steps p.tables e below (s₁.setTop (mkF m 14 #[.val (.int p0), .val (.int p1), .val (.int p2), .val (.int p3), .val (.int p4), .val (.int p5), .val (.int u1), .val (.int u2), .unset, .unset, .unset, .unset, .unset, .unset, .unset, .unset] [(.int p4)])) _
    refine X0.ldcInt hx hown (mvT hZ (hw _ (List.mem_of_getElem? (i := 0) rfl))) (g := (mkF m 14 #[.val (.int p0), .val (.int p1), .val (.int p2), .val (.int p3), .val (.int p4), .val (.int p5), .val (.int u1), .val (.int u2), .unset, .unset, .unset, .unset, .unset, .unset, .unset, .unset] [(.int p4)])) rfl (hb hby at_14) _ ?_
    show Steps p.tables e below (s₁.setTop (mkF m 16 #[.val (.int p0), .val (.int p1), .val (.int p2), .val (.int p3), .val (.int p4), .val (.int p5), .val (.int u1), .val (.int u2), .unset, .unset, .unset, .unset, .unset, .unset, .unset, .unset] [(.int (2147483647 : Int32)), (.int p4)])) _
    refine XS.iand X0.here hx rfl (hb hby at_16) rfl ?_
    show Steps p.tables e below (s₁.setTop (mkF m 17 #[.val (.int p0), .val (.int p1), .val (.int p2), .val (.int p3), .val (.int p4), .val (.int p5), .val (.int u1), .val (.int u2), .unset, .unset, .unset, .unset, .unset, .unset, .unset, .unset] [(.int (p4 &&& (2147483647 : Int32)))])) _
    rw [hu3]
    show Steps p.tables e below (s₁.setTop (mkF m 17 #[.val (.int p0), .val (.int p1), .val (.int p2), .val (.int p3), .val (.int p4), .val (.int p5), .val (.int u1), .val (.int u2), .unset, .unset, .unset, .unset, .unset, .unset, .unset, .unset] [(.int u3)])) _
    refine XS.istore X0.here hx rfl (hb hby at_17) rfl (l' := #[.val (.int p0), .val (.int p1), .val (.int p2), .val (.int p3), .val (.int p4), .val (.int p5), .val (.int u1), .val (.int u2), .val (.int u3), .unset, .unset, .unset, .unset, .unset, .unset, .unset]) rfl ?_
    show Steps p.tables e below (s₁.setTop (mkF m 19 #[.val (.int p0), .val (.int p1), .val (.int p2), .val (.int p3), .val (.int p4), .val (.int p5), .val (.int u1), .val (.int u2), .val (.int u3), .unset, .unset, .unset, .unset, .unset, .unset, .unset] [])) _
    refine XS.iload X0.here hx rfl (hb hby at_19) rfl ?_
    show Steps p.tables e below (s₁.setTop (mkF m 21 #[.val (.int p0), .val (.int p1), .val (.int p2), .val (.int p3), .val (.int p4), .val (.int p5), .val (.int u1), .val (.int u2), .val (.int u3), .unset, .unset, .unset, .unset, .unset, .unset, .unset] [(.int p5)])) _
    refine XS.iconst X0.here hx rfl (hb hby at_21) ?_
    show Steps p.tables e below (s₁.setTop (mkF m 22 #[.val (.int p0), .val (.int p1), .val (.int p2), .val (.int p3), .val (.int p4), .val (.int p5), .val (.int u1), .val (.int u2), .val (.int u3), .unset, .unset, .unset, .unset, .unset, .unset, .unset] [(.int (4 : Int32)), (.int p5)])) _
    refine XS.iushr X0.here hx rfl (hb hby at_22) rfl ?_
    show Steps p.tables e below (s₁.setTop (mkF m 23 #[.val (.int p0), .val (.int p1), .val (.int p2), .val (.int p3), .val (.int p4), .val (.int p5), .val (.int u1), .val (.int u2), .val (.int u3), .unset, .unset, .unset, .unset, .unset, .unset, .unset] [(.int ((p5.toUInt32 >>> ((4 : Int32) &&& 31).toUInt32).toInt32))])) _
    refine XS.iconst X0.here hx rfl (hb hby at_23) ?_
    show Steps p.tables e below (s₁.setTop (mkF m 24 #[.val (.int p0), .val (.int p1), .val (.int p2), .val (.int p3), .val (.int p4), .val (.int p5), .val (.int u1), .val (.int u2), .val (.int u3), .unset, .unset, .unset, .unset, .unset, .unset, .unset] [(.int (3 : Int32)), (.int ((p5.toUInt32 >>> ((4 : Int32) &&& 31).toUInt32).toInt32))])) _
    refine XS.iand X0.here hx rfl (hb hby at_24) rfl ?_
    show Steps p.tables e below (s₁.setTop (mkF m 25 #[.val (.int p0), .val (.int p1), .val (.int p2), .val (.int p3), .val (.int p4), .val (.int p5), .val (.int u1), .val (.int u2), .val (.int u3), .unset, .unset, .unset, .unset, .unset, .unset, .unset] [(.int (((p5.toUInt32 >>> ((4 : Int32) &&& 31).toUInt32).toInt32) &&& (3 : Int32)))])) _
    rw [hvn]
    show Steps p.tables e below (s₁.setTop (mkF m 25 #[.val (.int p0), .val (.int p1), .val (.int p2), .val (.int p3), .val (.int p4), .val (.int p5), .val (.int u1), .val (.int u2), .val (.int u3), .unset, .unset, .unset, .unset, .unset, .unset, .unset] [(.int vn)])) _
    refine XS.istore X0.here hx rfl (hb hby at_25) rfl (l' := #[.val (.int p0), .val (.int p1), .val (.int p2), .val (.int p3), .val (.int p4), .val (.int p5), .val (.int u1), .val (.int u2), .val (.int u3), .val (.int vn), .unset, .unset, .unset, .unset, .unset, .unset]) rfl ?_
    show Steps p.tables e below (s₁.setTop (mkF m 27 #[.val (.int p0), .val (.int p1), .val (.int p2), .val (.int p3), .val (.int p4), .val (.int p5), .val (.int u1), .val (.int u2), .val (.int u3), .val (.int vn), .unset, .unset, .unset, .unset, .unset, .unset] [])) _
    refine XS.iload X0.here hx rfl (hb hby at_27) rfl ?_
    show Steps p.tables e below (s₁.setTop (mkF m 29 #[.val (.int p0), .val (.int p1), .val (.int p2), .val (.int p3), .val (.int p4), .val (.int p5), .val (.int u1), .val (.int u2), .val (.int u3), .val (.int vn), .unset, .unset, .unset, .unset, .unset, .unset] [(.int p5)])) _
    refine XS.iconst X0.here hx rfl (hb hby at_29) ?_
    show Steps p.tables e below (s₁.setTop (mkF m 30 #[.val (.int p0), .val (.int p1), .val (.int p2), .val (.int p3), .val (.int p4), .val (.int p5), .val (.int u1), .val (.int u2), .val (.int u3), .val (.int vn), .unset, .unset, .unset, .unset, .unset, .unset] [(.int (1 : Int32)), (.int p5)])) _
    refine XS.iand X0.here hx rfl (hb hby at_30) rfl ?_
    show Steps p.tables e below (s₁.setTop (mkF m 31 #[.val (.int p0), .val (.int p1), .val (.int p2), .val (.int p3), .val (.int p4), .val (.int p5), .val (.int u1), .val (.int u2), .val (.int u3), .val (.int vn), .unset, .unset, .unset, .unset, .unset, .unset] [(.int (p5 &&& (1 : Int32)))])) _
    refine XS.ifNo X0.here hx rfl (hb hby at_31) rfl ((if0 _ _).trans (feq hn3).1) ?_
    show Steps p.tables e below (s₁.setTop (mkF m 34 #[.val (.int p0), .val (.int p1), .val (.int p2), .val (.int p3), .val (.int p4), .val (.int p5), .val (.int u1), .val (.int u2), .val (.int u3), .val (.int vn), .unset, .unset, .unset, .unset, .unset, .unset] [])) _
    refine XS.iconst X0.here hx rfl (hb hby at_34) ?_
    show Steps p.tables e below (s₁.setTop (mkF m 35 #[.val (.int p0), .val (.int p1), .val (.int p2), .val (.int p3), .val (.int p4), .val (.int p5), .val (.int u1), .val (.int u2), .val (.int u3), .val (.int vn), .unset, .unset, .unset, .unset, .unset, .unset] [(.int (1 : Int32))])) _
    refine XS.goto X0.here hx rfl (pc0 := 35) (pc' := 39) rfl (hb hby at_35) (by decide) (by decide) ?_
    show Steps p.tables e below (s₁.setTop (mkF m 39 #[.val (.int p0), .val (.int p1), .val (.int p2), .val (.int p3), .val (.int p4), .val (.int p5), .val (.int u1), .val (.int u2), .val (.int u3), .val (.int vn), .unset, .unset, .unset, .unset, .unset, .unset] [(.int (1 : Int32))])) _
    refine XS.istore X0.here hx rfl (hb hby at_39) rfl (l' := #[.val (.int p0), .val (.int p1), .val (.int p2), .val (.int p3), .val (.int p4), .val (.int p5), .val (.int u1), .val (.int u2), .val (.int u3), .val (.int vn), .val (.int (1 : Int32)), .unset, .unset, .unset, .unset, .unset]) rfl ?_
    show Steps p.tables e below (s₁.setTop (mkF m 41 #[.val (.int p0), .val (.int p1), .val (.int p2), .val (.int p3), .val (.int p4), .val (.int p5), .val (.int u1), .val (.int u2), .val (.int u3), .val (.int vn), .val (.int (1 : Int32)), .unset, .unset, .unset, .unset, .unset] [])) _
    refine fk1 _ ?_
    show Steps p.tables e below (s₁.setTop (mkF m 53 #[.val (.int p0), .val (.int p1), .val (.int p2), .val (.int p3), .val (.int p4), .val (.int p5), .val (.int u1), .val (.int u2), .val (.int u3), .val (.int vn), .val (.int (1 : Int32)), .unset, .unset, .unset, .unset, .unset] [(.int c3)])) _
    refine XS.istore X0.here hx rfl (hb hby at_53) rfl (l' := #[.val (.int p0), .val (.int p1), .val (.int p2), .val (.int p3), .val (.int p4), .val (.int p5), .val (.int u1), .val (.int u2), .val (.int u3), .val (.int vn), .val (.int (1 : Int32)), .val (.int c3), .unset, .unset, .unset, .unset]) rfl ?_
    show Steps p.tables e below (s₁.setTop (mkF m 55 #[.val (.int p0), .val (.int p1), .val (.int p2), .val (.int p3), .val (.int p4), .val (.int p5), .val (.int u1), .val (.int u2), .val (.int u3), .val (.int vn), .val (.int (1 : Int32)), .val (.int c3), .unset, .unset, .unset, .unset] [])) _
    refine XS.iload X0.here hx rfl (hb hby at_55) rfl ?_
    show Steps p.tables e below (s₁.setTop (mkF m 57 #[.val (.int p0), .val (.int p1), .val (.int p2), .val (.int p3), .val (.int p4), .val (.int p5), .val (.int u1), .val (.int u2), .val (.int u3), .val (.int vn), .val (.int (1 : Int32)), .val (.int c3), .unset, .unset, .unset, .unset] [(.int p5)])) _
    refine XS.iconst X0.here hx rfl (hb hby at_57) ?_
    show Steps p.tables e below (s₁.setTop (mkF m 58 #[.val (.int p0), .val (.int p1), .val (.int p2), .val (.int p3), .val (.int p4), .val (.int p5), .val (.int u1), .val (.int u2), .val (.int u3), .val (.int vn), .val (.int (1 : Int32)), .val (.int c3), .unset, .unset, .unset, .unset] [(.int (2 : Int32)), (.int p5)])) _
    refine XS.iushr X0.here hx rfl (hb hby at_58) rfl ?_
    show Steps p.tables e below (s₁.setTop (mkF m 59 #[.val (.int p0), .val (.int p1), .val (.int p2), .val (.int p3), .val (.int p4), .val (.int p5), .val (.int u1), .val (.int u2), .val (.int u3), .val (.int vn), .val (.int (1 : Int32)), .val (.int c3), .unset, .unset, .unset, .unset] [(.int ((p5.toUInt32 >>> ((2 : Int32) &&& 31).toUInt32).toInt32))])) _
    refine XS.iconst X0.here hx rfl (hb hby at_59) ?_
    show Steps p.tables e below (s₁.setTop (mkF m 60 #[.val (.int p0), .val (.int p1), .val (.int p2), .val (.int p3), .val (.int p4), .val (.int p5), .val (.int u1), .val (.int u2), .val (.int u3), .val (.int vn), .val (.int (1 : Int32)), .val (.int c3), .unset, .unset, .unset, .unset] [(.int (3 : Int32)), (.int ((p5.toUInt32 >>> ((2 : Int32) &&& 31).toUInt32).toInt32))])) _
    refine XS.iand X0.here hx rfl (hb hby at_60) rfl ?_
    show Steps p.tables e below (s₁.setTop (mkF m 61 #[.val (.int p0), .val (.int p1), .val (.int p2), .val (.int p3), .val (.int p4), .val (.int p5), .val (.int u1), .val (.int u2), .val (.int u3), .val (.int vn), .val (.int (1 : Int32)), .val (.int c3), .unset, .unset, .unset, .unset] [(.int (((p5.toUInt32 >>> ((2 : Int32) &&& 31).toUInt32).toInt32) &&& (3 : Int32)))])) _
    rw [hsl]
    show Steps p.tables e below (s₁.setTop (mkF m 61 #[.val (.int p0), .val (.int p1), .val (.int p2), .val (.int p3), .val (.int p4), .val (.int p5), .val (.int u1), .val (.int u2), .val (.int u3), .val (.int vn), .val (.int (1 : Int32)), .val (.int c3), .unset, .unset, .unset, .unset] [(.int sl)])) _
    refine XS.istore X0.here hx rfl (hb hby at_61) rfl (l' := #[.val (.int p0), .val (.int p1), .val (.int p2), .val (.int p3), .val (.int p4), .val (.int p5), .val (.int u1), .val (.int u2), .val (.int u3), .val (.int vn), .val (.int (1 : Int32)), .val (.int c3), .val (.int sl), .unset, .unset, .unset]) rfl ?_
    show Steps p.tables e below (s₁.setTop (mkF m 63 #[.val (.int p0), .val (.int p1), .val (.int p2), .val (.int p3), .val (.int p4), .val (.int p5), .val (.int u1), .val (.int u2), .val (.int u3), .val (.int vn), .val (.int (1 : Int32)), .val (.int c3), .val (.int sl), .unset, .unset, .unset] [])) _
    refine fk2 _ ?_
    show Steps p.tables e below (s₁.setTop (mkF m 104 #[.val (.int p0), .val (.int p1), .val (.int p2), .val (.int p3), .val (.int p4), .val (.int p5), .val (.int u1), .val (.int u2), .val (.int u3), .val (.int vn), .val (.int (1 : Int32)), .val (.int c3), .val (.int sl), .val (.int q), .unset, .unset] [])) _
    refine st3 _ ?_
    show Steps p.tables e below (T3.setTop (mkF m 107 #[.val (.int p0), .val (.int p1), .val (.int p2), .val (.int p3), .val (.int p4), .val (.int p5), .val (.int u1), .val (.int u2), .val (.int u3), .val (.int vn), .val (.int (1 : Int32)), .val (.int c3), .val (.int sl), .val (.int q), .unset, .unset] [(.ref b3)])) _
    refine XS.dup X3.here hx rfl (hb hby at_107) rfl rfl ?_
    show Steps p.tables e below (T3.setTop (mkF m 108 #[.val (.int p0), .val (.int p1), .val (.int p2), .val (.int p3), .val (.int p4), .val (.int p5), .val (.int u1), .val (.int u2), .val (.int u3), .val (.int vn), .val (.int (1 : Int32)), .val (.int c3), .val (.int sl), .val (.int q), .unset, .unset] [(.ref b3), (.ref b3)])) _
    refine XS.iconst X3.here hx rfl (hb hby at_108) ?_
    show Steps p.tables e below (T3.setTop (mkF m 109 #[.val (.int p0), .val (.int p1), .val (.int p2), .val (.int p3), .val (.int p4), .val (.int p5), .val (.int u1), .val (.int u2), .val (.int u3), .val (.int vn), .val (.int (1 : Int32)), .val (.int c3), .val (.int sl), .val (.int q), .unset, .unset] [(.int (0 : Int32)), (.ref b3), (.ref b3)])) _
    refine XS.bipush X3.here hx rfl (hb hby at_109) ?_
    show Steps p.tables e below (T3.setTop (mkF m 111 #[.val (.int p0), .val (.int p1), .val (.int p2), .val (.int p3), .val (.int p4), .val (.int p5), .val (.int u1), .val (.int u2), .val (.int u3), .val (.int vn), .val (.int (1 : Int32)), .val (.int c3), .val (.int sl), .val (.int q), .unset, .unset] [(.int (64 : Int32)), (.int (0 : Int32)), (.ref b3), (.ref b3)])) _
    refine XS.iconst X3.here hx rfl (hb hby at_111) ?_
    show Steps p.tables e below (T3.setTop (mkF m 112 #[.val (.int p0), .val (.int p1), .val (.int p2), .val (.int p3), .val (.int p4), .val (.int p5), .val (.int u1), .val (.int u2), .val (.int u3), .val (.int vn), .val (.int (1 : Int32)), .val (.int c3), .val (.int sl), .val (.int q), .unset, .unset] [(.int (0 : Int32)), (.int (64 : Int32)), (.int (0 : Int32)), (.ref b3), (.ref b3)])) _
    refine st4.trans ?_
    show Steps p.tables e below (T4.setTop (mkF m 115 #[.val (.int p0), .val (.int p1), .val (.int p2), .val (.int p3), .val (.int p4), .val (.int p5), .val (.int u1), .val (.int u2), .val (.int u3), .val (.int vn), .val (.int (1 : Int32)), .val (.int c3), .val (.int sl), .val (.int q), .unset, .unset] [(.ref b3)])) _
    refine XS.astore X4.here hx rfl (hb hby at_115) rfl rfl (l' := #[.val (.int p0), .val (.int p1), .val (.int p2), .val (.int p3), .val (.int p4), .val (.int p5), .val (.int u1), .val (.int u2), .val (.int u3), .val (.int vn), .val (.int (1 : Int32)), .val (.int c3), .val (.int sl), .val (.int q), .val (.ref b3), .unset]) rfl ?_
    show Steps p.tables e below (T4.setTop (mkF m 117 #[.val (.int p0), .val (.int p1), .val (.int p2), .val (.int p3), .val (.int p4), .val (.int p5), .val (.int u1), .val (.int u2), .val (.int u3), .val (.int vn), .val (.int (1 : Int32)), .val (.int c3), .val (.int sl), .val (.int q), .val (.ref b3), .unset] [])) _
    refine XS.iload X4.here hx rfl (hb hby at_117) rfl ?_
    show Steps p.tables e below (T4.setTop (mkF m 119 #[.val (.int p0), .val (.int p1), .val (.int p2), .val (.int p3), .val (.int p4), .val (.int p5), .val (.int u1), .val (.int u2), .val (.int u3), .val (.int vn), .val (.int (1 : Int32)), .val (.int c3), .val (.int sl), .val (.int q), .val (.ref b3), .unset] [(.int vn)])) _
    refine XS.iconst X4.here hx rfl (hb hby at_119) ?_
    show Steps p.tables e below (T4.setTop (mkF m 120 #[.val (.int p0), .val (.int p1), .val (.int p2), .val (.int p3), .val (.int p4), .val (.int p5), .val (.int u1), .val (.int u2), .val (.int u3), .val (.int vn), .val (.int (1 : Int32)), .val (.int c3), .val (.int sl), .val (.int q), .val (.ref b3), .unset] [(.int (1 : Int32)), (.int vn)])) _
    refine XS.icmpYes X4.here hx rfl (pc0 := 120) (pc' := 131) rfl (hb hby at_120) rfl (tlt hn1).1 (by decide) (by decide) ?_
    show Steps p.tables e below (T4.setTop (mkF m 131 #[.val (.int p0), .val (.int p1), .val (.int p2), .val (.int p3), .val (.int p4), .val (.int p5), .val (.int u1), .val (.int u2), .val (.int u3), .val (.int vn), .val (.int (1 : Int32)), .val (.int c3), .val (.int sl), .val (.int q), .val (.ref b3), .unset] [])) _
    refine XS.iload X4.here hx rfl (hb hby at_131) rfl ?_
    show Steps p.tables e below (T4.setTop (mkF m 133 #[.val (.int p0), .val (.int p1), .val (.int p2), .val (.int p3), .val (.int p4), .val (.int p5), .val (.int u1), .val (.int u2), .val (.int u3), .val (.int vn), .val (.int (1 : Int32)), .val (.int c3), .val (.int sl), .val (.int q), .val (.ref b3), .unset] [(.int vn)])) _
    refine XS.iconst X4.here hx rfl (hb hby at_133) ?_
    show Steps p.tables e below (T4.setTop (mkF m 134 #[.val (.int p0), .val (.int p1), .val (.int p2), .val (.int p3), .val (.int p4), .val (.int p5), .val (.int u1), .val (.int u2), .val (.int u3), .val (.int vn), .val (.int (1 : Int32)), .val (.int c3), .val (.int sl), .val (.int q), .val (.ref b3), .unset] [(.int (2 : Int32)), (.int vn)])) _
    refine XS.icmpYes X4.here hx rfl (pc0 := 134) (pc' := 145) rfl (hb hby at_134) rfl (tlt hn2).1 (by decide) (by decide) ?_
    show Steps p.tables e below (T4.setTop (mkF m 145 #[.val (.int p0), .val (.int p1), .val (.int p2), .val (.int p3), .val (.int p4), .val (.int p5), .val (.int u1), .val (.int u2), .val (.int u3), .val (.int vn), .val (.int (1 : Int32)), .val (.int c3), .val (.int sl), .val (.int q), .val (.ref b3), .unset] [])) _
    refine XS.iload X4.here hx rfl (hb hby at_145) rfl ?_
    show Steps p.tables e below (T4.setTop (mkF m 147 #[.val (.int p0), .val (.int p1), .val (.int p2), .val (.int p3), .val (.int p4), .val (.int p5), .val (.int u1), .val (.int u2), .val (.int u3), .val (.int vn), .val (.int (1 : Int32)), .val (.int c3), .val (.int sl), .val (.int q), .val (.ref b3), .unset] [(.int (1 : Int32))])) _
    refine XS.ifNo X4.here hx rfl (hb hby at_147) rfl ((if0 _ _).trans (feq (by decide : ¬ ((1 : Int32) = (0 : Int32)))).1) ?_
    show Steps p.tables e below (T4.setTop (mkF m 150 #[.val (.int p0), .val (.int p1), .val (.int p2), .val (.int p3), .val (.int p4), .val (.int p5), .val (.int u1), .val (.int u2), .val (.int u3), .val (.int vn), .val (.int (1 : Int32)), .val (.int c3), .val (.int sl), .val (.int q), .val (.ref b3), .unset] [])) _
    refine XS.aload X4.here hx rfl (hb hby at_150) rfl rfl ?_
    show Steps p.tables e below (T4.setTop (mkF m 152 #[.val (.int p0), .val (.int p1), .val (.int p2), .val (.int p3), .val (.int p4), .val (.int p5), .val (.int u1), .val (.int u2), .val (.int u3), .val (.int vn), .val (.int (1 : Int32)), .val (.int c3), .val (.int sl), .val (.int q), .val (.ref b3), .unset] [(.ref b3)])) _
    refine XS.iload X4.here hx rfl (hb hby at_152) rfl ?_
    show Steps p.tables e below (T4.setTop (mkF m 154 #[.val (.int p0), .val (.int p1), .val (.int p2), .val (.int p3), .val (.int p4), .val (.int p5), .val (.int u1), .val (.int u2), .val (.int u3), .val (.int vn), .val (.int (1 : Int32)), .val (.int c3), .val (.int sl), .val (.int q), .val (.ref b3), .unset] [(.int c3), (.ref b3)])) _
    refine XS.iload X4.here hx rfl (hb hby at_154) rfl ?_
    show Steps p.tables e below (T4.setTop (mkF m 156 #[.val (.int p0), .val (.int p1), .val (.int p2), .val (.int p3), .val (.int p4), .val (.int p5), .val (.int u1), .val (.int u2), .val (.int u3), .val (.int vn), .val (.int (1 : Int32)), .val (.int c3), .val (.int sl), .val (.int q), .val (.ref b3), .unset] [(.int u3), (.int c3), (.ref b3)])) _
    refine st5.trans ?_
    show Steps p.tables e below (T5.setTop (mkF m 159 #[.val (.int p0), .val (.int p1), .val (.int p2), .val (.int p3), .val (.int p4), .val (.int p5), .val (.int u1), .val (.int u2), .val (.int u3), .val (.int vn), .val (.int (1 : Int32)), .val (.int c3), .val (.int sl), .val (.int q), .val (.ref b3), .unset] [])) _
    refine XS.iconst X5.here hx rfl (hb hby at_159) ?_
    show Steps p.tables e below (T5.setTop (mkF m 160 #[.val (.int p0), .val (.int p1), .val (.int p2), .val (.int p3), .val (.int p4), .val (.int p5), .val (.int u1), .val (.int u2), .val (.int u3), .val (.int vn), .val (.int (1 : Int32)), .val (.int c3), .val (.int sl), .val (.int q), .val (.ref b3), .unset] [(.int (-1 : Int32))])) _
    refine XS.istore X5.here hx rfl (hb hby at_160) rfl (l' := #[.val (.int p0), .val (.int p1), .val (.int p2), .val (.int p3), .val (.int p4), .val (.int p5), .val (.int u1), .val (.int u2), .val (.int u3), .val (.int vn), .val (.int (1 : Int32)), .val (.int c3), .val (.int sl), .val (.int q), .val (.ref b3), .val (.int (-1 : Int32))]) rfl ?_
    show Steps p.tables e below (T5.setTop (mkF m 162 #[.val (.int p0), .val (.int p1), .val (.int p2), .val (.int p3), .val (.int p4), .val (.int p5), .val (.int u1), .val (.int u2), .val (.int u3), .val (.int vn), .val (.int (1 : Int32)), .val (.int c3), .val (.int sl), .val (.int q), .val (.ref b3), .val (.int (-1 : Int32))] [])) _
    refine fk6 _ ?_
    show Steps p.tables e below (T5.setTop (mkF m 178 #[.val (.int p0), .val (.int p1), .val (.int p2), .val (.int p3), .val (.int p4), .val (.int p5), .val (.int u1), .val (.int u2), .val (.int u3), .val (.int vn), .val (.int (1 : Int32)), .val (.int c3), .val (.int sl), .val (.int q), .val (.ref b3), .val (.int ex1)] [])) _
    refine fk7 _ ?_
    show Steps p.tables e below (T5.setTop (mkF m 194 #[.val (.int p0), .val (.int p1), .val (.int p2), .val (.int p3), .val (.int p4), .val (.int p5), .val (.int u1), .val (.int u2), .val (.int u3), .val (.int vn), .val (.int (1 : Int32)), .val (.int c3), .val (.int sl), .val (.int q), .val (.ref b3), .val (.int ex2)] [])) _
    refine fk8 _ ?_
    show Steps p.tables e below (T5.setTop (mkF m 210 #[.val (.int p0), .val (.int p1), .val (.int p2), .val (.int p3), .val (.int p4), .val (.int p5), .val (.int u1), .val (.int u2), .val (.int u3), .val (.int vn), .val (.int (1 : Int32)), .val (.int c3), .val (.int sl), .val (.int q), .val (.ref b3), .val (.int ex3)] [])) _
    refine XS.aload X5.here hx rfl (hb hby at_210) rfl rfl ?_
    show Steps p.tables e below (T5.setTop (mkF m 212 #[.val (.int p0), .val (.int p1), .val (.int p2), .val (.int p3), .val (.int p4), .val (.int p5), .val (.int u1), .val (.int u2), .val (.int u3), .val (.int vn), .val (.int (1 : Int32)), .val (.int c3), .val (.int sl), .val (.int q), .val (.ref b3), .val (.int ex3)] [(.ref b3)])) _
    refine XS.iload X5.here hx rfl (hb hby at_212) rfl ?_
    show Steps p.tables e below (T5.setTop (mkF m 214 #[.val (.int p0), .val (.int p1), .val (.int p2), .val (.int p3), .val (.int p4), .val (.int p5), .val (.int u1), .val (.int u2), .val (.int u3), .val (.int vn), .val (.int (1 : Int32)), .val (.int c3), .val (.int sl), .val (.int q), .val (.ref b3), .val (.int ex3)] [(.int q), (.ref b3)])) _
    refine st9.trans ?_
    show Steps p.tables e below (T9.setTop (mkF m 217 #[.val (.int p0), .val (.int p1), .val (.int p2), .val (.int p3), .val (.int p4), .val (.int p5), .val (.int u1), .val (.int u2), .val (.int u3), .val (.int vn), .val (.int (1 : Int32)), .val (.int c3), .val (.int sl), .val (.int q), .val (.ref b3), .val (.int ex3)] [(.int (own_get (own_put [] c3 u3) q))])) _
    refine XS.iload X9.here hx rfl (hb hby at_217) rfl ?_
    show Steps p.tables e below (T9.setTop (mkF m 219 #[.val (.int p0), .val (.int p1), .val (.int p2), .val (.int p3), .val (.int p4), .val (.int p5), .val (.int u1), .val (.int u2), .val (.int u3), .val (.int vn), .val (.int (1 : Int32)), .val (.int c3), .val (.int sl), .val (.int q), .val (.ref b3), .val (.int ex3)] [(.int ex3), (.int (own_get (own_put [] c3 u3) q))])) _
    refine XS.icmpNo X9.here hx rfl (hb hby at_219) rfl (teq hget).2 ?_
    show Steps p.tables e below (T9.setTop (mkF m 222 #[.val (.int p0), .val (.int p1), .val (.int p2), .val (.int p3), .val (.int p4), .val (.int p5), .val (.int u1), .val (.int u2), .val (.int u3), .val (.int vn), .val (.int (1 : Int32)), .val (.int c3), .val (.int sl), .val (.int q), .val (.ref b3), .val (.int ex3)] [])) _
    refine XS.iconst X9.here hx rfl (hb hby at_222) ?_
    show Steps p.tables e below (T9.setTop (mkF m 223 #[.val (.int p0), .val (.int p1), .val (.int p2), .val (.int p3), .val (.int p4), .val (.int p5), .val (.int u1), .val (.int u2), .val (.int u3), .val (.int vn), .val (.int (1 : Int32)), .val (.int c3), .val (.int sl), .val (.int q), .val (.ref b3), .val (.int ex3)] [(.int (1 : Int32))])) _
    refine XS.goto X9.here hx rfl (pc0 := 223) (pc' := 227) rfl (hb hby at_223) (by decide) (by decide) ?_
    show Steps p.tables e below (T9.setTop (mkF m 227 #[.val (.int p0), .val (.int p1), .val (.int p2), .val (.int p3), .val (.int p4), .val (.int p5), .val (.int u1), .val (.int u2), .val (.int u3), .val (.int vn), .val (.int (1 : Int32)), .val (.int c3), .val (.int sl), .val (.int q), .val (.ref b3), .val (.int ex3)] [(.int (1 : Int32))])) _
    exact retN X9 hx (t := .boolean) Bd.returns (by simp) (hb hby at_227) hr
  · show own_R n0 _ T9.heap _
    rw [e9]
    exact ⟨rfl, N9⟩
theorem own_exp_C (p0 p1 c3 q v1 v2 v3 ex1 ex2 ex3 : Int32) (hx1 : (q = p0 ∧ ex1 = v1) ∨ (¬ (q = p0) ∧ ex1 = (-1 : Int32))) (hx2 : ex2 = ex1) (hx3 : ex3 = ex2) : (if p0 = q then v1 else own_get [] q) = ex3 := by
  simp only [@eq_comm _ _ q, own_get]
  rcases hx1 with ⟨a1, b1⟩ | ⟨a1, b1⟩ <;> have b2 := hx2 <;> have b3 := hx3 <;> simp_all
set_option maxRecDepth 65536 in
set_option maxHeartbeats 40000000 in
theorem rm0C (l : Launch) (Z : State) (a0 : Array Value) (hw : ∀ d ∈ tables_1, d.before a0 Z = true) (ws : List Jvm.Cond) (p0 : Int32) (p1 : Int32) (p2 : Int32) (p3 : Int32) (p4 : Int32) (p5 : Int32) (wE : Addr) (u1 u2 u3 vn sl c3 q ex1 ex2 ex3 : Int32) (h0 : Heap) (n0 : Nat) (O0 : Old Z n0 h0) (S_EMPTY : Sta Z Z.heap "com/example/kvasir/kvasir/tableau/DependencySet" "EMPTY" "Lcom/example/kvasir/kvasir/tableau/DependencySet;" (.ref wE)) (hu1 : (p2 &&& (2147483647 : Int32)) = u1) (hu2 : (p3 &&& (2147483647 : Int32)) = u2) (hu3 : (p4 &&& (2147483647 : Int32)) = u3) (hvn : (((p5.toUInt32 >>> ((4 : Int32) &&& 31).toUInt32).toInt32) &&& (3 : Int32)) = vn) (hsl : (((p5.toUInt32 >>> ((2 : Int32) &&& 31).toUInt32).toInt32) &&& (3 : Int32)) = sl) (hn1 : ¬ (vn < (1 : Int32))) (hn2 : vn < (2 : Int32)) (hn3 : (p5 &&& (1 : Int32)) = (0 : Int32)) (hc3 : ((p5 &&& (2 : Int32)) = (0 : Int32) ∧ c3 = p1) ∨ (¬ ((p5 &&& (2 : Int32)) = (0 : Int32)) ∧ c3 = p0)) (hq : (sl = (0 : Int32) ∧ q = p0) ∨ (¬ (sl = (0 : Int32)) ∧ sl = (1 : Int32) ∧ q = p1) ∨ (¬ (sl = (0 : Int32)) ∧ ¬ (sl = (1 : Int32)) ∧ sl = (2 : Int32) ∧ q = (p0 + (1 : Int32))) ∨ (¬ (sl = (0 : Int32)) ∧ ¬ (sl = (1 : Int32)) ∧ ¬ (sl = (2 : Int32)) ∧ q = p5)) (hx1 : (q = p0 ∧ ex1 = u1) ∨ (¬ (q = p0) ∧ ex1 = (-1 : Int32))) (hx2 : ex2 = ex1) (hx3 : ex3 = ex2) :
    MetFree l x (head1 (Jvm.Cond.code x code maxLocals ret :: ws) room_1) (fun a U => a = #[(.int p0), (.int p1), (.int p2), (.int p3), (.int p4), (.int p5)] ∧ Z.Warmed39 U.vm ∧ U.heap = h0) (fun _ _ _ _ _ => True) (fun _ U o U' => ∃ v L, o = .returned v ∧ own_R n0 v U'.heap L ∧ FrameEnd U o U' L room_1.cells room_1.slots) := by
  refine MetFree.of_bodySF (plainFor_of_name pn_0) hisR ?_
  intro p e s m args below meth c s₁ Bd hml0 hP hK
  obtain ⟨rfl, hZ, hh⟩ := hP
  have hx := Bd.exec
  have hby := Bd.bytes
  have hml : c.maxLocals = 16 := hml0
  have hown : s.vm.findClass "com/example/kvasir/kvasir/tableau/NodeAgendaPlacePinLaw" = some m.cls := findClass_of_methodNamed Bd.named
  have hnm := (name_of_methodNamed Bd.named Bd.method).1
  have X0 : Stand p l e room_1 s m #[(.int p0), (.int p1), (.int p2), (.int p3), (.int p4), (.int p5)] below meth c s₁ [] 0 0 := Stand.of_body Bd
  have e0 : s₁.heap = h0 := by rw [← hh, Bd.state]; rfl
  have N0 := Fr.nil n0
  have pre0 : ∀ t, Steps p.tables e below (s₁.setTop (mkF m 0 #[.val (.int p0), .val (.int p1), .val (.int p2), .val (.int p3), .val (.int p4), .val (.int p5), .unset, .unset, .unset, .unset, .unset, .unset, .unset, .unset, .unset, .unset] [])) t → Steps p.tables e below (s₁.setTop (entryFrame m #[(.int p0), (.int p1), (.int p2), (.int p3), (.int p4), (.int p5)] maxLocals)) t := fun t k => castTop (ef_0 m p0 p1 p2 p3 p4 p5) k
  have fk1 : ∀ target, Steps p.tables e below (s₁.setTop (mkF m 53 #[.val (.int p0), .val (.int p1), .val (.int p2), .val (.int p3), .val (.int p4), .val (.int p5), .val (.int u1), .val (.int u2), .val (.int u3), .val (.int vn), .val (.int (0 : Int32)), .unset, .unset, .unset, .unset, .unset] [(.int c3)])) target → Steps p.tables e below (s₁.setTop (mkF m 41 #[.val (.int p0), .val (.int p1), .val (.int p2), .val (.int p3), .val (.int p4), .val (.int p5), .val (.int u1), .val (.int u2), .val (.int u3), .val (.int vn), .val (.int (0 : Int32)), .unset, .unset, .unset, .unset, .unset] [])) target := by
    intro target kt
    rcases hc3 with ⟨z1, z2⟩ | ⟨z1, z2⟩
    · rw [z2] at kt
      show Steps p.tables e below (s₁.setTop (mkF m 41 #[.val (.int p0), .val (.int p1), .val (.int p2), .val (.int p3), .val (.int p4), .val (.int p5), .val (.int u1), .val (.int u2), .val (.int u3), .val (.int vn), .val (.int (0 : Int32)), .unset, .unset, .unset, .unset, .unset] [])) _
      refine XS.iload X0.here hx rfl (hb hby at_41) rfl ?_
      show Steps p.tables e below (s₁.setTop (mkF m 43 #[.val (.int p0), .val (.int p1), .val (.int p2), .val (.int p3), .val (.int p4), .val (.int p5), .val (.int u1), .val (.int u2), .val (.int u3), .val (.int vn), .val (.int (0 : Int32)), .unset, .unset, .unset, .unset, .unset] [(.int p5)])) _
      refine XS.iconst X0.here hx rfl (hb hby at_43) ?_
      show Steps p.tables e below (s₁.setTop (mkF m 44 #[.val (.int p0), .val (.int p1), .val (.int p2), .val (.int p3), .val (.int p4), .val (.int p5), .val (.int u1), .val (.int u2), .val (.int u3), .val (.int vn), .val (.int (0 : Int32)), .unset, .unset, .unset, .unset, .unset] [(.int (2 : Int32)), (.int p5)])) _
      refine XS.iand X0.here hx rfl (hb hby at_44) rfl ?_
      show Steps p.tables e below (s₁.setTop (mkF m 45 #[.val (.int p0), .val (.int p1), .val (.int p2), .val (.int p3), .val (.int p4), .val (.int p5), .val (.int u1), .val (.int u2), .val (.int u3), .val (.int vn), .val (.int (0 : Int32)), .unset, .unset, .unset, .unset, .unset] [(.int (p5 &&& (2 : Int32)))])) _
      refine XS.ifYes X0.here hx rfl (pc0 := 45) (pc' := 52) rfl (hb hby at_45) rfl ((if0 _ _).trans (teq z1).1) (by decide) (by decide) ?_
      show Steps p.tables e below (s₁.setTop (mkF m 52 #[.val (.int p0), .val (.int p1), .val (.int p2), .val (.int p3), .val (.int p4), .val (.int p5), .val (.int u1), .val (.int u2), .val (.int u3), .val (.int vn), .val (.int (0 : Int32)), .unset, .unset, .unset, .unset, .unset] [])) _
      refine XS.iloadN X0.here hx rfl (hb hby at_52) rfl ?_
      show Steps p.tables e below (s₁.setTop (mkF m 53 #[.val (.int p0), .val (.int p1), .val (.int p2), .val (.int p3), .val (.int p4), .val (.int p5), .val (.int u1), .val (.int u2), .val (.int u3), .val (.int vn), .val (.int (0 : Int32)), .unset, .unset, .unset, .unset, .unset] [(.int p1)])) _
      exact kt
    · rw [z2] at kt
      show Steps p.tables e below (s₁.setTop (mkF m 41 #[.val (.int p0), .val (.int p1), .val (.int p2), .val (.int p3), .val (.int p4), .val (.int p5), .val (.int u1), .val (.int u2), .val (.int u3), .val (.int vn), .val (.int (0 : Int32)), .unset, .unset, .unset, .unset, .unset] [])) _
      refine XS.iload X0.here hx rfl (hb hby at_41) rfl ?_
      show Steps p.tables e below (s₁.setTop (mkF m 43 #[.val (.int p0), .val (.int p1), .val (.int p2), .val (.int p3), .val (.int p4), .val (.int p5), .val (.int u1), .val (.int u2), .val (.int u3), .val (.int vn), .val (.int (0 : Int32)), .unset, .unset, .unset, .unset, .unset] [(.int p5)])) _
      refine XS.iconst X0.here hx rfl (hb hby at_43) ?_
      show Steps p.tables e below (s₁.setTop (mkF m 44 #[.val (.int p0), .val (.int p1), .val (.int p2), .val (.int p3), .val (.int p4), .val (.int p5), .val (.int u1), .val (.int u2), .val (.int u3), .val (.int vn), .val (.int (0 : Int32)), .unset, .unset, .unset, .unset, .unset] [(.int (2 : Int32)), (.int p5)])) _
      refine XS.iand X0.here hx rfl (hb hby at_44) rfl ?_
      show Steps p.tables e below (s₁.setTop (mkF m 45 #[.val (.int p0), .val (.int p1), .val (.int p2), .val (.int p3), .val (.int p4), .val (.int p5), .val (.int u1), .val (.int u2), .val (.int u3), .val (.int vn), .val (.int (0 : Int32)), .unset, .unset, .unset, .unset, .unset] [(.int (p5 &&& (2 : Int32)))])) _
      refine XS.ifNo X0.here hx rfl (hb hby at_45) rfl ((if0 _ _).trans (feq z1).1) ?_
      show Steps p.tables e below (s₁.setTop (mkF m 48 #[.val (.int p0), .val (.int p1), .val (.int p2), .val (.int p3), .val (.int p4), .val (.int p5), .val (.int u1), .val (.int u2), .val (.int u3), .val (.int vn), .val (.int (0 : Int32)), .unset, .unset, .unset, .unset, .unset] [])) _
      refine XS.iloadN X0.here hx rfl (hb hby at_48) rfl ?_
      show Steps p.tables e below (s₁.setTop (mkF m 49 #[.val (.int p0), .val (.int p1), .val (.int p2), .val (.int p3), .val (.int p4), .val (.int p5), .val (.int u1), .val (.int u2), .val (.int u3), .val (.int vn), .val (.int (0 : Int32)), .unset, .unset, .unset, .unset, .unset] [(.int p0)])) _
      refine XS.goto X0.here hx rfl (pc0 := 49) (pc' := 53) rfl (hb hby at_49) (by decide) (by decide) ?_
      show Steps p.tables e below (s₁.setTop (mkF m 53 #[.val (.int p0), .val (.int p1), .val (.int p2), .val (.int p3), .val (.int p4), .val (.int p5), .val (.int u1), .val (.int u2), .val (.int u3), .val (.int vn), .val (.int (0 : Int32)), .unset, .unset, .unset, .unset, .unset] [(.int p0)])) _
      exact kt
  have fk2 : ∀ target, Steps p.tables e below (s₁.setTop (mkF m 104 #[.val (.int p0), .val (.int p1), .val (.int p2), .val (.int p3), .val (.int p4), .val (.int p5), .val (.int u1), .val (.int u2), .val (.int u3), .val (.int vn), .val (.int (0 : Int32)), .val (.int c3), .val (.int sl), .val (.int q), .unset, .unset] [])) target → Steps p.tables e below (s₁.setTop (mkF m 63 #[.val (.int p0), .val (.int p1), .val (.int p2), .val (.int p3), .val (.int p4), .val (.int p5), .val (.int u1), .val (.int u2), .val (.int u3), .val (.int vn), .val (.int (0 : Int32)), .val (.int c3), .val (.int sl), .unset, .unset, .unset] [])) target := by
    intro target kt
    rcases hq with ⟨z1, z2⟩ | ⟨z1, z2, z3⟩ | ⟨z1, z2, z3, z4⟩ | ⟨z1, z2, z3, z4⟩
    · rw [z2] at kt
      show Steps p.tables e below (s₁.setTop (mkF m 63 #[.val (.int p0), .val (.int p1), .val (.int p2), .val (.int p3), .val (.int p4), .val (.int p5), .val (.int u1), .val (.int u2), .val (.int u3), .val (.int vn), .val (.int (0 : Int32)), .val (.int c3), .val (.int sl), .unset, .unset, .unset] [])) _
      refine XS.iload X0.here hx rfl (hb hby at_63) rfl ?_
      show Steps p.tables e below (s₁.setTop (mkF m 65 #[.val (.int p0), .val (.int p1), .val (.int p2), .val (.int p3), .val (.int p4), .val (.int p5), .val (.int u1), .val (.int u2), .val (.int u3), .val (.int vn), .val (.int (0 : Int32)), .val (.int c3), .val (.int sl), .unset, .unset, .unset] [(.int sl)])) _
      refine XS.ifNo X0.here hx rfl (hb hby at_65) rfl ((if0 _ _).trans (teq z1).2) ?_
      show Steps p.tables e below (s₁.setTop (mkF m 68 #[.val (.int p0), .val (.int p1), .val (.int p2), .val (.int p3), .val (.int p4), .val (.int p5), .val (.int u1), .val (.int u2), .val (.int u3), .val (.int vn), .val (.int (0 : Int32)), .val (.int c3), .val (.int sl), .unset, .unset, .unset] [])) _
      refine XS.iloadN X0.here hx rfl (hb hby at_68) rfl ?_
      show Steps p.tables e below (s₁.setTop (mkF m 69 #[.val (.int p0), .val (.int p1), .val (.int p2), .val (.int p3), .val (.int p4), .val (.int p5), .val (.int u1), .val (.int u2), .val (.int u3), .val (.int vn), .val (.int (0 : Int32)), .val (.int c3), .val (.int sl), .unset, .unset, .unset] [(.int p0)])) _
      refine XS.istore X0.here hx rfl (hb hby at_69) rfl (l' := #[.val (.int p0), .val (.int p1), .val (.int p2), .val (.int p3), .val (.int p4), .val (.int p5), .val (.int u1), .val (.int u2), .val (.int u3), .val (.int vn), .val (.int (0 : Int32)), .val (.int c3), .val (.int sl), .val (.int p0), .unset, .unset]) rfl ?_
      show Steps p.tables e below (s₁.setTop (mkF m 71 #[.val (.int p0), .val (.int p1), .val (.int p2), .val (.int p3), .val (.int p4), .val (.int p5), .val (.int u1), .val (.int u2), .val (.int u3), .val (.int vn), .val (.int (0 : Int32)), .val (.int c3), .val (.int sl), .val (.int p0), .unset, .unset] [])) _
      refine XS.goto X0.here hx rfl (pc0 := 71) (pc' := 104) rfl (hb hby at_71) (by decide) (by decide) ?_
      show Steps p.tables e below (s₁.setTop (mkF m 104 #[.val (.int p0), .val (.int p1), .val (.int p2), .val (.int p3), .val (.int p4), .val (.int p5), .val (.int u1), .val (.int u2), .val (.int u3), .val (.int vn), .val (.int (0 : Int32)), .val (.int c3), .val (.int sl), .val (.int p0), .unset, .unset] [])) _
      exact kt
    · rw [z3] at kt
      show Steps p.tables e below (s₁.setTop (mkF m 63 #[.val (.int p0), .val (.int p1), .val (.int p2), .val (.int p3), .val (.int p4), .val (.int p5), .val (.int u1), .val (.int u2), .val (.int u3), .val (.int vn), .val (.int (0 : Int32)), .val (.int c3), .val (.int sl), .unset, .unset, .unset] [])) _
      refine XS.iload X0.here hx rfl (hb hby at_63) rfl ?_
      show Steps p.tables e below (s₁.setTop (mkF m 65 #[.val (.int p0), .val (.int p1), .val (.int p2), .val (.int p3), .val (.int p4), .val (.int p5), .val (.int u1), .val (.int u2), .val (.int u3), .val (.int vn), .val (.int (0 : Int32)), .val (.int c3), .val (.int sl), .unset, .unset, .unset] [(.int sl)])) _
      refine XS.ifYes X0.here hx rfl (pc0 := 65) (pc' := 74) rfl (hb hby at_65) rfl ((if0 _ _).trans (feq z1).2) (by decide) (by decide) ?_
      show Steps p.tables e below (s₁.setTop (mkF m 74 #[.val (.int p0), .val (.int p1), .val (.int p2), .val (.int p3), .val (.int p4), .val (.int p5), .val (.int u1), .val (.int u2), .val (.int u3), .val (.int vn), .val (.int (0 : Int32)), .val (.int c3), .val (.int sl), .unset, .unset, .unset] [])) _
      refine XS.iload X0.here hx rfl (hb hby at_74) rfl ?_
      show Steps p.tables e below (s₁.setTop (mkF m 76 #[.val (.int p0), .val (.int p1), .val (.int p2), .val (.int p3), .val (.int p4), .val (.int p5), .val (.int u1), .val (.int u2), .val (.int u3), .val (.int vn), .val (.int (0 : Int32)), .val (.int c3), .val (.int sl), .unset, .unset, .unset] [(.int sl)])) _
      refine XS.iconst X0.here hx rfl (hb hby at_76) ?_
      show Steps p.tables e below (s₁.setTop (mkF m 77 #[.val (.int p0), .val (.int p1), .val (.int p2), .val (.int p3), .val (.int p4), .val (.int p5), .val (.int u1), .val (.int u2), .val (.int u3), .val (.int vn), .val (.int (0 : Int32)), .val (.int c3), .val (.int sl), .unset, .unset, .unset] [(.int (1 : Int32)), (.int sl)])) _
      refine XS.icmpNo X0.here hx rfl (hb hby at_77) rfl (teq z2).2 ?_
      show Steps p.tables e below (s₁.setTop (mkF m 80 #[.val (.int p0), .val (.int p1), .val (.int p2), .val (.int p3), .val (.int p4), .val (.int p5), .val (.int u1), .val (.int u2), .val (.int u3), .val (.int vn), .val (.int (0 : Int32)), .val (.int c3), .val (.int sl), .unset, .unset, .unset] [])) _
      refine XS.iloadN X0.here hx rfl (hb hby at_80) rfl ?_
      show Steps p.tables e below (s₁.setTop (mkF m 81 #[.val (.int p0), .val (.int p1), .val (.int p2), .val (.int p3), .val (.int p4), .val (.int p5), .val (.int u1), .val (.int u2), .val (.int u3), .val (.int vn), .val (.int (0 : Int32)), .val (.int c3), .val (.int sl), .unset, .unset, .unset] [(.int p1)])) _
      refine XS.istore X0.here hx rfl (hb hby at_81) rfl (l' := #[.val (.int p0), .val (.int p1), .val (.int p2), .val (.int p3), .val (.int p4), .val (.int p5), .val (.int u1), .val (.int u2), .val (.int u3), .val (.int vn), .val (.int (0 : Int32)), .val (.int c3), .val (.int sl), .val (.int p1), .unset, .unset]) rfl ?_
      show Steps p.tables e below (s₁.setTop (mkF m 83 #[.val (.int p0), .val (.int p1), .val (.int p2), .val (.int p3), .val (.int p4), .val (.int p5), .val (.int u1), .val (.int u2), .val (.int u3), .val (.int vn), .val (.int (0 : Int32)), .val (.int c3), .val (.int sl), .val (.int p1), .unset, .unset] [])) _
      refine XS.goto X0.here hx rfl (pc0 := 83) (pc' := 104) rfl (hb hby at_83) (by decide) (by decide) ?_
      show Steps p.tables e below (s₁.setTop (mkF m 104 #[.val (.int p0), .val (.int p1), .val (.int p2), .val (.int p3), .val (.int p4), .val (.int p5), .val (.int u1), .val (.int u2), .val (.int u3), .val (.int vn), .val (.int (0 : Int32)), .val (.int c3), .val (.int sl), .val (.int p1), .unset, .unset] [])) _
      exact kt
    · rw [z4] at kt
      show Steps p.tables e below (s₁.setTop (mkF m 63 #[.val (.int p0), .val (.int p1), .val (.int p2), .val (.int p3), .val (.int p4), .val (.int p5), .val (.int u1), .val (.int u2), .val (.int u3), .val (.int vn), .val (.int (0 : Int32)), .val (.int c3), .val (.int sl), .unset, .unset, .unset] [])) _
      refine XS.iload X0.here hx rfl (hb hby at_63) rfl ?_
      show Steps p.tables e below (s₁.setTop (mkF m 65 #[.val (.int p0), .val (.int p1), .val (.int p2), .val (.int p3), .val (.int p4), .val (.int p5), .val (.int u1), .val (.int u2), .val (.int u3), .val (.int vn), .val (.int (0 : Int32)), .val (.int c3), .val (.int sl), .unset, .unset, .unset] [(.int sl)])) _
      refine XS.ifYes X0.here hx rfl (pc0 := 65) (pc' := 74) rfl (hb hby at_65) rfl ((if0 _ _).trans (feq z1).2) (by decide) (by decide) ?_
      show Steps p.tables e below (s₁.setTop (mkF m 74 #[.val (.int p0), .val (.int p1), .val (.int p2), .val (.int p3), .val (.int p4), .val (.int p5), .val (.int u1), .val (.int u2), .val (.int u3), .val (.int vn), .val (.int (0 : Int32)), .val (.int c3), .val (.int sl), .unset, .unset, .unset] [])) _
      refine XS.iload X0.here hx rfl (hb hby at_74) rfl ?_
      show Steps p.tables e below (s₁.setTop (mkF m 76 #[.val (.int p0), .val (.int p1), .val (.int p2), .val (.int p3), .val (.int p4), .val (.int p5), .val (.int u1), .val (.int u2), .val (.int u3), .val (.int vn), .val (.int (0 : Int32)), .val (.int c3), .val (.int sl), .unset, .unset, .unset] [(.int sl)])) _
      refine XS.iconst X0.here hx rfl (hb hby at_76) ?_
      show Steps p.tables e below (s₁.setTop (mkF m 77 #[.val (.int p0), .val (.int p1), .val (.int p2), .val (.int p3), .val (.int p4), .val (.int p5), .val (.int u1), .val (.int u2), .val (.int u3), .val (.int vn), .val (.int (0 : Int32)), .val (.int c3), .val (.int sl), .unset, .unset, .unset] [(.int (1 : Int32)), (.int sl)])) _
      refine XS.icmpYes X0.here hx rfl (pc0 := 77) (pc' := 86) rfl (hb hby at_77) rfl (feq z2).2 (by decide) (by decide) ?_
      show Steps p.tables e below (s₁.setTop (mkF m 86 #[.val (.int p0), .val (.int p1), .val (.int p2), .val (.int p3), .val (.int p4), .val (.int p5), .val (.int u1), .val (.int u2), .val (.int u3), .val (.int vn), .val (.int (0 : Int32)), .val (.int c3), .val (.int sl), .unset, .unset, .unset] [])) _
      refine XS.iload X0.here hx rfl (hb hby at_86) rfl ?_
      show Steps p.tables e below (s₁.setTop (mkF m 88 #[.val (.int p0), .val (.int p1), .val (.int p2), .val (.int p3), .val (.int p4), .val (.int p5), .val (.int u1), .val (.int u2), .val (.int u3), .val (.int vn), .val (.int (0 : Int32)), .val (.int c3), .val (.int sl), .unset, .unset, .unset] [(.int sl)])) _
      refine XS.iconst X0.here hx rfl (hb hby at_88) ?_
      show Steps p.tables e below (s₁.setTop (mkF m 89 #[.val (.int p0), .val (.int p1), .val (.int p2), .val (.int p3), .val (.int p4), .val (.int p5), .val (.int u1), .val (.int u2), .val (.int u3), .val (.int vn), .val (.int (0 : Int32)), .val (.int c3), .val (.int sl), .unset, .unset, .unset] [(.int (2 : Int32)), (.int sl)])) _
      refine XS.icmpNo X0.here hx rfl (hb hby at_89) rfl (teq z3).2 ?_
      show Steps p.tables e below (s₁.setTop (mkF m 92 #[.val (.int p0), .val (.int p1), .val (.int p2), .val (.int p3), .val (.int p4), .val (.int p5), .val (.int u1), .val (.int u2), .val (.int u3), .val (.int vn), .val (.int (0 : Int32)), .val (.int c3), .val (.int sl), .unset, .unset, .unset] [])) _
      refine XS.iloadN X0.here hx rfl (hb hby at_92) rfl ?_
      show Steps p.tables e below (s₁.setTop (mkF m 93 #[.val (.int p0), .val (.int p1), .val (.int p2), .val (.int p3), .val (.int p4), .val (.int p5), .val (.int u1), .val (.int u2), .val (.int u3), .val (.int vn), .val (.int (0 : Int32)), .val (.int c3), .val (.int sl), .unset, .unset, .unset] [(.int p0)])) _
      refine XS.iconst X0.here hx rfl (hb hby at_93) ?_
      show Steps p.tables e below (s₁.setTop (mkF m 94 #[.val (.int p0), .val (.int p1), .val (.int p2), .val (.int p3), .val (.int p4), .val (.int p5), .val (.int u1), .val (.int u2), .val (.int u3), .val (.int vn), .val (.int (0 : Int32)), .val (.int c3), .val (.int sl), .unset, .unset, .unset] [(.int (1 : Int32)), (.int p0)])) _
      refine XS.iadd X0.here hx rfl (hb hby at_94) rfl ?_
      show Steps p.tables e below (s₁.setTop (mkF m 95 #[.val (.int p0), .val (.int p1), .val (.int p2), .val (.int p3), .val (.int p4), .val (.int p5), .val (.int u1), .val (.int u2), .val (.int u3), .val (.int vn), .val (.int (0 : Int32)), .val (.int c3), .val (.int sl), .unset, .unset, .unset] [(.int (p0 + (1 : Int32)))])) _
      refine XS.istore X0.here hx rfl (hb hby at_95) rfl (l' := #[.val (.int p0), .val (.int p1), .val (.int p2), .val (.int p3), .val (.int p4), .val (.int p5), .val (.int u1), .val (.int u2), .val (.int u3), .val (.int vn), .val (.int (0 : Int32)), .val (.int c3), .val (.int sl), .val (.int (p0 + (1 : Int32))), .unset, .unset]) rfl ?_
      show Steps p.tables e below (s₁.setTop (mkF m 97 #[.val (.int p0), .val (.int p1), .val (.int p2), .val (.int p3), .val (.int p4), .val (.int p5), .val (.int u1), .val (.int u2), .val (.int u3), .val (.int vn), .val (.int (0 : Int32)), .val (.int c3), .val (.int sl), .val (.int (p0 + (1 : Int32))), .unset, .unset] [])) _
      refine XS.goto X0.here hx rfl (pc0 := 97) (pc' := 104) rfl (hb hby at_97) (by decide) (by decide) ?_
      show Steps p.tables e below (s₁.setTop (mkF m 104 #[.val (.int p0), .val (.int p1), .val (.int p2), .val (.int p3), .val (.int p4), .val (.int p5), .val (.int u1), .val (.int u2), .val (.int u3), .val (.int vn), .val (.int (0 : Int32)), .val (.int c3), .val (.int sl), .val (.int (p0 + (1 : Int32))), .unset, .unset] [])) _
      exact kt
    · rw [z4] at kt
      show Steps p.tables e below (s₁.setTop (mkF m 63 #[.val (.int p0), .val (.int p1), .val (.int p2), .val (.int p3), .val (.int p4), .val (.int p5), .val (.int u1), .val (.int u2), .val (.int u3), .val (.int vn), .val (.int (0 : Int32)), .val (.int c3), .val (.int sl), .unset, .unset, .unset] [])) _
      refine XS.iload X0.here hx rfl (hb hby at_63) rfl ?_
      show Steps p.tables e below (s₁.setTop (mkF m 65 #[.val (.int p0), .val (.int p1), .val (.int p2), .val (.int p3), .val (.int p4), .val (.int p5), .val (.int u1), .val (.int u2), .val (.int u3), .val (.int vn), .val (.int (0 : Int32)), .val (.int c3), .val (.int sl), .unset, .unset, .unset] [(.int sl)])) _
      refine XS.ifYes X0.here hx rfl (pc0 := 65) (pc' := 74) rfl (hb hby at_65) rfl ((if0 _ _).trans (feq z1).2) (by decide) (by decide) ?_
      show Steps p.tables e below (s₁.setTop (mkF m 74 #[.val (.int p0), .val (.int p1), .val (.int p2), .val (.int p3), .val (.int p4), .val (.int p5), .val (.int u1), .val (.int u2), .val (.int u3), .val (.int vn), .val (.int (0 : Int32)), .val (.int c3), .val (.int sl), .unset, .unset, .unset] [])) _
      refine XS.iload X0.here hx rfl (hb hby at_74) rfl ?_
      show Steps p.tables e below (s₁.setTop (mkF m 76 #[.val (.int p0), .val (.int p1), .val (.int p2), .val (.int p3), .val (.int p4), .val (.int p5), .val (.int u1), .val (.int u2), .val (.int u3), .val (.int vn), .val (.int (0 : Int32)), .val (.int c3), .val (.int sl), .unset, .unset, .unset] [(.int sl)])) _
      refine XS.iconst X0.here hx rfl (hb hby at_76) ?_
      show Steps p.tables e below (s₁.setTop (mkF m 77 #[.val (.int p0), .val (.int p1), .val (.int p2), .val (.int p3), .val (.int p4), .val (.int p5), .val (.int u1), .val (.int u2), .val (.int u3), .val (.int vn), .val (.int (0 : Int32)), .val (.int c3), .val (.int sl), .unset, .unset, .unset] [(.int (1 : Int32)), (.int sl)])) _
      refine XS.icmpYes X0.here hx rfl (pc0 := 77) (pc' := 86) rfl (hb hby at_77) rfl (feq z2).2 (by decide) (by decide) ?_
      show Steps p.tables e below (s₁.setTop (mkF m 86 #[.val (.int p0), .val (.int p1), .val (.int p2), .val (.int p3), .val (.int p4), .val (.int p5), .val (.int u1), .val (.int u2), .val (.int u3), .val (.int vn), .val (.int (0 : Int32)), .val (.int c3), .val (.int sl), .unset, .unset, .unset] [])) _
      refine XS.iload X0.here hx rfl (hb hby at_86) rfl ?_
      show Steps p.tables e below (s₁.setTop (mkF m 88 #[.val (.int p0), .val (.int p1), .val (.int p2), .val (.int p3), .val (.int p4), .val (.int p5), .val (.int u1), .val (.int u2), .val (.int u3), .val (.int vn), .val (.int (0 : Int32)), .val (.int c3), .val (.int sl), .unset, .unset, .unset] [(.int sl)])) _
      refine XS.iconst X0.here hx rfl (hb hby at_88) ?_
      show Steps p.tables e below (s₁.setTop (mkF m 89 #[.val (.int p0), .val (.int p1), .val (.int p2), .val (.int p3), .val (.int p4), .val (.int p5), .val (.int u1), .val (.int u2), .val (.int u3), .val (.int vn), .val (.int (0 : Int32)), .val (.int c3), .val (.int sl), .unset, .unset, .unset] [(.int (2 : Int32)), (.int sl)])) _
      refine XS.icmpYes X0.here hx rfl (pc0 := 89) (pc' := 100) rfl (hb hby at_89) rfl (feq z3).2 (by decide) (by decide) ?_
      show Steps p.tables e below (s₁.setTop (mkF m 100 #[.val (.int p0), .val (.int p1), .val (.int p2), .val (.int p3), .val (.int p4), .val (.int p5), .val (.int u1), .val (.int u2), .val (.int u3), .val (.int vn), .val (.int (0 : Int32)), .val (.int c3), .val (.int sl), .unset, .unset, .unset] [])) _
      refine XS.iload X0.here hx rfl (hb hby at_100) rfl ?_
      show Steps p.tables e below (s₁.setTop (mkF m 102 #[.val (.int p0), .val (.int p1), .val (.int p2), .val (.int p3), .val (.int p4), .val (.int p5), .val (.int u1), .val (.int u2), .val (.int u3), .val (.int vn), .val (.int (0 : Int32)), .val (.int c3), .val (.int sl), .unset, .unset, .unset] [(.int p5)])) _
      refine XS.istore X0.here hx rfl (hb hby at_102) rfl (l' := #[.val (.int p0), .val (.int p1), .val (.int p2), .val (.int p3), .val (.int p4), .val (.int p5), .val (.int u1), .val (.int u2), .val (.int u3), .val (.int vn), .val (.int (0 : Int32)), .val (.int c3), .val (.int sl), .val (.int p5), .unset, .unset]) rfl ?_
      show Steps p.tables e below (s₁.setTop (mkF m 104 #[.val (.int p0), .val (.int p1), .val (.int p2), .val (.int p3), .val (.int p4), .val (.int p5), .val (.int u1), .val (.int u2), .val (.int u3), .val (.int vn), .val (.int (0 : Int32)), .val (.int c3), .val (.int sl), .val (.int p5), .unset, .unset] [])) _
      exact kt
  obtain ⟨T3, h3, X3, e3, E3, A3, D3, U3, st3⟩ := newO X0 hx hZ hown (hw _ (List.mem_of_getElem? (i := 1) rfl)) (hw _ (List.mem_of_getElem? (i := 2) rfl)) (hw _ (List.mem_of_getElem? (i := 3) rfl)) e0 (g := (mkF m 104 #[.val (.int p0), .val (.int p1), .val (.int p2), .val (.int p3), .val (.int p4), .val (.int p5), .val (.int u1), .val (.int u2), .val (.int u3), .val (.int vn), .val (.int (0 : Int32)), .val (.int c3), .val (.int sl), .val (.int q), .unset, .unset] [])) rfl (hb hby at_104) (by decide) (by decide)
  obtain ⟨b3, g3⟩ : ∃ z, z = h0.size := ⟨_, rfl⟩
  rw [← g3] at A3 D3 U3 st3
  have Ut3 : Unt h3 b3 := U3
  have g_b3 : n0 ≤ b3 := Nat.le_trans (own_le O0) (Nat.le_of_eq g3.symm)
  have O3 := O0.ext E3
  have F_concepts_b3 : Fld Z h3 b3 "com/example/kvasir/kvasir/tableau/Node" "concepts" "[I" .null := D3 (Or.inl (hw _ (List.mem_of_getElem? (i := 18) rfl))) (ty := (.array .int)) (by decide)
  have F_reasons_b3 : Fld Z h3 b3 "com/example/kvasir/kvasir/tableau/Node" "reasons" "[Lcom/example/kvasir/kvasir/tableau/DependencySet;" .null := D3 (Or.inl (hw _ (List.mem_of_getElem? (i := 22) rfl))) (ty := (.array (.object "com/example/kvasir/kvasir/tableau/DependencySet"))) (by decide)
  have F_edgeRoles_b3 : Fld Z h3 b3 "com/example/kvasir/kvasir/tableau/Node" "edgeRoles" "[I" .null := D3 (Or.inl (hw _ (List.mem_of_getElem? (i := 24) rfl))) (ty := (.array .int)) (by decide)
  have F_edgeTargets_b3 : Fld Z h3 b3 "com/example/kvasir/kvasir/tableau/Node" "edgeTargets" "[Lcom/example/kvasir/kvasir/tableau/Node;" .null := D3 (Or.inl (hw _ (List.mem_of_getElem? (i := 28) rfl))) (ty := (.array (.object "com/example/kvasir/kvasir/tableau/Node"))) (by decide)
  have F_edgeReasons_b3 : Fld Z h3 b3 "com/example/kvasir/kvasir/tableau/Node" "edgeReasons" "[Lcom/example/kvasir/kvasir/tableau/DependencySet;" .null := D3 (Or.inl (hw _ (List.mem_of_getElem? (i := 30) rfl))) (ty := (.array (.object "com/example/kvasir/kvasir/tableau/DependencySet"))) (by decide)
  have F_apart_b3 : Fld Z h3 b3 "com/example/kvasir/kvasir/tableau/Node" "apart" "[Lcom/example/kvasir/kvasir/tableau/Node;" .null := D3 (Or.inl (hw _ (List.mem_of_getElem? (i := 32) rfl))) (ty := (.array (.object "com/example/kvasir/kvasir/tableau/Node"))) (by decide)
  have F_apartReasons_b3 : Fld Z h3 b3 "com/example/kvasir/kvasir/tableau/Node" "apartReasons" "[Lcom/example/kvasir/kvasir/tableau/DependencySet;" .null := D3 (Or.inl (hw _ (List.mem_of_getElem? (i := 34) rfl))) (ty := (.array (.object "com/example/kvasir/kvasir/tableau/DependencySet"))) (by decide)
  have F_groups_b3 : Fld Z h3 b3 "com/example/kvasir/kvasir/tableau/Node" "groups" "[Lcom/example/kvasir/kvasir/tableau/ApartGroup;" .null := D3 (Or.inl (hw _ (List.mem_of_getElem? (i := 38) rfl))) (ty := (.array (.object "com/example/kvasir/kvasir/tableau/ApartGroup"))) (by decide)
  have F_groupReasons_b3 : Fld Z h3 b3 "com/example/kvasir/kvasir/tableau/Node" "groupReasons" "[Lcom/example/kvasir/kvasir/tableau/DependencySet;" .null := D3 (Or.inl (hw _ (List.mem_of_getElem? (i := 40) rfl))) (ty := (.array (.object "com/example/kvasir/kvasir/tableau/DependencySet"))) (by decide)
  have F_agendaPlaces_b3 : Fld Z h3 b3 "com/example/kvasir/kvasir/tableau/Node" "agendaPlaces" "[I" .null := D3 (Or.inl (hw _ (List.mem_of_getElem? (i := 42) rfl))) (ty := (.array .int)) (by decide)
  have F_parent_b3 : Fld Z h3 b3 "com/example/kvasir/kvasir/tableau/Node" "parent" "Lcom/example/kvasir/kvasir/tableau/Node;" .null := D3 (Or.inr (hw _ (List.mem_of_getElem? (i := 44) rfl))) (ty := (.object "com/example/kvasir/kvasir/tableau/Node")) (by decide)
  have F_number_b3 : Fld Z h3 b3 "com/example/kvasir/kvasir/tableau/Node" "number" "I" (.int (0 : Int32)) := D3 (Or.inr (hw _ (List.mem_of_getElem? (i := 46) rfl))) (ty := .int) (by decide)
  have F_value_b3 : Fld Z h3 b3 "com/example/kvasir/kvasir/tableau/Node" "value" "Z" (.int (0 : Int32)) := D3 (Or.inr (hw _ (List.mem_of_getElem? (i := 48) rfl))) (ty := .boolean) (by decide)
  have F_copies_b3 : Fld Z h3 b3 "com/example/kvasir/kvasir/tableau/Node" "copies" "J" (.long (0 : Int64)) := D3 (Or.inr (hw _ (List.mem_of_getElem? (i := 50) rfl))) (ty := .long) (by decide)
  have F_madeFor_b3 : Fld Z h3 b3 "com/example/kvasir/kvasir/tableau/Node" "madeFor" "I" (.int (0 : Int32)) := D3 (Or.inr (hw _ (List.mem_of_getElem? (i := 52) rfl))) (ty := .int) (by decide)
  have F_madeBecause_b3 : Fld Z h3 b3 "com/example/kvasir/kvasir/tableau/Node" "madeBecause" "Lcom/example/kvasir/kvasir/tableau/DependencySet;" .null := D3 (Or.inr (hw _ (List.mem_of_getElem? (i := 54) rfl))) (ty := (.object "com/example/kvasir/kvasir/tableau/DependencySet")) (by decide)
  have F_members_b3 : Fld Z h3 b3 "com/example/kvasir/kvasir/tableau/Node" "members" "[J" .null := D3 (Or.inr (hw _ (List.mem_of_getElem? (i := 57) rfl))) (ty := (.array .long)) (by decide)
  obtain ⟨_, _, ⟨T4, L4, k4, n4⟩, -, X4, ⟨Lc4, hQ4, l4, y4, z4⟩, st4⟩ := X3.specialBack hx (y := (⟨"com/example/kvasir/kvasir/tableau/Node", "<init>", "(IIZ)V"⟩ : MethodName)) rfl hown (mvT hZ (hw _ (List.mem_of_getElem? (i := 4) rfl))) (mvT hZ (hw _ (List.mem_of_getElem? (i := 5) rfl))) (mvT hZ (hw _ (List.mem_of_getElem? (i := 6) rfl))) (by decide) (backOf (W := 1) (rmC1 l Z a0 hw [] b3 wE  h3 n0 O3 S_EMPTY A3 Ut3 g_b3) hZ (hw _ (List.mem_of_getElem? (i := 6) rfl)) (hw _ (List.mem_of_getElem? (i := 3) rfl)) (by decide) (by decide)) (g := (mkF m 112 #[.val (.int p0), .val (.int p1), .val (.int p2), .val (.int p3), .val (.int p4), .val (.int p5), .val (.int u1), .val (.int u2), .val (.int u3), .val (.int vn), .val (.int (0 : Int32)), .val (.int c3), .val (.int sl), .val (.int q), .unset, .unset] [(.int (0 : Int32)), (.int (64 : Int32)), (.int (0 : Int32)), (.ref b3), (.ref b3)])) rfl (by rw [hml]; rfl) (Steps.refl _) (a := b3) (argsL := [(.int (0 : Int32)), (.int (64 : Int32)), (.int (0 : Int32))]) (rest := [(.ref b3)]) (lenOf pd_3 rfl) rfl (by show 2 * 0 + _ ≤ _; exact Nat.le_of_eq rfl) (hb hby at_112) (fun _ _ => ⟨rfl, e3, (by decide : 1 + 11 ≤ _), (by decide : 29 + 23 ≤ _)⟩)
  dsimp only [Pt.U, Pt.locs, Pt.cells, Pt.slots] at X4 l4 y4 z4 st4 hQ4
  subst l4 y4 z4
  obtain ⟨rfl, N4q, O4, Ag4⟩ := hQ4
  have N4 := Fr.app N0 N4q
  obtain ⟨cq5, kq5, q5a, q5b, q5c⟩ := isOf hZ rfl Ag4.1
  obtain ⟨_, _, ⟨T5, L5, k5, n5⟩, -, X5, ⟨Lc5, hQ5, l5, y5, z5⟩, st5⟩ := X4.virtualBack hx (y := (⟨"com/example/kvasir/kvasir/tableau/Node", "placeOnAgenda", "(II)V"⟩ : MethodName)) (z := (⟨"com/example/kvasir/kvasir/tableau/Node", "placeOnAgenda", "(II)V"⟩ : MethodName)) hown (mvT hZ (hw _ (List.mem_of_getElem? (i := 58) rfl))) (mvT hZ (hw _ (List.mem_of_getElem? (i := 59) rfl))) (notFace_of_selects (args := #[]) (mvT hZ (hw _ (List.mem_of_getElem? (i := 61) rfl)))) (mvT hZ (hw _ (List.mem_of_getElem? (i := 61) rfl))) (mvT hZ (hw _ (List.mem_of_getElem? (i := 60) rfl))) (by decide) (backOf (W := 0) (rmP l Z a0 hw [] b3 p0 u1 [] T4.heap n0 O4 Ag4 (by decide)) hZ (hw _ (List.mem_of_getElem? (i := 62) rfl)) (hw _ (List.mem_of_getElem? (i := 3) rfl)) (by decide) (by decide)) q5a q5c (g := (mkF m 128 #[.val (.int p0), .val (.int p1), .val (.int p2), .val (.int p3), .val (.int p4), .val (.int p5), .val (.int u1), .val (.int u2), .val (.int u3), .val (.int vn), .val (.int (0 : Int32)), .val (.int c3), .val (.int sl), .val (.int q), .val (.ref b3), .unset] [(.int u1), (.int p0), (.ref b3)])) rfl (by rw [hml]; rfl) (Steps.refl _) (argsL := [(.int p0), (.int u1)]) (rest := []) (lenOf pd_5 rfl) rfl (by show 2 * 0 + _ ≤ _; exact Nat.le_of_eq rfl) (hb hby at_128) (fun _ _ => ⟨rfl, rfl, (by decide : 12 + 1 ≤ _), (by decide : 52 + 6 ≤ _)⟩)
  dsimp only [Pt.U, Pt.locs, Pt.cells, Pt.slots] at X5 l5 y5 z5 st5 hQ5
  subst l5 y5 z5
  obtain ⟨rfl, N5q, O5, Ag5⟩ := hQ5
  have N5 := Fr.app N4 N5q
  have fk6 : ∀ target, Steps p.tables e below (T5.setTop (mkF m 178 #[.val (.int p0), .val (.int p1), .val (.int p2), .val (.int p3), .val (.int p4), .val (.int p5), .val (.int u1), .val (.int u2), .val (.int u3), .val (.int vn), .val (.int (0 : Int32)), .val (.int c3), .val (.int sl), .val (.int q), .val (.ref b3), .val (.int ex1)] [])) target → Steps p.tables e below (T5.setTop (mkF m 162 #[.val (.int p0), .val (.int p1), .val (.int p2), .val (.int p3), .val (.int p4), .val (.int p5), .val (.int u1), .val (.int u2), .val (.int u3), .val (.int vn), .val (.int (0 : Int32)), .val (.int c3), .val (.int sl), .val (.int q), .val (.ref b3), .val (.int (-1 : Int32))] [])) target := by
    intro target kt
    rcases hx1 with ⟨z1, z2⟩ | ⟨z1, z2⟩
    · rw [z2] at kt
      show Steps p.tables e below (T5.setTop (mkF m 162 #[.val (.int p0), .val (.int p1), .val (.int p2), .val (.int p3), .val (.int p4), .val (.int p5), .val (.int u1), .val (.int u2), .val (.int u3), .val (.int vn), .val (.int (0 : Int32)), .val (.int c3), .val (.int sl), .val (.int q), .val (.ref b3), .val (.int (-1 : Int32))] [])) _
      refine XS.iload X5.here hx rfl (hb hby at_162) rfl ?_
      show Steps p.tables e below (T5.setTop (mkF m 164 #[.val (.int p0), .val (.int p1), .val (.int p2), .val (.int p3), .val (.int p4), .val (.int p5), .val (.int u1), .val (.int u2), .val (.int u3), .val (.int vn), .val (.int (0 : Int32)), .val (.int c3), .val (.int sl), .val (.int q), .val (.ref b3), .val (.int (-1 : Int32))] [(.int vn)])) _
      refine XS.iconst X5.here hx rfl (hb hby at_164) ?_
      show Steps p.tables e below (T5.setTop (mkF m 165 #[.val (.int p0), .val (.int p1), .val (.int p2), .val (.int p3), .val (.int p4), .val (.int p5), .val (.int u1), .val (.int u2), .val (.int u3), .val (.int vn), .val (.int (0 : Int32)), .val (.int c3), .val (.int sl), .val (.int q), .val (.ref b3), .val (.int (-1 : Int32))] [(.int (1 : Int32)), (.int vn)])) _
      refine XS.icmpNo X5.here hx rfl (hb hby at_165) rfl (flt hn1).1 ?_
      show Steps p.tables e below (T5.setTop (mkF m 168 #[.val (.int p0), .val (.int p1), .val (.int p2), .val (.int p3), .val (.int p4), .val (.int p5), .val (.int u1), .val (.int u2), .val (.int u3), .val (.int vn), .val (.int (0 : Int32)), .val (.int c3), .val (.int sl), .val (.int q), .val (.ref b3), .val (.int (-1 : Int32))] [])) _
      refine XS.iload X5.here hx rfl (hb hby at_168) rfl ?_
      show Steps p.tables e below (T5.setTop (mkF m 170 #[.val (.int p0), .val (.int p1), .val (.int p2), .val (.int p3), .val (.int p4), .val (.int p5), .val (.int u1), .val (.int u2), .val (.int u3), .val (.int vn), .val (.int (0 : Int32)), .val (.int c3), .val (.int sl), .val (.int q), .val (.ref b3), .val (.int (-1 : Int32))] [(.int q)])) _
      refine XS.iloadN X5.here hx rfl (hb hby at_170) rfl ?_
      show Steps p.tables e below (T5.setTop (mkF m 171 #[.val (.int p0), .val (.int p1), .val (.int p2), .val (.int p3), .val (.int p4), .val (.int p5), .val (.int u1), .val (.int u2), .val (.int u3), .val (.int vn), .val (.int (0 : Int32)), .val (.int c3), .val (.int sl), .val (.int q), .val (.ref b3), .val (.int (-1 : Int32))] [(.int p0), (.int q)])) _
      refine XS.icmpNo X5.here hx rfl (hb hby at_171) rfl (teq z1).2 ?_
      show Steps p.tables e below (T5.setTop (mkF m 174 #[.val (.int p0), .val (.int p1), .val (.int p2), .val (.int p3), .val (.int p4), .val (.int p5), .val (.int u1), .val (.int u2), .val (.int u3), .val (.int vn), .val (.int (0 : Int32)), .val (.int c3), .val (.int sl), .val (.int q), .val (.ref b3), .val (.int (-1 : Int32))] [])) _
      refine XS.iload X5.here hx rfl (hb hby at_174) rfl ?_
      show Steps p.tables e below (T5.setTop (mkF m 176 #[.val (.int p0), .val (.int p1), .val (.int p2), .val (.int p3), .val (.int p4), .val (.int p5), .val (.int u1), .val (.int u2), .val (.int u3), .val (.int vn), .val (.int (0 : Int32)), .val (.int c3), .val (.int sl), .val (.int q), .val (.ref b3), .val (.int (-1 : Int32))] [(.int u1)])) _
      refine XS.istore X5.here hx rfl (hb hby at_176) rfl (l' := #[.val (.int p0), .val (.int p1), .val (.int p2), .val (.int p3), .val (.int p4), .val (.int p5), .val (.int u1), .val (.int u2), .val (.int u3), .val (.int vn), .val (.int (0 : Int32)), .val (.int c3), .val (.int sl), .val (.int q), .val (.ref b3), .val (.int u1)]) rfl ?_
      show Steps p.tables e below (T5.setTop (mkF m 178 #[.val (.int p0), .val (.int p1), .val (.int p2), .val (.int p3), .val (.int p4), .val (.int p5), .val (.int u1), .val (.int u2), .val (.int u3), .val (.int vn), .val (.int (0 : Int32)), .val (.int c3), .val (.int sl), .val (.int q), .val (.ref b3), .val (.int u1)] [])) _
      exact kt
    · rw [z2] at kt
      show Steps p.tables e below (T5.setTop (mkF m 162 #[.val (.int p0), .val (.int p1), .val (.int p2), .val (.int p3), .val (.int p4), .val (.int p5), .val (.int u1), .val (.int u2), .val (.int u3), .val (.int vn), .val (.int (0 : Int32)), .val (.int c3), .val (.int sl), .val (.int q), .val (.ref b3), .val (.int (-1 : Int32))] [])) _
      refine XS.iload X5.here hx rfl (hb hby at_162) rfl ?_
      show Steps p.tables e below (T5.setTop (mkF m 164 #[.val (.int p0), .val (.int p1), .val (.int p2), .val (.int p3), .val (.int p4), .val (.int p5), .val (.int u1), .val (.int u2), .val (.int u3), .val (.int vn), .val (.int (0 : Int32)), .val (.int c3), .val (.int sl), .val (.int q), .val (.ref b3), .val (.int (-1 : Int32))] [(.int vn)])) _
      refine XS.iconst X5.here hx rfl (hb hby at_164) ?_
      show Steps p.tables e below (T5.setTop (mkF m 165 #[.val (.int p0), .val (.int p1), .val (.int p2), .val (.int p3), .val (.int p4), .val (.int p5), .val (.int u1), .val (.int u2), .val (.int u3), .val (.int vn), .val (.int (0 : Int32)), .val (.int c3), .val (.int sl), .val (.int q), .val (.ref b3), .val (.int (-1 : Int32))] [(.int (1 : Int32)), (.int vn)])) _
      refine XS.icmpNo X5.here hx rfl (hb hby at_165) rfl (flt hn1).1 ?_
      show Steps p.tables e below (T5.setTop (mkF m 168 #[.val (.int p0), .val (.int p1), .val (.int p2), .val (.int p3), .val (.int p4), .val (.int p5), .val (.int u1), .val (.int u2), .val (.int u3), .val (.int vn), .val (.int (0 : Int32)), .val (.int c3), .val (.int sl), .val (.int q), .val (.ref b3), .val (.int (-1 : Int32))] [])) _
      refine XS.iload X5.here hx rfl (hb hby at_168) rfl ?_
      show Steps p.tables e below (T5.setTop (mkF m 170 #[.val (.int p0), .val (.int p1), .val (.int p2), .val (.int p3), .val (.int p4), .val (.int p5), .val (.int u1), .val (.int u2), .val (.int u3), .val (.int vn), .val (.int (0 : Int32)), .val (.int c3), .val (.int sl), .val (.int q), .val (.ref b3), .val (.int (-1 : Int32))] [(.int q)])) _
      refine XS.iloadN X5.here hx rfl (hb hby at_170) rfl ?_
      show Steps p.tables e below (T5.setTop (mkF m 171 #[.val (.int p0), .val (.int p1), .val (.int p2), .val (.int p3), .val (.int p4), .val (.int p5), .val (.int u1), .val (.int u2), .val (.int u3), .val (.int vn), .val (.int (0 : Int32)), .val (.int c3), .val (.int sl), .val (.int q), .val (.ref b3), .val (.int (-1 : Int32))] [(.int p0), (.int q)])) _
      refine XS.icmpYes X5.here hx rfl (pc0 := 171) (pc' := 178) rfl (hb hby at_171) rfl (feq z1).2 (by decide) (by decide) ?_
      show Steps p.tables e below (T5.setTop (mkF m 178 #[.val (.int p0), .val (.int p1), .val (.int p2), .val (.int p3), .val (.int p4), .val (.int p5), .val (.int u1), .val (.int u2), .val (.int u3), .val (.int vn), .val (.int (0 : Int32)), .val (.int c3), .val (.int sl), .val (.int q), .val (.ref b3), .val (.int (-1 : Int32))] [])) _
      exact kt
  have fk7 : ∀ target, Steps p.tables e below (T5.setTop (mkF m 194 #[.val (.int p0), .val (.int p1), .val (.int p2), .val (.int p3), .val (.int p4), .val (.int p5), .val (.int u1), .val (.int u2), .val (.int u3), .val (.int vn), .val (.int (0 : Int32)), .val (.int c3), .val (.int sl), .val (.int q), .val (.ref b3), .val (.int ex2)] [])) target → Steps p.tables e below (T5.setTop (mkF m 178 #[.val (.int p0), .val (.int p1), .val (.int p2), .val (.int p3), .val (.int p4), .val (.int p5), .val (.int u1), .val (.int u2), .val (.int u3), .val (.int vn), .val (.int (0 : Int32)), .val (.int c3), .val (.int sl), .val (.int q), .val (.ref b3), .val (.int ex1)] [])) target := by
    intro target kt
    have z2 := hx2
    · rw [z2] at kt
      show Steps p.tables e below (T5.setTop (mkF m 178 #[.val (.int p0), .val (.int p1), .val (.int p2), .val (.int p3), .val (.int p4), .val (.int p5), .val (.int u1), .val (.int u2), .val (.int u3), .val (.int vn), .val (.int (0 : Int32)), .val (.int c3), .val (.int sl), .val (.int q), .val (.ref b3), .val (.int ex1)] [])) _
      refine XS.iload X5.here hx rfl (hb hby at_178) rfl ?_
      show Steps p.tables e below (T5.setTop (mkF m 180 #[.val (.int p0), .val (.int p1), .val (.int p2), .val (.int p3), .val (.int p4), .val (.int p5), .val (.int u1), .val (.int u2), .val (.int u3), .val (.int vn), .val (.int (0 : Int32)), .val (.int c3), .val (.int sl), .val (.int q), .val (.ref b3), .val (.int ex1)] [(.int vn)])) _
      refine XS.iconst X5.here hx rfl (hb hby at_180) ?_
      show Steps p.tables e below (T5.setTop (mkF m 181 #[.val (.int p0), .val (.int p1), .val (.int p2), .val (.int p3), .val (.int p4), .val (.int p5), .val (.int u1), .val (.int u2), .val (.int u3), .val (.int vn), .val (.int (0 : Int32)), .val (.int c3), .val (.int sl), .val (.int q), .val (.ref b3), .val (.int ex1)] [(.int (2 : Int32)), (.int vn)])) _
      refine XS.icmpYes X5.here hx rfl (pc0 := 181) (pc' := 194) rfl (hb hby at_181) rfl (tlt hn2).1 (by decide) (by decide) ?_
      show Steps p.tables e below (T5.setTop (mkF m 194 #[.val (.int p0), .val (.int p1), .val (.int p2), .val (.int p3), .val (.int p4), .val (.int p5), .val (.int u1), .val (.int u2), .val (.int u3), .val (.int vn), .val (.int (0 : Int32)), .val (.int c3), .val (.int sl), .val (.int q), .val (.ref b3), .val (.int ex1)] [])) _
      exact kt
  have fk8 : ∀ target, Steps p.tables e below (T5.setTop (mkF m 210 #[.val (.int p0), .val (.int p1), .val (.int p2), .val (.int p3), .val (.int p4), .val (.int p5), .val (.int u1), .val (.int u2), .val (.int u3), .val (.int vn), .val (.int (0 : Int32)), .val (.int c3), .val (.int sl), .val (.int q), .val (.ref b3), .val (.int ex3)] [])) target → Steps p.tables e below (T5.setTop (mkF m 194 #[.val (.int p0), .val (.int p1), .val (.int p2), .val (.int p3), .val (.int p4), .val (.int p5), .val (.int u1), .val (.int u2), .val (.int u3), .val (.int vn), .val (.int (0 : Int32)), .val (.int c3), .val (.int sl), .val (.int q), .val (.ref b3), .val (.int ex2)] [])) target := by
    intro target kt
    have z2 := hx3
    · rw [z2] at kt
      show Steps p.tables e below (T5.setTop (mkF m 194 #[.val (.int p0), .val (.int p1), .val (.int p2), .val (.int p3), .val (.int p4), .val (.int p5), .val (.int u1), .val (.int u2), .val (.int u3), .val (.int vn), .val (.int (0 : Int32)), .val (.int c3), .val (.int sl), .val (.int q), .val (.ref b3), .val (.int ex2)] [])) _
      refine XS.iload X5.here hx rfl (hb hby at_194) rfl ?_
      show Steps p.tables e below (T5.setTop (mkF m 196 #[.val (.int p0), .val (.int p1), .val (.int p2), .val (.int p3), .val (.int p4), .val (.int p5), .val (.int u1), .val (.int u2), .val (.int u3), .val (.int vn), .val (.int (0 : Int32)), .val (.int c3), .val (.int sl), .val (.int q), .val (.ref b3), .val (.int ex2)] [(.int (0 : Int32))])) _
      refine XS.ifYes X5.here hx rfl (pc0 := 196) (pc' := 210) rfl (hb hby at_196) rfl ((if0 _ _).trans (teq (by decide : (0 : Int32) = (0 : Int32))).1) (by decide) (by decide) ?_
      show Steps p.tables e below (T5.setTop (mkF m 210 #[.val (.int p0), .val (.int p1), .val (.int p2), .val (.int p3), .val (.int p4), .val (.int p5), .val (.int u1), .val (.int u2), .val (.int u3), .val (.int vn), .val (.int (0 : Int32)), .val (.int c3), .val (.int sl), .val (.int q), .val (.ref b3), .val (.int ex2)] [])) _
      exact kt
  have hget : own_get (own_put [] p0 u1) q = ex3 := by
    simp only [own_get_put]
    exact own_exp_C p0 p1 c3 q u1 u2 u3 ex1 ex2 ex3 hx1 hx2 hx3
  obtain ⟨cq9, kq9, q9a, q9b, q9c⟩ := isOf hZ rfl Ag5.1
  obtain ⟨_, _, ⟨T9, L9, k9, n9⟩, -, X9, ⟨Lc9, hQ9, l9, y9, z9⟩, st9⟩ := X5.virtualBack hx (y := (⟨"com/example/kvasir/kvasir/tableau/Node", "agendaPlace", "(I)I"⟩ : MethodName)) (z := (⟨"com/example/kvasir/kvasir/tableau/Node", "agendaPlace", "(I)I"⟩ : MethodName)) hown (mvT hZ (hw _ (List.mem_of_getElem? (i := 75) rfl))) (mvT hZ (hw _ (List.mem_of_getElem? (i := 76) rfl))) (notFace_of_selects (args := #[]) (mvT hZ (hw _ (List.mem_of_getElem? (i := 78) rfl)))) (mvT hZ (hw _ (List.mem_of_getElem? (i := 78) rfl))) (mvT hZ (hw _ (List.mem_of_getElem? (i := 77) rfl))) (by decide) (backOf (W := 0) (rmG l Z a0 hw [] b3 q (own_put [] p0 u1) T5.heap n0 O5 Ag5 (Nat.le_trans (own_len_put _ _ _) (by decide)) (own_nn_put _ _ _ trivial (hu1 ▸ own_mask_nn _))) hZ (hw _ (List.mem_of_getElem? (i := 79) rfl)) (hw _ (List.mem_of_getElem? (i := 3) rfl)) (by decide) (by decide)) q9a q9c (g := (mkF m 214 #[.val (.int p0), .val (.int p1), .val (.int p2), .val (.int p3), .val (.int p4), .val (.int p5), .val (.int u1), .val (.int u2), .val (.int u3), .val (.int vn), .val (.int (0 : Int32)), .val (.int c3), .val (.int sl), .val (.int q), .val (.ref b3), .val (.int ex3)] [(.int q), (.ref b3)])) rfl (by rw [hml]; rfl) (Steps.refl _) (argsL := [(.int q)]) (rest := []) (lenOf pd_4 rfl) rfl (by show 2 * 0 + _ ≤ _; exact Nat.le_of_eq rfl) (hb hby at_214) (fun _ _ => ⟨rfl, rfl, (by decide : 13 + 0 ≤ _), (by decide : 58 + 0 ≤ _)⟩)
  dsimp only [Pt.U, Pt.locs, Pt.cells, Pt.slots] at X9 l9 y9 z9 st9 hQ9
  subst l9 y9 z9
  obtain ⟨rfl, N9q, e9⟩ := hQ9
  have N9 := Fr.app N5 N9q
  obtain ⟨fs, hr, hrun, hended, hW, hsame⟩ := X9.leave (v := some (.int (1 : Int32))) (fun h => by rw [Bd.returns] at h; cases h)
  refine ⟨_, _, pre0 _ ?_, hrun, hended, _, _, rfl, ?_, ⟨_, rfl⟩, hW, hsame.mono (by decide) (by decide)⟩
  · show Steps p.tables e below (s₁.setTop (mkF m 0 #[.val (.int p0), .val (.int p1), .val (.int p2), .val (.int p3), .val (.int p4), .val (.int p5), .unset, .unset, .unset, .unset, .unset, .unset, .unset, .unset, .unset, .unset] [])) _
    refine XS.iloadN X0.here hx rfl (hb hby at_0) rfl ?_
    show Steps p.tables e below (s₁.setTop (mkF m 1 #[.val (.int p0), .val (.int p1), .val (.int p2), .val (.int p3), .val (.int p4), .val (.int p5), .unset, .unset, .unset, .unset, .unset, .unset, .unset, .unset, .unset, .unset] [(.int p2)])) _
    refine X0.ldcInt hx hown (mvT hZ (hw _ (List.mem_of_getElem? (i := 0) rfl))) (g := (mkF m 1 #[.val (.int p0), .val (.int p1), .val (.int p2), .val (.int p3), .val (.int p4), .val (.int p5), .unset, .unset, .unset, .unset, .unset, .unset, .unset, .unset, .unset, .unset] [(.int p2)])) rfl (hb hby at_1) _ ?_
    show Steps p.tables e below (s₁.setTop (mkF m 3 #[.val (.int p0), .val (.int p1), .val (.int p2), .val (.int p3), .val (.int p4), .val (.int p5), .unset, .unset, .unset, .unset, .unset, .unset, .unset, .unset, .unset, .unset] [(.int (2147483647 : Int32)), (.int p2)])) _
    refine XS.iand X0.here hx rfl (hb hby at_3) rfl ?_
    show Steps p.tables e below (s₁.setTop (mkF m 4 #[.val (.int p0), .val (.int p1), .val (.int p2), .val (.int p3), .val (.int p4), .val (.int p5), .unset, .unset, .unset, .unset, .unset, .unset, .unset, .unset, .unset, .unset] [(.int (p2 &&& (2147483647 : Int32)))])) _
    rw [hu1]
    show Steps p.tables e below (s₁.setTop (mkF m 4 #[.val (.int p0), .val (.int p1), .val (.int p2), .val (.int p3), .val (.int p4), .val (.int p5), .unset, .unset, .unset, .unset, .unset, .unset, .unset, .unset, .unset, .unset] [(.int u1)])) _
    refine XS.istore X0.here hx rfl (hb hby at_4) rfl (l' := #[.val (.int p0), .val (.int p1), .val (.int p2), .val (.int p3), .val (.int p4), .val (.int p5), .val (.int u1), .unset, .unset, .unset, .unset, .unset, .unset, .unset, .unset, .unset]) rfl ?_
    show Steps p.tables e below (s₁.setTop (mkF m 6 #[.val (.int p0), .val (.int p1), .val (.int p2), .val (.int p3), .val (.int p4), .val (.int p5), .val (.int u1), .unset, .unset, .unset, .unset, .unset, .unset, .unset, .unset, .unset] [])) _
    refine XS.iloadN X0.here hx rfl (hb hby at_6) rfl ?_
    show Steps p.tables e below (s₁.setTop (mkF m 7 #[.val (.int p0), .val (.int p1), .val (.int p2), .val (.int p3), .val (.int p4), .val (.int p5), .val (.int u1), .unset, .unset, .unset, .unset, .unset, .unset, .unset, .unset, .unset] [(.int p3)])) _
    refine X0.ldcInt hx hown (mvT hZ (hw _ (List.mem_of_getElem? (i := 0) rfl))) (g := (mkF m 7 #[.val (.int p0), .val (.int p1), .val (.int p2), .val (.int p3), .val (.int p4), .val (.int p5), .val (.int u1), .unset, .unset, .unset, .unset, .unset, .unset, .unset, .unset, .unset] [(.int p3)])) rfl (hb hby at_7) _ ?_
    show Steps p.tables e below (s₁.setTop (mkF m 9 #[.val (.int p0), .val (.int p1), .val (.int p2), .val (.int p3), .val (.int p4), .val (.int p5), .val (.int u1), .unset, .unset, .unset, .unset, .unset, .unset, .unset, .unset, .unset] [(.int (2147483647 : Int32)), (.int p3)])) _
    refine XS.iand X0.here hx rfl (hb hby at_9) rfl ?_
    show Steps p.tables e below (s₁.setTop (mkF m 10 #[.val (.int p0), .val (.int p1), .val (.int p2), .val (.int p3), .val (.int p4), .val (.int p5), .val (.int u1), .unset, .unset, .unset, .unset, .unset, .unset, .unset, .unset, .unset] [(.int (p3 &&& (2147483647 : Int32)))])) _
    rw [hu2]
    show Steps p.tables e below (s₁.setTop (mkF m 10 #[.val (.int p0), .val (.int p1), .val (.int p2), .val (.int p3), .val (.int p4), .val (.int p5), .val (.int u1), .unset, .unset, .unset, .unset, .unset, .unset, .unset, .unset, .unset] [(.int u2)])) _
    refine XS.istore X0.here hx rfl (hb hby at_10) rfl (l' := #[.val (.int p0), .val (.int p1), .val (.int p2), .val (.int p3), .val (.int p4), .val (.int p5), .val (.int u1), .val (.int u2), .unset, .unset, .unset, .unset, .unset, .unset, .unset, .unset]) rfl ?_
    show Steps p.tables e below (s₁.setTop (mkF m 12 #[.val (.int p0), .val (.int p1), .val (.int p2), .val (.int p3), .val (.int p4), .val (.int p5), .val (.int u1), .val (.int u2), .unset, .unset, .unset, .unset, .unset, .unset, .unset, .unset] [])) _
    refine XS.iload X0.here hx rfl (hb hby at_12) rfl ?_
    show Steps p.tables e below (s₁.setTop (mkF m 14 #[.val (.int p0), .val (.int p1), .val (.int p2), .val (.int p3), .val (.int p4), .val (.int p5), .val (.int u1), .val (.int u2), .unset, .unset, .unset, .unset, .unset, .unset, .unset, .unset] [(.int p4)])) _
    refine X0.ldcInt hx hown (mvT hZ (hw _ (List.mem_of_getElem? (i := 0) rfl))) (g := (mkF m 14 #[.val (.int p0), .val (.int p1), .val (.int p2), .val (.int p3), .val (.int p4), .val (.int p5), .val (.int u1), .val (.int u2), .unset, .unset, .unset, .unset, .unset, .unset, .unset, .unset] [(.int p4)])) rfl (hb hby at_14) _ ?_
    show Steps p.tables e below (s₁.setTop (mkF m 16 #[.val (.int p0), .val (.int p1), .val (.int p2), .val (.int p3), .val (.int p4), .val (.int p5), .val (.int u1), .val (.int u2), .unset, .unset, .unset, .unset, .unset, .unset, .unset, .unset] [(.int (2147483647 : Int32)), (.int p4)])) _
    refine XS.iand X0.here hx rfl (hb hby at_16) rfl ?_
    show Steps p.tables e below (s₁.setTop (mkF m 17 #[.val (.int p0), .val (.int p1), .val (.int p2), .val (.int p3), .val (.int p4), .val (.int p5), .val (.int u1), .val (.int u2), .unset, .unset, .unset, .unset, .unset, .unset, .unset, .unset] [(.int (p4 &&& (2147483647 : Int32)))])) _
    rw [hu3]
    show Steps p.tables e below (s₁.setTop (mkF m 17 #[.val (.int p0), .val (.int p1), .val (.int p2), .val (.int p3), .val (.int p4), .val (.int p5), .val (.int u1), .val (.int u2), .unset, .unset, .unset, .unset, .unset, .unset, .unset, .unset] [(.int u3)])) _
    refine XS.istore X0.here hx rfl (hb hby at_17) rfl (l' := #[.val (.int p0), .val (.int p1), .val (.int p2), .val (.int p3), .val (.int p4), .val (.int p5), .val (.int u1), .val (.int u2), .val (.int u3), .unset, .unset, .unset, .unset, .unset, .unset, .unset]) rfl ?_
    show Steps p.tables e below (s₁.setTop (mkF m 19 #[.val (.int p0), .val (.int p1), .val (.int p2), .val (.int p3), .val (.int p4), .val (.int p5), .val (.int u1), .val (.int u2), .val (.int u3), .unset, .unset, .unset, .unset, .unset, .unset, .unset] [])) _
    refine XS.iload X0.here hx rfl (hb hby at_19) rfl ?_
    show Steps p.tables e below (s₁.setTop (mkF m 21 #[.val (.int p0), .val (.int p1), .val (.int p2), .val (.int p3), .val (.int p4), .val (.int p5), .val (.int u1), .val (.int u2), .val (.int u3), .unset, .unset, .unset, .unset, .unset, .unset, .unset] [(.int p5)])) _
    refine XS.iconst X0.here hx rfl (hb hby at_21) ?_
    show Steps p.tables e below (s₁.setTop (mkF m 22 #[.val (.int p0), .val (.int p1), .val (.int p2), .val (.int p3), .val (.int p4), .val (.int p5), .val (.int u1), .val (.int u2), .val (.int u3), .unset, .unset, .unset, .unset, .unset, .unset, .unset] [(.int (4 : Int32)), (.int p5)])) _
    refine XS.iushr X0.here hx rfl (hb hby at_22) rfl ?_
    show Steps p.tables e below (s₁.setTop (mkF m 23 #[.val (.int p0), .val (.int p1), .val (.int p2), .val (.int p3), .val (.int p4), .val (.int p5), .val (.int u1), .val (.int u2), .val (.int u3), .unset, .unset, .unset, .unset, .unset, .unset, .unset] [(.int ((p5.toUInt32 >>> ((4 : Int32) &&& 31).toUInt32).toInt32))])) _
    refine XS.iconst X0.here hx rfl (hb hby at_23) ?_
    show Steps p.tables e below (s₁.setTop (mkF m 24 #[.val (.int p0), .val (.int p1), .val (.int p2), .val (.int p3), .val (.int p4), .val (.int p5), .val (.int u1), .val (.int u2), .val (.int u3), .unset, .unset, .unset, .unset, .unset, .unset, .unset] [(.int (3 : Int32)), (.int ((p5.toUInt32 >>> ((4 : Int32) &&& 31).toUInt32).toInt32))])) _
    refine XS.iand X0.here hx rfl (hb hby at_24) rfl ?_
    show Steps p.tables e below (s₁.setTop (mkF m 25 #[.val (.int p0), .val (.int p1), .val (.int p2), .val (.int p3), .val (.int p4), .val (.int p5), .val (.int u1), .val (.int u2), .val (.int u3), .unset, .unset, .unset, .unset, .unset, .unset, .unset] [(.int (((p5.toUInt32 >>> ((4 : Int32) &&& 31).toUInt32).toInt32) &&& (3 : Int32)))])) _
    rw [hvn]
    show Steps p.tables e below (s₁.setTop (mkF m 25 #[.val (.int p0), .val (.int p1), .val (.int p2), .val (.int p3), .val (.int p4), .val (.int p5), .val (.int u1), .val (.int u2), .val (.int u3), .unset, .unset, .unset, .unset, .unset, .unset, .unset] [(.int vn)])) _
    refine XS.istore X0.here hx rfl (hb hby at_25) rfl (l' := #[.val (.int p0), .val (.int p1), .val (.int p2), .val (.int p3), .val (.int p4), .val (.int p5), .val (.int u1), .val (.int u2), .val (.int u3), .val (.int vn), .unset, .unset, .unset, .unset, .unset, .unset]) rfl ?_
    show Steps p.tables e below (s₁.setTop (mkF m 27 #[.val (.int p0), .val (.int p1), .val (.int p2), .val (.int p3), .val (.int p4), .val (.int p5), .val (.int u1), .val (.int u2), .val (.int u3), .val (.int vn), .unset, .unset, .unset, .unset, .unset, .unset] [])) _
    refine XS.iload X0.here hx rfl (hb hby at_27) rfl ?_
    show Steps p.tables e below (s₁.setTop (mkF m 29 #[.val (.int p0), .val (.int p1), .val (.int p2), .val (.int p3), .val (.int p4), .val (.int p5), .val (.int u1), .val (.int u2), .val (.int u3), .val (.int vn), .unset, .unset, .unset, .unset, .unset, .unset] [(.int p5)])) _
    refine XS.iconst X0.here hx rfl (hb hby at_29) ?_
    show Steps p.tables e below (s₁.setTop (mkF m 30 #[.val (.int p0), .val (.int p1), .val (.int p2), .val (.int p3), .val (.int p4), .val (.int p5), .val (.int u1), .val (.int u2), .val (.int u3), .val (.int vn), .unset, .unset, .unset, .unset, .unset, .unset] [(.int (1 : Int32)), (.int p5)])) _
    refine XS.iand X0.here hx rfl (hb hby at_30) rfl ?_
    show Steps p.tables e below (s₁.setTop (mkF m 31 #[.val (.int p0), .val (.int p1), .val (.int p2), .val (.int p3), .val (.int p4), .val (.int p5), .val (.int u1), .val (.int u2), .val (.int u3), .val (.int vn), .unset, .unset, .unset, .unset, .unset, .unset] [(.int (p5 &&& (1 : Int32)))])) _
    refine XS.ifYes X0.here hx rfl (pc0 := 31) (pc' := 38) rfl (hb hby at_31) rfl ((if0 _ _).trans (teq hn3).1) (by decide) (by decide) ?_
    show Steps p.tables e below (s₁.setTop (mkF m 38 #[.val (.int p0), .val (.int p1), .val (.int p2), .val (.int p3), .val (.int p4), .val (.int p5), .val (.int u1), .val (.int u2), .val (.int u3), .val (.int vn), .unset, .unset, .unset, .unset, .unset, .unset] [])) _
    refine XS.iconst X0.here hx rfl (hb hby at_38) ?_
    show Steps p.tables e below (s₁.setTop (mkF m 39 #[.val (.int p0), .val (.int p1), .val (.int p2), .val (.int p3), .val (.int p4), .val (.int p5), .val (.int u1), .val (.int u2), .val (.int u3), .val (.int vn), .unset, .unset, .unset, .unset, .unset, .unset] [(.int (0 : Int32))])) _
    refine XS.istore X0.here hx rfl (hb hby at_39) rfl (l' := #[.val (.int p0), .val (.int p1), .val (.int p2), .val (.int p3), .val (.int p4), .val (.int p5), .val (.int u1), .val (.int u2), .val (.int u3), .val (.int vn), .val (.int (0 : Int32)), .unset, .unset, .unset, .unset, .unset]) rfl ?_
    show Steps p.tables e below (s₁.setTop (mkF m 41 #[.val (.int p0), .val (.int p1), .val (.int p2), .val (.int p3), .val (.int p4), .val (.int p5), .val (.int u1), .val (.int u2), .val (.int u3), .val (.int vn), .val (.int (0 : Int32)), .unset, .unset, .unset, .unset, .unset] [])) _
    refine fk1 _ ?_
    show Steps p.tables e below (s₁.setTop (mkF m 53 #[.val (.int p0), .val (.int p1), .val (.int p2), .val (.int p3), .val (.int p4), .val (.int p5), .val (.int u1), .val (.int u2), .val (.int u3), .val (.int vn), .val (.int (0 : Int32)), .unset, .unset, .unset, .unset, .unset] [(.int c3)])) _
    refine XS.istore X0.here hx rfl (hb hby at_53) rfl (l' := #[.val (.int p0), .val (.int p1), .val (.int p2), .val (.int p3), .val (.int p4), .val (.int p5), .val (.int u1), .val (.int u2), .val (.int u3), .val (.int vn), .val (.int (0 : Int32)), .val (.int c3), .unset, .unset, .unset, .unset]) rfl ?_
    show Steps p.tables e below (s₁.setTop (mkF m 55 #[.val (.int p0), .val (.int p1), .val (.int p2), .val (.int p3), .val (.int p4), .val (.int p5), .val (.int u1), .val (.int u2), .val (.int u3), .val (.int vn), .val (.int (0 : Int32)), .val (.int c3), .unset, .unset, .unset, .unset] [])) _
    refine XS.iload X0.here hx rfl (hb hby at_55) rfl ?_
    show Steps p.tables e below (s₁.setTop (mkF m 57 #[.val (.int p0), .val (.int p1), .val (.int p2), .val (.int p3), .val (.int p4), .val (.int p5), .val (.int u1), .val (.int u2), .val (.int u3), .val (.int vn), .val (.int (0 : Int32)), .val (.int c3), .unset, .unset, .unset, .unset] [(.int p5)])) _
    refine XS.iconst X0.here hx rfl (hb hby at_57) ?_
    show Steps p.tables e below (s₁.setTop (mkF m 58 #[.val (.int p0), .val (.int p1), .val (.int p2), .val (.int p3), .val (.int p4), .val (.int p5), .val (.int u1), .val (.int u2), .val (.int u3), .val (.int vn), .val (.int (0 : Int32)), .val (.int c3), .unset, .unset, .unset, .unset] [(.int (2 : Int32)), (.int p5)])) _
    refine XS.iushr X0.here hx rfl (hb hby at_58) rfl ?_
    show Steps p.tables e below (s₁.setTop (mkF m 59 #[.val (.int p0), .val (.int p1), .val (.int p2), .val (.int p3), .val (.int p4), .val (.int p5), .val (.int u1), .val (.int u2), .val (.int u3), .val (.int vn), .val (.int (0 : Int32)), .val (.int c3), .unset, .unset, .unset, .unset] [(.int ((p5.toUInt32 >>> ((2 : Int32) &&& 31).toUInt32).toInt32))])) _
    refine XS.iconst X0.here hx rfl (hb hby at_59) ?_
    show Steps p.tables e below (s₁.setTop (mkF m 60 #[.val (.int p0), .val (.int p1), .val (.int p2), .val (.int p3), .val (.int p4), .val (.int p5), .val (.int u1), .val (.int u2), .val (.int u3), .val (.int vn), .val (.int (0 : Int32)), .val (.int c3), .unset, .unset, .unset, .unset] [(.int (3 : Int32)), (.int ((p5.toUInt32 >>> ((2 : Int32) &&& 31).toUInt32).toInt32))])) _
    refine XS.iand X0.here hx rfl (hb hby at_60) rfl ?_
    show Steps p.tables e below (s₁.setTop (mkF m 61 #[.val (.int p0), .val (.int p1), .val (.int p2), .val (.int p3), .val (.int p4), .val (.int p5), .val (.int u1), .val (.int u2), .val (.int u3), .val (.int vn), .val (.int (0 : Int32)), .val (.int c3), .unset, .unset, .unset, .unset] [(.int (((p5.toUInt32 >>> ((2 : Int32) &&& 31).toUInt32).toInt32) &&& (3 : Int32)))])) _
    rw [hsl]
    show Steps p.tables e below (s₁.setTop (mkF m 61 #[.val (.int p0), .val (.int p1), .val (.int p2), .val (.int p3), .val (.int p4), .val (.int p5), .val (.int u1), .val (.int u2), .val (.int u3), .val (.int vn), .val (.int (0 : Int32)), .val (.int c3), .unset, .unset, .unset, .unset] [(.int sl)])) _
    refine XS.istore X0.here hx rfl (hb hby at_61) rfl (l' := #[.val (.int p0), .val (.int p1), .val (.int p2), .val (.int p3), .val (.int p4), .val (.int p5), .val (.int u1), .val (.int u2), .val (.int u3), .val (.int vn), .val (.int (0 : Int32)), .val (.int c3), .val (.int sl), .unset, .unset, .unset]) rfl ?_
    show Steps p.tables e below (s₁.setTop (mkF m 63 #[.val (.int p0), .val (.int p1), .val (.int p2), .val (.int p3), .val (.int p4), .val (.int p5), .val (.int u1), .val (.int u2), .val (.int u3), .val (.int vn), .val (.int (0 : Int32)), .val (.int c3), .val (.int sl), .unset, .unset, .unset] [])) _
    refine fk2 _ ?_
    show Steps p.tables e below (s₁.setTop (mkF m 104 #[.val (.int p0), .val (.int p1), .val (.int p2), .val (.int p3), .val (.int p4), .val (.int p5), .val (.int u1), .val (.int u2), .val (.int u3), .val (.int vn), .val (.int (0 : Int32)), .val (.int c3), .val (.int sl), .val (.int q), .unset, .unset] [])) _
    refine st3 _ ?_
    show Steps p.tables e below (T3.setTop (mkF m 107 #[.val (.int p0), .val (.int p1), .val (.int p2), .val (.int p3), .val (.int p4), .val (.int p5), .val (.int u1), .val (.int u2), .val (.int u3), .val (.int vn), .val (.int (0 : Int32)), .val (.int c3), .val (.int sl), .val (.int q), .unset, .unset] [(.ref b3)])) _
    refine XS.dup X3.here hx rfl (hb hby at_107) rfl rfl ?_
    show Steps p.tables e below (T3.setTop (mkF m 108 #[.val (.int p0), .val (.int p1), .val (.int p2), .val (.int p3), .val (.int p4), .val (.int p5), .val (.int u1), .val (.int u2), .val (.int u3), .val (.int vn), .val (.int (0 : Int32)), .val (.int c3), .val (.int sl), .val (.int q), .unset, .unset] [(.ref b3), (.ref b3)])) _
    refine XS.iconst X3.here hx rfl (hb hby at_108) ?_
    show Steps p.tables e below (T3.setTop (mkF m 109 #[.val (.int p0), .val (.int p1), .val (.int p2), .val (.int p3), .val (.int p4), .val (.int p5), .val (.int u1), .val (.int u2), .val (.int u3), .val (.int vn), .val (.int (0 : Int32)), .val (.int c3), .val (.int sl), .val (.int q), .unset, .unset] [(.int (0 : Int32)), (.ref b3), (.ref b3)])) _
    refine XS.bipush X3.here hx rfl (hb hby at_109) ?_
    show Steps p.tables e below (T3.setTop (mkF m 111 #[.val (.int p0), .val (.int p1), .val (.int p2), .val (.int p3), .val (.int p4), .val (.int p5), .val (.int u1), .val (.int u2), .val (.int u3), .val (.int vn), .val (.int (0 : Int32)), .val (.int c3), .val (.int sl), .val (.int q), .unset, .unset] [(.int (64 : Int32)), (.int (0 : Int32)), (.ref b3), (.ref b3)])) _
    refine XS.iconst X3.here hx rfl (hb hby at_111) ?_
    show Steps p.tables e below (T3.setTop (mkF m 112 #[.val (.int p0), .val (.int p1), .val (.int p2), .val (.int p3), .val (.int p4), .val (.int p5), .val (.int u1), .val (.int u2), .val (.int u3), .val (.int vn), .val (.int (0 : Int32)), .val (.int c3), .val (.int sl), .val (.int q), .unset, .unset] [(.int (0 : Int32)), (.int (64 : Int32)), (.int (0 : Int32)), (.ref b3), (.ref b3)])) _
    refine st4.trans ?_
    show Steps p.tables e below (T4.setTop (mkF m 115 #[.val (.int p0), .val (.int p1), .val (.int p2), .val (.int p3), .val (.int p4), .val (.int p5), .val (.int u1), .val (.int u2), .val (.int u3), .val (.int vn), .val (.int (0 : Int32)), .val (.int c3), .val (.int sl), .val (.int q), .unset, .unset] [(.ref b3)])) _
    refine XS.astore X4.here hx rfl (hb hby at_115) rfl rfl (l' := #[.val (.int p0), .val (.int p1), .val (.int p2), .val (.int p3), .val (.int p4), .val (.int p5), .val (.int u1), .val (.int u2), .val (.int u3), .val (.int vn), .val (.int (0 : Int32)), .val (.int c3), .val (.int sl), .val (.int q), .val (.ref b3), .unset]) rfl ?_
    show Steps p.tables e below (T4.setTop (mkF m 117 #[.val (.int p0), .val (.int p1), .val (.int p2), .val (.int p3), .val (.int p4), .val (.int p5), .val (.int u1), .val (.int u2), .val (.int u3), .val (.int vn), .val (.int (0 : Int32)), .val (.int c3), .val (.int sl), .val (.int q), .val (.ref b3), .unset] [])) _
    refine XS.iload X4.here hx rfl (hb hby at_117) rfl ?_
    show Steps p.tables e below (T4.setTop (mkF m 119 #[.val (.int p0), .val (.int p1), .val (.int p2), .val (.int p3), .val (.int p4), .val (.int p5), .val (.int u1), .val (.int u2), .val (.int u3), .val (.int vn), .val (.int (0 : Int32)), .val (.int c3), .val (.int sl), .val (.int q), .val (.ref b3), .unset] [(.int vn)])) _
    refine XS.iconst X4.here hx rfl (hb hby at_119) ?_
    show Steps p.tables e below (T4.setTop (mkF m 120 #[.val (.int p0), .val (.int p1), .val (.int p2), .val (.int p3), .val (.int p4), .val (.int p5), .val (.int u1), .val (.int u2), .val (.int u3), .val (.int vn), .val (.int (0 : Int32)), .val (.int c3), .val (.int sl), .val (.int q), .val (.ref b3), .unset] [(.int (1 : Int32)), (.int vn)])) _
    refine XS.icmpNo X4.here hx rfl (hb hby at_120) rfl (flt hn1).1 ?_
    show Steps p.tables e below (T4.setTop (mkF m 123 #[.val (.int p0), .val (.int p1), .val (.int p2), .val (.int p3), .val (.int p4), .val (.int p5), .val (.int u1), .val (.int u2), .val (.int u3), .val (.int vn), .val (.int (0 : Int32)), .val (.int c3), .val (.int sl), .val (.int q), .val (.ref b3), .unset] [])) _
    refine XS.aload X4.here hx rfl (hb hby at_123) rfl rfl ?_
    show Steps p.tables e below (T4.setTop (mkF m 125 #[.val (.int p0), .val (.int p1), .val (.int p2), .val (.int p3), .val (.int p4), .val (.int p5), .val (.int u1), .val (.int u2), .val (.int u3), .val (.int vn), .val (.int (0 : Int32)), .val (.int c3), .val (.int sl), .val (.int q), .val (.ref b3), .unset] [(.ref b3)])) _
    refine XS.iloadN X4.here hx rfl (hb hby at_125) rfl ?_
    show Steps p.tables e below (T4.setTop (mkF m 126 #[.val (.int p0), .val (.int p1), .val (.int p2), .val (.int p3), .val (.int p4), .val (.int p5), .val (.int u1), .val (.int u2), .val (.int u3), .val (.int vn), .val (.int (0 : Int32)), .val (.int c3), .val (.int sl), .val (.int q), .val (.ref b3), .unset] [(.int p0), (.ref b3)])) _
    refine XS.iload X4.here hx rfl (hb hby at_126) rfl ?_
    show Steps p.tables e below (T4.setTop (mkF m 128 #[.val (.int p0), .val (.int p1), .val (.int p2), .val (.int p3), .val (.int p4), .val (.int p5), .val (.int u1), .val (.int u2), .val (.int u3), .val (.int vn), .val (.int (0 : Int32)), .val (.int c3), .val (.int sl), .val (.int q), .val (.ref b3), .unset] [(.int u1), (.int p0), (.ref b3)])) _
    refine st5.trans ?_
    show Steps p.tables e below (T5.setTop (mkF m 131 #[.val (.int p0), .val (.int p1), .val (.int p2), .val (.int p3), .val (.int p4), .val (.int p5), .val (.int u1), .val (.int u2), .val (.int u3), .val (.int vn), .val (.int (0 : Int32)), .val (.int c3), .val (.int sl), .val (.int q), .val (.ref b3), .unset] [])) _
    refine XS.iload X5.here hx rfl (hb hby at_131) rfl ?_
    show Steps p.tables e below (T5.setTop (mkF m 133 #[.val (.int p0), .val (.int p1), .val (.int p2), .val (.int p3), .val (.int p4), .val (.int p5), .val (.int u1), .val (.int u2), .val (.int u3), .val (.int vn), .val (.int (0 : Int32)), .val (.int c3), .val (.int sl), .val (.int q), .val (.ref b3), .unset] [(.int vn)])) _
    refine XS.iconst X5.here hx rfl (hb hby at_133) ?_
    show Steps p.tables e below (T5.setTop (mkF m 134 #[.val (.int p0), .val (.int p1), .val (.int p2), .val (.int p3), .val (.int p4), .val (.int p5), .val (.int u1), .val (.int u2), .val (.int u3), .val (.int vn), .val (.int (0 : Int32)), .val (.int c3), .val (.int sl), .val (.int q), .val (.ref b3), .unset] [(.int (2 : Int32)), (.int vn)])) _
    refine XS.icmpYes X5.here hx rfl (pc0 := 134) (pc' := 145) rfl (hb hby at_134) rfl (tlt hn2).1 (by decide) (by decide) ?_
    show Steps p.tables e below (T5.setTop (mkF m 145 #[.val (.int p0), .val (.int p1), .val (.int p2), .val (.int p3), .val (.int p4), .val (.int p5), .val (.int u1), .val (.int u2), .val (.int u3), .val (.int vn), .val (.int (0 : Int32)), .val (.int c3), .val (.int sl), .val (.int q), .val (.ref b3), .unset] [])) _
    refine XS.iload X5.here hx rfl (hb hby at_145) rfl ?_
    show Steps p.tables e below (T5.setTop (mkF m 147 #[.val (.int p0), .val (.int p1), .val (.int p2), .val (.int p3), .val (.int p4), .val (.int p5), .val (.int u1), .val (.int u2), .val (.int u3), .val (.int vn), .val (.int (0 : Int32)), .val (.int c3), .val (.int sl), .val (.int q), .val (.ref b3), .unset] [(.int (0 : Int32))])) _
    refine XS.ifYes X5.here hx rfl (pc0 := 147) (pc' := 159) rfl (hb hby at_147) rfl ((if0 _ _).trans (teq (by decide : (0 : Int32) = (0 : Int32))).1) (by decide) (by decide) ?_
    show Steps p.tables e below (T5.setTop (mkF m 159 #[.val (.int p0), .val (.int p1), .val (.int p2), .val (.int p3), .val (.int p4), .val (.int p5), .val (.int u1), .val (.int u2), .val (.int u3), .val (.int vn), .val (.int (0 : Int32)), .val (.int c3), .val (.int sl), .val (.int q), .val (.ref b3), .unset] [])) _
    refine XS.iconst X5.here hx rfl (hb hby at_159) ?_
    show Steps p.tables e below (T5.setTop (mkF m 160 #[.val (.int p0), .val (.int p1), .val (.int p2), .val (.int p3), .val (.int p4), .val (.int p5), .val (.int u1), .val (.int u2), .val (.int u3), .val (.int vn), .val (.int (0 : Int32)), .val (.int c3), .val (.int sl), .val (.int q), .val (.ref b3), .unset] [(.int (-1 : Int32))])) _
    refine XS.istore X5.here hx rfl (hb hby at_160) rfl (l' := #[.val (.int p0), .val (.int p1), .val (.int p2), .val (.int p3), .val (.int p4), .val (.int p5), .val (.int u1), .val (.int u2), .val (.int u3), .val (.int vn), .val (.int (0 : Int32)), .val (.int c3), .val (.int sl), .val (.int q), .val (.ref b3), .val (.int (-1 : Int32))]) rfl ?_
    show Steps p.tables e below (T5.setTop (mkF m 162 #[.val (.int p0), .val (.int p1), .val (.int p2), .val (.int p3), .val (.int p4), .val (.int p5), .val (.int u1), .val (.int u2), .val (.int u3), .val (.int vn), .val (.int (0 : Int32)), .val (.int c3), .val (.int sl), .val (.int q), .val (.ref b3), .val (.int (-1 : Int32))] [])) _
    refine fk6 _ ?_
    show Steps p.tables e below (T5.setTop (mkF m 178 #[.val (.int p0), .val (.int p1), .val (.int p2), .val (.int p3), .val (.int p4), .val (.int p5), .val (.int u1), .val (.int u2), .val (.int u3), .val (.int vn), .val (.int (0 : Int32)), .val (.int c3), .val (.int sl), .val (.int q), .val (.ref b3), .val (.int ex1)] [])) _
    refine fk7 _ ?_
    show Steps p.tables e below (T5.setTop (mkF m 194 #[.val (.int p0), .val (.int p1), .val (.int p2), .val (.int p3), .val (.int p4), .val (.int p5), .val (.int u1), .val (.int u2), .val (.int u3), .val (.int vn), .val (.int (0 : Int32)), .val (.int c3), .val (.int sl), .val (.int q), .val (.ref b3), .val (.int ex2)] [])) _
    refine fk8 _ ?_
    show Steps p.tables e below (T5.setTop (mkF m 210 #[.val (.int p0), .val (.int p1), .val (.int p2), .val (.int p3), .val (.int p4), .val (.int p5), .val (.int u1), .val (.int u2), .val (.int u3), .val (.int vn), .val (.int (0 : Int32)), .val (.int c3), .val (.int sl), .val (.int q), .val (.ref b3), .val (.int ex3)] [])) _
    refine XS.aload X5.here hx rfl (hb hby at_210) rfl rfl ?_
    show Steps p.tables e below (T5.setTop (mkF m 212 #[.val (.int p0), .val (.int p1), .val (.int p2), .val (.int p3), .val (.int p4), .val (.int p5), .val (.int u1), .val (.int u2), .val (.int u3), .val (.int vn), .val (.int (0 : Int32)), .val (.int c3), .val (.int sl), .val (.int q), .val (.ref b3), .val (.int ex3)] [(.ref b3)])) _
    refine XS.iload X5.here hx rfl (hb hby at_212) rfl ?_
    show Steps p.tables e below (T5.setTop (mkF m 214 #[.val (.int p0), .val (.int p1), .val (.int p2), .val (.int p3), .val (.int p4), .val (.int p5), .val (.int u1), .val (.int u2), .val (.int u3), .val (.int vn), .val (.int (0 : Int32)), .val (.int c3), .val (.int sl), .val (.int q), .val (.ref b3), .val (.int ex3)] [(.int q), (.ref b3)])) _
    refine st9.trans ?_
    show Steps p.tables e below (T9.setTop (mkF m 217 #[.val (.int p0), .val (.int p1), .val (.int p2), .val (.int p3), .val (.int p4), .val (.int p5), .val (.int u1), .val (.int u2), .val (.int u3), .val (.int vn), .val (.int (0 : Int32)), .val (.int c3), .val (.int sl), .val (.int q), .val (.ref b3), .val (.int ex3)] [(.int (own_get (own_put [] p0 u1) q))])) _
    refine XS.iload X9.here hx rfl (hb hby at_217) rfl ?_
    show Steps p.tables e below (T9.setTop (mkF m 219 #[.val (.int p0), .val (.int p1), .val (.int p2), .val (.int p3), .val (.int p4), .val (.int p5), .val (.int u1), .val (.int u2), .val (.int u3), .val (.int vn), .val (.int (0 : Int32)), .val (.int c3), .val (.int sl), .val (.int q), .val (.ref b3), .val (.int ex3)] [(.int ex3), (.int (own_get (own_put [] p0 u1) q))])) _
    refine XS.icmpNo X9.here hx rfl (hb hby at_219) rfl (teq hget).2 ?_
    show Steps p.tables e below (T9.setTop (mkF m 222 #[.val (.int p0), .val (.int p1), .val (.int p2), .val (.int p3), .val (.int p4), .val (.int p5), .val (.int u1), .val (.int u2), .val (.int u3), .val (.int vn), .val (.int (0 : Int32)), .val (.int c3), .val (.int sl), .val (.int q), .val (.ref b3), .val (.int ex3)] [])) _
    refine XS.iconst X9.here hx rfl (hb hby at_222) ?_
    show Steps p.tables e below (T9.setTop (mkF m 223 #[.val (.int p0), .val (.int p1), .val (.int p2), .val (.int p3), .val (.int p4), .val (.int p5), .val (.int u1), .val (.int u2), .val (.int u3), .val (.int vn), .val (.int (0 : Int32)), .val (.int c3), .val (.int sl), .val (.int q), .val (.ref b3), .val (.int ex3)] [(.int (1 : Int32))])) _
    refine XS.goto X9.here hx rfl (pc0 := 223) (pc' := 227) rfl (hb hby at_223) (by decide) (by decide) ?_
    show Steps p.tables e below (T9.setTop (mkF m 227 #[.val (.int p0), .val (.int p1), .val (.int p2), .val (.int p3), .val (.int p4), .val (.int p5), .val (.int u1), .val (.int u2), .val (.int u3), .val (.int vn), .val (.int (0 : Int32)), .val (.int c3), .val (.int sl), .val (.int q), .val (.ref b3), .val (.int ex3)] [(.int (1 : Int32))])) _
    exact retN X9 hx (t := .boolean) Bd.returns (by simp) (hb hby at_227) hr
  · show own_R n0 _ T9.heap _
    rw [e9]
    exact ⟨rfl, N9⟩
theorem own_exp_D (p0 p1 c3 q v1 v2 v3 ex1 ex2 ex3 : Int32) (hx1 : (q = p0 ∧ ex1 = v1) ∨ (¬ (q = p0) ∧ ex1 = (-1 : Int32))) (hx2 : ex2 = ex1) (hx3 : (q = c3 ∧ ex3 = v3) ∨ (¬ (q = c3) ∧ ex3 = ex2)) : (if c3 = q then v3 else (if p0 = q then v1 else own_get [] q)) = ex3 := by
  simp only [@eq_comm _ _ q, own_get]
  rcases hx1 with ⟨a1, b1⟩ | ⟨a1, b1⟩ <;> have b2 := hx2 <;> rcases hx3 with ⟨a3, b3⟩ | ⟨a3, b3⟩ <;> simp_all
set_option maxRecDepth 65536 in
set_option maxHeartbeats 40000000 in
theorem rm0D (l : Launch) (Z : State) (a0 : Array Value) (hw : ∀ d ∈ tables_1, d.before a0 Z = true) (ws : List Jvm.Cond) (p0 : Int32) (p1 : Int32) (p2 : Int32) (p3 : Int32) (p4 : Int32) (p5 : Int32) (wE : Addr) (u1 u2 u3 vn sl c3 q ex1 ex2 ex3 : Int32) (h0 : Heap) (n0 : Nat) (O0 : Old Z n0 h0) (S_EMPTY : Sta Z Z.heap "com/example/kvasir/kvasir/tableau/DependencySet" "EMPTY" "Lcom/example/kvasir/kvasir/tableau/DependencySet;" (.ref wE)) (hu1 : (p2 &&& (2147483647 : Int32)) = u1) (hu2 : (p3 &&& (2147483647 : Int32)) = u2) (hu3 : (p4 &&& (2147483647 : Int32)) = u3) (hvn : (((p5.toUInt32 >>> ((4 : Int32) &&& 31).toUInt32).toInt32) &&& (3 : Int32)) = vn) (hsl : (((p5.toUInt32 >>> ((2 : Int32) &&& 31).toUInt32).toInt32) &&& (3 : Int32)) = sl) (hn1 : ¬ (vn < (1 : Int32))) (hn2 : vn < (2 : Int32)) (hn3 : ¬ ((p5 &&& (1 : Int32)) = (0 : Int32))) (hc3 : ((p5 &&& (2 : Int32)) = (0 : Int32) ∧ c3 = p1) ∨ (¬ ((p5 &&& (2 : Int32)) = (0 : Int32)) ∧ c3 = p0)) (hq : (sl = (0 : Int32) ∧ q = p0) ∨ (¬ (sl = (0 : Int32)) ∧ sl = (1 : Int32) ∧ q = p1) ∨ (¬ (sl = (0 : Int32)) ∧ ¬ (sl = (1 : Int32)) ∧ sl = (2 : Int32) ∧ q = (p0 + (1 : Int32))) ∨ (¬ (sl = (0 : Int32)) ∧ ¬ (sl = (1 : Int32)) ∧ ¬ (sl = (2 : Int32)) ∧ q = p5)) (hx1 : (q = p0 ∧ ex1 = u1) ∨ (¬ (q = p0) ∧ ex1 = (-1 : Int32))) (hx2 : ex2 = ex1) (hx3 : (q = c3 ∧ ex3 = u3) ∨ (¬ (q = c3) ∧ ex3 = ex2)) :
    MetFree l x (head1 (Jvm.Cond.code x code maxLocals ret :: ws) room_1) (fun a U => a = #[(.int p0), (.int p1), (.int p2), (.int p3), (.int p4), (.int p5)] ∧ Z.Warmed39 U.vm ∧ U.heap = h0) (fun _ _ _ _ _ => True) (fun _ U o U' => ∃ v L, o = .returned v ∧ own_R n0 v U'.heap L ∧ FrameEnd U o U' L room_1.cells room_1.slots) := by
  refine MetFree.of_bodySF (plainFor_of_name pn_0) hisR ?_
  intro p e s m args below meth c s₁ Bd hml0 hP hK
  obtain ⟨rfl, hZ, hh⟩ := hP
  have hx := Bd.exec
  have hby := Bd.bytes
  have hml : c.maxLocals = 16 := hml0
  have hown : s.vm.findClass "com/example/kvasir/kvasir/tableau/NodeAgendaPlacePinLaw" = some m.cls := findClass_of_methodNamed Bd.named
  have hnm := (name_of_methodNamed Bd.named Bd.method).1
  have X0 : Stand p l e room_1 s m #[(.int p0), (.int p1), (.int p2), (.int p3), (.int p4), (.int p5)] below meth c s₁ [] 0 0 := Stand.of_body Bd
  have e0 : s₁.heap = h0 := by rw [← hh, Bd.state]; rfl
  have N0 := Fr.nil n0
  have pre0 : ∀ t, Steps p.tables e below (s₁.setTop (mkF m 0 #[.val (.int p0), .val (.int p1), .val (.int p2), .val (.int p3), .val (.int p4), .val (.int p5), .unset, .unset, .unset, .unset, .unset, .unset, .unset, .unset, .unset, .unset] [])) t → Steps p.tables e below (s₁.setTop (entryFrame m #[(.int p0), (.int p1), (.int p2), (.int p3), (.int p4), (.int p5)] maxLocals)) t := fun t k => castTop (ef_0 m p0 p1 p2 p3 p4 p5) k
  have fk1 : ∀ target, Steps p.tables e below (s₁.setTop (mkF m 53 #[.val (.int p0), .val (.int p1), .val (.int p2), .val (.int p3), .val (.int p4), .val (.int p5), .val (.int u1), .val (.int u2), .val (.int u3), .val (.int vn), .val (.int (1 : Int32)), .unset, .unset, .unset, .unset, .unset] [(.int c3)])) target → Steps p.tables e below (s₁.setTop (mkF m 41 #[.val (.int p0), .val (.int p1), .val (.int p2), .val (.int p3), .val (.int p4), .val (.int p5), .val (.int u1), .val (.int u2), .val (.int u3), .val (.int vn), .val (.int (1 : Int32)), .unset, .unset, .unset, .unset, .unset] [])) target := by
    intro target kt
    rcases hc3 with ⟨z1, z2⟩ | ⟨z1, z2⟩
    · rw [z2] at kt
      show Steps p.tables e below (s₁.setTop (mkF m 41 #[.val (.int p0), .val (.int p1), .val (.int p2), .val (.int p3), .val (.int p4), .val (.int p5), .val (.int u1), .val (.int u2), .val (.int u3), .val (.int vn), .val (.int (1 : Int32)), .unset, .unset, .unset, .unset, .unset] [])) _
      refine XS.iload X0.here hx rfl (hb hby at_41) rfl ?_
      show Steps p.tables e below (s₁.setTop (mkF m 43 #[.val (.int p0), .val (.int p1), .val (.int p2), .val (.int p3), .val (.int p4), .val (.int p5), .val (.int u1), .val (.int u2), .val (.int u3), .val (.int vn), .val (.int (1 : Int32)), .unset, .unset, .unset, .unset, .unset] [(.int p5)])) _
      refine XS.iconst X0.here hx rfl (hb hby at_43) ?_
      show Steps p.tables e below (s₁.setTop (mkF m 44 #[.val (.int p0), .val (.int p1), .val (.int p2), .val (.int p3), .val (.int p4), .val (.int p5), .val (.int u1), .val (.int u2), .val (.int u3), .val (.int vn), .val (.int (1 : Int32)), .unset, .unset, .unset, .unset, .unset] [(.int (2 : Int32)), (.int p5)])) _
      refine XS.iand X0.here hx rfl (hb hby at_44) rfl ?_
      show Steps p.tables e below (s₁.setTop (mkF m 45 #[.val (.int p0), .val (.int p1), .val (.int p2), .val (.int p3), .val (.int p4), .val (.int p5), .val (.int u1), .val (.int u2), .val (.int u3), .val (.int vn), .val (.int (1 : Int32)), .unset, .unset, .unset, .unset, .unset] [(.int (p5 &&& (2 : Int32)))])) _
      refine XS.ifYes X0.here hx rfl (pc0 := 45) (pc' := 52) rfl (hb hby at_45) rfl ((if0 _ _).trans (teq z1).1) (by decide) (by decide) ?_
      show Steps p.tables e below (s₁.setTop (mkF m 52 #[.val (.int p0), .val (.int p1), .val (.int p2), .val (.int p3), .val (.int p4), .val (.int p5), .val (.int u1), .val (.int u2), .val (.int u3), .val (.int vn), .val (.int (1 : Int32)), .unset, .unset, .unset, .unset, .unset] [])) _
      refine XS.iloadN X0.here hx rfl (hb hby at_52) rfl ?_
      show Steps p.tables e below (s₁.setTop (mkF m 53 #[.val (.int p0), .val (.int p1), .val (.int p2), .val (.int p3), .val (.int p4), .val (.int p5), .val (.int u1), .val (.int u2), .val (.int u3), .val (.int vn), .val (.int (1 : Int32)), .unset, .unset, .unset, .unset, .unset] [(.int p1)])) _
      exact kt
    · rw [z2] at kt
      show Steps p.tables e below (s₁.setTop (mkF m 41 #[.val (.int p0), .val (.int p1), .val (.int p2), .val (.int p3), .val (.int p4), .val (.int p5), .val (.int u1), .val (.int u2), .val (.int u3), .val (.int vn), .val (.int (1 : Int32)), .unset, .unset, .unset, .unset, .unset] [])) _
      refine XS.iload X0.here hx rfl (hb hby at_41) rfl ?_
      show Steps p.tables e below (s₁.setTop (mkF m 43 #[.val (.int p0), .val (.int p1), .val (.int p2), .val (.int p3), .val (.int p4), .val (.int p5), .val (.int u1), .val (.int u2), .val (.int u3), .val (.int vn), .val (.int (1 : Int32)), .unset, .unset, .unset, .unset, .unset] [(.int p5)])) _
      refine XS.iconst X0.here hx rfl (hb hby at_43) ?_
      show Steps p.tables e below (s₁.setTop (mkF m 44 #[.val (.int p0), .val (.int p1), .val (.int p2), .val (.int p3), .val (.int p4), .val (.int p5), .val (.int u1), .val (.int u2), .val (.int u3), .val (.int vn), .val (.int (1 : Int32)), .unset, .unset, .unset, .unset, .unset] [(.int (2 : Int32)), (.int p5)])) _
      refine XS.iand X0.here hx rfl (hb hby at_44) rfl ?_
      show Steps p.tables e below (s₁.setTop (mkF m 45 #[.val (.int p0), .val (.int p1), .val (.int p2), .val (.int p3), .val (.int p4), .val (.int p5), .val (.int u1), .val (.int u2), .val (.int u3), .val (.int vn), .val (.int (1 : Int32)), .unset, .unset, .unset, .unset, .unset] [(.int (p5 &&& (2 : Int32)))])) _
      refine XS.ifNo X0.here hx rfl (hb hby at_45) rfl ((if0 _ _).trans (feq z1).1) ?_
      show Steps p.tables e below (s₁.setTop (mkF m 48 #[.val (.int p0), .val (.int p1), .val (.int p2), .val (.int p3), .val (.int p4), .val (.int p5), .val (.int u1), .val (.int u2), .val (.int u3), .val (.int vn), .val (.int (1 : Int32)), .unset, .unset, .unset, .unset, .unset] [])) _
      refine XS.iloadN X0.here hx rfl (hb hby at_48) rfl ?_
      show Steps p.tables e below (s₁.setTop (mkF m 49 #[.val (.int p0), .val (.int p1), .val (.int p2), .val (.int p3), .val (.int p4), .val (.int p5), .val (.int u1), .val (.int u2), .val (.int u3), .val (.int vn), .val (.int (1 : Int32)), .unset, .unset, .unset, .unset, .unset] [(.int p0)])) _
      refine XS.goto X0.here hx rfl (pc0 := 49) (pc' := 53) rfl (hb hby at_49) (by decide) (by decide) ?_
      show Steps p.tables e below (s₁.setTop (mkF m 53 #[.val (.int p0), .val (.int p1), .val (.int p2), .val (.int p3), .val (.int p4), .val (.int p5), .val (.int u1), .val (.int u2), .val (.int u3), .val (.int vn), .val (.int (1 : Int32)), .unset, .unset, .unset, .unset, .unset] [(.int p0)])) _
      exact kt
  have fk2 : ∀ target, Steps p.tables e below (s₁.setTop (mkF m 104 #[.val (.int p0), .val (.int p1), .val (.int p2), .val (.int p3), .val (.int p4), .val (.int p5), .val (.int u1), .val (.int u2), .val (.int u3), .val (.int vn), .val (.int (1 : Int32)), .val (.int c3), .val (.int sl), .val (.int q), .unset, .unset] [])) target → Steps p.tables e below (s₁.setTop (mkF m 63 #[.val (.int p0), .val (.int p1), .val (.int p2), .val (.int p3), .val (.int p4), .val (.int p5), .val (.int u1), .val (.int u2), .val (.int u3), .val (.int vn), .val (.int (1 : Int32)), .val (.int c3), .val (.int sl), .unset, .unset, .unset] [])) target := by
    intro target kt
    rcases hq with ⟨z1, z2⟩ | ⟨z1, z2, z3⟩ | ⟨z1, z2, z3, z4⟩ | ⟨z1, z2, z3, z4⟩
    · rw [z2] at kt
      show Steps p.tables e below (s₁.setTop (mkF m 63 #[.val (.int p0), .val (.int p1), .val (.int p2), .val (.int p3), .val (.int p4), .val (.int p5), .val (.int u1), .val (.int u2), .val (.int u3), .val (.int vn), .val (.int (1 : Int32)), .val (.int c3), .val (.int sl), .unset, .unset, .unset] [])) _
      refine XS.iload X0.here hx rfl (hb hby at_63) rfl ?_
      show Steps p.tables e below (s₁.setTop (mkF m 65 #[.val (.int p0), .val (.int p1), .val (.int p2), .val (.int p3), .val (.int p4), .val (.int p5), .val (.int u1), .val (.int u2), .val (.int u3), .val (.int vn), .val (.int (1 : Int32)), .val (.int c3), .val (.int sl), .unset, .unset, .unset] [(.int sl)])) _
      refine XS.ifNo X0.here hx rfl (hb hby at_65) rfl ((if0 _ _).trans (teq z1).2) ?_
      show Steps p.tables e below (s₁.setTop (mkF m 68 #[.val (.int p0), .val (.int p1), .val (.int p2), .val (.int p3), .val (.int p4), .val (.int p5), .val (.int u1), .val (.int u2), .val (.int u3), .val (.int vn), .val (.int (1 : Int32)), .val (.int c3), .val (.int sl), .unset, .unset, .unset] [])) _
      refine XS.iloadN X0.here hx rfl (hb hby at_68) rfl ?_
      show Steps p.tables e below (s₁.setTop (mkF m 69 #[.val (.int p0), .val (.int p1), .val (.int p2), .val (.int p3), .val (.int p4), .val (.int p5), .val (.int u1), .val (.int u2), .val (.int u3), .val (.int vn), .val (.int (1 : Int32)), .val (.int c3), .val (.int sl), .unset, .unset, .unset] [(.int p0)])) _
      refine XS.istore X0.here hx rfl (hb hby at_69) rfl (l' := #[.val (.int p0), .val (.int p1), .val (.int p2), .val (.int p3), .val (.int p4), .val (.int p5), .val (.int u1), .val (.int u2), .val (.int u3), .val (.int vn), .val (.int (1 : Int32)), .val (.int c3), .val (.int sl), .val (.int p0), .unset, .unset]) rfl ?_
      show Steps p.tables e below (s₁.setTop (mkF m 71 #[.val (.int p0), .val (.int p1), .val (.int p2), .val (.int p3), .val (.int p4), .val (.int p5), .val (.int u1), .val (.int u2), .val (.int u3), .val (.int vn), .val (.int (1 : Int32)), .val (.int c3), .val (.int sl), .val (.int p0), .unset, .unset] [])) _
      refine XS.goto X0.here hx rfl (pc0 := 71) (pc' := 104) rfl (hb hby at_71) (by decide) (by decide) ?_
      show Steps p.tables e below (s₁.setTop (mkF m 104 #[.val (.int p0), .val (.int p1), .val (.int p2), .val (.int p3), .val (.int p4), .val (.int p5), .val (.int u1), .val (.int u2), .val (.int u3), .val (.int vn), .val (.int (1 : Int32)), .val (.int c3), .val (.int sl), .val (.int p0), .unset, .unset] [])) _
      exact kt
    · rw [z3] at kt
      show Steps p.tables e below (s₁.setTop (mkF m 63 #[.val (.int p0), .val (.int p1), .val (.int p2), .val (.int p3), .val (.int p4), .val (.int p5), .val (.int u1), .val (.int u2), .val (.int u3), .val (.int vn), .val (.int (1 : Int32)), .val (.int c3), .val (.int sl), .unset, .unset, .unset] [])) _
      refine XS.iload X0.here hx rfl (hb hby at_63) rfl ?_
      show Steps p.tables e below (s₁.setTop (mkF m 65 #[.val (.int p0), .val (.int p1), .val (.int p2), .val (.int p3), .val (.int p4), .val (.int p5), .val (.int u1), .val (.int u2), .val (.int u3), .val (.int vn), .val (.int (1 : Int32)), .val (.int c3), .val (.int sl), .unset, .unset, .unset] [(.int sl)])) _
      refine XS.ifYes X0.here hx rfl (pc0 := 65) (pc' := 74) rfl (hb hby at_65) rfl ((if0 _ _).trans (feq z1).2) (by decide) (by decide) ?_
      show Steps p.tables e below (s₁.setTop (mkF m 74 #[.val (.int p0), .val (.int p1), .val (.int p2), .val (.int p3), .val (.int p4), .val (.int p5), .val (.int u1), .val (.int u2), .val (.int u3), .val (.int vn), .val (.int (1 : Int32)), .val (.int c3), .val (.int sl), .unset, .unset, .unset] [])) _
      refine XS.iload X0.here hx rfl (hb hby at_74) rfl ?_
      show Steps p.tables e below (s₁.setTop (mkF m 76 #[.val (.int p0), .val (.int p1), .val (.int p2), .val (.int p3), .val (.int p4), .val (.int p5), .val (.int u1), .val (.int u2), .val (.int u3), .val (.int vn), .val (.int (1 : Int32)), .val (.int c3), .val (.int sl), .unset, .unset, .unset] [(.int sl)])) _
      refine XS.iconst X0.here hx rfl (hb hby at_76) ?_
      show Steps p.tables e below (s₁.setTop (mkF m 77 #[.val (.int p0), .val (.int p1), .val (.int p2), .val (.int p3), .val (.int p4), .val (.int p5), .val (.int u1), .val (.int u2), .val (.int u3), .val (.int vn), .val (.int (1 : Int32)), .val (.int c3), .val (.int sl), .unset, .unset, .unset] [(.int (1 : Int32)), (.int sl)])) _
      refine XS.icmpNo X0.here hx rfl (hb hby at_77) rfl (teq z2).2 ?_
      show Steps p.tables e below (s₁.setTop (mkF m 80 #[.val (.int p0), .val (.int p1), .val (.int p2), .val (.int p3), .val (.int p4), .val (.int p5), .val (.int u1), .val (.int u2), .val (.int u3), .val (.int vn), .val (.int (1 : Int32)), .val (.int c3), .val (.int sl), .unset, .unset, .unset] [])) _
      refine XS.iloadN X0.here hx rfl (hb hby at_80) rfl ?_
      show Steps p.tables e below (s₁.setTop (mkF m 81 #[.val (.int p0), .val (.int p1), .val (.int p2), .val (.int p3), .val (.int p4), .val (.int p5), .val (.int u1), .val (.int u2), .val (.int u3), .val (.int vn), .val (.int (1 : Int32)), .val (.int c3), .val (.int sl), .unset, .unset, .unset] [(.int p1)])) _
      refine XS.istore X0.here hx rfl (hb hby at_81) rfl (l' := #[.val (.int p0), .val (.int p1), .val (.int p2), .val (.int p3), .val (.int p4), .val (.int p5), .val (.int u1), .val (.int u2), .val (.int u3), .val (.int vn), .val (.int (1 : Int32)), .val (.int c3), .val (.int sl), .val (.int p1), .unset, .unset]) rfl ?_
      show Steps p.tables e below (s₁.setTop (mkF m 83 #[.val (.int p0), .val (.int p1), .val (.int p2), .val (.int p3), .val (.int p4), .val (.int p5), .val (.int u1), .val (.int u2), .val (.int u3), .val (.int vn), .val (.int (1 : Int32)), .val (.int c3), .val (.int sl), .val (.int p1), .unset, .unset] [])) _
      refine XS.goto X0.here hx rfl (pc0 := 83) (pc' := 104) rfl (hb hby at_83) (by decide) (by decide) ?_
      show Steps p.tables e below (s₁.setTop (mkF m 104 #[.val (.int p0), .val (.int p1), .val (.int p2), .val (.int p3), .val (.int p4), .val (.int p5), .val (.int u1), .val (.int u2), .val (.int u3), .val (.int vn), .val (.int (1 : Int32)), .val (.int c3), .val (.int sl), .val (.int p1), .unset, .unset] [])) _
      exact kt
    · rw [z4] at kt
      show Steps p.tables e below (s₁.setTop (mkF m 63 #[.val (.int p0), .val (.int p1), .val (.int p2), .val (.int p3), .val (.int p4), .val (.int p5), .val (.int u1), .val (.int u2), .val (.int u3), .val (.int vn), .val (.int (1 : Int32)), .val (.int c3), .val (.int sl), .unset, .unset, .unset] [])) _
      refine XS.iload X0.here hx rfl (hb hby at_63) rfl ?_
      show Steps p.tables e below (s₁.setTop (mkF m 65 #[.val (.int p0), .val (.int p1), .val (.int p2), .val (.int p3), .val (.int p4), .val (.int p5), .val (.int u1), .val (.int u2), .val (.int u3), .val (.int vn), .val (.int (1 : Int32)), .val (.int c3), .val (.int sl), .unset, .unset, .unset] [(.int sl)])) _
      refine XS.ifYes X0.here hx rfl (pc0 := 65) (pc' := 74) rfl (hb hby at_65) rfl ((if0 _ _).trans (feq z1).2) (by decide) (by decide) ?_
      show Steps p.tables e below (s₁.setTop (mkF m 74 #[.val (.int p0), .val (.int p1), .val (.int p2), .val (.int p3), .val (.int p4), .val (.int p5), .val (.int u1), .val (.int u2), .val (.int u3), .val (.int vn), .val (.int (1 : Int32)), .val (.int c3), .val (.int sl), .unset, .unset, .unset] [])) _
      refine XS.iload X0.here hx rfl (hb hby at_74) rfl ?_
      show Steps p.tables e below (s₁.setTop (mkF m 76 #[.val (.int p0), .val (.int p1), .val (.int p2), .val (.int p3), .val (.int p4), .val (.int p5), .val (.int u1), .val (.int u2), .val (.int u3), .val (.int vn), .val (.int (1 : Int32)), .val (.int c3), .val (.int sl), .unset, .unset, .unset] [(.int sl)])) _
      refine XS.iconst X0.here hx rfl (hb hby at_76) ?_
      show Steps p.tables e below (s₁.setTop (mkF m 77 #[.val (.int p0), .val (.int p1), .val (.int p2), .val (.int p3), .val (.int p4), .val (.int p5), .val (.int u1), .val (.int u2), .val (.int u3), .val (.int vn), .val (.int (1 : Int32)), .val (.int c3), .val (.int sl), .unset, .unset, .unset] [(.int (1 : Int32)), (.int sl)])) _
      refine XS.icmpYes X0.here hx rfl (pc0 := 77) (pc' := 86) rfl (hb hby at_77) rfl (feq z2).2 (by decide) (by decide) ?_
      show Steps p.tables e below (s₁.setTop (mkF m 86 #[.val (.int p0), .val (.int p1), .val (.int p2), .val (.int p3), .val (.int p4), .val (.int p5), .val (.int u1), .val (.int u2), .val (.int u3), .val (.int vn), .val (.int (1 : Int32)), .val (.int c3), .val (.int sl), .unset, .unset, .unset] [])) _
      refine XS.iload X0.here hx rfl (hb hby at_86) rfl ?_
      show Steps p.tables e below (s₁.setTop (mkF m 88 #[.val (.int p0), .val (.int p1), .val (.int p2), .val (.int p3), .val (.int p4), .val (.int p5), .val (.int u1), .val (.int u2), .val (.int u3), .val (.int vn), .val (.int (1 : Int32)), .val (.int c3), .val (.int sl), .unset, .unset, .unset] [(.int sl)])) _
      refine XS.iconst X0.here hx rfl (hb hby at_88) ?_
      show Steps p.tables e below (s₁.setTop (mkF m 89 #[.val (.int p0), .val (.int p1), .val (.int p2), .val (.int p3), .val (.int p4), .val (.int p5), .val (.int u1), .val (.int u2), .val (.int u3), .val (.int vn), .val (.int (1 : Int32)), .val (.int c3), .val (.int sl), .unset, .unset, .unset] [(.int (2 : Int32)), (.int sl)])) _
      refine XS.icmpNo X0.here hx rfl (hb hby at_89) rfl (teq z3).2 ?_
      show Steps p.tables e below (s₁.setTop (mkF m 92 #[.val (.int p0), .val (.int p1), .val (.int p2), .val (.int p3), .val (.int p4), .val (.int p5), .val (.int u1), .val (.int u2), .val (.int u3), .val (.int vn), .val (.int (1 : Int32)), .val (.int c3), .val (.int sl), .unset, .unset, .unset] [])) _
      refine XS.iloadN X0.here hx rfl (hb hby at_92) rfl ?_
      show Steps p.tables e below (s₁.setTop (mkF m 93 #[.val (.int p0), .val (.int p1), .val (.int p2), .val (.int p3), .val (.int p4), .val (.int p5), .val (.int u1), .val (.int u2), .val (.int u3), .val (.int vn), .val (.int (1 : Int32)), .val (.int c3), .val (.int sl), .unset, .unset, .unset] [(.int p0)])) _
      refine XS.iconst X0.here hx rfl (hb hby at_93) ?_
      show Steps p.tables e below (s₁.setTop (mkF m 94 #[.val (.int p0), .val (.int p1), .val (.int p2), .val (.int p3), .val (.int p4), .val (.int p5), .val (.int u1), .val (.int u2), .val (.int u3), .val (.int vn), .val (.int (1 : Int32)), .val (.int c3), .val (.int sl), .unset, .unset, .unset] [(.int (1 : Int32)), (.int p0)])) _
      refine XS.iadd X0.here hx rfl (hb hby at_94) rfl ?_
      show Steps p.tables e below (s₁.setTop (mkF m 95 #[.val (.int p0), .val (.int p1), .val (.int p2), .val (.int p3), .val (.int p4), .val (.int p5), .val (.int u1), .val (.int u2), .val (.int u3), .val (.int vn), .val (.int (1 : Int32)), .val (.int c3), .val (.int sl), .unset, .unset, .unset] [(.int (p0 + (1 : Int32)))])) _
      refine XS.istore X0.here hx rfl (hb hby at_95) rfl (l' := #[.val (.int p0), .val (.int p1), .val (.int p2), .val (.int p3), .val (.int p4), .val (.int p5), .val (.int u1), .val (.int u2), .val (.int u3), .val (.int vn), .val (.int (1 : Int32)), .val (.int c3), .val (.int sl), .val (.int (p0 + (1 : Int32))), .unset, .unset]) rfl ?_
      show Steps p.tables e below (s₁.setTop (mkF m 97 #[.val (.int p0), .val (.int p1), .val (.int p2), .val (.int p3), .val (.int p4), .val (.int p5), .val (.int u1), .val (.int u2), .val (.int u3), .val (.int vn), .val (.int (1 : Int32)), .val (.int c3), .val (.int sl), .val (.int (p0 + (1 : Int32))), .unset, .unset] [])) _
      refine XS.goto X0.here hx rfl (pc0 := 97) (pc' := 104) rfl (hb hby at_97) (by decide) (by decide) ?_
      show Steps p.tables e below (s₁.setTop (mkF m 104 #[.val (.int p0), .val (.int p1), .val (.int p2), .val (.int p3), .val (.int p4), .val (.int p5), .val (.int u1), .val (.int u2), .val (.int u3), .val (.int vn), .val (.int (1 : Int32)), .val (.int c3), .val (.int sl), .val (.int (p0 + (1 : Int32))), .unset, .unset] [])) _
      exact kt
    · rw [z4] at kt
      show Steps p.tables e below (s₁.setTop (mkF m 63 #[.val (.int p0), .val (.int p1), .val (.int p2), .val (.int p3), .val (.int p4), .val (.int p5), .val (.int u1), .val (.int u2), .val (.int u3), .val (.int vn), .val (.int (1 : Int32)), .val (.int c3), .val (.int sl), .unset, .unset, .unset] [])) _
      refine XS.iload X0.here hx rfl (hb hby at_63) rfl ?_
      show Steps p.tables e below (s₁.setTop (mkF m 65 #[.val (.int p0), .val (.int p1), .val (.int p2), .val (.int p3), .val (.int p4), .val (.int p5), .val (.int u1), .val (.int u2), .val (.int u3), .val (.int vn), .val (.int (1 : Int32)), .val (.int c3), .val (.int sl), .unset, .unset, .unset] [(.int sl)])) _
      refine XS.ifYes X0.here hx rfl (pc0 := 65) (pc' := 74) rfl (hb hby at_65) rfl ((if0 _ _).trans (feq z1).2) (by decide) (by decide) ?_
      show Steps p.tables e below (s₁.setTop (mkF m 74 #[.val (.int p0), .val (.int p1), .val (.int p2), .val (.int p3), .val (.int p4), .val (.int p5), .val (.int u1), .val (.int u2), .val (.int u3), .val (.int vn), .val (.int (1 : Int32)), .val (.int c3), .val (.int sl), .unset, .unset, .unset] [])) _
      refine XS.iload X0.here hx rfl (hb hby at_74) rfl ?_
      show Steps p.tables e below (s₁.setTop (mkF m 76 #[.val (.int p0), .val (.int p1), .val (.int p2), .val (.int p3), .val (.int p4), .val (.int p5), .val (.int u1), .val (.int u2), .val (.int u3), .val (.int vn), .val (.int (1 : Int32)), .val (.int c3), .val (.int sl), .unset, .unset, .unset] [(.int sl)])) _
      refine XS.iconst X0.here hx rfl (hb hby at_76) ?_
      show Steps p.tables e below (s₁.setTop (mkF m 77 #[.val (.int p0), .val (.int p1), .val (.int p2), .val (.int p3), .val (.int p4), .val (.int p5), .val (.int u1), .val (.int u2), .val (.int u3), .val (.int vn), .val (.int (1 : Int32)), .val (.int c3), .val (.int sl), .unset, .unset, .unset] [(.int (1 : Int32)), (.int sl)])) _
      refine XS.icmpYes X0.here hx rfl (pc0 := 77) (pc' := 86) rfl (hb hby at_77) rfl (feq z2).2 (by decide) (by decide) ?_
      show Steps p.tables e below (s₁.setTop (mkF m 86 #[.val (.int p0), .val (.int p1), .val (.int p2), .val (.int p3), .val (.int p4), .val (.int p5), .val (.int u1), .val (.int u2), .val (.int u3), .val (.int vn), .val (.int (1 : Int32)), .val (.int c3), .val (.int sl), .unset, .unset, .unset] [])) _
      refine XS.iload X0.here hx rfl (hb hby at_86) rfl ?_
      show Steps p.tables e below (s₁.setTop (mkF m 88 #[.val (.int p0), .val (.int p1), .val (.int p2), .val (.int p3), .val (.int p4), .val (.int p5), .val (.int u1), .val (.int u2), .val (.int u3), .val (.int vn), .val (.int (1 : Int32)), .val (.int c3), .val (.int sl), .unset, .unset, .unset] [(.int sl)])) _
      refine XS.iconst X0.here hx rfl (hb hby at_88) ?_
      show Steps p.tables e below (s₁.setTop (mkF m 89 #[.val (.int p0), .val (.int p1), .val (.int p2), .val (.int p3), .val (.int p4), .val (.int p5), .val (.int u1), .val (.int u2), .val (.int u3), .val (.int vn), .val (.int (1 : Int32)), .val (.int c3), .val (.int sl), .unset, .unset, .unset] [(.int (2 : Int32)), (.int sl)])) _
      refine XS.icmpYes X0.here hx rfl (pc0 := 89) (pc' := 100) rfl (hb hby at_89) rfl (feq z3).2 (by decide) (by decide) ?_
      show Steps p.tables e below (s₁.setTop (mkF m 100 #[.val (.int p0), .val (.int p1), .val (.int p2), .val (.int p3), .val (.int p4), .val (.int p5), .val (.int u1), .val (.int u2), .val (.int u3), .val (.int vn), .val (.int (1 : Int32)), .val (.int c3), .val (.int sl), .unset, .unset, .unset] [])) _
      refine XS.iload X0.here hx rfl (hb hby at_100) rfl ?_
      show Steps p.tables e below (s₁.setTop (mkF m 102 #[.val (.int p0), .val (.int p1), .val (.int p2), .val (.int p3), .val (.int p4), .val (.int p5), .val (.int u1), .val (.int u2), .val (.int u3), .val (.int vn), .val (.int (1 : Int32)), .val (.int c3), .val (.int sl), .unset, .unset, .unset] [(.int p5)])) _
      refine XS.istore X0.here hx rfl (hb hby at_102) rfl (l' := #[.val (.int p0), .val (.int p1), .val (.int p2), .val (.int p3), .val (.int p4), .val (.int p5), .val (.int u1), .val (.int u2), .val (.int u3), .val (.int vn), .val (.int (1 : Int32)), .val (.int c3), .val (.int sl), .val (.int p5), .unset, .unset]) rfl ?_
      show Steps p.tables e below (s₁.setTop (mkF m 104 #[.val (.int p0), .val (.int p1), .val (.int p2), .val (.int p3), .val (.int p4), .val (.int p5), .val (.int u1), .val (.int u2), .val (.int u3), .val (.int vn), .val (.int (1 : Int32)), .val (.int c3), .val (.int sl), .val (.int p5), .unset, .unset] [])) _
      exact kt
  obtain ⟨T3, h3, X3, e3, E3, A3, D3, U3, st3⟩ := newO X0 hx hZ hown (hw _ (List.mem_of_getElem? (i := 1) rfl)) (hw _ (List.mem_of_getElem? (i := 2) rfl)) (hw _ (List.mem_of_getElem? (i := 3) rfl)) e0 (g := (mkF m 104 #[.val (.int p0), .val (.int p1), .val (.int p2), .val (.int p3), .val (.int p4), .val (.int p5), .val (.int u1), .val (.int u2), .val (.int u3), .val (.int vn), .val (.int (1 : Int32)), .val (.int c3), .val (.int sl), .val (.int q), .unset, .unset] [])) rfl (hb hby at_104) (by decide) (by decide)
  obtain ⟨b3, g3⟩ : ∃ z, z = h0.size := ⟨_, rfl⟩
  rw [← g3] at A3 D3 U3 st3
  have Ut3 : Unt h3 b3 := U3
  have g_b3 : n0 ≤ b3 := Nat.le_trans (own_le O0) (Nat.le_of_eq g3.symm)
  have O3 := O0.ext E3
  have F_concepts_b3 : Fld Z h3 b3 "com/example/kvasir/kvasir/tableau/Node" "concepts" "[I" .null := D3 (Or.inl (hw _ (List.mem_of_getElem? (i := 18) rfl))) (ty := (.array .int)) (by decide)
  have F_reasons_b3 : Fld Z h3 b3 "com/example/kvasir/kvasir/tableau/Node" "reasons" "[Lcom/example/kvasir/kvasir/tableau/DependencySet;" .null := D3 (Or.inl (hw _ (List.mem_of_getElem? (i := 22) rfl))) (ty := (.array (.object "com/example/kvasir/kvasir/tableau/DependencySet"))) (by decide)
  have F_edgeRoles_b3 : Fld Z h3 b3 "com/example/kvasir/kvasir/tableau/Node" "edgeRoles" "[I" .null := D3 (Or.inl (hw _ (List.mem_of_getElem? (i := 24) rfl))) (ty := (.array .int)) (by decide)
  have F_edgeTargets_b3 : Fld Z h3 b3 "com/example/kvasir/kvasir/tableau/Node" "edgeTargets" "[Lcom/example/kvasir/kvasir/tableau/Node;" .null := D3 (Or.inl (hw _ (List.mem_of_getElem? (i := 28) rfl))) (ty := (.array (.object "com/example/kvasir/kvasir/tableau/Node"))) (by decide)
  have F_edgeReasons_b3 : Fld Z h3 b3 "com/example/kvasir/kvasir/tableau/Node" "edgeReasons" "[Lcom/example/kvasir/kvasir/tableau/DependencySet;" .null := D3 (Or.inl (hw _ (List.mem_of_getElem? (i := 30) rfl))) (ty := (.array (.object "com/example/kvasir/kvasir/tableau/DependencySet"))) (by decide)
  have F_apart_b3 : Fld Z h3 b3 "com/example/kvasir/kvasir/tableau/Node" "apart" "[Lcom/example/kvasir/kvasir/tableau/Node;" .null := D3 (Or.inl (hw _ (List.mem_of_getElem? (i := 32) rfl))) (ty := (.array (.object "com/example/kvasir/kvasir/tableau/Node"))) (by decide)
  have F_apartReasons_b3 : Fld Z h3 b3 "com/example/kvasir/kvasir/tableau/Node" "apartReasons" "[Lcom/example/kvasir/kvasir/tableau/DependencySet;" .null := D3 (Or.inl (hw _ (List.mem_of_getElem? (i := 34) rfl))) (ty := (.array (.object "com/example/kvasir/kvasir/tableau/DependencySet"))) (by decide)
  have F_groups_b3 : Fld Z h3 b3 "com/example/kvasir/kvasir/tableau/Node" "groups" "[Lcom/example/kvasir/kvasir/tableau/ApartGroup;" .null := D3 (Or.inl (hw _ (List.mem_of_getElem? (i := 38) rfl))) (ty := (.array (.object "com/example/kvasir/kvasir/tableau/ApartGroup"))) (by decide)
  have F_groupReasons_b3 : Fld Z h3 b3 "com/example/kvasir/kvasir/tableau/Node" "groupReasons" "[Lcom/example/kvasir/kvasir/tableau/DependencySet;" .null := D3 (Or.inl (hw _ (List.mem_of_getElem? (i := 40) rfl))) (ty := (.array (.object "com/example/kvasir/kvasir/tableau/DependencySet"))) (by decide)
  have F_agendaPlaces_b3 : Fld Z h3 b3 "com/example/kvasir/kvasir/tableau/Node" "agendaPlaces" "[I" .null := D3 (Or.inl (hw _ (List.mem_of_getElem? (i := 42) rfl))) (ty := (.array .int)) (by decide)
  have F_parent_b3 : Fld Z h3 b3 "com/example/kvasir/kvasir/tableau/Node" "parent" "Lcom/example/kvasir/kvasir/tableau/Node;" .null := D3 (Or.inr (hw _ (List.mem_of_getElem? (i := 44) rfl))) (ty := (.object "com/example/kvasir/kvasir/tableau/Node")) (by decide)
  have F_number_b3 : Fld Z h3 b3 "com/example/kvasir/kvasir/tableau/Node" "number" "I" (.int (0 : Int32)) := D3 (Or.inr (hw _ (List.mem_of_getElem? (i := 46) rfl))) (ty := .int) (by decide)
  have F_value_b3 : Fld Z h3 b3 "com/example/kvasir/kvasir/tableau/Node" "value" "Z" (.int (0 : Int32)) := D3 (Or.inr (hw _ (List.mem_of_getElem? (i := 48) rfl))) (ty := .boolean) (by decide)
  have F_copies_b3 : Fld Z h3 b3 "com/example/kvasir/kvasir/tableau/Node" "copies" "J" (.long (0 : Int64)) := D3 (Or.inr (hw _ (List.mem_of_getElem? (i := 50) rfl))) (ty := .long) (by decide)
  have F_madeFor_b3 : Fld Z h3 b3 "com/example/kvasir/kvasir/tableau/Node" "madeFor" "I" (.int (0 : Int32)) := D3 (Or.inr (hw _ (List.mem_of_getElem? (i := 52) rfl))) (ty := .int) (by decide)
  have F_madeBecause_b3 : Fld Z h3 b3 "com/example/kvasir/kvasir/tableau/Node" "madeBecause" "Lcom/example/kvasir/kvasir/tableau/DependencySet;" .null := D3 (Or.inr (hw _ (List.mem_of_getElem? (i := 54) rfl))) (ty := (.object "com/example/kvasir/kvasir/tableau/DependencySet")) (by decide)
  have F_members_b3 : Fld Z h3 b3 "com/example/kvasir/kvasir/tableau/Node" "members" "[J" .null := D3 (Or.inr (hw _ (List.mem_of_getElem? (i := 57) rfl))) (ty := (.array .long)) (by decide)
  obtain ⟨_, _, ⟨T4, L4, k4, n4⟩, -, X4, ⟨Lc4, hQ4, l4, y4, z4⟩, st4⟩ := X3.specialBack hx (y := (⟨"com/example/kvasir/kvasir/tableau/Node", "<init>", "(IIZ)V"⟩ : MethodName)) rfl hown (mvT hZ (hw _ (List.mem_of_getElem? (i := 4) rfl))) (mvT hZ (hw _ (List.mem_of_getElem? (i := 5) rfl))) (mvT hZ (hw _ (List.mem_of_getElem? (i := 6) rfl))) (by decide) (backOf (W := 1) (rmC1 l Z a0 hw [] b3 wE  h3 n0 O3 S_EMPTY A3 Ut3 g_b3) hZ (hw _ (List.mem_of_getElem? (i := 6) rfl)) (hw _ (List.mem_of_getElem? (i := 3) rfl)) (by decide) (by decide)) (g := (mkF m 112 #[.val (.int p0), .val (.int p1), .val (.int p2), .val (.int p3), .val (.int p4), .val (.int p5), .val (.int u1), .val (.int u2), .val (.int u3), .val (.int vn), .val (.int (1 : Int32)), .val (.int c3), .val (.int sl), .val (.int q), .unset, .unset] [(.int (0 : Int32)), (.int (64 : Int32)), (.int (0 : Int32)), (.ref b3), (.ref b3)])) rfl (by rw [hml]; rfl) (Steps.refl _) (a := b3) (argsL := [(.int (0 : Int32)), (.int (64 : Int32)), (.int (0 : Int32))]) (rest := [(.ref b3)]) (lenOf pd_3 rfl) rfl (by show 2 * 0 + _ ≤ _; exact Nat.le_of_eq rfl) (hb hby at_112) (fun _ _ => ⟨rfl, e3, (by decide : 1 + 11 ≤ _), (by decide : 29 + 23 ≤ _)⟩)
  dsimp only [Pt.U, Pt.locs, Pt.cells, Pt.slots] at X4 l4 y4 z4 st4 hQ4
  subst l4 y4 z4
  obtain ⟨rfl, N4q, O4, Ag4⟩ := hQ4
  have N4 := Fr.app N0 N4q
  obtain ⟨cq5, kq5, q5a, q5b, q5c⟩ := isOf hZ rfl Ag4.1
  obtain ⟨_, _, ⟨T5, L5, k5, n5⟩, -, X5, ⟨Lc5, hQ5, l5, y5, z5⟩, st5⟩ := X4.virtualBack hx (y := (⟨"com/example/kvasir/kvasir/tableau/Node", "placeOnAgenda", "(II)V"⟩ : MethodName)) (z := (⟨"com/example/kvasir/kvasir/tableau/Node", "placeOnAgenda", "(II)V"⟩ : MethodName)) hown (mvT hZ (hw _ (List.mem_of_getElem? (i := 58) rfl))) (mvT hZ (hw _ (List.mem_of_getElem? (i := 59) rfl))) (notFace_of_selects (args := #[]) (mvT hZ (hw _ (List.mem_of_getElem? (i := 61) rfl)))) (mvT hZ (hw _ (List.mem_of_getElem? (i := 61) rfl))) (mvT hZ (hw _ (List.mem_of_getElem? (i := 60) rfl))) (by decide) (backOf (W := 0) (rmP l Z a0 hw [] b3 p0 u1 [] T4.heap n0 O4 Ag4 (by decide)) hZ (hw _ (List.mem_of_getElem? (i := 62) rfl)) (hw _ (List.mem_of_getElem? (i := 3) rfl)) (by decide) (by decide)) q5a q5c (g := (mkF m 128 #[.val (.int p0), .val (.int p1), .val (.int p2), .val (.int p3), .val (.int p4), .val (.int p5), .val (.int u1), .val (.int u2), .val (.int u3), .val (.int vn), .val (.int (1 : Int32)), .val (.int c3), .val (.int sl), .val (.int q), .val (.ref b3), .unset] [(.int u1), (.int p0), (.ref b3)])) rfl (by rw [hml]; rfl) (Steps.refl _) (argsL := [(.int p0), (.int u1)]) (rest := []) (lenOf pd_5 rfl) rfl (by show 2 * 0 + _ ≤ _; exact Nat.le_of_eq rfl) (hb hby at_128) (fun _ _ => ⟨rfl, rfl, (by decide : 12 + 1 ≤ _), (by decide : 52 + 6 ≤ _)⟩)
  dsimp only [Pt.U, Pt.locs, Pt.cells, Pt.slots] at X5 l5 y5 z5 st5 hQ5
  subst l5 y5 z5
  obtain ⟨rfl, N5q, O5, Ag5⟩ := hQ5
  have N5 := Fr.app N4 N5q
  obtain ⟨cq6, kq6, q6a, q6b, q6c⟩ := isOf hZ rfl Ag5.1
  obtain ⟨_, _, ⟨T6, L6, k6, n6⟩, -, X6, ⟨Lc6, hQ6, l6, y6, z6⟩, st6⟩ := X5.virtualBack hx (y := (⟨"com/example/kvasir/kvasir/tableau/Node", "placeOnAgenda", "(II)V"⟩ : MethodName)) (z := (⟨"com/example/kvasir/kvasir/tableau/Node", "placeOnAgenda", "(II)V"⟩ : MethodName)) hown (mvT hZ (hw _ (List.mem_of_getElem? (i := 58) rfl))) (mvT hZ (hw _ (List.mem_of_getElem? (i := 59) rfl))) (notFace_of_selects (args := #[]) (mvT hZ (hw _ (List.mem_of_getElem? (i := 61) rfl)))) (mvT hZ (hw _ (List.mem_of_getElem? (i := 61) rfl))) (mvT hZ (hw _ (List.mem_of_getElem? (i := 60) rfl))) (by decide) (backOf (W := 0) (rmP l Z a0 hw [] b3 c3 u3 (own_put [] p0 u1) T5.heap n0 O5 Ag5 (by show (1 : Nat) ≤ 2; decide)) hZ (hw _ (List.mem_of_getElem? (i := 62) rfl)) (hw _ (List.mem_of_getElem? (i := 3) rfl)) (by decide) (by decide)) q6a q6c (g := (mkF m 156 #[.val (.int p0), .val (.int p1), .val (.int p2), .val (.int p3), .val (.int p4), .val (.int p5), .val (.int u1), .val (.int u2), .val (.int u3), .val (.int vn), .val (.int (1 : Int32)), .val (.int c3), .val (.int sl), .val (.int q), .val (.ref b3), .unset] [(.int u3), (.int c3), (.ref b3)])) rfl (by rw [hml]; rfl) (Steps.refl _) (argsL := [(.int c3), (.int u3)]) (rest := []) (lenOf pd_5 rfl) rfl (by show 2 * 0 + _ ≤ _; exact Nat.le_of_eq rfl) (hb hby at_156) (fun _ _ => ⟨rfl, rfl, (by decide : 13 + 1 ≤ _), (by decide : 58 + 6 ≤ _)⟩)
  dsimp only [Pt.U, Pt.locs, Pt.cells, Pt.slots] at X6 l6 y6 z6 st6 hQ6
  subst l6 y6 z6
  obtain ⟨rfl, N6q, O6, Ag6⟩ := hQ6
  have N6 := Fr.app N5 N6q
  have fk7 : ∀ target, Steps p.tables e below (T6.setTop (mkF m 178 #[.val (.int p0), .val (.int p1), .val (.int p2), .val (.int p3), .val (.int p4), .val (.int p5), .val (.int u1), .val (.int u2), .val (.int u3), .val (.int vn), .val (.int (1 : Int32)), .val (.int c3), .val (.int sl), .val (.int q), .val (.ref b3), .val (.int ex1)] [])) target → Steps p.tables e below (T6.setTop (mkF m 162 #[.val (.int p0), .val (.int p1), .val (.int p2), .val (.int p3), .val (.int p4), .val (.int p5), .val (.int u1), .val (.int u2), .val (.int u3), .val (.int vn), .val (.int (1 : Int32)), .val (.int c3), .val (.int sl), .val (.int q), .val (.ref b3), .val (.int (-1 : Int32))] [])) target := by
    intro target kt
    rcases hx1 with ⟨z1, z2⟩ | ⟨z1, z2⟩
    · rw [z2] at kt
      show Steps p.tables e below (T6.setTop (mkF m 162 #[.val (.int p0), .val (.int p1), .val (.int p2), .val (.int p3), .val (.int p4), .val (.int p5), .val (.int u1), .val (.int u2), .val (.int u3), .val (.int vn), .val (.int (1 : Int32)), .val (.int c3), .val (.int sl), .val (.int q), .val (.ref b3), .val (.int (-1 : Int32))] [])) _
      refine XS.iload X6.here hx rfl (hb hby at_162) rfl ?_
      show Steps p.tables e below (T6.setTop (mkF m 164 #[.val (.int p0), .val (.int p1), .val (.int p2), .val (.int p3), .val (.int p4), .val (.int p5), .val (.int u1), .val (.int u2), .val (.int u3), .val (.int vn), .val (.int (1 : Int32)), .val (.int c3), .val (.int sl), .val (.int q), .val (.ref b3), .val (.int (-1 : Int32))] [(.int vn)])) _
      refine XS.iconst X6.here hx rfl (hb hby at_164) ?_
      show Steps p.tables e below (T6.setTop (mkF m 165 #[.val (.int p0), .val (.int p1), .val (.int p2), .val (.int p3), .val (.int p4), .val (.int p5), .val (.int u1), .val (.int u2), .val (.int u3), .val (.int vn), .val (.int (1 : Int32)), .val (.int c3), .val (.int sl), .val (.int q), .val (.ref b3), .val (.int (-1 : Int32))] [(.int (1 : Int32)), (.int vn)])) _
      refine XS.icmpNo X6.here hx rfl (hb hby at_165) rfl (flt hn1).1 ?_
      show Steps p.tables e below (T6.setTop (mkF m 168 #[.val (.int p0), .val (.int p1), .val (.int p2), .val (.int p3), .val (.int p4), .val (.int p5), .val (.int u1), .val (.int u2), .val (.int u3), .val (.int vn), .val (.int (1 : Int32)), .val (.int c3), .val (.int sl), .val (.int q), .val (.ref b3), .val (.int (-1 : Int32))] [])) _
      refine XS.iload X6.here hx rfl (hb hby at_168) rfl ?_
      show Steps p.tables e below (T6.setTop (mkF m 170 #[.val (.int p0), .val (.int p1), .val (.int p2), .val (.int p3), .val (.int p4), .val (.int p5), .val (.int u1), .val (.int u2), .val (.int u3), .val (.int vn), .val (.int (1 : Int32)), .val (.int c3), .val (.int sl), .val (.int q), .val (.ref b3), .val (.int (-1 : Int32))] [(.int q)])) _
      refine XS.iloadN X6.here hx rfl (hb hby at_170) rfl ?_
      show Steps p.tables e below (T6.setTop (mkF m 171 #[.val (.int p0), .val (.int p1), .val (.int p2), .val (.int p3), .val (.int p4), .val (.int p5), .val (.int u1), .val (.int u2), .val (.int u3), .val (.int vn), .val (.int (1 : Int32)), .val (.int c3), .val (.int sl), .val (.int q), .val (.ref b3), .val (.int (-1 : Int32))] [(.int p0), (.int q)])) _
      refine XS.icmpNo X6.here hx rfl (hb hby at_171) rfl (teq z1).2 ?_
      show Steps p.tables e below (T6.setTop (mkF m 174 #[.val (.int p0), .val (.int p1), .val (.int p2), .val (.int p3), .val (.int p4), .val (.int p5), .val (.int u1), .val (.int u2), .val (.int u3), .val (.int vn), .val (.int (1 : Int32)), .val (.int c3), .val (.int sl), .val (.int q), .val (.ref b3), .val (.int (-1 : Int32))] [])) _
      refine XS.iload X6.here hx rfl (hb hby at_174) rfl ?_
      show Steps p.tables e below (T6.setTop (mkF m 176 #[.val (.int p0), .val (.int p1), .val (.int p2), .val (.int p3), .val (.int p4), .val (.int p5), .val (.int u1), .val (.int u2), .val (.int u3), .val (.int vn), .val (.int (1 : Int32)), .val (.int c3), .val (.int sl), .val (.int q), .val (.ref b3), .val (.int (-1 : Int32))] [(.int u1)])) _
      refine XS.istore X6.here hx rfl (hb hby at_176) rfl (l' := #[.val (.int p0), .val (.int p1), .val (.int p2), .val (.int p3), .val (.int p4), .val (.int p5), .val (.int u1), .val (.int u2), .val (.int u3), .val (.int vn), .val (.int (1 : Int32)), .val (.int c3), .val (.int sl), .val (.int q), .val (.ref b3), .val (.int u1)]) rfl ?_
      show Steps p.tables e below (T6.setTop (mkF m 178 #[.val (.int p0), .val (.int p1), .val (.int p2), .val (.int p3), .val (.int p4), .val (.int p5), .val (.int u1), .val (.int u2), .val (.int u3), .val (.int vn), .val (.int (1 : Int32)), .val (.int c3), .val (.int sl), .val (.int q), .val (.ref b3), .val (.int u1)] [])) _
      exact kt
    · rw [z2] at kt
      show Steps p.tables e below (T6.setTop (mkF m 162 #[.val (.int p0), .val (.int p1), .val (.int p2), .val (.int p3), .val (.int p4), .val (.int p5), .val (.int u1), .val (.int u2), .val (.int u3), .val (.int vn), .val (.int (1 : Int32)), .val (.int c3), .val (.int sl), .val (.int q), .val (.ref b3), .val (.int (-1 : Int32))] [])) _
      refine XS.iload X6.here hx rfl (hb hby at_162) rfl ?_
      show Steps p.tables e below (T6.setTop (mkF m 164 #[.val (.int p0), .val (.int p1), .val (.int p2), .val (.int p3), .val (.int p4), .val (.int p5), .val (.int u1), .val (.int u2), .val (.int u3), .val (.int vn), .val (.int (1 : Int32)), .val (.int c3), .val (.int sl), .val (.int q), .val (.ref b3), .val (.int (-1 : Int32))] [(.int vn)])) _
      refine XS.iconst X6.here hx rfl (hb hby at_164) ?_
      show Steps p.tables e below (T6.setTop (mkF m 165 #[.val (.int p0), .val (.int p1), .val (.int p2), .val (.int p3), .val (.int p4), .val (.int p5), .val (.int u1), .val (.int u2), .val (.int u3), .val (.int vn), .val (.int (1 : Int32)), .val (.int c3), .val (.int sl), .val (.int q), .val (.ref b3), .val (.int (-1 : Int32))] [(.int (1 : Int32)), (.int vn)])) _
      refine XS.icmpNo X6.here hx rfl (hb hby at_165) rfl (flt hn1).1 ?_
      show Steps p.tables e below (T6.setTop (mkF m 168 #[.val (.int p0), .val (.int p1), .val (.int p2), .val (.int p3), .val (.int p4), .val (.int p5), .val (.int u1), .val (.int u2), .val (.int u3), .val (.int vn), .val (.int (1 : Int32)), .val (.int c3), .val (.int sl), .val (.int q), .val (.ref b3), .val (.int (-1 : Int32))] [])) _
      refine XS.iload X6.here hx rfl (hb hby at_168) rfl ?_
      show Steps p.tables e below (T6.setTop (mkF m 170 #[.val (.int p0), .val (.int p1), .val (.int p2), .val (.int p3), .val (.int p4), .val (.int p5), .val (.int u1), .val (.int u2), .val (.int u3), .val (.int vn), .val (.int (1 : Int32)), .val (.int c3), .val (.int sl), .val (.int q), .val (.ref b3), .val (.int (-1 : Int32))] [(.int q)])) _
      refine XS.iloadN X6.here hx rfl (hb hby at_170) rfl ?_
      show Steps p.tables e below (T6.setTop (mkF m 171 #[.val (.int p0), .val (.int p1), .val (.int p2), .val (.int p3), .val (.int p4), .val (.int p5), .val (.int u1), .val (.int u2), .val (.int u3), .val (.int vn), .val (.int (1 : Int32)), .val (.int c3), .val (.int sl), .val (.int q), .val (.ref b3), .val (.int (-1 : Int32))] [(.int p0), (.int q)])) _
      refine XS.icmpYes X6.here hx rfl (pc0 := 171) (pc' := 178) rfl (hb hby at_171) rfl (feq z1).2 (by decide) (by decide) ?_
      show Steps p.tables e below (T6.setTop (mkF m 178 #[.val (.int p0), .val (.int p1), .val (.int p2), .val (.int p3), .val (.int p4), .val (.int p5), .val (.int u1), .val (.int u2), .val (.int u3), .val (.int vn), .val (.int (1 : Int32)), .val (.int c3), .val (.int sl), .val (.int q), .val (.ref b3), .val (.int (-1 : Int32))] [])) _
      exact kt
  have fk8 : ∀ target, Steps p.tables e below (T6.setTop (mkF m 194 #[.val (.int p0), .val (.int p1), .val (.int p2), .val (.int p3), .val (.int p4), .val (.int p5), .val (.int u1), .val (.int u2), .val (.int u3), .val (.int vn), .val (.int (1 : Int32)), .val (.int c3), .val (.int sl), .val (.int q), .val (.ref b3), .val (.int ex2)] [])) target → Steps p.tables e below (T6.setTop (mkF m 178 #[.val (.int p0), .val (.int p1), .val (.int p2), .val (.int p3), .val (.int p4), .val (.int p5), .val (.int u1), .val (.int u2), .val (.int u3), .val (.int vn), .val (.int (1 : Int32)), .val (.int c3), .val (.int sl), .val (.int q), .val (.ref b3), .val (.int ex1)] [])) target := by
    intro target kt
    have z2 := hx2
    · rw [z2] at kt
      show Steps p.tables e below (T6.setTop (mkF m 178 #[.val (.int p0), .val (.int p1), .val (.int p2), .val (.int p3), .val (.int p4), .val (.int p5), .val (.int u1), .val (.int u2), .val (.int u3), .val (.int vn), .val (.int (1 : Int32)), .val (.int c3), .val (.int sl), .val (.int q), .val (.ref b3), .val (.int ex1)] [])) _
      refine XS.iload X6.here hx rfl (hb hby at_178) rfl ?_
      show Steps p.tables e below (T6.setTop (mkF m 180 #[.val (.int p0), .val (.int p1), .val (.int p2), .val (.int p3), .val (.int p4), .val (.int p5), .val (.int u1), .val (.int u2), .val (.int u3), .val (.int vn), .val (.int (1 : Int32)), .val (.int c3), .val (.int sl), .val (.int q), .val (.ref b3), .val (.int ex1)] [(.int vn)])) _
      refine XS.iconst X6.here hx rfl (hb hby at_180) ?_
      show Steps p.tables e below (T6.setTop (mkF m 181 #[.val (.int p0), .val (.int p1), .val (.int p2), .val (.int p3), .val (.int p4), .val (.int p5), .val (.int u1), .val (.int u2), .val (.int u3), .val (.int vn), .val (.int (1 : Int32)), .val (.int c3), .val (.int sl), .val (.int q), .val (.ref b3), .val (.int ex1)] [(.int (2 : Int32)), (.int vn)])) _
      refine XS.icmpYes X6.here hx rfl (pc0 := 181) (pc' := 194) rfl (hb hby at_181) rfl (tlt hn2).1 (by decide) (by decide) ?_
      show Steps p.tables e below (T6.setTop (mkF m 194 #[.val (.int p0), .val (.int p1), .val (.int p2), .val (.int p3), .val (.int p4), .val (.int p5), .val (.int u1), .val (.int u2), .val (.int u3), .val (.int vn), .val (.int (1 : Int32)), .val (.int c3), .val (.int sl), .val (.int q), .val (.ref b3), .val (.int ex1)] [])) _
      exact kt
  have fk9 : ∀ target, Steps p.tables e below (T6.setTop (mkF m 210 #[.val (.int p0), .val (.int p1), .val (.int p2), .val (.int p3), .val (.int p4), .val (.int p5), .val (.int u1), .val (.int u2), .val (.int u3), .val (.int vn), .val (.int (1 : Int32)), .val (.int c3), .val (.int sl), .val (.int q), .val (.ref b3), .val (.int ex3)] [])) target → Steps p.tables e below (T6.setTop (mkF m 194 #[.val (.int p0), .val (.int p1), .val (.int p2), .val (.int p3), .val (.int p4), .val (.int p5), .val (.int u1), .val (.int u2), .val (.int u3), .val (.int vn), .val (.int (1 : Int32)), .val (.int c3), .val (.int sl), .val (.int q), .val (.ref b3), .val (.int ex2)] [])) target := by
    intro target kt
    rcases hx3 with ⟨z1, z2⟩ | ⟨z1, z2⟩
    · rw [z2] at kt
      show Steps p.tables e below (T6.setTop (mkF m 194 #[.val (.int p0), .val (.int p1), .val (.int p2), .val (.int p3), .val (.int p4), .val (.int p5), .val (.int u1), .val (.int u2), .val (.int u3), .val (.int vn), .val (.int (1 : Int32)), .val (.int c3), .val (.int sl), .val (.int q), .val (.ref b3), .val (.int ex2)] [])) _
      refine XS.iload X6.here hx rfl (hb hby at_194) rfl ?_
      show Steps p.tables e below (T6.setTop (mkF m 196 #[.val (.int p0), .val (.int p1), .val (.int p2), .val (.int p3), .val (.int p4), .val (.int p5), .val (.int u1), .val (.int u2), .val (.int u3), .val (.int vn), .val (.int (1 : Int32)), .val (.int c3), .val (.int sl), .val (.int q), .val (.ref b3), .val (.int ex2)] [(.int (1 : Int32))])) _
      refine XS.ifNo X6.here hx rfl (hb hby at_196) rfl ((if0 _ _).trans (feq (by decide : ¬ ((1 : Int32) = (0 : Int32)))).1) ?_
      show Steps p.tables e below (T6.setTop (mkF m 199 #[.val (.int p0), .val (.int p1), .val (.int p2), .val (.int p3), .val (.int p4), .val (.int p5), .val (.int u1), .val (.int u2), .val (.int u3), .val (.int vn), .val (.int (1 : Int32)), .val (.int c3), .val (.int sl), .val (.int q), .val (.ref b3), .val (.int ex2)] [])) _
      refine XS.iload X6.here hx rfl (hb hby at_199) rfl ?_
      show Steps p.tables e below (T6.setTop (mkF m 201 #[.val (.int p0), .val (.int p1), .val (.int p2), .val (.int p3), .val (.int p4), .val (.int p5), .val (.int u1), .val (.int u2), .val (.int u3), .val (.int vn), .val (.int (1 : Int32)), .val (.int c3), .val (.int sl), .val (.int q), .val (.ref b3), .val (.int ex2)] [(.int q)])) _
      refine XS.iload X6.here hx rfl (hb hby at_201) rfl ?_
      show Steps p.tables e below (T6.setTop (mkF m 203 #[.val (.int p0), .val (.int p1), .val (.int p2), .val (.int p3), .val (.int p4), .val (.int p5), .val (.int u1), .val (.int u2), .val (.int u3), .val (.int vn), .val (.int (1 : Int32)), .val (.int c3), .val (.int sl), .val (.int q), .val (.ref b3), .val (.int ex2)] [(.int c3), (.int q)])) _
      refine XS.icmpNo X6.here hx rfl (hb hby at_203) rfl (teq z1).2 ?_
      show Steps p.tables e below (T6.setTop (mkF m 206 #[.val (.int p0), .val (.int p1), .val (.int p2), .val (.int p3), .val (.int p4), .val (.int p5), .val (.int u1), .val (.int u2), .val (.int u3), .val (.int vn), .val (.int (1 : Int32)), .val (.int c3), .val (.int sl), .val (.int q), .val (.ref b3), .val (.int ex2)] [])) _
      refine XS.iload X6.here hx rfl (hb hby at_206) rfl ?_
      show Steps p.tables e below (T6.setTop (mkF m 208 #[.val (.int p0), .val (.int p1), .val (.int p2), .val (.int p3), .val (.int p4), .val (.int p5), .val (.int u1), .val (.int u2), .val (.int u3), .val (.int vn), .val (.int (1 : Int32)), .val (.int c3), .val (.int sl), .val (.int q), .val (.ref b3), .val (.int ex2)] [(.int u3)])) _
      refine XS.istore X6.here hx rfl (hb hby at_208) rfl (l' := #[.val (.int p0), .val (.int p1), .val (.int p2), .val (.int p3), .val (.int p4), .val (.int p5), .val (.int u1), .val (.int u2), .val (.int u3), .val (.int vn), .val (.int (1 : Int32)), .val (.int c3), .val (.int sl), .val (.int q), .val (.ref b3), .val (.int u3)]) rfl ?_
      show Steps p.tables e below (T6.setTop (mkF m 210 #[.val (.int p0), .val (.int p1), .val (.int p2), .val (.int p3), .val (.int p4), .val (.int p5), .val (.int u1), .val (.int u2), .val (.int u3), .val (.int vn), .val (.int (1 : Int32)), .val (.int c3), .val (.int sl), .val (.int q), .val (.ref b3), .val (.int u3)] [])) _
      exact kt
    · rw [z2] at kt
      show Steps p.tables e below (T6.setTop (mkF m 194 #[.val (.int p0), .val (.int p1), .val (.int p2), .val (.int p3), .val (.int p4), .val (.int p5), .val (.int u1), .val (.int u2), .val (.int u3), .val (.int vn), .val (.int (1 : Int32)), .val (.int c3), .val (.int sl), .val (.int q), .val (.ref b3), .val (.int ex2)] [])) _
      refine XS.iload X6.here hx rfl (hb hby at_194) rfl ?_
      show Steps p.tables e below (T6.setTop (mkF m 196 #[.val (.int p0), .val (.int p1), .val (.int p2), .val (.int p3), .val (.int p4), .val (.int p5), .val (.int u1), .val (.int u2), .val (.int u3), .val (.int vn), .val (.int (1 : Int32)), .val (.int c3), .val (.int sl), .val (.int q), .val (.ref b3), .val (.int ex2)] [(.int (1 : Int32))])) _
      refine XS.ifNo X6.here hx rfl (hb hby at_196) rfl ((if0 _ _).trans (feq (by decide : ¬ ((1 : Int32) = (0 : Int32)))).1) ?_
      show Steps p.tables e below (T6.setTop (mkF m 199 #[.val (.int p0), .val (.int p1), .val (.int p2), .val (.int p3), .val (.int p4), .val (.int p5), .val (.int u1), .val (.int u2), .val (.int u3), .val (.int vn), .val (.int (1 : Int32)), .val (.int c3), .val (.int sl), .val (.int q), .val (.ref b3), .val (.int ex2)] [])) _
      refine XS.iload X6.here hx rfl (hb hby at_199) rfl ?_
      show Steps p.tables e below (T6.setTop (mkF m 201 #[.val (.int p0), .val (.int p1), .val (.int p2), .val (.int p3), .val (.int p4), .val (.int p5), .val (.int u1), .val (.int u2), .val (.int u3), .val (.int vn), .val (.int (1 : Int32)), .val (.int c3), .val (.int sl), .val (.int q), .val (.ref b3), .val (.int ex2)] [(.int q)])) _
      refine XS.iload X6.here hx rfl (hb hby at_201) rfl ?_
      show Steps p.tables e below (T6.setTop (mkF m 203 #[.val (.int p0), .val (.int p1), .val (.int p2), .val (.int p3), .val (.int p4), .val (.int p5), .val (.int u1), .val (.int u2), .val (.int u3), .val (.int vn), .val (.int (1 : Int32)), .val (.int c3), .val (.int sl), .val (.int q), .val (.ref b3), .val (.int ex2)] [(.int c3), (.int q)])) _
      refine XS.icmpYes X6.here hx rfl (pc0 := 203) (pc' := 210) rfl (hb hby at_203) rfl (feq z1).2 (by decide) (by decide) ?_
      show Steps p.tables e below (T6.setTop (mkF m 210 #[.val (.int p0), .val (.int p1), .val (.int p2), .val (.int p3), .val (.int p4), .val (.int p5), .val (.int u1), .val (.int u2), .val (.int u3), .val (.int vn), .val (.int (1 : Int32)), .val (.int c3), .val (.int sl), .val (.int q), .val (.ref b3), .val (.int ex2)] [])) _
      exact kt
  have hget : own_get (own_put (own_put [] p0 u1) c3 u3) q = ex3 := by
    simp only [own_get_put]
    exact own_exp_D p0 p1 c3 q u1 u2 u3 ex1 ex2 ex3 hx1 hx2 hx3
  obtain ⟨cq10, kq10, q10a, q10b, q10c⟩ := isOf hZ rfl Ag6.1
  obtain ⟨_, _, ⟨T10, L10, k10, n10⟩, -, X10, ⟨Lc10, hQ10, l10, y10, z10⟩, st10⟩ := X6.virtualBack hx (y := (⟨"com/example/kvasir/kvasir/tableau/Node", "agendaPlace", "(I)I"⟩ : MethodName)) (z := (⟨"com/example/kvasir/kvasir/tableau/Node", "agendaPlace", "(I)I"⟩ : MethodName)) hown (mvT hZ (hw _ (List.mem_of_getElem? (i := 75) rfl))) (mvT hZ (hw _ (List.mem_of_getElem? (i := 76) rfl))) (notFace_of_selects (args := #[]) (mvT hZ (hw _ (List.mem_of_getElem? (i := 78) rfl)))) (mvT hZ (hw _ (List.mem_of_getElem? (i := 78) rfl))) (mvT hZ (hw _ (List.mem_of_getElem? (i := 77) rfl))) (by decide) (backOf (W := 0) (rmG l Z a0 hw [] b3 q (own_put (own_put [] p0 u1) c3 u3) T6.heap n0 O6 Ag6 (Nat.le_trans (own_len_put _ _ _) (Nat.succ_le_succ (Nat.le_trans (own_len_put _ _ _) (by decide)))) (own_nn_put _ _ _ (own_nn_put _ _ _ trivial (hu1 ▸ own_mask_nn _)) (hu3 ▸ own_mask_nn _))) hZ (hw _ (List.mem_of_getElem? (i := 79) rfl)) (hw _ (List.mem_of_getElem? (i := 3) rfl)) (by decide) (by decide)) q10a q10c (g := (mkF m 214 #[.val (.int p0), .val (.int p1), .val (.int p2), .val (.int p3), .val (.int p4), .val (.int p5), .val (.int u1), .val (.int u2), .val (.int u3), .val (.int vn), .val (.int (1 : Int32)), .val (.int c3), .val (.int sl), .val (.int q), .val (.ref b3), .val (.int ex3)] [(.int q), (.ref b3)])) rfl (by rw [hml]; rfl) (Steps.refl _) (argsL := [(.int q)]) (rest := []) (lenOf pd_4 rfl) rfl (by show 2 * 0 + _ ≤ _; exact Nat.le_of_eq rfl) (hb hby at_214) (fun _ _ => ⟨rfl, rfl, (by decide : 14 + 0 ≤ _), (by decide : 64 + 0 ≤ _)⟩)
  dsimp only [Pt.U, Pt.locs, Pt.cells, Pt.slots] at X10 l10 y10 z10 st10 hQ10
  subst l10 y10 z10
  obtain ⟨rfl, N10q, e10⟩ := hQ10
  have N10 := Fr.app N6 N10q
  obtain ⟨fs, hr, hrun, hended, hW, hsame⟩ := X10.leave (v := some (.int (1 : Int32))) (fun h => by rw [Bd.returns] at h; cases h)
  refine ⟨_, _, pre0 _ ?_, hrun, hended, _, _, rfl, ?_, ⟨_, rfl⟩, hW, hsame.mono (by decide) (by decide)⟩
  · show Steps p.tables e below (s₁.setTop (mkF m 0 #[.val (.int p0), .val (.int p1), .val (.int p2), .val (.int p3), .val (.int p4), .val (.int p5), .unset, .unset, .unset, .unset, .unset, .unset, .unset, .unset, .unset, .unset] [])) _
    refine XS.iloadN X0.here hx rfl (hb hby at_0) rfl ?_
    show Steps p.tables e below (s₁.setTop (mkF m 1 #[.val (.int p0), .val (.int p1), .val (.int p2), .val (.int p3), .val (.int p4), .val (.int p5), .unset, .unset, .unset, .unset, .unset, .unset, .unset, .unset, .unset, .unset] [(.int p2)])) _
    refine X0.ldcInt hx hown (mvT hZ (hw _ (List.mem_of_getElem? (i := 0) rfl))) (g := (mkF m 1 #[.val (.int p0), .val (.int p1), .val (.int p2), .val (.int p3), .val (.int p4), .val (.int p5), .unset, .unset, .unset, .unset, .unset, .unset, .unset, .unset, .unset, .unset] [(.int p2)])) rfl (hb hby at_1) _ ?_
    show Steps p.tables e below (s₁.setTop (mkF m 3 #[.val (.int p0), .val (.int p1), .val (.int p2), .val (.int p3), .val (.int p4), .val (.int p5), .unset, .unset, .unset, .unset, .unset, .unset, .unset, .unset, .unset, .unset] [(.int (2147483647 : Int32)), (.int p2)])) _
    refine XS.iand X0.here hx rfl (hb hby at_3) rfl ?_
    show Steps p.tables e below (s₁.setTop (mkF m 4 #[.val (.int p0), .val (.int p1), .val (.int p2), .val (.int p3), .val (.int p4), .val (.int p5), .unset, .unset, .unset, .unset, .unset, .unset, .unset, .unset, .unset, .unset] [(.int (p2 &&& (2147483647 : Int32)))])) _
    rw [hu1]
    show Steps p.tables e below (s₁.setTop (mkF m 4 #[.val (.int p0), .val (.int p1), .val (.int p2), .val (.int p3), .val (.int p4), .val (.int p5), .unset, .unset, .unset, .unset, .unset, .unset, .unset, .unset, .unset, .unset] [(.int u1)])) _
    refine XS.istore X0.here hx rfl (hb hby at_4) rfl (l' := #[.val (.int p0), .val (.int p1), .val (.int p2), .val (.int p3), .val (.int p4), .val (.int p5), .val (.int u1), .unset, .unset, .unset, .unset, .unset, .unset, .unset, .unset, .unset]) rfl ?_
    show Steps p.tables e below (s₁.setTop (mkF m 6 #[.val (.int p0), .val (.int p1), .val (.int p2), .val (.int p3), .val (.int p4), .val (.int p5), .val (.int u1), .unset, .unset, .unset, .unset, .unset, .unset, .unset, .unset, .unset] [])) _
    refine XS.iloadN X0.here hx rfl (hb hby at_6) rfl ?_
    show Steps p.tables e below (s₁.setTop (mkF m 7 #[.val (.int p0), .val (.int p1), .val (.int p2), .val (.int p3), .val (.int p4), .val (.int p5), .val (.int u1), .unset, .unset, .unset, .unset, .unset, .unset, .unset, .unset, .unset] [(.int p3)])) _
    refine X0.ldcInt hx hown (mvT hZ (hw _ (List.mem_of_getElem? (i := 0) rfl))) (g := (mkF m 7 #[.val (.int p0), .val (.int p1), .val (.int p2), .val (.int p3), .val (.int p4), .val (.int p5), .val (.int u1), .unset, .unset, .unset, .unset, .unset, .unset, .unset, .unset, .unset] [(.int p3)])) rfl (hb hby at_7) _ ?_
    show Steps p.tables e below (s₁.setTop (mkF m 9 #[.val (.int p0), .val (.int p1), .val (.int p2), .val (.int p3), .val (.int p4), .val (.int p5), .val (.int u1), .unset, .unset, .unset, .unset, .unset, .unset, .unset, .unset, .unset] [(.int (2147483647 : Int32)), (.int p3)])) _
    refine XS.iand X0.here hx rfl (hb hby at_9) rfl ?_
    show Steps p.tables e below (s₁.setTop (mkF m 10 #[.val (.int p0), .val (.int p1), .val (.int p2), .val (.int p3), .val (.int p4), .val (.int p5), .val (.int u1), .unset, .unset, .unset, .unset, .unset, .unset, .unset, .unset, .unset] [(.int (p3 &&& (2147483647 : Int32)))])) _
    rw [hu2]
    show Steps p.tables e below (s₁.setTop (mkF m 10 #[.val (.int p0), .val (.int p1), .val (.int p2), .val (.int p3), .val (.int p4), .val (.int p5), .val (.int u1), .unset, .unset, .unset, .unset, .unset, .unset, .unset, .unset, .unset] [(.int u2)])) _
    refine XS.istore X0.here hx rfl (hb hby at_10) rfl (l' := #[.val (.int p0), .val (.int p1), .val (.int p2), .val (.int p3), .val (.int p4), .val (.int p5), .val (.int u1), .val (.int u2), .unset, .unset, .unset, .unset, .unset, .unset, .unset, .unset]) rfl ?_
    show Steps p.tables e below (s₁.setTop (mkF m 12 #[.val (.int p0), .val (.int p1), .val (.int p2), .val (.int p3), .val (.int p4), .val (.int p5), .val (.int u1), .val (.int u2), .unset, .unset, .unset, .unset, .unset, .unset, .unset, .unset] [])) _
    refine XS.iload X0.here hx rfl (hb hby at_12) rfl ?_
    show Steps p.tables e below (s₁.setTop (mkF m 14 #[.val (.int p0), .val (.int p1), .val (.int p2), .val (.int p3), .val (.int p4), .val (.int p5), .val (.int u1), .val (.int u2), .unset, .unset, .unset, .unset, .unset, .unset, .unset, .unset] [(.int p4)])) _
    refine X0.ldcInt hx hown (mvT hZ (hw _ (List.mem_of_getElem? (i := 0) rfl))) (g := (mkF m 14 #[.val (.int p0), .val (.int p1), .val (.int p2), .val (.int p3), .val (.int p4), .val (.int p5), .val (.int u1), .val (.int u2), .unset, .unset, .unset, .unset, .unset, .unset, .unset, .unset] [(.int p4)])) rfl (hb hby at_14) _ ?_
    show Steps p.tables e below (s₁.setTop (mkF m 16 #[.val (.int p0), .val (.int p1), .val (.int p2), .val (.int p3), .val (.int p4), .val (.int p5), .val (.int u1), .val (.int u2), .unset, .unset, .unset, .unset, .unset, .unset, .unset, .unset] [(.int (2147483647 : Int32)), (.int p4)])) _
    refine XS.iand X0.here hx rfl (hb hby at_16) rfl ?_
    show Steps p.tables e below (s₁.setTop (mkF m 17 #[.val (.int p0), .val (.int p1), .val (.int p2), .val (.int p3), .val (.int p4), .val (.int p5), .val (.int u1), .val (.int u2), .unset, .unset, .unset, .unset, .unset, .unset, .unset, .unset] [(.int (p4 &&& (2147483647 : Int32)))])) _
    rw [hu3]
    show Steps p.tables e below (s₁.setTop (mkF m 17 #[.val (.int p0), .val (.int p1), .val (.int p2), .val (.int p3), .val (.int p4), .val (.int p5), .val (.int u1), .val (.int u2), .unset, .unset, .unset, .unset, .unset, .unset, .unset, .unset] [(.int u3)])) _
    refine XS.istore X0.here hx rfl (hb hby at_17) rfl (l' := #[.val (.int p0), .val (.int p1), .val (.int p2), .val (.int p3), .val (.int p4), .val (.int p5), .val (.int u1), .val (.int u2), .val (.int u3), .unset, .unset, .unset, .unset, .unset, .unset, .unset]) rfl ?_
    show Steps p.tables e below (s₁.setTop (mkF m 19 #[.val (.int p0), .val (.int p1), .val (.int p2), .val (.int p3), .val (.int p4), .val (.int p5), .val (.int u1), .val (.int u2), .val (.int u3), .unset, .unset, .unset, .unset, .unset, .unset, .unset] [])) _
    refine XS.iload X0.here hx rfl (hb hby at_19) rfl ?_
    show Steps p.tables e below (s₁.setTop (mkF m 21 #[.val (.int p0), .val (.int p1), .val (.int p2), .val (.int p3), .val (.int p4), .val (.int p5), .val (.int u1), .val (.int u2), .val (.int u3), .unset, .unset, .unset, .unset, .unset, .unset, .unset] [(.int p5)])) _
    refine XS.iconst X0.here hx rfl (hb hby at_21) ?_
    show Steps p.tables e below (s₁.setTop (mkF m 22 #[.val (.int p0), .val (.int p1), .val (.int p2), .val (.int p3), .val (.int p4), .val (.int p5), .val (.int u1), .val (.int u2), .val (.int u3), .unset, .unset, .unset, .unset, .unset, .unset, .unset] [(.int (4 : Int32)), (.int p5)])) _
    refine XS.iushr X0.here hx rfl (hb hby at_22) rfl ?_
    show Steps p.tables e below (s₁.setTop (mkF m 23 #[.val (.int p0), .val (.int p1), .val (.int p2), .val (.int p3), .val (.int p4), .val (.int p5), .val (.int u1), .val (.int u2), .val (.int u3), .unset, .unset, .unset, .unset, .unset, .unset, .unset] [(.int ((p5.toUInt32 >>> ((4 : Int32) &&& 31).toUInt32).toInt32))])) _
    refine XS.iconst X0.here hx rfl (hb hby at_23) ?_
    show Steps p.tables e below (s₁.setTop (mkF m 24 #[.val (.int p0), .val (.int p1), .val (.int p2), .val (.int p3), .val (.int p4), .val (.int p5), .val (.int u1), .val (.int u2), .val (.int u3), .unset, .unset, .unset, .unset, .unset, .unset, .unset] [(.int (3 : Int32)), (.int ((p5.toUInt32 >>> ((4 : Int32) &&& 31).toUInt32).toInt32))])) _
    refine XS.iand X0.here hx rfl (hb hby at_24) rfl ?_
    show Steps p.tables e below (s₁.setTop (mkF m 25 #[.val (.int p0), .val (.int p1), .val (.int p2), .val (.int p3), .val (.int p4), .val (.int p5), .val (.int u1), .val (.int u2), .val (.int u3), .unset, .unset, .unset, .unset, .unset, .unset, .unset] [(.int (((p5.toUInt32 >>> ((4 : Int32) &&& 31).toUInt32).toInt32) &&& (3 : Int32)))])) _
    rw [hvn]
    show Steps p.tables e below (s₁.setTop (mkF m 25 #[.val (.int p0), .val (.int p1), .val (.int p2), .val (.int p3), .val (.int p4), .val (.int p5), .val (.int u1), .val (.int u2), .val (.int u3), .unset, .unset, .unset, .unset, .unset, .unset, .unset] [(.int vn)])) _
    refine XS.istore X0.here hx rfl (hb hby at_25) rfl (l' := #[.val (.int p0), .val (.int p1), .val (.int p2), .val (.int p3), .val (.int p4), .val (.int p5), .val (.int u1), .val (.int u2), .val (.int u3), .val (.int vn), .unset, .unset, .unset, .unset, .unset, .unset]) rfl ?_
    show Steps p.tables e below (s₁.setTop (mkF m 27 #[.val (.int p0), .val (.int p1), .val (.int p2), .val (.int p3), .val (.int p4), .val (.int p5), .val (.int u1), .val (.int u2), .val (.int u3), .val (.int vn), .unset, .unset, .unset, .unset, .unset, .unset] [])) _
    refine XS.iload X0.here hx rfl (hb hby at_27) rfl ?_
    show Steps p.tables e below (s₁.setTop (mkF m 29 #[.val (.int p0), .val (.int p1), .val (.int p2), .val (.int p3), .val (.int p4), .val (.int p5), .val (.int u1), .val (.int u2), .val (.int u3), .val (.int vn), .unset, .unset, .unset, .unset, .unset, .unset] [(.int p5)])) _
    refine XS.iconst X0.here hx rfl (hb hby at_29) ?_
    show Steps p.tables e below (s₁.setTop (mkF m 30 #[.val (.int p0), .val (.int p1), .val (.int p2), .val (.int p3), .val (.int p4), .val (.int p5), .val (.int u1), .val (.int u2), .val (.int u3), .val (.int vn), .unset, .unset, .unset, .unset, .unset, .unset] [(.int (1 : Int32)), (.int p5)])) _
    refine XS.iand X0.here hx rfl (hb hby at_30) rfl ?_
    show Steps p.tables e below (s₁.setTop (mkF m 31 #[.val (.int p0), .val (.int p1), .val (.int p2), .val (.int p3), .val (.int p4), .val (.int p5), .val (.int u1), .val (.int u2), .val (.int u3), .val (.int vn), .unset, .unset, .unset, .unset, .unset, .unset] [(.int (p5 &&& (1 : Int32)))])) _
    refine XS.ifNo X0.here hx rfl (hb hby at_31) rfl ((if0 _ _).trans (feq hn3).1) ?_
    show Steps p.tables e below (s₁.setTop (mkF m 34 #[.val (.int p0), .val (.int p1), .val (.int p2), .val (.int p3), .val (.int p4), .val (.int p5), .val (.int u1), .val (.int u2), .val (.int u3), .val (.int vn), .unset, .unset, .unset, .unset, .unset, .unset] [])) _
    refine XS.iconst X0.here hx rfl (hb hby at_34) ?_
    show Steps p.tables e below (s₁.setTop (mkF m 35 #[.val (.int p0), .val (.int p1), .val (.int p2), .val (.int p3), .val (.int p4), .val (.int p5), .val (.int u1), .val (.int u2), .val (.int u3), .val (.int vn), .unset, .unset, .unset, .unset, .unset, .unset] [(.int (1 : Int32))])) _
    refine XS.goto X0.here hx rfl (pc0 := 35) (pc' := 39) rfl (hb hby at_35) (by decide) (by decide) ?_
    show Steps p.tables e below (s₁.setTop (mkF m 39 #[.val (.int p0), .val (.int p1), .val (.int p2), .val (.int p3), .val (.int p4), .val (.int p5), .val (.int u1), .val (.int u2), .val (.int u3), .val (.int vn), .unset, .unset, .unset, .unset, .unset, .unset] [(.int (1 : Int32))])) _
    refine XS.istore X0.here hx rfl (hb hby at_39) rfl (l' := #[.val (.int p0), .val (.int p1), .val (.int p2), .val (.int p3), .val (.int p4), .val (.int p5), .val (.int u1), .val (.int u2), .val (.int u3), .val (.int vn), .val (.int (1 : Int32)), .unset, .unset, .unset, .unset, .unset]) rfl ?_
    show Steps p.tables e below (s₁.setTop (mkF m 41 #[.val (.int p0), .val (.int p1), .val (.int p2), .val (.int p3), .val (.int p4), .val (.int p5), .val (.int u1), .val (.int u2), .val (.int u3), .val (.int vn), .val (.int (1 : Int32)), .unset, .unset, .unset, .unset, .unset] [])) _
    refine fk1 _ ?_
    show Steps p.tables e below (s₁.setTop (mkF m 53 #[.val (.int p0), .val (.int p1), .val (.int p2), .val (.int p3), .val (.int p4), .val (.int p5), .val (.int u1), .val (.int u2), .val (.int u3), .val (.int vn), .val (.int (1 : Int32)), .unset, .unset, .unset, .unset, .unset] [(.int c3)])) _
    refine XS.istore X0.here hx rfl (hb hby at_53) rfl (l' := #[.val (.int p0), .val (.int p1), .val (.int p2), .val (.int p3), .val (.int p4), .val (.int p5), .val (.int u1), .val (.int u2), .val (.int u3), .val (.int vn), .val (.int (1 : Int32)), .val (.int c3), .unset, .unset, .unset, .unset]) rfl ?_
    show Steps p.tables e below (s₁.setTop (mkF m 55 #[.val (.int p0), .val (.int p1), .val (.int p2), .val (.int p3), .val (.int p4), .val (.int p5), .val (.int u1), .val (.int u2), .val (.int u3), .val (.int vn), .val (.int (1 : Int32)), .val (.int c3), .unset, .unset, .unset, .unset] [])) _
    refine XS.iload X0.here hx rfl (hb hby at_55) rfl ?_
    show Steps p.tables e below (s₁.setTop (mkF m 57 #[.val (.int p0), .val (.int p1), .val (.int p2), .val (.int p3), .val (.int p4), .val (.int p5), .val (.int u1), .val (.int u2), .val (.int u3), .val (.int vn), .val (.int (1 : Int32)), .val (.int c3), .unset, .unset, .unset, .unset] [(.int p5)])) _
    refine XS.iconst X0.here hx rfl (hb hby at_57) ?_
    show Steps p.tables e below (s₁.setTop (mkF m 58 #[.val (.int p0), .val (.int p1), .val (.int p2), .val (.int p3), .val (.int p4), .val (.int p5), .val (.int u1), .val (.int u2), .val (.int u3), .val (.int vn), .val (.int (1 : Int32)), .val (.int c3), .unset, .unset, .unset, .unset] [(.int (2 : Int32)), (.int p5)])) _
    refine XS.iushr X0.here hx rfl (hb hby at_58) rfl ?_
    show Steps p.tables e below (s₁.setTop (mkF m 59 #[.val (.int p0), .val (.int p1), .val (.int p2), .val (.int p3), .val (.int p4), .val (.int p5), .val (.int u1), .val (.int u2), .val (.int u3), .val (.int vn), .val (.int (1 : Int32)), .val (.int c3), .unset, .unset, .unset, .unset] [(.int ((p5.toUInt32 >>> ((2 : Int32) &&& 31).toUInt32).toInt32))])) _
    refine XS.iconst X0.here hx rfl (hb hby at_59) ?_
    show Steps p.tables e below (s₁.setTop (mkF m 60 #[.val (.int p0), .val (.int p1), .val (.int p2), .val (.int p3), .val (.int p4), .val (.int p5), .val (.int u1), .val (.int u2), .val (.int u3), .val (.int vn), .val (.int (1 : Int32)), .val (.int c3), .unset, .unset, .unset, .unset] [(.int (3 : Int32)), (.int ((p5.toUInt32 >>> ((2 : Int32) &&& 31).toUInt32).toInt32))])) _
    refine XS.iand X0.here hx rfl (hb hby at_60) rfl ?_
    show Steps p.tables e below (s₁.setTop (mkF m 61 #[.val (.int p0), .val (.int p1), .val (.int p2), .val (.int p3), .val (.int p4), .val (.int p5), .val (.int u1), .val (.int u2), .val (.int u3), .val (.int vn), .val (.int (1 : Int32)), .val (.int c3), .unset, .unset, .unset, .unset] [(.int (((p5.toUInt32 >>> ((2 : Int32) &&& 31).toUInt32).toInt32) &&& (3 : Int32)))])) _
    rw [hsl]
    show Steps p.tables e below (s₁.setTop (mkF m 61 #[.val (.int p0), .val (.int p1), .val (.int p2), .val (.int p3), .val (.int p4), .val (.int p5), .val (.int u1), .val (.int u2), .val (.int u3), .val (.int vn), .val (.int (1 : Int32)), .val (.int c3), .unset, .unset, .unset, .unset] [(.int sl)])) _
    refine XS.istore X0.here hx rfl (hb hby at_61) rfl (l' := #[.val (.int p0), .val (.int p1), .val (.int p2), .val (.int p3), .val (.int p4), .val (.int p5), .val (.int u1), .val (.int u2), .val (.int u3), .val (.int vn), .val (.int (1 : Int32)), .val (.int c3), .val (.int sl), .unset, .unset, .unset]) rfl ?_
    show Steps p.tables e below (s₁.setTop (mkF m 63 #[.val (.int p0), .val (.int p1), .val (.int p2), .val (.int p3), .val (.int p4), .val (.int p5), .val (.int u1), .val (.int u2), .val (.int u3), .val (.int vn), .val (.int (1 : Int32)), .val (.int c3), .val (.int sl), .unset, .unset, .unset] [])) _
    refine fk2 _ ?_
    show Steps p.tables e below (s₁.setTop (mkF m 104 #[.val (.int p0), .val (.int p1), .val (.int p2), .val (.int p3), .val (.int p4), .val (.int p5), .val (.int u1), .val (.int u2), .val (.int u3), .val (.int vn), .val (.int (1 : Int32)), .val (.int c3), .val (.int sl), .val (.int q), .unset, .unset] [])) _
    refine st3 _ ?_
    show Steps p.tables e below (T3.setTop (mkF m 107 #[.val (.int p0), .val (.int p1), .val (.int p2), .val (.int p3), .val (.int p4), .val (.int p5), .val (.int u1), .val (.int u2), .val (.int u3), .val (.int vn), .val (.int (1 : Int32)), .val (.int c3), .val (.int sl), .val (.int q), .unset, .unset] [(.ref b3)])) _
    refine XS.dup X3.here hx rfl (hb hby at_107) rfl rfl ?_
    show Steps p.tables e below (T3.setTop (mkF m 108 #[.val (.int p0), .val (.int p1), .val (.int p2), .val (.int p3), .val (.int p4), .val (.int p5), .val (.int u1), .val (.int u2), .val (.int u3), .val (.int vn), .val (.int (1 : Int32)), .val (.int c3), .val (.int sl), .val (.int q), .unset, .unset] [(.ref b3), (.ref b3)])) _
    refine XS.iconst X3.here hx rfl (hb hby at_108) ?_
    show Steps p.tables e below (T3.setTop (mkF m 109 #[.val (.int p0), .val (.int p1), .val (.int p2), .val (.int p3), .val (.int p4), .val (.int p5), .val (.int u1), .val (.int u2), .val (.int u3), .val (.int vn), .val (.int (1 : Int32)), .val (.int c3), .val (.int sl), .val (.int q), .unset, .unset] [(.int (0 : Int32)), (.ref b3), (.ref b3)])) _
    refine XS.bipush X3.here hx rfl (hb hby at_109) ?_
    show Steps p.tables e below (T3.setTop (mkF m 111 #[.val (.int p0), .val (.int p1), .val (.int p2), .val (.int p3), .val (.int p4), .val (.int p5), .val (.int u1), .val (.int u2), .val (.int u3), .val (.int vn), .val (.int (1 : Int32)), .val (.int c3), .val (.int sl), .val (.int q), .unset, .unset] [(.int (64 : Int32)), (.int (0 : Int32)), (.ref b3), (.ref b3)])) _
    refine XS.iconst X3.here hx rfl (hb hby at_111) ?_
    show Steps p.tables e below (T3.setTop (mkF m 112 #[.val (.int p0), .val (.int p1), .val (.int p2), .val (.int p3), .val (.int p4), .val (.int p5), .val (.int u1), .val (.int u2), .val (.int u3), .val (.int vn), .val (.int (1 : Int32)), .val (.int c3), .val (.int sl), .val (.int q), .unset, .unset] [(.int (0 : Int32)), (.int (64 : Int32)), (.int (0 : Int32)), (.ref b3), (.ref b3)])) _
    refine st4.trans ?_
    show Steps p.tables e below (T4.setTop (mkF m 115 #[.val (.int p0), .val (.int p1), .val (.int p2), .val (.int p3), .val (.int p4), .val (.int p5), .val (.int u1), .val (.int u2), .val (.int u3), .val (.int vn), .val (.int (1 : Int32)), .val (.int c3), .val (.int sl), .val (.int q), .unset, .unset] [(.ref b3)])) _
    refine XS.astore X4.here hx rfl (hb hby at_115) rfl rfl (l' := #[.val (.int p0), .val (.int p1), .val (.int p2), .val (.int p3), .val (.int p4), .val (.int p5), .val (.int u1), .val (.int u2), .val (.int u3), .val (.int vn), .val (.int (1 : Int32)), .val (.int c3), .val (.int sl), .val (.int q), .val (.ref b3), .unset]) rfl ?_
    show Steps p.tables e below (T4.setTop (mkF m 117 #[.val (.int p0), .val (.int p1), .val (.int p2), .val (.int p3), .val (.int p4), .val (.int p5), .val (.int u1), .val (.int u2), .val (.int u3), .val (.int vn), .val (.int (1 : Int32)), .val (.int c3), .val (.int sl), .val (.int q), .val (.ref b3), .unset] [])) _
    refine XS.iload X4.here hx rfl (hb hby at_117) rfl ?_
    show Steps p.tables e below (T4.setTop (mkF m 119 #[.val (.int p0), .val (.int p1), .val (.int p2), .val (.int p3), .val (.int p4), .val (.int p5), .val (.int u1), .val (.int u2), .val (.int u3), .val (.int vn), .val (.int (1 : Int32)), .val (.int c3), .val (.int sl), .val (.int q), .val (.ref b3), .unset] [(.int vn)])) _
    refine XS.iconst X4.here hx rfl (hb hby at_119) ?_
    show Steps p.tables e below (T4.setTop (mkF m 120 #[.val (.int p0), .val (.int p1), .val (.int p2), .val (.int p3), .val (.int p4), .val (.int p5), .val (.int u1), .val (.int u2), .val (.int u3), .val (.int vn), .val (.int (1 : Int32)), .val (.int c3), .val (.int sl), .val (.int q), .val (.ref b3), .unset] [(.int (1 : Int32)), (.int vn)])) _
    refine XS.icmpNo X4.here hx rfl (hb hby at_120) rfl (flt hn1).1 ?_
    show Steps p.tables e below (T4.setTop (mkF m 123 #[.val (.int p0), .val (.int p1), .val (.int p2), .val (.int p3), .val (.int p4), .val (.int p5), .val (.int u1), .val (.int u2), .val (.int u3), .val (.int vn), .val (.int (1 : Int32)), .val (.int c3), .val (.int sl), .val (.int q), .val (.ref b3), .unset] [])) _
    refine XS.aload X4.here hx rfl (hb hby at_123) rfl rfl ?_
    show Steps p.tables e below (T4.setTop (mkF m 125 #[.val (.int p0), .val (.int p1), .val (.int p2), .val (.int p3), .val (.int p4), .val (.int p5), .val (.int u1), .val (.int u2), .val (.int u3), .val (.int vn), .val (.int (1 : Int32)), .val (.int c3), .val (.int sl), .val (.int q), .val (.ref b3), .unset] [(.ref b3)])) _
    refine XS.iloadN X4.here hx rfl (hb hby at_125) rfl ?_
    show Steps p.tables e below (T4.setTop (mkF m 126 #[.val (.int p0), .val (.int p1), .val (.int p2), .val (.int p3), .val (.int p4), .val (.int p5), .val (.int u1), .val (.int u2), .val (.int u3), .val (.int vn), .val (.int (1 : Int32)), .val (.int c3), .val (.int sl), .val (.int q), .val (.ref b3), .unset] [(.int p0), (.ref b3)])) _
    refine XS.iload X4.here hx rfl (hb hby at_126) rfl ?_
    show Steps p.tables e below (T4.setTop (mkF m 128 #[.val (.int p0), .val (.int p1), .val (.int p2), .val (.int p3), .val (.int p4), .val (.int p5), .val (.int u1), .val (.int u2), .val (.int u3), .val (.int vn), .val (.int (1 : Int32)), .val (.int c3), .val (.int sl), .val (.int q), .val (.ref b3), .unset] [(.int u1), (.int p0), (.ref b3)])) _
    refine st5.trans ?_
    show Steps p.tables e below (T5.setTop (mkF m 131 #[.val (.int p0), .val (.int p1), .val (.int p2), .val (.int p3), .val (.int p4), .val (.int p5), .val (.int u1), .val (.int u2), .val (.int u3), .val (.int vn), .val (.int (1 : Int32)), .val (.int c3), .val (.int sl), .val (.int q), .val (.ref b3), .unset] [])) _
    refine XS.iload X5.here hx rfl (hb hby at_131) rfl ?_
    show Steps p.tables e below (T5.setTop (mkF m 133 #[.val (.int p0), .val (.int p1), .val (.int p2), .val (.int p3), .val (.int p4), .val (.int p5), .val (.int u1), .val (.int u2), .val (.int u3), .val (.int vn), .val (.int (1 : Int32)), .val (.int c3), .val (.int sl), .val (.int q), .val (.ref b3), .unset] [(.int vn)])) _
    refine XS.iconst X5.here hx rfl (hb hby at_133) ?_
    show Steps p.tables e below (T5.setTop (mkF m 134 #[.val (.int p0), .val (.int p1), .val (.int p2), .val (.int p3), .val (.int p4), .val (.int p5), .val (.int u1), .val (.int u2), .val (.int u3), .val (.int vn), .val (.int (1 : Int32)), .val (.int c3), .val (.int sl), .val (.int q), .val (.ref b3), .unset] [(.int (2 : Int32)), (.int vn)])) _
    refine XS.icmpYes X5.here hx rfl (pc0 := 134) (pc' := 145) rfl (hb hby at_134) rfl (tlt hn2).1 (by decide) (by decide) ?_
    show Steps p.tables e below (T5.setTop (mkF m 145 #[.val (.int p0), .val (.int p1), .val (.int p2), .val (.int p3), .val (.int p4), .val (.int p5), .val (.int u1), .val (.int u2), .val (.int u3), .val (.int vn), .val (.int (1 : Int32)), .val (.int c3), .val (.int sl), .val (.int q), .val (.ref b3), .unset] [])) _
    refine XS.iload X5.here hx rfl (hb hby at_145) rfl ?_
    show Steps p.tables e below (T5.setTop (mkF m 147 #[.val (.int p0), .val (.int p1), .val (.int p2), .val (.int p3), .val (.int p4), .val (.int p5), .val (.int u1), .val (.int u2), .val (.int u3), .val (.int vn), .val (.int (1 : Int32)), .val (.int c3), .val (.int sl), .val (.int q), .val (.ref b3), .unset] [(.int (1 : Int32))])) _
    refine XS.ifNo X5.here hx rfl (hb hby at_147) rfl ((if0 _ _).trans (feq (by decide : ¬ ((1 : Int32) = (0 : Int32)))).1) ?_
    show Steps p.tables e below (T5.setTop (mkF m 150 #[.val (.int p0), .val (.int p1), .val (.int p2), .val (.int p3), .val (.int p4), .val (.int p5), .val (.int u1), .val (.int u2), .val (.int u3), .val (.int vn), .val (.int (1 : Int32)), .val (.int c3), .val (.int sl), .val (.int q), .val (.ref b3), .unset] [])) _
    refine XS.aload X5.here hx rfl (hb hby at_150) rfl rfl ?_
    show Steps p.tables e below (T5.setTop (mkF m 152 #[.val (.int p0), .val (.int p1), .val (.int p2), .val (.int p3), .val (.int p4), .val (.int p5), .val (.int u1), .val (.int u2), .val (.int u3), .val (.int vn), .val (.int (1 : Int32)), .val (.int c3), .val (.int sl), .val (.int q), .val (.ref b3), .unset] [(.ref b3)])) _
    refine XS.iload X5.here hx rfl (hb hby at_152) rfl ?_
    show Steps p.tables e below (T5.setTop (mkF m 154 #[.val (.int p0), .val (.int p1), .val (.int p2), .val (.int p3), .val (.int p4), .val (.int p5), .val (.int u1), .val (.int u2), .val (.int u3), .val (.int vn), .val (.int (1 : Int32)), .val (.int c3), .val (.int sl), .val (.int q), .val (.ref b3), .unset] [(.int c3), (.ref b3)])) _
    refine XS.iload X5.here hx rfl (hb hby at_154) rfl ?_
    show Steps p.tables e below (T5.setTop (mkF m 156 #[.val (.int p0), .val (.int p1), .val (.int p2), .val (.int p3), .val (.int p4), .val (.int p5), .val (.int u1), .val (.int u2), .val (.int u3), .val (.int vn), .val (.int (1 : Int32)), .val (.int c3), .val (.int sl), .val (.int q), .val (.ref b3), .unset] [(.int u3), (.int c3), (.ref b3)])) _
    refine st6.trans ?_
    show Steps p.tables e below (T6.setTop (mkF m 159 #[.val (.int p0), .val (.int p1), .val (.int p2), .val (.int p3), .val (.int p4), .val (.int p5), .val (.int u1), .val (.int u2), .val (.int u3), .val (.int vn), .val (.int (1 : Int32)), .val (.int c3), .val (.int sl), .val (.int q), .val (.ref b3), .unset] [])) _
    refine XS.iconst X6.here hx rfl (hb hby at_159) ?_
    show Steps p.tables e below (T6.setTop (mkF m 160 #[.val (.int p0), .val (.int p1), .val (.int p2), .val (.int p3), .val (.int p4), .val (.int p5), .val (.int u1), .val (.int u2), .val (.int u3), .val (.int vn), .val (.int (1 : Int32)), .val (.int c3), .val (.int sl), .val (.int q), .val (.ref b3), .unset] [(.int (-1 : Int32))])) _
    refine XS.istore X6.here hx rfl (hb hby at_160) rfl (l' := #[.val (.int p0), .val (.int p1), .val (.int p2), .val (.int p3), .val (.int p4), .val (.int p5), .val (.int u1), .val (.int u2), .val (.int u3), .val (.int vn), .val (.int (1 : Int32)), .val (.int c3), .val (.int sl), .val (.int q), .val (.ref b3), .val (.int (-1 : Int32))]) rfl ?_
    show Steps p.tables e below (T6.setTop (mkF m 162 #[.val (.int p0), .val (.int p1), .val (.int p2), .val (.int p3), .val (.int p4), .val (.int p5), .val (.int u1), .val (.int u2), .val (.int u3), .val (.int vn), .val (.int (1 : Int32)), .val (.int c3), .val (.int sl), .val (.int q), .val (.ref b3), .val (.int (-1 : Int32))] [])) _
    refine fk7 _ ?_
    show Steps p.tables e below (T6.setTop (mkF m 178 #[.val (.int p0), .val (.int p1), .val (.int p2), .val (.int p3), .val (.int p4), .val (.int p5), .val (.int u1), .val (.int u2), .val (.int u3), .val (.int vn), .val (.int (1 : Int32)), .val (.int c3), .val (.int sl), .val (.int q), .val (.ref b3), .val (.int ex1)] [])) _
    refine fk8 _ ?_
    show Steps p.tables e below (T6.setTop (mkF m 194 #[.val (.int p0), .val (.int p1), .val (.int p2), .val (.int p3), .val (.int p4), .val (.int p5), .val (.int u1), .val (.int u2), .val (.int u3), .val (.int vn), .val (.int (1 : Int32)), .val (.int c3), .val (.int sl), .val (.int q), .val (.ref b3), .val (.int ex2)] [])) _
    refine fk9 _ ?_
    show Steps p.tables e below (T6.setTop (mkF m 210 #[.val (.int p0), .val (.int p1), .val (.int p2), .val (.int p3), .val (.int p4), .val (.int p5), .val (.int u1), .val (.int u2), .val (.int u3), .val (.int vn), .val (.int (1 : Int32)), .val (.int c3), .val (.int sl), .val (.int q), .val (.ref b3), .val (.int ex3)] [])) _
    refine XS.aload X6.here hx rfl (hb hby at_210) rfl rfl ?_
    show Steps p.tables e below (T6.setTop (mkF m 212 #[.val (.int p0), .val (.int p1), .val (.int p2), .val (.int p3), .val (.int p4), .val (.int p5), .val (.int u1), .val (.int u2), .val (.int u3), .val (.int vn), .val (.int (1 : Int32)), .val (.int c3), .val (.int sl), .val (.int q), .val (.ref b3), .val (.int ex3)] [(.ref b3)])) _
    refine XS.iload X6.here hx rfl (hb hby at_212) rfl ?_
    show Steps p.tables e below (T6.setTop (mkF m 214 #[.val (.int p0), .val (.int p1), .val (.int p2), .val (.int p3), .val (.int p4), .val (.int p5), .val (.int u1), .val (.int u2), .val (.int u3), .val (.int vn), .val (.int (1 : Int32)), .val (.int c3), .val (.int sl), .val (.int q), .val (.ref b3), .val (.int ex3)] [(.int q), (.ref b3)])) _
    refine st10.trans ?_
    show Steps p.tables e below (T10.setTop (mkF m 217 #[.val (.int p0), .val (.int p1), .val (.int p2), .val (.int p3), .val (.int p4), .val (.int p5), .val (.int u1), .val (.int u2), .val (.int u3), .val (.int vn), .val (.int (1 : Int32)), .val (.int c3), .val (.int sl), .val (.int q), .val (.ref b3), .val (.int ex3)] [(.int (own_get (own_put (own_put [] p0 u1) c3 u3) q))])) _
    refine XS.iload X10.here hx rfl (hb hby at_217) rfl ?_
    show Steps p.tables e below (T10.setTop (mkF m 219 #[.val (.int p0), .val (.int p1), .val (.int p2), .val (.int p3), .val (.int p4), .val (.int p5), .val (.int u1), .val (.int u2), .val (.int u3), .val (.int vn), .val (.int (1 : Int32)), .val (.int c3), .val (.int sl), .val (.int q), .val (.ref b3), .val (.int ex3)] [(.int ex3), (.int (own_get (own_put (own_put [] p0 u1) c3 u3) q))])) _
    refine XS.icmpNo X10.here hx rfl (hb hby at_219) rfl (teq hget).2 ?_
    show Steps p.tables e below (T10.setTop (mkF m 222 #[.val (.int p0), .val (.int p1), .val (.int p2), .val (.int p3), .val (.int p4), .val (.int p5), .val (.int u1), .val (.int u2), .val (.int u3), .val (.int vn), .val (.int (1 : Int32)), .val (.int c3), .val (.int sl), .val (.int q), .val (.ref b3), .val (.int ex3)] [])) _
    refine XS.iconst X10.here hx rfl (hb hby at_222) ?_
    show Steps p.tables e below (T10.setTop (mkF m 223 #[.val (.int p0), .val (.int p1), .val (.int p2), .val (.int p3), .val (.int p4), .val (.int p5), .val (.int u1), .val (.int u2), .val (.int u3), .val (.int vn), .val (.int (1 : Int32)), .val (.int c3), .val (.int sl), .val (.int q), .val (.ref b3), .val (.int ex3)] [(.int (1 : Int32))])) _
    refine XS.goto X10.here hx rfl (pc0 := 223) (pc' := 227) rfl (hb hby at_223) (by decide) (by decide) ?_
    show Steps p.tables e below (T10.setTop (mkF m 227 #[.val (.int p0), .val (.int p1), .val (.int p2), .val (.int p3), .val (.int p4), .val (.int p5), .val (.int u1), .val (.int u2), .val (.int u3), .val (.int vn), .val (.int (1 : Int32)), .val (.int c3), .val (.int sl), .val (.int q), .val (.ref b3), .val (.int ex3)] [(.int (1 : Int32))])) _
    exact retN X10 hx (t := .boolean) Bd.returns (by simp) (hb hby at_227) hr
  · show own_R n0 _ T10.heap _
    rw [e10]
    exact ⟨rfl, N10⟩
theorem own_exp_E (p0 p1 c3 q v1 v2 v3 ex1 ex2 ex3 : Int32) (hx1 : (q = p0 ∧ ex1 = v1) ∨ (¬ (q = p0) ∧ ex1 = (-1 : Int32))) (hx2 : (q = p1 ∧ ex2 = v2) ∨ (¬ (q = p1) ∧ ex2 = ex1)) (hx3 : ex3 = ex2) : (if p1 = q then v2 else (if p0 = q then v1 else own_get [] q)) = ex3 := by
  simp only [@eq_comm _ _ q, own_get]
  rcases hx1 with ⟨a1, b1⟩ | ⟨a1, b1⟩ <;> rcases hx2 with ⟨a2, b2⟩ | ⟨a2, b2⟩ <;> have b3 := hx3 <;> simp_all
set_option maxRecDepth 65536 in
set_option maxHeartbeats 40000000 in
theorem rm0E (l : Launch) (Z : State) (a0 : Array Value) (hw : ∀ d ∈ tables_1, d.before a0 Z = true) (ws : List Jvm.Cond) (p0 : Int32) (p1 : Int32) (p2 : Int32) (p3 : Int32) (p4 : Int32) (p5 : Int32) (wE : Addr) (u1 u2 u3 vn sl c3 q ex1 ex2 ex3 : Int32) (h0 : Heap) (n0 : Nat) (O0 : Old Z n0 h0) (S_EMPTY : Sta Z Z.heap "com/example/kvasir/kvasir/tableau/DependencySet" "EMPTY" "Lcom/example/kvasir/kvasir/tableau/DependencySet;" (.ref wE)) (hu1 : (p2 &&& (2147483647 : Int32)) = u1) (hu2 : (p3 &&& (2147483647 : Int32)) = u2) (hu3 : (p4 &&& (2147483647 : Int32)) = u3) (hvn : (((p5.toUInt32 >>> ((4 : Int32) &&& 31).toUInt32).toInt32) &&& (3 : Int32)) = vn) (hsl : (((p5.toUInt32 >>> ((2 : Int32) &&& 31).toUInt32).toInt32) &&& (3 : Int32)) = sl) (hn1 : ¬ (vn < (1 : Int32))) (hn2 : ¬ (vn < (2 : Int32))) (hn3 : (p5 &&& (1 : Int32)) = (0 : Int32)) (hc3 : ((p5 &&& (2 : Int32)) = (0 : Int32) ∧ c3 = p1) ∨ (¬ ((p5 &&& (2 : Int32)) = (0 : Int32)) ∧ c3 = p0)) (hq : (sl = (0 : Int32) ∧ q = p0) ∨ (¬ (sl = (0 : Int32)) ∧ sl = (1 : Int32) ∧ q = p1) ∨ (¬ (sl = (0 : Int32)) ∧ ¬ (sl = (1 : Int32)) ∧ sl = (2 : Int32) ∧ q = (p0 + (1 : Int32))) ∨ (¬ (sl = (0 : Int32)) ∧ ¬ (sl = (1 : Int32)) ∧ ¬ (sl = (2 : Int32)) ∧ q = p5)) (hx1 : (q = p0 ∧ ex1 = u1) ∨ (¬ (q = p0) ∧ ex1 = (-1 : Int32))) (hx2 : (q = p1 ∧ ex2 = u2) ∨ (¬ (q = p1) ∧ ex2 = ex1)) (hx3 : ex3 = ex2) :
    MetFree l x (head1 (Jvm.Cond.code x code maxLocals ret :: ws) room_1) (fun a U => a = #[(.int p0), (.int p1), (.int p2), (.int p3), (.int p4), (.int p5)] ∧ Z.Warmed39 U.vm ∧ U.heap = h0) (fun _ _ _ _ _ => True) (fun _ U o U' => ∃ v L, o = .returned v ∧ own_R n0 v U'.heap L ∧ FrameEnd U o U' L room_1.cells room_1.slots) := by
  refine MetFree.of_bodySF (plainFor_of_name pn_0) hisR ?_
  intro p e s m args below meth c s₁ Bd hml0 hP hK
  obtain ⟨rfl, hZ, hh⟩ := hP
  have hx := Bd.exec
  have hby := Bd.bytes
  have hml : c.maxLocals = 16 := hml0
  have hown : s.vm.findClass "com/example/kvasir/kvasir/tableau/NodeAgendaPlacePinLaw" = some m.cls := findClass_of_methodNamed Bd.named
  have hnm := (name_of_methodNamed Bd.named Bd.method).1
  have X0 : Stand p l e room_1 s m #[(.int p0), (.int p1), (.int p2), (.int p3), (.int p4), (.int p5)] below meth c s₁ [] 0 0 := Stand.of_body Bd
  have e0 : s₁.heap = h0 := by rw [← hh, Bd.state]; rfl
  have N0 := Fr.nil n0
  have pre0 : ∀ t, Steps p.tables e below (s₁.setTop (mkF m 0 #[.val (.int p0), .val (.int p1), .val (.int p2), .val (.int p3), .val (.int p4), .val (.int p5), .unset, .unset, .unset, .unset, .unset, .unset, .unset, .unset, .unset, .unset] [])) t → Steps p.tables e below (s₁.setTop (entryFrame m #[(.int p0), (.int p1), (.int p2), (.int p3), (.int p4), (.int p5)] maxLocals)) t := fun t k => castTop (ef_0 m p0 p1 p2 p3 p4 p5) k
  have fk1 : ∀ target, Steps p.tables e below (s₁.setTop (mkF m 53 #[.val (.int p0), .val (.int p1), .val (.int p2), .val (.int p3), .val (.int p4), .val (.int p5), .val (.int u1), .val (.int u2), .val (.int u3), .val (.int vn), .val (.int (0 : Int32)), .unset, .unset, .unset, .unset, .unset] [(.int c3)])) target → Steps p.tables e below (s₁.setTop (mkF m 41 #[.val (.int p0), .val (.int p1), .val (.int p2), .val (.int p3), .val (.int p4), .val (.int p5), .val (.int u1), .val (.int u2), .val (.int u3), .val (.int vn), .val (.int (0 : Int32)), .unset, .unset, .unset, .unset, .unset] [])) target := by
    intro target kt
    rcases hc3 with ⟨z1, z2⟩ | ⟨z1, z2⟩
    · rw [z2] at kt
      show Steps p.tables e below (s₁.setTop (mkF m 41 #[.val (.int p0), .val (.int p1), .val (.int p2), .val (.int p3), .val (.int p4), .val (.int p5), .val (.int u1), .val (.int u2), .val (.int u3), .val (.int vn), .val (.int (0 : Int32)), .unset, .unset, .unset, .unset, .unset] [])) _
      refine XS.iload X0.here hx rfl (hb hby at_41) rfl ?_
      show Steps p.tables e below (s₁.setTop (mkF m 43 #[.val (.int p0), .val (.int p1), .val (.int p2), .val (.int p3), .val (.int p4), .val (.int p5), .val (.int u1), .val (.int u2), .val (.int u3), .val (.int vn), .val (.int (0 : Int32)), .unset, .unset, .unset, .unset, .unset] [(.int p5)])) _
      refine XS.iconst X0.here hx rfl (hb hby at_43) ?_
      show Steps p.tables e below (s₁.setTop (mkF m 44 #[.val (.int p0), .val (.int p1), .val (.int p2), .val (.int p3), .val (.int p4), .val (.int p5), .val (.int u1), .val (.int u2), .val (.int u3), .val (.int vn), .val (.int (0 : Int32)), .unset, .unset, .unset, .unset, .unset] [(.int (2 : Int32)), (.int p5)])) _
      refine XS.iand X0.here hx rfl (hb hby at_44) rfl ?_
      show Steps p.tables e below (s₁.setTop (mkF m 45 #[.val (.int p0), .val (.int p1), .val (.int p2), .val (.int p3), .val (.int p4), .val (.int p5), .val (.int u1), .val (.int u2), .val (.int u3), .val (.int vn), .val (.int (0 : Int32)), .unset, .unset, .unset, .unset, .unset] [(.int (p5 &&& (2 : Int32)))])) _
      refine XS.ifYes X0.here hx rfl (pc0 := 45) (pc' := 52) rfl (hb hby at_45) rfl ((if0 _ _).trans (teq z1).1) (by decide) (by decide) ?_
      show Steps p.tables e below (s₁.setTop (mkF m 52 #[.val (.int p0), .val (.int p1), .val (.int p2), .val (.int p3), .val (.int p4), .val (.int p5), .val (.int u1), .val (.int u2), .val (.int u3), .val (.int vn), .val (.int (0 : Int32)), .unset, .unset, .unset, .unset, .unset] [])) _
      refine XS.iloadN X0.here hx rfl (hb hby at_52) rfl ?_
      show Steps p.tables e below (s₁.setTop (mkF m 53 #[.val (.int p0), .val (.int p1), .val (.int p2), .val (.int p3), .val (.int p4), .val (.int p5), .val (.int u1), .val (.int u2), .val (.int u3), .val (.int vn), .val (.int (0 : Int32)), .unset, .unset, .unset, .unset, .unset] [(.int p1)])) _
      exact kt
    · rw [z2] at kt
      show Steps p.tables e below (s₁.setTop (mkF m 41 #[.val (.int p0), .val (.int p1), .val (.int p2), .val (.int p3), .val (.int p4), .val (.int p5), .val (.int u1), .val (.int u2), .val (.int u3), .val (.int vn), .val (.int (0 : Int32)), .unset, .unset, .unset, .unset, .unset] [])) _
      refine XS.iload X0.here hx rfl (hb hby at_41) rfl ?_
      show Steps p.tables e below (s₁.setTop (mkF m 43 #[.val (.int p0), .val (.int p1), .val (.int p2), .val (.int p3), .val (.int p4), .val (.int p5), .val (.int u1), .val (.int u2), .val (.int u3), .val (.int vn), .val (.int (0 : Int32)), .unset, .unset, .unset, .unset, .unset] [(.int p5)])) _
      refine XS.iconst X0.here hx rfl (hb hby at_43) ?_
      show Steps p.tables e below (s₁.setTop (mkF m 44 #[.val (.int p0), .val (.int p1), .val (.int p2), .val (.int p3), .val (.int p4), .val (.int p5), .val (.int u1), .val (.int u2), .val (.int u3), .val (.int vn), .val (.int (0 : Int32)), .unset, .unset, .unset, .unset, .unset] [(.int (2 : Int32)), (.int p5)])) _
      refine XS.iand X0.here hx rfl (hb hby at_44) rfl ?_
      show Steps p.tables e below (s₁.setTop (mkF m 45 #[.val (.int p0), .val (.int p1), .val (.int p2), .val (.int p3), .val (.int p4), .val (.int p5), .val (.int u1), .val (.int u2), .val (.int u3), .val (.int vn), .val (.int (0 : Int32)), .unset, .unset, .unset, .unset, .unset] [(.int (p5 &&& (2 : Int32)))])) _
      refine XS.ifNo X0.here hx rfl (hb hby at_45) rfl ((if0 _ _).trans (feq z1).1) ?_
      show Steps p.tables e below (s₁.setTop (mkF m 48 #[.val (.int p0), .val (.int p1), .val (.int p2), .val (.int p3), .val (.int p4), .val (.int p5), .val (.int u1), .val (.int u2), .val (.int u3), .val (.int vn), .val (.int (0 : Int32)), .unset, .unset, .unset, .unset, .unset] [])) _
      refine XS.iloadN X0.here hx rfl (hb hby at_48) rfl ?_
      show Steps p.tables e below (s₁.setTop (mkF m 49 #[.val (.int p0), .val (.int p1), .val (.int p2), .val (.int p3), .val (.int p4), .val (.int p5), .val (.int u1), .val (.int u2), .val (.int u3), .val (.int vn), .val (.int (0 : Int32)), .unset, .unset, .unset, .unset, .unset] [(.int p0)])) _
      refine XS.goto X0.here hx rfl (pc0 := 49) (pc' := 53) rfl (hb hby at_49) (by decide) (by decide) ?_
      show Steps p.tables e below (s₁.setTop (mkF m 53 #[.val (.int p0), .val (.int p1), .val (.int p2), .val (.int p3), .val (.int p4), .val (.int p5), .val (.int u1), .val (.int u2), .val (.int u3), .val (.int vn), .val (.int (0 : Int32)), .unset, .unset, .unset, .unset, .unset] [(.int p0)])) _
      exact kt
  have fk2 : ∀ target, Steps p.tables e below (s₁.setTop (mkF m 104 #[.val (.int p0), .val (.int p1), .val (.int p2), .val (.int p3), .val (.int p4), .val (.int p5), .val (.int u1), .val (.int u2), .val (.int u3), .val (.int vn), .val (.int (0 : Int32)), .val (.int c3), .val (.int sl), .val (.int q), .unset, .unset] [])) target → Steps p.tables e below (s₁.setTop (mkF m 63 #[.val (.int p0), .val (.int p1), .val (.int p2), .val (.int p3), .val (.int p4), .val (.int p5), .val (.int u1), .val (.int u2), .val (.int u3), .val (.int vn), .val (.int (0 : Int32)), .val (.int c3), .val (.int sl), .unset, .unset, .unset] [])) target := by
    intro target kt
    rcases hq with ⟨z1, z2⟩ | ⟨z1, z2, z3⟩ | ⟨z1, z2, z3, z4⟩ | ⟨z1, z2, z3, z4⟩
    · rw [z2] at kt
      show Steps p.tables e below (s₁.setTop (mkF m 63 #[.val (.int p0), .val (.int p1), .val (.int p2), .val (.int p3), .val (.int p4), .val (.int p5), .val (.int u1), .val (.int u2), .val (.int u3), .val (.int vn), .val (.int (0 : Int32)), .val (.int c3), .val (.int sl), .unset, .unset, .unset] [])) _
      refine XS.iload X0.here hx rfl (hb hby at_63) rfl ?_
      show Steps p.tables e below (s₁.setTop (mkF m 65 #[.val (.int p0), .val (.int p1), .val (.int p2), .val (.int p3), .val (.int p4), .val (.int p5), .val (.int u1), .val (.int u2), .val (.int u3), .val (.int vn), .val (.int (0 : Int32)), .val (.int c3), .val (.int sl), .unset, .unset, .unset] [(.int sl)])) _
      refine XS.ifNo X0.here hx rfl (hb hby at_65) rfl ((if0 _ _).trans (teq z1).2) ?_
      show Steps p.tables e below (s₁.setTop (mkF m 68 #[.val (.int p0), .val (.int p1), .val (.int p2), .val (.int p3), .val (.int p4), .val (.int p5), .val (.int u1), .val (.int u2), .val (.int u3), .val (.int vn), .val (.int (0 : Int32)), .val (.int c3), .val (.int sl), .unset, .unset, .unset] [])) _
      refine XS.iloadN X0.here hx rfl (hb hby at_68) rfl ?_
      show Steps p.tables e below (s₁.setTop (mkF m 69 #[.val (.int p0), .val (.int p1), .val (.int p2), .val (.int p3), .val (.int p4), .val (.int p5), .val (.int u1), .val (.int u2), .val (.int u3), .val (.int vn), .val (.int (0 : Int32)), .val (.int c3), .val (.int sl), .unset, .unset, .unset] [(.int p0)])) _
      refine XS.istore X0.here hx rfl (hb hby at_69) rfl (l' := #[.val (.int p0), .val (.int p1), .val (.int p2), .val (.int p3), .val (.int p4), .val (.int p5), .val (.int u1), .val (.int u2), .val (.int u3), .val (.int vn), .val (.int (0 : Int32)), .val (.int c3), .val (.int sl), .val (.int p0), .unset, .unset]) rfl ?_
      show Steps p.tables e below (s₁.setTop (mkF m 71 #[.val (.int p0), .val (.int p1), .val (.int p2), .val (.int p3), .val (.int p4), .val (.int p5), .val (.int u1), .val (.int u2), .val (.int u3), .val (.int vn), .val (.int (0 : Int32)), .val (.int c3), .val (.int sl), .val (.int p0), .unset, .unset] [])) _
      refine XS.goto X0.here hx rfl (pc0 := 71) (pc' := 104) rfl (hb hby at_71) (by decide) (by decide) ?_
      show Steps p.tables e below (s₁.setTop (mkF m 104 #[.val (.int p0), .val (.int p1), .val (.int p2), .val (.int p3), .val (.int p4), .val (.int p5), .val (.int u1), .val (.int u2), .val (.int u3), .val (.int vn), .val (.int (0 : Int32)), .val (.int c3), .val (.int sl), .val (.int p0), .unset, .unset] [])) _
      exact kt
    · rw [z3] at kt
      show Steps p.tables e below (s₁.setTop (mkF m 63 #[.val (.int p0), .val (.int p1), .val (.int p2), .val (.int p3), .val (.int p4), .val (.int p5), .val (.int u1), .val (.int u2), .val (.int u3), .val (.int vn), .val (.int (0 : Int32)), .val (.int c3), .val (.int sl), .unset, .unset, .unset] [])) _
      refine XS.iload X0.here hx rfl (hb hby at_63) rfl ?_
      show Steps p.tables e below (s₁.setTop (mkF m 65 #[.val (.int p0), .val (.int p1), .val (.int p2), .val (.int p3), .val (.int p4), .val (.int p5), .val (.int u1), .val (.int u2), .val (.int u3), .val (.int vn), .val (.int (0 : Int32)), .val (.int c3), .val (.int sl), .unset, .unset, .unset] [(.int sl)])) _
      refine XS.ifYes X0.here hx rfl (pc0 := 65) (pc' := 74) rfl (hb hby at_65) rfl ((if0 _ _).trans (feq z1).2) (by decide) (by decide) ?_
      show Steps p.tables e below (s₁.setTop (mkF m 74 #[.val (.int p0), .val (.int p1), .val (.int p2), .val (.int p3), .val (.int p4), .val (.int p5), .val (.int u1), .val (.int u2), .val (.int u3), .val (.int vn), .val (.int (0 : Int32)), .val (.int c3), .val (.int sl), .unset, .unset, .unset] [])) _
      refine XS.iload X0.here hx rfl (hb hby at_74) rfl ?_
      show Steps p.tables e below (s₁.setTop (mkF m 76 #[.val (.int p0), .val (.int p1), .val (.int p2), .val (.int p3), .val (.int p4), .val (.int p5), .val (.int u1), .val (.int u2), .val (.int u3), .val (.int vn), .val (.int (0 : Int32)), .val (.int c3), .val (.int sl), .unset, .unset, .unset] [(.int sl)])) _
      refine XS.iconst X0.here hx rfl (hb hby at_76) ?_
      show Steps p.tables e below (s₁.setTop (mkF m 77 #[.val (.int p0), .val (.int p1), .val (.int p2), .val (.int p3), .val (.int p4), .val (.int p5), .val (.int u1), .val (.int u2), .val (.int u3), .val (.int vn), .val (.int (0 : Int32)), .val (.int c3), .val (.int sl), .unset, .unset, .unset] [(.int (1 : Int32)), (.int sl)])) _
      refine XS.icmpNo X0.here hx rfl (hb hby at_77) rfl (teq z2).2 ?_
      show Steps p.tables e below (s₁.setTop (mkF m 80 #[.val (.int p0), .val (.int p1), .val (.int p2), .val (.int p3), .val (.int p4), .val (.int p5), .val (.int u1), .val (.int u2), .val (.int u3), .val (.int vn), .val (.int (0 : Int32)), .val (.int c3), .val (.int sl), .unset, .unset, .unset] [])) _
      refine XS.iloadN X0.here hx rfl (hb hby at_80) rfl ?_
      show Steps p.tables e below (s₁.setTop (mkF m 81 #[.val (.int p0), .val (.int p1), .val (.int p2), .val (.int p3), .val (.int p4), .val (.int p5), .val (.int u1), .val (.int u2), .val (.int u3), .val (.int vn), .val (.int (0 : Int32)), .val (.int c3), .val (.int sl), .unset, .unset, .unset] [(.int p1)])) _
      refine XS.istore X0.here hx rfl (hb hby at_81) rfl (l' := #[.val (.int p0), .val (.int p1), .val (.int p2), .val (.int p3), .val (.int p4), .val (.int p5), .val (.int u1), .val (.int u2), .val (.int u3), .val (.int vn), .val (.int (0 : Int32)), .val (.int c3), .val (.int sl), .val (.int p1), .unset, .unset]) rfl ?_
      show Steps p.tables e below (s₁.setTop (mkF m 83 #[.val (.int p0), .val (.int p1), .val (.int p2), .val (.int p3), .val (.int p4), .val (.int p5), .val (.int u1), .val (.int u2), .val (.int u3), .val (.int vn), .val (.int (0 : Int32)), .val (.int c3), .val (.int sl), .val (.int p1), .unset, .unset] [])) _
      refine XS.goto X0.here hx rfl (pc0 := 83) (pc' := 104) rfl (hb hby at_83) (by decide) (by decide) ?_
      show Steps p.tables e below (s₁.setTop (mkF m 104 #[.val (.int p0), .val (.int p1), .val (.int p2), .val (.int p3), .val (.int p4), .val (.int p5), .val (.int u1), .val (.int u2), .val (.int u3), .val (.int vn), .val (.int (0 : Int32)), .val (.int c3), .val (.int sl), .val (.int p1), .unset, .unset] [])) _
      exact kt
    · rw [z4] at kt
      show Steps p.tables e below (s₁.setTop (mkF m 63 #[.val (.int p0), .val (.int p1), .val (.int p2), .val (.int p3), .val (.int p4), .val (.int p5), .val (.int u1), .val (.int u2), .val (.int u3), .val (.int vn), .val (.int (0 : Int32)), .val (.int c3), .val (.int sl), .unset, .unset, .unset] [])) _
      refine XS.iload X0.here hx rfl (hb hby at_63) rfl ?_
      show Steps p.tables e below (s₁.setTop (mkF m 65 #[.val (.int p0), .val (.int p1), .val (.int p2), .val (.int p3), .val (.int p4), .val (.int p5), .val (.int u1), .val (.int u2), .val (.int u3), .val (.int vn), .val (.int (0 : Int32)), .val (.int c3), .val (.int sl), .unset, .unset, .unset] [(.int sl)])) _
      refine XS.ifYes X0.here hx rfl (pc0 := 65) (pc' := 74) rfl (hb hby at_65) rfl ((if0 _ _).trans (feq z1).2) (by decide) (by decide) ?_
      show Steps p.tables e below (s₁.setTop (mkF m 74 #[.val (.int p0), .val (.int p1), .val (.int p2), .val (.int p3), .val (.int p4), .val (.int p5), .val (.int u1), .val (.int u2), .val (.int u3), .val (.int vn), .val (.int (0 : Int32)), .val (.int c3), .val (.int sl), .unset, .unset, .unset] [])) _
      refine XS.iload X0.here hx rfl (hb hby at_74) rfl ?_
      show Steps p.tables e below (s₁.setTop (mkF m 76 #[.val (.int p0), .val (.int p1), .val (.int p2), .val (.int p3), .val (.int p4), .val (.int p5), .val (.int u1), .val (.int u2), .val (.int u3), .val (.int vn), .val (.int (0 : Int32)), .val (.int c3), .val (.int sl), .unset, .unset, .unset] [(.int sl)])) _
      refine XS.iconst X0.here hx rfl (hb hby at_76) ?_
      show Steps p.tables e below (s₁.setTop (mkF m 77 #[.val (.int p0), .val (.int p1), .val (.int p2), .val (.int p3), .val (.int p4), .val (.int p5), .val (.int u1), .val (.int u2), .val (.int u3), .val (.int vn), .val (.int (0 : Int32)), .val (.int c3), .val (.int sl), .unset, .unset, .unset] [(.int (1 : Int32)), (.int sl)])) _
      refine XS.icmpYes X0.here hx rfl (pc0 := 77) (pc' := 86) rfl (hb hby at_77) rfl (feq z2).2 (by decide) (by decide) ?_
      show Steps p.tables e below (s₁.setTop (mkF m 86 #[.val (.int p0), .val (.int p1), .val (.int p2), .val (.int p3), .val (.int p4), .val (.int p5), .val (.int u1), .val (.int u2), .val (.int u3), .val (.int vn), .val (.int (0 : Int32)), .val (.int c3), .val (.int sl), .unset, .unset, .unset] [])) _
      refine XS.iload X0.here hx rfl (hb hby at_86) rfl ?_
      show Steps p.tables e below (s₁.setTop (mkF m 88 #[.val (.int p0), .val (.int p1), .val (.int p2), .val (.int p3), .val (.int p4), .val (.int p5), .val (.int u1), .val (.int u2), .val (.int u3), .val (.int vn), .val (.int (0 : Int32)), .val (.int c3), .val (.int sl), .unset, .unset, .unset] [(.int sl)])) _
      refine XS.iconst X0.here hx rfl (hb hby at_88) ?_
      show Steps p.tables e below (s₁.setTop (mkF m 89 #[.val (.int p0), .val (.int p1), .val (.int p2), .val (.int p3), .val (.int p4), .val (.int p5), .val (.int u1), .val (.int u2), .val (.int u3), .val (.int vn), .val (.int (0 : Int32)), .val (.int c3), .val (.int sl), .unset, .unset, .unset] [(.int (2 : Int32)), (.int sl)])) _
      refine XS.icmpNo X0.here hx rfl (hb hby at_89) rfl (teq z3).2 ?_
      show Steps p.tables e below (s₁.setTop (mkF m 92 #[.val (.int p0), .val (.int p1), .val (.int p2), .val (.int p3), .val (.int p4), .val (.int p5), .val (.int u1), .val (.int u2), .val (.int u3), .val (.int vn), .val (.int (0 : Int32)), .val (.int c3), .val (.int sl), .unset, .unset, .unset] [])) _
      refine XS.iloadN X0.here hx rfl (hb hby at_92) rfl ?_
      show Steps p.tables e below (s₁.setTop (mkF m 93 #[.val (.int p0), .val (.int p1), .val (.int p2), .val (.int p3), .val (.int p4), .val (.int p5), .val (.int u1), .val (.int u2), .val (.int u3), .val (.int vn), .val (.int (0 : Int32)), .val (.int c3), .val (.int sl), .unset, .unset, .unset] [(.int p0)])) _
      refine XS.iconst X0.here hx rfl (hb hby at_93) ?_
      show Steps p.tables e below (s₁.setTop (mkF m 94 #[.val (.int p0), .val (.int p1), .val (.int p2), .val (.int p3), .val (.int p4), .val (.int p5), .val (.int u1), .val (.int u2), .val (.int u3), .val (.int vn), .val (.int (0 : Int32)), .val (.int c3), .val (.int sl), .unset, .unset, .unset] [(.int (1 : Int32)), (.int p0)])) _
      refine XS.iadd X0.here hx rfl (hb hby at_94) rfl ?_
      show Steps p.tables e below (s₁.setTop (mkF m 95 #[.val (.int p0), .val (.int p1), .val (.int p2), .val (.int p3), .val (.int p4), .val (.int p5), .val (.int u1), .val (.int u2), .val (.int u3), .val (.int vn), .val (.int (0 : Int32)), .val (.int c3), .val (.int sl), .unset, .unset, .unset] [(.int (p0 + (1 : Int32)))])) _
      refine XS.istore X0.here hx rfl (hb hby at_95) rfl (l' := #[.val (.int p0), .val (.int p1), .val (.int p2), .val (.int p3), .val (.int p4), .val (.int p5), .val (.int u1), .val (.int u2), .val (.int u3), .val (.int vn), .val (.int (0 : Int32)), .val (.int c3), .val (.int sl), .val (.int (p0 + (1 : Int32))), .unset, .unset]) rfl ?_
      show Steps p.tables e below (s₁.setTop (mkF m 97 #[.val (.int p0), .val (.int p1), .val (.int p2), .val (.int p3), .val (.int p4), .val (.int p5), .val (.int u1), .val (.int u2), .val (.int u3), .val (.int vn), .val (.int (0 : Int32)), .val (.int c3), .val (.int sl), .val (.int (p0 + (1 : Int32))), .unset, .unset] [])) _
      refine XS.goto X0.here hx rfl (pc0 := 97) (pc' := 104) rfl (hb hby at_97) (by decide) (by decide) ?_
      show Steps p.tables e below (s₁.setTop (mkF m 104 #[.val (.int p0), .val (.int p1), .val (.int p2), .val (.int p3), .val (.int p4), .val (.int p5), .val (.int u1), .val (.int u2), .val (.int u3), .val (.int vn), .val (.int (0 : Int32)), .val (.int c3), .val (.int sl), .val (.int (p0 + (1 : Int32))), .unset, .unset] [])) _
      exact kt
    · rw [z4] at kt
      show Steps p.tables e below (s₁.setTop (mkF m 63 #[.val (.int p0), .val (.int p1), .val (.int p2), .val (.int p3), .val (.int p4), .val (.int p5), .val (.int u1), .val (.int u2), .val (.int u3), .val (.int vn), .val (.int (0 : Int32)), .val (.int c3), .val (.int sl), .unset, .unset, .unset] [])) _
      refine XS.iload X0.here hx rfl (hb hby at_63) rfl ?_
      show Steps p.tables e below (s₁.setTop (mkF m 65 #[.val (.int p0), .val (.int p1), .val (.int p2), .val (.int p3), .val (.int p4), .val (.int p5), .val (.int u1), .val (.int u2), .val (.int u3), .val (.int vn), .val (.int (0 : Int32)), .val (.int c3), .val (.int sl), .unset, .unset, .unset] [(.int sl)])) _
      refine XS.ifYes X0.here hx rfl (pc0 := 65) (pc' := 74) rfl (hb hby at_65) rfl ((if0 _ _).trans (feq z1).2) (by decide) (by decide) ?_
      show Steps p.tables e below (s₁.setTop (mkF m 74 #[.val (.int p0), .val (.int p1), .val (.int p2), .val (.int p3), .val (.int p4), .val (.int p5), .val (.int u1), .val (.int u2), .val (.int u3), .val (.int vn), .val (.int (0 : Int32)), .val (.int c3), .val (.int sl), .unset, .unset, .unset] [])) _
      refine XS.iload X0.here hx rfl (hb hby at_74) rfl ?_
      show Steps p.tables e below (s₁.setTop (mkF m 76 #[.val (.int p0), .val (.int p1), .val (.int p2), .val (.int p3), .val (.int p4), .val (.int p5), .val (.int u1), .val (.int u2), .val (.int u3), .val (.int vn), .val (.int (0 : Int32)), .val (.int c3), .val (.int sl), .unset, .unset, .unset] [(.int sl)])) _
      refine XS.iconst X0.here hx rfl (hb hby at_76) ?_
      show Steps p.tables e below (s₁.setTop (mkF m 77 #[.val (.int p0), .val (.int p1), .val (.int p2), .val (.int p3), .val (.int p4), .val (.int p5), .val (.int u1), .val (.int u2), .val (.int u3), .val (.int vn), .val (.int (0 : Int32)), .val (.int c3), .val (.int sl), .unset, .unset, .unset] [(.int (1 : Int32)), (.int sl)])) _
      refine XS.icmpYes X0.here hx rfl (pc0 := 77) (pc' := 86) rfl (hb hby at_77) rfl (feq z2).2 (by decide) (by decide) ?_
      show Steps p.tables e below (s₁.setTop (mkF m 86 #[.val (.int p0), .val (.int p1), .val (.int p2), .val (.int p3), .val (.int p4), .val (.int p5), .val (.int u1), .val (.int u2), .val (.int u3), .val (.int vn), .val (.int (0 : Int32)), .val (.int c3), .val (.int sl), .unset, .unset, .unset] [])) _
      refine XS.iload X0.here hx rfl (hb hby at_86) rfl ?_
      show Steps p.tables e below (s₁.setTop (mkF m 88 #[.val (.int p0), .val (.int p1), .val (.int p2), .val (.int p3), .val (.int p4), .val (.int p5), .val (.int u1), .val (.int u2), .val (.int u3), .val (.int vn), .val (.int (0 : Int32)), .val (.int c3), .val (.int sl), .unset, .unset, .unset] [(.int sl)])) _
      refine XS.iconst X0.here hx rfl (hb hby at_88) ?_
      show Steps p.tables e below (s₁.setTop (mkF m 89 #[.val (.int p0), .val (.int p1), .val (.int p2), .val (.int p3), .val (.int p4), .val (.int p5), .val (.int u1), .val (.int u2), .val (.int u3), .val (.int vn), .val (.int (0 : Int32)), .val (.int c3), .val (.int sl), .unset, .unset, .unset] [(.int (2 : Int32)), (.int sl)])) _
      refine XS.icmpYes X0.here hx rfl (pc0 := 89) (pc' := 100) rfl (hb hby at_89) rfl (feq z3).2 (by decide) (by decide) ?_
      show Steps p.tables e below (s₁.setTop (mkF m 100 #[.val (.int p0), .val (.int p1), .val (.int p2), .val (.int p3), .val (.int p4), .val (.int p5), .val (.int u1), .val (.int u2), .val (.int u3), .val (.int vn), .val (.int (0 : Int32)), .val (.int c3), .val (.int sl), .unset, .unset, .unset] [])) _
      refine XS.iload X0.here hx rfl (hb hby at_100) rfl ?_
      show Steps p.tables e below (s₁.setTop (mkF m 102 #[.val (.int p0), .val (.int p1), .val (.int p2), .val (.int p3), .val (.int p4), .val (.int p5), .val (.int u1), .val (.int u2), .val (.int u3), .val (.int vn), .val (.int (0 : Int32)), .val (.int c3), .val (.int sl), .unset, .unset, .unset] [(.int p5)])) _
      refine XS.istore X0.here hx rfl (hb hby at_102) rfl (l' := #[.val (.int p0), .val (.int p1), .val (.int p2), .val (.int p3), .val (.int p4), .val (.int p5), .val (.int u1), .val (.int u2), .val (.int u3), .val (.int vn), .val (.int (0 : Int32)), .val (.int c3), .val (.int sl), .val (.int p5), .unset, .unset]) rfl ?_
      show Steps p.tables e below (s₁.setTop (mkF m 104 #[.val (.int p0), .val (.int p1), .val (.int p2), .val (.int p3), .val (.int p4), .val (.int p5), .val (.int u1), .val (.int u2), .val (.int u3), .val (.int vn), .val (.int (0 : Int32)), .val (.int c3), .val (.int sl), .val (.int p5), .unset, .unset] [])) _
      exact kt
  obtain ⟨T3, h3, X3, e3, E3, A3, D3, U3, st3⟩ := newO X0 hx hZ hown (hw _ (List.mem_of_getElem? (i := 1) rfl)) (hw _ (List.mem_of_getElem? (i := 2) rfl)) (hw _ (List.mem_of_getElem? (i := 3) rfl)) e0 (g := (mkF m 104 #[.val (.int p0), .val (.int p1), .val (.int p2), .val (.int p3), .val (.int p4), .val (.int p5), .val (.int u1), .val (.int u2), .val (.int u3), .val (.int vn), .val (.int (0 : Int32)), .val (.int c3), .val (.int sl), .val (.int q), .unset, .unset] [])) rfl (hb hby at_104) (by decide) (by decide)
  obtain ⟨b3, g3⟩ : ∃ z, z = h0.size := ⟨_, rfl⟩
  rw [← g3] at A3 D3 U3 st3
  have Ut3 : Unt h3 b3 := U3
  have g_b3 : n0 ≤ b3 := Nat.le_trans (own_le O0) (Nat.le_of_eq g3.symm)
  have O3 := O0.ext E3
  have F_concepts_b3 : Fld Z h3 b3 "com/example/kvasir/kvasir/tableau/Node" "concepts" "[I" .null := D3 (Or.inl (hw _ (List.mem_of_getElem? (i := 18) rfl))) (ty := (.array .int)) (by decide)
  have F_reasons_b3 : Fld Z h3 b3 "com/example/kvasir/kvasir/tableau/Node" "reasons" "[Lcom/example/kvasir/kvasir/tableau/DependencySet;" .null := D3 (Or.inl (hw _ (List.mem_of_getElem? (i := 22) rfl))) (ty := (.array (.object "com/example/kvasir/kvasir/tableau/DependencySet"))) (by decide)
  have F_edgeRoles_b3 : Fld Z h3 b3 "com/example/kvasir/kvasir/tableau/Node" "edgeRoles" "[I" .null := D3 (Or.inl (hw _ (List.mem_of_getElem? (i := 24) rfl))) (ty := (.array .int)) (by decide)
  have F_edgeTargets_b3 : Fld Z h3 b3 "com/example/kvasir/kvasir/tableau/Node" "edgeTargets" "[Lcom/example/kvasir/kvasir/tableau/Node;" .null := D3 (Or.inl (hw _ (List.mem_of_getElem? (i := 28) rfl))) (ty := (.array (.object "com/example/kvasir/kvasir/tableau/Node"))) (by decide)
  have F_edgeReasons_b3 : Fld Z h3 b3 "com/example/kvasir/kvasir/tableau/Node" "edgeReasons" "[Lcom/example/kvasir/kvasir/tableau/DependencySet;" .null := D3 (Or.inl (hw _ (List.mem_of_getElem? (i := 30) rfl))) (ty := (.array (.object "com/example/kvasir/kvasir/tableau/DependencySet"))) (by decide)
  have F_apart_b3 : Fld Z h3 b3 "com/example/kvasir/kvasir/tableau/Node" "apart" "[Lcom/example/kvasir/kvasir/tableau/Node;" .null := D3 (Or.inl (hw _ (List.mem_of_getElem? (i := 32) rfl))) (ty := (.array (.object "com/example/kvasir/kvasir/tableau/Node"))) (by decide)
  have F_apartReasons_b3 : Fld Z h3 b3 "com/example/kvasir/kvasir/tableau/Node" "apartReasons" "[Lcom/example/kvasir/kvasir/tableau/DependencySet;" .null := D3 (Or.inl (hw _ (List.mem_of_getElem? (i := 34) rfl))) (ty := (.array (.object "com/example/kvasir/kvasir/tableau/DependencySet"))) (by decide)
  have F_groups_b3 : Fld Z h3 b3 "com/example/kvasir/kvasir/tableau/Node" "groups" "[Lcom/example/kvasir/kvasir/tableau/ApartGroup;" .null := D3 (Or.inl (hw _ (List.mem_of_getElem? (i := 38) rfl))) (ty := (.array (.object "com/example/kvasir/kvasir/tableau/ApartGroup"))) (by decide)
  have F_groupReasons_b3 : Fld Z h3 b3 "com/example/kvasir/kvasir/tableau/Node" "groupReasons" "[Lcom/example/kvasir/kvasir/tableau/DependencySet;" .null := D3 (Or.inl (hw _ (List.mem_of_getElem? (i := 40) rfl))) (ty := (.array (.object "com/example/kvasir/kvasir/tableau/DependencySet"))) (by decide)
  have F_agendaPlaces_b3 : Fld Z h3 b3 "com/example/kvasir/kvasir/tableau/Node" "agendaPlaces" "[I" .null := D3 (Or.inl (hw _ (List.mem_of_getElem? (i := 42) rfl))) (ty := (.array .int)) (by decide)
  have F_parent_b3 : Fld Z h3 b3 "com/example/kvasir/kvasir/tableau/Node" "parent" "Lcom/example/kvasir/kvasir/tableau/Node;" .null := D3 (Or.inr (hw _ (List.mem_of_getElem? (i := 44) rfl))) (ty := (.object "com/example/kvasir/kvasir/tableau/Node")) (by decide)
  have F_number_b3 : Fld Z h3 b3 "com/example/kvasir/kvasir/tableau/Node" "number" "I" (.int (0 : Int32)) := D3 (Or.inr (hw _ (List.mem_of_getElem? (i := 46) rfl))) (ty := .int) (by decide)
  have F_value_b3 : Fld Z h3 b3 "com/example/kvasir/kvasir/tableau/Node" "value" "Z" (.int (0 : Int32)) := D3 (Or.inr (hw _ (List.mem_of_getElem? (i := 48) rfl))) (ty := .boolean) (by decide)
  have F_copies_b3 : Fld Z h3 b3 "com/example/kvasir/kvasir/tableau/Node" "copies" "J" (.long (0 : Int64)) := D3 (Or.inr (hw _ (List.mem_of_getElem? (i := 50) rfl))) (ty := .long) (by decide)
  have F_madeFor_b3 : Fld Z h3 b3 "com/example/kvasir/kvasir/tableau/Node" "madeFor" "I" (.int (0 : Int32)) := D3 (Or.inr (hw _ (List.mem_of_getElem? (i := 52) rfl))) (ty := .int) (by decide)
  have F_madeBecause_b3 : Fld Z h3 b3 "com/example/kvasir/kvasir/tableau/Node" "madeBecause" "Lcom/example/kvasir/kvasir/tableau/DependencySet;" .null := D3 (Or.inr (hw _ (List.mem_of_getElem? (i := 54) rfl))) (ty := (.object "com/example/kvasir/kvasir/tableau/DependencySet")) (by decide)
  have F_members_b3 : Fld Z h3 b3 "com/example/kvasir/kvasir/tableau/Node" "members" "[J" .null := D3 (Or.inr (hw _ (List.mem_of_getElem? (i := 57) rfl))) (ty := (.array .long)) (by decide)
  obtain ⟨_, _, ⟨T4, L4, k4, n4⟩, -, X4, ⟨Lc4, hQ4, l4, y4, z4⟩, st4⟩ := X3.specialBack hx (y := (⟨"com/example/kvasir/kvasir/tableau/Node", "<init>", "(IIZ)V"⟩ : MethodName)) rfl hown (mvT hZ (hw _ (List.mem_of_getElem? (i := 4) rfl))) (mvT hZ (hw _ (List.mem_of_getElem? (i := 5) rfl))) (mvT hZ (hw _ (List.mem_of_getElem? (i := 6) rfl))) (by decide) (backOf (W := 1) (rmC1 l Z a0 hw [] b3 wE  h3 n0 O3 S_EMPTY A3 Ut3 g_b3) hZ (hw _ (List.mem_of_getElem? (i := 6) rfl)) (hw _ (List.mem_of_getElem? (i := 3) rfl)) (by decide) (by decide)) (g := (mkF m 112 #[.val (.int p0), .val (.int p1), .val (.int p2), .val (.int p3), .val (.int p4), .val (.int p5), .val (.int u1), .val (.int u2), .val (.int u3), .val (.int vn), .val (.int (0 : Int32)), .val (.int c3), .val (.int sl), .val (.int q), .unset, .unset] [(.int (0 : Int32)), (.int (64 : Int32)), (.int (0 : Int32)), (.ref b3), (.ref b3)])) rfl (by rw [hml]; rfl) (Steps.refl _) (a := b3) (argsL := [(.int (0 : Int32)), (.int (64 : Int32)), (.int (0 : Int32))]) (rest := [(.ref b3)]) (lenOf pd_3 rfl) rfl (by show 2 * 0 + _ ≤ _; exact Nat.le_of_eq rfl) (hb hby at_112) (fun _ _ => ⟨rfl, e3, (by decide : 1 + 11 ≤ _), (by decide : 29 + 23 ≤ _)⟩)
  dsimp only [Pt.U, Pt.locs, Pt.cells, Pt.slots] at X4 l4 y4 z4 st4 hQ4
  subst l4 y4 z4
  obtain ⟨rfl, N4q, O4, Ag4⟩ := hQ4
  have N4 := Fr.app N0 N4q
  obtain ⟨cq5, kq5, q5a, q5b, q5c⟩ := isOf hZ rfl Ag4.1
  obtain ⟨_, _, ⟨T5, L5, k5, n5⟩, -, X5, ⟨Lc5, hQ5, l5, y5, z5⟩, st5⟩ := X4.virtualBack hx (y := (⟨"com/example/kvasir/kvasir/tableau/Node", "placeOnAgenda", "(II)V"⟩ : MethodName)) (z := (⟨"com/example/kvasir/kvasir/tableau/Node", "placeOnAgenda", "(II)V"⟩ : MethodName)) hown (mvT hZ (hw _ (List.mem_of_getElem? (i := 58) rfl))) (mvT hZ (hw _ (List.mem_of_getElem? (i := 59) rfl))) (notFace_of_selects (args := #[]) (mvT hZ (hw _ (List.mem_of_getElem? (i := 61) rfl)))) (mvT hZ (hw _ (List.mem_of_getElem? (i := 61) rfl))) (mvT hZ (hw _ (List.mem_of_getElem? (i := 60) rfl))) (by decide) (backOf (W := 0) (rmP l Z a0 hw [] b3 p0 u1 [] T4.heap n0 O4 Ag4 (by decide)) hZ (hw _ (List.mem_of_getElem? (i := 62) rfl)) (hw _ (List.mem_of_getElem? (i := 3) rfl)) (by decide) (by decide)) q5a q5c (g := (mkF m 128 #[.val (.int p0), .val (.int p1), .val (.int p2), .val (.int p3), .val (.int p4), .val (.int p5), .val (.int u1), .val (.int u2), .val (.int u3), .val (.int vn), .val (.int (0 : Int32)), .val (.int c3), .val (.int sl), .val (.int q), .val (.ref b3), .unset] [(.int u1), (.int p0), (.ref b3)])) rfl (by rw [hml]; rfl) (Steps.refl _) (argsL := [(.int p0), (.int u1)]) (rest := []) (lenOf pd_5 rfl) rfl (by show 2 * 0 + _ ≤ _; exact Nat.le_of_eq rfl) (hb hby at_128) (fun _ _ => ⟨rfl, rfl, (by decide : 12 + 1 ≤ _), (by decide : 52 + 6 ≤ _)⟩)
  dsimp only [Pt.U, Pt.locs, Pt.cells, Pt.slots] at X5 l5 y5 z5 st5 hQ5
  subst l5 y5 z5
  obtain ⟨rfl, N5q, O5, Ag5⟩ := hQ5
  have N5 := Fr.app N4 N5q
  obtain ⟨cq6, kq6, q6a, q6b, q6c⟩ := isOf hZ rfl Ag5.1
  obtain ⟨_, _, ⟨T6, L6, k6, n6⟩, -, X6, ⟨Lc6, hQ6, l6, y6, z6⟩, st6⟩ := X5.virtualBack hx (y := (⟨"com/example/kvasir/kvasir/tableau/Node", "placeOnAgenda", "(II)V"⟩ : MethodName)) (z := (⟨"com/example/kvasir/kvasir/tableau/Node", "placeOnAgenda", "(II)V"⟩ : MethodName)) hown (mvT hZ (hw _ (List.mem_of_getElem? (i := 58) rfl))) (mvT hZ (hw _ (List.mem_of_getElem? (i := 59) rfl))) (notFace_of_selects (args := #[]) (mvT hZ (hw _ (List.mem_of_getElem? (i := 61) rfl)))) (mvT hZ (hw _ (List.mem_of_getElem? (i := 61) rfl))) (mvT hZ (hw _ (List.mem_of_getElem? (i := 60) rfl))) (by decide) (backOf (W := 0) (rmP l Z a0 hw [] b3 p1 u2 (own_put [] p0 u1) T5.heap n0 O5 Ag5 (by show (1 : Nat) ≤ 2; decide)) hZ (hw _ (List.mem_of_getElem? (i := 62) rfl)) (hw _ (List.mem_of_getElem? (i := 3) rfl)) (by decide) (by decide)) q6a q6c (g := (mkF m 142 #[.val (.int p0), .val (.int p1), .val (.int p2), .val (.int p3), .val (.int p4), .val (.int p5), .val (.int u1), .val (.int u2), .val (.int u3), .val (.int vn), .val (.int (0 : Int32)), .val (.int c3), .val (.int sl), .val (.int q), .val (.ref b3), .unset] [(.int u2), (.int p1), (.ref b3)])) rfl (by rw [hml]; rfl) (Steps.refl _) (argsL := [(.int p1), (.int u2)]) (rest := []) (lenOf pd_5 rfl) rfl (by show 2 * 0 + _ ≤ _; exact Nat.le_of_eq rfl) (hb hby at_142) (fun _ _ => ⟨rfl, rfl, (by decide : 13 + 1 ≤ _), (by decide : 58 + 6 ≤ _)⟩)
  dsimp only [Pt.U, Pt.locs, Pt.cells, Pt.slots] at X6 l6 y6 z6 st6 hQ6
  subst l6 y6 z6
  obtain ⟨rfl, N6q, O6, Ag6⟩ := hQ6
  have N6 := Fr.app N5 N6q
  have fk7 : ∀ target, Steps p.tables e below (T6.setTop (mkF m 178 #[.val (.int p0), .val (.int p1), .val (.int p2), .val (.int p3), .val (.int p4), .val (.int p5), .val (.int u1), .val (.int u2), .val (.int u3), .val (.int vn), .val (.int (0 : Int32)), .val (.int c3), .val (.int sl), .val (.int q), .val (.ref b3), .val (.int ex1)] [])) target → Steps p.tables e below (T6.setTop (mkF m 162 #[.val (.int p0), .val (.int p1), .val (.int p2), .val (.int p3), .val (.int p4), .val (.int p5), .val (.int u1), .val (.int u2), .val (.int u3), .val (.int vn), .val (.int (0 : Int32)), .val (.int c3), .val (.int sl), .val (.int q), .val (.ref b3), .val (.int (-1 : Int32))] [])) target := by
    intro target kt
    rcases hx1 with ⟨z1, z2⟩ | ⟨z1, z2⟩
    · rw [z2] at kt
      show Steps p.tables e below (T6.setTop (mkF m 162 #[.val (.int p0), .val (.int p1), .val (.int p2), .val (.int p3), .val (.int p4), .val (.int p5), .val (.int u1), .val (.int u2), .val (.int u3), .val (.int vn), .val (.int (0 : Int32)), .val (.int c3), .val (.int sl), .val (.int q), .val (.ref b3), .val (.int (-1 : Int32))] [])) _
      refine XS.iload X6.here hx rfl (hb hby at_162) rfl ?_
      show Steps p.tables e below (T6.setTop (mkF m 164 #[.val (.int p0), .val (.int p1), .val (.int p2), .val (.int p3), .val (.int p4), .val (.int p5), .val (.int u1), .val (.int u2), .val (.int u3), .val (.int vn), .val (.int (0 : Int32)), .val (.int c3), .val (.int sl), .val (.int q), .val (.ref b3), .val (.int (-1 : Int32))] [(.int vn)])) _
      refine XS.iconst X6.here hx rfl (hb hby at_164) ?_
      show Steps p.tables e below (T6.setTop (mkF m 165 #[.val (.int p0), .val (.int p1), .val (.int p2), .val (.int p3), .val (.int p4), .val (.int p5), .val (.int u1), .val (.int u2), .val (.int u3), .val (.int vn), .val (.int (0 : Int32)), .val (.int c3), .val (.int sl), .val (.int q), .val (.ref b3), .val (.int (-1 : Int32))] [(.int (1 : Int32)), (.int vn)])) _
      refine XS.icmpNo X6.here hx rfl (hb hby at_165) rfl (flt hn1).1 ?_
      show Steps p.tables e below (T6.setTop (mkF m 168 #[.val (.int p0), .val (.int p1), .val (.int p2), .val (.int p3), .val (.int p4), .val (.int p5), .val (.int u1), .val (.int u2), .val (.int u3), .val (.int vn), .val (.int (0 : Int32)), .val (.int c3), .val (.int sl), .val (.int q), .val (.ref b3), .val (.int (-1 : Int32))] [])) _
      refine XS.iload X6.here hx rfl (hb hby at_168) rfl ?_
      show Steps p.tables e below (T6.setTop (mkF m 170 #[.val (.int p0), .val (.int p1), .val (.int p2), .val (.int p3), .val (.int p4), .val (.int p5), .val (.int u1), .val (.int u2), .val (.int u3), .val (.int vn), .val (.int (0 : Int32)), .val (.int c3), .val (.int sl), .val (.int q), .val (.ref b3), .val (.int (-1 : Int32))] [(.int q)])) _
      refine XS.iloadN X6.here hx rfl (hb hby at_170) rfl ?_
      show Steps p.tables e below (T6.setTop (mkF m 171 #[.val (.int p0), .val (.int p1), .val (.int p2), .val (.int p3), .val (.int p4), .val (.int p5), .val (.int u1), .val (.int u2), .val (.int u3), .val (.int vn), .val (.int (0 : Int32)), .val (.int c3), .val (.int sl), .val (.int q), .val (.ref b3), .val (.int (-1 : Int32))] [(.int p0), (.int q)])) _
      refine XS.icmpNo X6.here hx rfl (hb hby at_171) rfl (teq z1).2 ?_
      show Steps p.tables e below (T6.setTop (mkF m 174 #[.val (.int p0), .val (.int p1), .val (.int p2), .val (.int p3), .val (.int p4), .val (.int p5), .val (.int u1), .val (.int u2), .val (.int u3), .val (.int vn), .val (.int (0 : Int32)), .val (.int c3), .val (.int sl), .val (.int q), .val (.ref b3), .val (.int (-1 : Int32))] [])) _
      refine XS.iload X6.here hx rfl (hb hby at_174) rfl ?_
      show Steps p.tables e below (T6.setTop (mkF m 176 #[.val (.int p0), .val (.int p1), .val (.int p2), .val (.int p3), .val (.int p4), .val (.int p5), .val (.int u1), .val (.int u2), .val (.int u3), .val (.int vn), .val (.int (0 : Int32)), .val (.int c3), .val (.int sl), .val (.int q), .val (.ref b3), .val (.int (-1 : Int32))] [(.int u1)])) _
      refine XS.istore X6.here hx rfl (hb hby at_176) rfl (l' := #[.val (.int p0), .val (.int p1), .val (.int p2), .val (.int p3), .val (.int p4), .val (.int p5), .val (.int u1), .val (.int u2), .val (.int u3), .val (.int vn), .val (.int (0 : Int32)), .val (.int c3), .val (.int sl), .val (.int q), .val (.ref b3), .val (.int u1)]) rfl ?_
      show Steps p.tables e below (T6.setTop (mkF m 178 #[.val (.int p0), .val (.int p1), .val (.int p2), .val (.int p3), .val (.int p4), .val (.int p5), .val (.int u1), .val (.int u2), .val (.int u3), .val (.int vn), .val (.int (0 : Int32)), .val (.int c3), .val (.int sl), .val (.int q), .val (.ref b3), .val (.int u1)] [])) _
      exact kt
    · rw [z2] at kt
      show Steps p.tables e below (T6.setTop (mkF m 162 #[.val (.int p0), .val (.int p1), .val (.int p2), .val (.int p3), .val (.int p4), .val (.int p5), .val (.int u1), .val (.int u2), .val (.int u3), .val (.int vn), .val (.int (0 : Int32)), .val (.int c3), .val (.int sl), .val (.int q), .val (.ref b3), .val (.int (-1 : Int32))] [])) _
      refine XS.iload X6.here hx rfl (hb hby at_162) rfl ?_
      show Steps p.tables e below (T6.setTop (mkF m 164 #[.val (.int p0), .val (.int p1), .val (.int p2), .val (.int p3), .val (.int p4), .val (.int p5), .val (.int u1), .val (.int u2), .val (.int u3), .val (.int vn), .val (.int (0 : Int32)), .val (.int c3), .val (.int sl), .val (.int q), .val (.ref b3), .val (.int (-1 : Int32))] [(.int vn)])) _
      refine XS.iconst X6.here hx rfl (hb hby at_164) ?_
      show Steps p.tables e below (T6.setTop (mkF m 165 #[.val (.int p0), .val (.int p1), .val (.int p2), .val (.int p3), .val (.int p4), .val (.int p5), .val (.int u1), .val (.int u2), .val (.int u3), .val (.int vn), .val (.int (0 : Int32)), .val (.int c3), .val (.int sl), .val (.int q), .val (.ref b3), .val (.int (-1 : Int32))] [(.int (1 : Int32)), (.int vn)])) _
      refine XS.icmpNo X6.here hx rfl (hb hby at_165) rfl (flt hn1).1 ?_
      show Steps p.tables e below (T6.setTop (mkF m 168 #[.val (.int p0), .val (.int p1), .val (.int p2), .val (.int p3), .val (.int p4), .val (.int p5), .val (.int u1), .val (.int u2), .val (.int u3), .val (.int vn), .val (.int (0 : Int32)), .val (.int c3), .val (.int sl), .val (.int q), .val (.ref b3), .val (.int (-1 : Int32))] [])) _
      refine XS.iload X6.here hx rfl (hb hby at_168) rfl ?_
      show Steps p.tables e below (T6.setTop (mkF m 170 #[.val (.int p0), .val (.int p1), .val (.int p2), .val (.int p3), .val (.int p4), .val (.int p5), .val (.int u1), .val (.int u2), .val (.int u3), .val (.int vn), .val (.int (0 : Int32)), .val (.int c3), .val (.int sl), .val (.int q), .val (.ref b3), .val (.int (-1 : Int32))] [(.int q)])) _
      refine XS.iloadN X6.here hx rfl (hb hby at_170) rfl ?_
      show Steps p.tables e below (T6.setTop (mkF m 171 #[.val (.int p0), .val (.int p1), .val (.int p2), .val (.int p3), .val (.int p4), .val (.int p5), .val (.int u1), .val (.int u2), .val (.int u3), .val (.int vn), .val (.int (0 : Int32)), .val (.int c3), .val (.int sl), .val (.int q), .val (.ref b3), .val (.int (-1 : Int32))] [(.int p0), (.int q)])) _
      refine XS.icmpYes X6.here hx rfl (pc0 := 171) (pc' := 178) rfl (hb hby at_171) rfl (feq z1).2 (by decide) (by decide) ?_
      show Steps p.tables e below (T6.setTop (mkF m 178 #[.val (.int p0), .val (.int p1), .val (.int p2), .val (.int p3), .val (.int p4), .val (.int p5), .val (.int u1), .val (.int u2), .val (.int u3), .val (.int vn), .val (.int (0 : Int32)), .val (.int c3), .val (.int sl), .val (.int q), .val (.ref b3), .val (.int (-1 : Int32))] [])) _
      exact kt
  have fk8 : ∀ target, Steps p.tables e below (T6.setTop (mkF m 194 #[.val (.int p0), .val (.int p1), .val (.int p2), .val (.int p3), .val (.int p4), .val (.int p5), .val (.int u1), .val (.int u2), .val (.int u3), .val (.int vn), .val (.int (0 : Int32)), .val (.int c3), .val (.int sl), .val (.int q), .val (.ref b3), .val (.int ex2)] [])) target → Steps p.tables e below (T6.setTop (mkF m 178 #[.val (.int p0), .val (.int p1), .val (.int p2), .val (.int p3), .val (.int p4), .val (.int p5), .val (.int u1), .val (.int u2), .val (.int u3), .val (.int vn), .val (.int (0 : Int32)), .val (.int c3), .val (.int sl), .val (.int q), .val (.ref b3), .val (.int ex1)] [])) target := by
    intro target kt
    rcases hx2 with ⟨z1, z2⟩ | ⟨z1, z2⟩
    · rw [z2] at kt
      show Steps p.tables e below (T6.setTop (mkF m 178 #[.val (.int p0), .val (.int p1), .val (.int p2), .val (.int p3), .val (.int p4), .val (.int p5), .val (.int u1), .val (.int u2), .val (.int u3), .val (.int vn), .val (.int (0 : Int32)), .val (.int c3), .val (.int sl), .val (.int q), .val (.ref b3), .val (.int ex1)] [])) _
      refine XS.iload X6.here hx rfl (hb hby at_178) rfl ?_
      show Steps p.tables e below (T6.setTop (mkF m 180 #[.val (.int p0), .val (.int p1), .val (.int p2), .val (.int p3), .val (.int p4), .val (.int p5), .val (.int u1), .val (.int u2), .val (.int u3), .val (.int vn), .val (.int (0 : Int32)), .val (.int c3), .val (.int sl), .val (.int q), .val (.ref b3), .val (.int ex1)] [(.int vn)])) _
      refine XS.iconst X6.here hx rfl (hb hby at_180) ?_
      show Steps p.tables e below (T6.setTop (mkF m 181 #[.val (.int p0), .val (.int p1), .val (.int p2), .val (.int p3), .val (.int p4), .val (.int p5), .val (.int u1), .val (.int u2), .val (.int u3), .val (.int vn), .val (.int (0 : Int32)), .val (.int c3), .val (.int sl), .val (.int q), .val (.ref b3), .val (.int ex1)] [(.int (2 : Int32)), (.int vn)])) _
      refine XS.icmpNo X6.here hx rfl (hb hby at_181) rfl (flt hn2).1 ?_
      show Steps p.tables e below (T6.setTop (mkF m 184 #[.val (.int p0), .val (.int p1), .val (.int p2), .val (.int p3), .val (.int p4), .val (.int p5), .val (.int u1), .val (.int u2), .val (.int u3), .val (.int vn), .val (.int (0 : Int32)), .val (.int c3), .val (.int sl), .val (.int q), .val (.ref b3), .val (.int ex1)] [])) _
      refine XS.iload X6.here hx rfl (hb hby at_184) rfl ?_
      show Steps p.tables e below (T6.setTop (mkF m 186 #[.val (.int p0), .val (.int p1), .val (.int p2), .val (.int p3), .val (.int p4), .val (.int p5), .val (.int u1), .val (.int u2), .val (.int u3), .val (.int vn), .val (.int (0 : Int32)), .val (.int c3), .val (.int sl), .val (.int q), .val (.ref b3), .val (.int ex1)] [(.int q)])) _
      refine XS.iloadN X6.here hx rfl (hb hby at_186) rfl ?_
      show Steps p.tables e below (T6.setTop (mkF m 187 #[.val (.int p0), .val (.int p1), .val (.int p2), .val (.int p3), .val (.int p4), .val (.int p5), .val (.int u1), .val (.int u2), .val (.int u3), .val (.int vn), .val (.int (0 : Int32)), .val (.int c3), .val (.int sl), .val (.int q), .val (.ref b3), .val (.int ex1)] [(.int p1), (.int q)])) _
      refine XS.icmpNo X6.here hx rfl (hb hby at_187) rfl (teq z1).2 ?_
      show Steps p.tables e below (T6.setTop (mkF m 190 #[.val (.int p0), .val (.int p1), .val (.int p2), .val (.int p3), .val (.int p4), .val (.int p5), .val (.int u1), .val (.int u2), .val (.int u3), .val (.int vn), .val (.int (0 : Int32)), .val (.int c3), .val (.int sl), .val (.int q), .val (.ref b3), .val (.int ex1)] [])) _
      refine XS.iload X6.here hx rfl (hb hby at_190) rfl ?_
      show Steps p.tables e below (T6.setTop (mkF m 192 #[.val (.int p0), .val (.int p1), .val (.int p2), .val (.int p3), .val (.int p4), .val (.int p5), .val (.int u1), .val (.int u2), .val (.int u3), .val (.int vn), .val (.int (0 : Int32)), .val (.int c3), .val (.int sl), .val (.int q), .val (.ref b3), .val (.int ex1)] [(.int u2)])) _
      refine XS.istore X6.here hx rfl (hb hby at_192) rfl (l' := #[.val (.int p0), .val (.int p1), .val (.int p2), .val (.int p3), .val (.int p4), .val (.int p5), .val (.int u1), .val (.int u2), .val (.int u3), .val (.int vn), .val (.int (0 : Int32)), .val (.int c3), .val (.int sl), .val (.int q), .val (.ref b3), .val (.int u2)]) rfl ?_
      show Steps p.tables e below (T6.setTop (mkF m 194 #[.val (.int p0), .val (.int p1), .val (.int p2), .val (.int p3), .val (.int p4), .val (.int p5), .val (.int u1), .val (.int u2), .val (.int u3), .val (.int vn), .val (.int (0 : Int32)), .val (.int c3), .val (.int sl), .val (.int q), .val (.ref b3), .val (.int u2)] [])) _
      exact kt
    · rw [z2] at kt
      show Steps p.tables e below (T6.setTop (mkF m 178 #[.val (.int p0), .val (.int p1), .val (.int p2), .val (.int p3), .val (.int p4), .val (.int p5), .val (.int u1), .val (.int u2), .val (.int u3), .val (.int vn), .val (.int (0 : Int32)), .val (.int c3), .val (.int sl), .val (.int q), .val (.ref b3), .val (.int ex1)] [])) _
      refine XS.iload X6.here hx rfl (hb hby at_178) rfl ?_
      show Steps p.tables e below (T6.setTop (mkF m 180 #[.val (.int p0), .val (.int p1), .val (.int p2), .val (.int p3), .val (.int p4), .val (.int p5), .val (.int u1), .val (.int u2), .val (.int u3), .val (.int vn), .val (.int (0 : Int32)), .val (.int c3), .val (.int sl), .val (.int q), .val (.ref b3), .val (.int ex1)] [(.int vn)])) _
      refine XS.iconst X6.here hx rfl (hb hby at_180) ?_
      show Steps p.tables e below (T6.setTop (mkF m 181 #[.val (.int p0), .val (.int p1), .val (.int p2), .val (.int p3), .val (.int p4), .val (.int p5), .val (.int u1), .val (.int u2), .val (.int u3), .val (.int vn), .val (.int (0 : Int32)), .val (.int c3), .val (.int sl), .val (.int q), .val (.ref b3), .val (.int ex1)] [(.int (2 : Int32)), (.int vn)])) _
      refine XS.icmpNo X6.here hx rfl (hb hby at_181) rfl (flt hn2).1 ?_
      show Steps p.tables e below (T6.setTop (mkF m 184 #[.val (.int p0), .val (.int p1), .val (.int p2), .val (.int p3), .val (.int p4), .val (.int p5), .val (.int u1), .val (.int u2), .val (.int u3), .val (.int vn), .val (.int (0 : Int32)), .val (.int c3), .val (.int sl), .val (.int q), .val (.ref b3), .val (.int ex1)] [])) _
      refine XS.iload X6.here hx rfl (hb hby at_184) rfl ?_
      show Steps p.tables e below (T6.setTop (mkF m 186 #[.val (.int p0), .val (.int p1), .val (.int p2), .val (.int p3), .val (.int p4), .val (.int p5), .val (.int u1), .val (.int u2), .val (.int u3), .val (.int vn), .val (.int (0 : Int32)), .val (.int c3), .val (.int sl), .val (.int q), .val (.ref b3), .val (.int ex1)] [(.int q)])) _
      refine XS.iloadN X6.here hx rfl (hb hby at_186) rfl ?_
      show Steps p.tables e below (T6.setTop (mkF m 187 #[.val (.int p0), .val (.int p1), .val (.int p2), .val (.int p3), .val (.int p4), .val (.int p5), .val (.int u1), .val (.int u2), .val (.int u3), .val (.int vn), .val (.int (0 : Int32)), .val (.int c3), .val (.int sl), .val (.int q), .val (.ref b3), .val (.int ex1)] [(.int p1), (.int q)])) _
      refine XS.icmpYes X6.here hx rfl (pc0 := 187) (pc' := 194) rfl (hb hby at_187) rfl (feq z1).2 (by decide) (by decide) ?_
      show Steps p.tables e below (T6.setTop (mkF m 194 #[.val (.int p0), .val (.int p1), .val (.int p2), .val (.int p3), .val (.int p4), .val (.int p5), .val (.int u1), .val (.int u2), .val (.int u3), .val (.int vn), .val (.int (0 : Int32)), .val (.int c3), .val (.int sl), .val (.int q), .val (.ref b3), .val (.int ex1)] [])) _
      exact kt
  have fk9 : ∀ target, Steps p.tables e below (T6.setTop (mkF m 210 #[.val (.int p0), .val (.int p1), .val (.int p2), .val (.int p3), .val (.int p4), .val (.int p5), .val (.int u1), .val (.int u2), .val (.int u3), .val (.int vn), .val (.int (0 : Int32)), .val (.int c3), .val (.int sl), .val (.int q), .val (.ref b3), .val (.int ex3)] [])) target → Steps p.tables e below (T6.setTop (mkF m 194 #[.val (.int p0), .val (.int p1), .val (.int p2), .val (.int p3), .val (.int p4), .val (.int p5), .val (.int u1), .val (.int u2), .val (.int u3), .val (.int vn), .val (.int (0 : Int32)), .val (.int c3), .val (.int sl), .val (.int q), .val (.ref b3), .val (.int ex2)] [])) target := by
    intro target kt
    have z2 := hx3
    · rw [z2] at kt
      show Steps p.tables e below (T6.setTop (mkF m 194 #[.val (.int p0), .val (.int p1), .val (.int p2), .val (.int p3), .val (.int p4), .val (.int p5), .val (.int u1), .val (.int u2), .val (.int u3), .val (.int vn), .val (.int (0 : Int32)), .val (.int c3), .val (.int sl), .val (.int q), .val (.ref b3), .val (.int ex2)] [])) _
      refine XS.iload X6.here hx rfl (hb hby at_194) rfl ?_
      show Steps p.tables e below (T6.setTop (mkF m 196 #[.val (.int p0), .val (.int p1), .val (.int p2), .val (.int p3), .val (.int p4), .val (.int p5), .val (.int u1), .val (.int u2), .val (.int u3), .val (.int vn), .val (.int (0 : Int32)), .val (.int c3), .val (.int sl), .val (.int q), .val (.ref b3), .val (.int ex2)] [(.int (0 : Int32))])) _
      refine XS.ifYes X6.here hx rfl (pc0 := 196) (pc' := 210) rfl (hb hby at_196) rfl ((if0 _ _).trans (teq (by decide : (0 : Int32) = (0 : Int32))).1) (by decide) (by decide) ?_
      show Steps p.tables e below (T6.setTop (mkF m 210 #[.val (.int p0), .val (.int p1), .val (.int p2), .val (.int p3), .val (.int p4), .val (.int p5), .val (.int u1), .val (.int u2), .val (.int u3), .val (.int vn), .val (.int (0 : Int32)), .val (.int c3), .val (.int sl), .val (.int q), .val (.ref b3), .val (.int ex2)] [])) _
      exact kt
  have hget : own_get (own_put (own_put [] p0 u1) p1 u2) q = ex3 := by
    simp only [own_get_put]
    exact own_exp_E p0 p1 c3 q u1 u2 u3 ex1 ex2 ex3 hx1 hx2 hx3
  obtain ⟨cq10, kq10, q10a, q10b, q10c⟩ := isOf hZ rfl Ag6.1
  obtain ⟨_, _, ⟨T10, L10, k10, n10⟩, -, X10, ⟨Lc10, hQ10, l10, y10, z10⟩, st10⟩ := X6.virtualBack hx (y := (⟨"com/example/kvasir/kvasir/tableau/Node", "agendaPlace", "(I)I"⟩ : MethodName)) (z := (⟨"com/example/kvasir/kvasir/tableau/Node", "agendaPlace", "(I)I"⟩ : MethodName)) hown (mvT hZ (hw _ (List.mem_of_getElem? (i := 75) rfl))) (mvT hZ (hw _ (List.mem_of_getElem? (i := 76) rfl))) (notFace_of_selects (args := #[]) (mvT hZ (hw _ (List.mem_of_getElem? (i := 78) rfl)))) (mvT hZ (hw _ (List.mem_of_getElem? (i := 78) rfl))) (mvT hZ (hw _ (List.mem_of_getElem? (i := 77) rfl))) (by decide) (backOf (W := 0) (rmG l Z a0 hw [] b3 q (own_put (own_put [] p0 u1) p1 u2) T6.heap n0 O6 Ag6 (Nat.le_trans (own_len_put _ _ _) (Nat.succ_le_succ (Nat.le_trans (own_len_put _ _ _) (by decide)))) (own_nn_put _ _ _ (own_nn_put _ _ _ trivial (hu1 ▸ own_mask_nn _)) (hu2 ▸ own_mask_nn _))) hZ (hw _ (List.mem_of_getElem? (i := 79) rfl)) (hw _ (List.mem_of_getElem? (i := 3) rfl)) (by decide) (by decide)) q10a q10c (g := (mkF m 214 #[.val (.int p0), .val (.int p1), .val (.int p2), .val (.int p3), .val (.int p4), .val (.int p5), .val (.int u1), .val (.int u2), .val (.int u3), .val (.int vn), .val (.int (0 : Int32)), .val (.int c3), .val (.int sl), .val (.int q), .val (.ref b3), .val (.int ex3)] [(.int q), (.ref b3)])) rfl (by rw [hml]; rfl) (Steps.refl _) (argsL := [(.int q)]) (rest := []) (lenOf pd_4 rfl) rfl (by show 2 * 0 + _ ≤ _; exact Nat.le_of_eq rfl) (hb hby at_214) (fun _ _ => ⟨rfl, rfl, (by decide : 14 + 0 ≤ _), (by decide : 64 + 0 ≤ _)⟩)
  dsimp only [Pt.U, Pt.locs, Pt.cells, Pt.slots] at X10 l10 y10 z10 st10 hQ10
  subst l10 y10 z10
  obtain ⟨rfl, N10q, e10⟩ := hQ10
  have N10 := Fr.app N6 N10q
  obtain ⟨fs, hr, hrun, hended, hW, hsame⟩ := X10.leave (v := some (.int (1 : Int32))) (fun h => by rw [Bd.returns] at h; cases h)
  refine ⟨_, _, pre0 _ ?_, hrun, hended, _, _, rfl, ?_, ⟨_, rfl⟩, hW, hsame.mono (by decide) (by decide)⟩
  · show Steps p.tables e below (s₁.setTop (mkF m 0 #[.val (.int p0), .val (.int p1), .val (.int p2), .val (.int p3), .val (.int p4), .val (.int p5), .unset, .unset, .unset, .unset, .unset, .unset, .unset, .unset, .unset, .unset] [])) _
    refine XS.iloadN X0.here hx rfl (hb hby at_0) rfl ?_
    show Steps p.tables e below (s₁.setTop (mkF m 1 #[.val (.int p0), .val (.int p1), .val (.int p2), .val (.int p3), .val (.int p4), .val (.int p5), .unset, .unset, .unset, .unset, .unset, .unset, .unset, .unset, .unset, .unset] [(.int p2)])) _
    refine X0.ldcInt hx hown (mvT hZ (hw _ (List.mem_of_getElem? (i := 0) rfl))) (g := (mkF m 1 #[.val (.int p0), .val (.int p1), .val (.int p2), .val (.int p3), .val (.int p4), .val (.int p5), .unset, .unset, .unset, .unset, .unset, .unset, .unset, .unset, .unset, .unset] [(.int p2)])) rfl (hb hby at_1) _ ?_
    show Steps p.tables e below (s₁.setTop (mkF m 3 #[.val (.int p0), .val (.int p1), .val (.int p2), .val (.int p3), .val (.int p4), .val (.int p5), .unset, .unset, .unset, .unset, .unset, .unset, .unset, .unset, .unset, .unset] [(.int (2147483647 : Int32)), (.int p2)])) _
    refine XS.iand X0.here hx rfl (hb hby at_3) rfl ?_
    show Steps p.tables e below (s₁.setTop (mkF m 4 #[.val (.int p0), .val (.int p1), .val (.int p2), .val (.int p3), .val (.int p4), .val (.int p5), .unset, .unset, .unset, .unset, .unset, .unset, .unset, .unset, .unset, .unset] [(.int (p2 &&& (2147483647 : Int32)))])) _
    rw [hu1]
    show Steps p.tables e below (s₁.setTop (mkF m 4 #[.val (.int p0), .val (.int p1), .val (.int p2), .val (.int p3), .val (.int p4), .val (.int p5), .unset, .unset, .unset, .unset, .unset, .unset, .unset, .unset, .unset, .unset] [(.int u1)])) _
    refine XS.istore X0.here hx rfl (hb hby at_4) rfl (l' := #[.val (.int p0), .val (.int p1), .val (.int p2), .val (.int p3), .val (.int p4), .val (.int p5), .val (.int u1), .unset, .unset, .unset, .unset, .unset, .unset, .unset, .unset, .unset]) rfl ?_
    show Steps p.tables e below (s₁.setTop (mkF m 6 #[.val (.int p0), .val (.int p1), .val (.int p2), .val (.int p3), .val (.int p4), .val (.int p5), .val (.int u1), .unset, .unset, .unset, .unset, .unset, .unset, .unset, .unset, .unset] [])) _
    refine XS.iloadN X0.here hx rfl (hb hby at_6) rfl ?_
    show Steps p.tables e below (s₁.setTop (mkF m 7 #[.val (.int p0), .val (.int p1), .val (.int p2), .val (.int p3), .val (.int p4), .val (.int p5), .val (.int u1), .unset, .unset, .unset, .unset, .unset, .unset, .unset, .unset, .unset] [(.int p3)])) _
    refine X0.ldcInt hx hown (mvT hZ (hw _ (List.mem_of_getElem? (i := 0) rfl))) (g := (mkF m 7 #[.val (.int p0), .val (.int p1), .val (.int p2), .val (.int p3), .val (.int p4), .val (.int p5), .val (.int u1), .unset, .unset, .unset, .unset, .unset, .unset, .unset, .unset, .unset] [(.int p3)])) rfl (hb hby at_7) _ ?_
    show Steps p.tables e below (s₁.setTop (mkF m 9 #[.val (.int p0), .val (.int p1), .val (.int p2), .val (.int p3), .val (.int p4), .val (.int p5), .val (.int u1), .unset, .unset, .unset, .unset, .unset, .unset, .unset, .unset, .unset] [(.int (2147483647 : Int32)), (.int p3)])) _
    refine XS.iand X0.here hx rfl (hb hby at_9) rfl ?_
    show Steps p.tables e below (s₁.setTop (mkF m 10 #[.val (.int p0), .val (.int p1), .val (.int p2), .val (.int p3), .val (.int p4), .val (.int p5), .val (.int u1), .unset, .unset, .unset, .unset, .unset, .unset, .unset, .unset, .unset] [(.int (p3 &&& (2147483647 : Int32)))])) _
    rw [hu2]
    show Steps p.tables e below (s₁.setTop (mkF m 10 #[.val (.int p0), .val (.int p1), .val (.int p2), .val (.int p3), .val (.int p4), .val (.int p5), .val (.int u1), .unset, .unset, .unset, .unset, .unset, .unset, .unset, .unset, .unset] [(.int u2)])) _
    refine XS.istore X0.here hx rfl (hb hby at_10) rfl (l' := #[.val (.int p0), .val (.int p1), .val (.int p2), .val (.int p3), .val (.int p4), .val (.int p5), .val (.int u1), .val (.int u2), .unset, .unset, .unset, .unset, .unset, .unset, .unset, .unset]) rfl ?_
    show Steps p.tables e below (s₁.setTop (mkF m 12 #[.val (.int p0), .val (.int p1), .val (.int p2), .val (.int p3), .val (.int p4), .val (.int p5), .val (.int u1), .val (.int u2), .unset, .unset, .unset, .unset, .unset, .unset, .unset, .unset] [])) _
    refine XS.iload X0.here hx rfl (hb hby at_12) rfl ?_
    show Steps p.tables e below (s₁.setTop (mkF m 14 #[.val (.int p0), .val (.int p1), .val (.int p2), .val (.int p3), .val (.int p4), .val (.int p5), .val (.int u1), .val (.int u2), .unset, .unset, .unset, .unset, .unset, .unset, .unset, .unset] [(.int p4)])) _
    refine X0.ldcInt hx hown (mvT hZ (hw _ (List.mem_of_getElem? (i := 0) rfl))) (g := (mkF m 14 #[.val (.int p0), .val (.int p1), .val (.int p2), .val (.int p3), .val (.int p4), .val (.int p5), .val (.int u1), .val (.int u2), .unset, .unset, .unset, .unset, .unset, .unset, .unset, .unset] [(.int p4)])) rfl (hb hby at_14) _ ?_
    show Steps p.tables e below (s₁.setTop (mkF m 16 #[.val (.int p0), .val (.int p1), .val (.int p2), .val (.int p3), .val (.int p4), .val (.int p5), .val (.int u1), .val (.int u2), .unset, .unset, .unset, .unset, .unset, .unset, .unset, .unset] [(.int (2147483647 : Int32)), (.int p4)])) _
    refine XS.iand X0.here hx rfl (hb hby at_16) rfl ?_
    show Steps p.tables e below (s₁.setTop (mkF m 17 #[.val (.int p0), .val (.int p1), .val (.int p2), .val (.int p3), .val (.int p4), .val (.int p5), .val (.int u1), .val (.int u2), .unset, .unset, .unset, .unset, .unset, .unset, .unset, .unset] [(.int (p4 &&& (2147483647 : Int32)))])) _
    rw [hu3]
    show Steps p.tables e below (s₁.setTop (mkF m 17 #[.val (.int p0), .val (.int p1), .val (.int p2), .val (.int p3), .val (.int p4), .val (.int p5), .val (.int u1), .val (.int u2), .unset, .unset, .unset, .unset, .unset, .unset, .unset, .unset] [(.int u3)])) _
    refine XS.istore X0.here hx rfl (hb hby at_17) rfl (l' := #[.val (.int p0), .val (.int p1), .val (.int p2), .val (.int p3), .val (.int p4), .val (.int p5), .val (.int u1), .val (.int u2), .val (.int u3), .unset, .unset, .unset, .unset, .unset, .unset, .unset]) rfl ?_
    show Steps p.tables e below (s₁.setTop (mkF m 19 #[.val (.int p0), .val (.int p1), .val (.int p2), .val (.int p3), .val (.int p4), .val (.int p5), .val (.int u1), .val (.int u2), .val (.int u3), .unset, .unset, .unset, .unset, .unset, .unset, .unset] [])) _
    refine XS.iload X0.here hx rfl (hb hby at_19) rfl ?_
    show Steps p.tables e below (s₁.setTop (mkF m 21 #[.val (.int p0), .val (.int p1), .val (.int p2), .val (.int p3), .val (.int p4), .val (.int p5), .val (.int u1), .val (.int u2), .val (.int u3), .unset, .unset, .unset, .unset, .unset, .unset, .unset] [(.int p5)])) _
    refine XS.iconst X0.here hx rfl (hb hby at_21) ?_
    show Steps p.tables e below (s₁.setTop (mkF m 22 #[.val (.int p0), .val (.int p1), .val (.int p2), .val (.int p3), .val (.int p4), .val (.int p5), .val (.int u1), .val (.int u2), .val (.int u3), .unset, .unset, .unset, .unset, .unset, .unset, .unset] [(.int (4 : Int32)), (.int p5)])) _
    refine XS.iushr X0.here hx rfl (hb hby at_22) rfl ?_
    show Steps p.tables e below (s₁.setTop (mkF m 23 #[.val (.int p0), .val (.int p1), .val (.int p2), .val (.int p3), .val (.int p4), .val (.int p5), .val (.int u1), .val (.int u2), .val (.int u3), .unset, .unset, .unset, .unset, .unset, .unset, .unset] [(.int ((p5.toUInt32 >>> ((4 : Int32) &&& 31).toUInt32).toInt32))])) _
    refine XS.iconst X0.here hx rfl (hb hby at_23) ?_
    show Steps p.tables e below (s₁.setTop (mkF m 24 #[.val (.int p0), .val (.int p1), .val (.int p2), .val (.int p3), .val (.int p4), .val (.int p5), .val (.int u1), .val (.int u2), .val (.int u3), .unset, .unset, .unset, .unset, .unset, .unset, .unset] [(.int (3 : Int32)), (.int ((p5.toUInt32 >>> ((4 : Int32) &&& 31).toUInt32).toInt32))])) _
    refine XS.iand X0.here hx rfl (hb hby at_24) rfl ?_
    show Steps p.tables e below (s₁.setTop (mkF m 25 #[.val (.int p0), .val (.int p1), .val (.int p2), .val (.int p3), .val (.int p4), .val (.int p5), .val (.int u1), .val (.int u2), .val (.int u3), .unset, .unset, .unset, .unset, .unset, .unset, .unset] [(.int (((p5.toUInt32 >>> ((4 : Int32) &&& 31).toUInt32).toInt32) &&& (3 : Int32)))])) _
    rw [hvn]
    show Steps p.tables e below (s₁.setTop (mkF m 25 #[.val (.int p0), .val (.int p1), .val (.int p2), .val (.int p3), .val (.int p4), .val (.int p5), .val (.int u1), .val (.int u2), .val (.int u3), .unset, .unset, .unset, .unset, .unset, .unset, .unset] [(.int vn)])) _
    refine XS.istore X0.here hx rfl (hb hby at_25) rfl (l' := #[.val (.int p0), .val (.int p1), .val (.int p2), .val (.int p3), .val (.int p4), .val (.int p5), .val (.int u1), .val (.int u2), .val (.int u3), .val (.int vn), .unset, .unset, .unset, .unset, .unset, .unset]) rfl ?_
    show Steps p.tables e below (s₁.setTop (mkF m 27 #[.val (.int p0), .val (.int p1), .val (.int p2), .val (.int p3), .val (.int p4), .val (.int p5), .val (.int u1), .val (.int u2), .val (.int u3), .val (.int vn), .unset, .unset, .unset, .unset, .unset, .unset] [])) _
    refine XS.iload X0.here hx rfl (hb hby at_27) rfl ?_
    show Steps p.tables e below (s₁.setTop (mkF m 29 #[.val (.int p0), .val (.int p1), .val (.int p2), .val (.int p3), .val (.int p4), .val (.int p5), .val (.int u1), .val (.int u2), .val (.int u3), .val (.int vn), .unset, .unset, .unset, .unset, .unset, .unset] [(.int p5)])) _
    refine XS.iconst X0.here hx rfl (hb hby at_29) ?_
    show Steps p.tables e below (s₁.setTop (mkF m 30 #[.val (.int p0), .val (.int p1), .val (.int p2), .val (.int p3), .val (.int p4), .val (.int p5), .val (.int u1), .val (.int u2), .val (.int u3), .val (.int vn), .unset, .unset, .unset, .unset, .unset, .unset] [(.int (1 : Int32)), (.int p5)])) _
    refine XS.iand X0.here hx rfl (hb hby at_30) rfl ?_
    show Steps p.tables e below (s₁.setTop (mkF m 31 #[.val (.int p0), .val (.int p1), .val (.int p2), .val (.int p3), .val (.int p4), .val (.int p5), .val (.int u1), .val (.int u2), .val (.int u3), .val (.int vn), .unset, .unset, .unset, .unset, .unset, .unset] [(.int (p5 &&& (1 : Int32)))])) _
    refine XS.ifYes X0.here hx rfl (pc0 := 31) (pc' := 38) rfl (hb hby at_31) rfl ((if0 _ _).trans (teq hn3).1) (by decide) (by decide) ?_
    show Steps p.tables e below (s₁.setTop (mkF m 38 #[.val (.int p0), .val (.int p1), .val (.int p2), .val (.int p3), .val (.int p4), .val (.int p5), .val (.int u1), .val (.int u2), .val (.int u3), .val (.int vn), .unset, .unset, .unset, .unset, .unset, .unset] [])) _
    refine XS.iconst X0.here hx rfl (hb hby at_38) ?_
    show Steps p.tables e below (s₁.setTop (mkF m 39 #[.val (.int p0), .val (.int p1), .val (.int p2), .val (.int p3), .val (.int p4), .val (.int p5), .val (.int u1), .val (.int u2), .val (.int u3), .val (.int vn), .unset, .unset, .unset, .unset, .unset, .unset] [(.int (0 : Int32))])) _
    refine XS.istore X0.here hx rfl (hb hby at_39) rfl (l' := #[.val (.int p0), .val (.int p1), .val (.int p2), .val (.int p3), .val (.int p4), .val (.int p5), .val (.int u1), .val (.int u2), .val (.int u3), .val (.int vn), .val (.int (0 : Int32)), .unset, .unset, .unset, .unset, .unset]) rfl ?_
    show Steps p.tables e below (s₁.setTop (mkF m 41 #[.val (.int p0), .val (.int p1), .val (.int p2), .val (.int p3), .val (.int p4), .val (.int p5), .val (.int u1), .val (.int u2), .val (.int u3), .val (.int vn), .val (.int (0 : Int32)), .unset, .unset, .unset, .unset, .unset] [])) _
    refine fk1 _ ?_
    show Steps p.tables e below (s₁.setTop (mkF m 53 #[.val (.int p0), .val (.int p1), .val (.int p2), .val (.int p3), .val (.int p4), .val (.int p5), .val (.int u1), .val (.int u2), .val (.int u3), .val (.int vn), .val (.int (0 : Int32)), .unset, .unset, .unset, .unset, .unset] [(.int c3)])) _
    refine XS.istore X0.here hx rfl (hb hby at_53) rfl (l' := #[.val (.int p0), .val (.int p1), .val (.int p2), .val (.int p3), .val (.int p4), .val (.int p5), .val (.int u1), .val (.int u2), .val (.int u3), .val (.int vn), .val (.int (0 : Int32)), .val (.int c3), .unset, .unset, .unset, .unset]) rfl ?_
    show Steps p.tables e below (s₁.setTop (mkF m 55 #[.val (.int p0), .val (.int p1), .val (.int p2), .val (.int p3), .val (.int p4), .val (.int p5), .val (.int u1), .val (.int u2), .val (.int u3), .val (.int vn), .val (.int (0 : Int32)), .val (.int c3), .unset, .unset, .unset, .unset] [])) _
    refine XS.iload X0.here hx rfl (hb hby at_55) rfl ?_
    show Steps p.tables e below (s₁.setTop (mkF m 57 #[.val (.int p0), .val (.int p1), .val (.int p2), .val (.int p3), .val (.int p4), .val (.int p5), .val (.int u1), .val (.int u2), .val (.int u3), .val (.int vn), .val (.int (0 : Int32)), .val (.int c3), .unset, .unset, .unset, .unset] [(.int p5)])) _
    refine XS.iconst X0.here hx rfl (hb hby at_57) ?_
    show Steps p.tables e below (s₁.setTop (mkF m 58 #[.val (.int p0), .val (.int p1), .val (.int p2), .val (.int p3), .val (.int p4), .val (.int p5), .val (.int u1), .val (.int u2), .val (.int u3), .val (.int vn), .val (.int (0 : Int32)), .val (.int c3), .unset, .unset, .unset, .unset] [(.int (2 : Int32)), (.int p5)])) _
    refine XS.iushr X0.here hx rfl (hb hby at_58) rfl ?_
    show Steps p.tables e below (s₁.setTop (mkF m 59 #[.val (.int p0), .val (.int p1), .val (.int p2), .val (.int p3), .val (.int p4), .val (.int p5), .val (.int u1), .val (.int u2), .val (.int u3), .val (.int vn), .val (.int (0 : Int32)), .val (.int c3), .unset, .unset, .unset, .unset] [(.int ((p5.toUInt32 >>> ((2 : Int32) &&& 31).toUInt32).toInt32))])) _
    refine XS.iconst X0.here hx rfl (hb hby at_59) ?_
    show Steps p.tables e below (s₁.setTop (mkF m 60 #[.val (.int p0), .val (.int p1), .val (.int p2), .val (.int p3), .val (.int p4), .val (.int p5), .val (.int u1), .val (.int u2), .val (.int u3), .val (.int vn), .val (.int (0 : Int32)), .val (.int c3), .unset, .unset, .unset, .unset] [(.int (3 : Int32)), (.int ((p5.toUInt32 >>> ((2 : Int32) &&& 31).toUInt32).toInt32))])) _
    refine XS.iand X0.here hx rfl (hb hby at_60) rfl ?_
    show Steps p.tables e below (s₁.setTop (mkF m 61 #[.val (.int p0), .val (.int p1), .val (.int p2), .val (.int p3), .val (.int p4), .val (.int p5), .val (.int u1), .val (.int u2), .val (.int u3), .val (.int vn), .val (.int (0 : Int32)), .val (.int c3), .unset, .unset, .unset, .unset] [(.int (((p5.toUInt32 >>> ((2 : Int32) &&& 31).toUInt32).toInt32) &&& (3 : Int32)))])) _
    rw [hsl]
    show Steps p.tables e below (s₁.setTop (mkF m 61 #[.val (.int p0), .val (.int p1), .val (.int p2), .val (.int p3), .val (.int p4), .val (.int p5), .val (.int u1), .val (.int u2), .val (.int u3), .val (.int vn), .val (.int (0 : Int32)), .val (.int c3), .unset, .unset, .unset, .unset] [(.int sl)])) _
    refine XS.istore X0.here hx rfl (hb hby at_61) rfl (l' := #[.val (.int p0), .val (.int p1), .val (.int p2), .val (.int p3), .val (.int p4), .val (.int p5), .val (.int u1), .val (.int u2), .val (.int u3), .val (.int vn), .val (.int (0 : Int32)), .val (.int c3), .val (.int sl), .unset, .unset, .unset]) rfl ?_
    show Steps p.tables e below (s₁.setTop (mkF m 63 #[.val (.int p0), .val (.int p1), .val (.int p2), .val (.int p3), .val (.int p4), .val (.int p5), .val (.int u1), .val (.int u2), .val (.int u3), .val (.int vn), .val (.int (0 : Int32)), .val (.int c3), .val (.int sl), .unset, .unset, .unset] [])) _
    refine fk2 _ ?_
    show Steps p.tables e below (s₁.setTop (mkF m 104 #[.val (.int p0), .val (.int p1), .val (.int p2), .val (.int p3), .val (.int p4), .val (.int p5), .val (.int u1), .val (.int u2), .val (.int u3), .val (.int vn), .val (.int (0 : Int32)), .val (.int c3), .val (.int sl), .val (.int q), .unset, .unset] [])) _
    refine st3 _ ?_
    show Steps p.tables e below (T3.setTop (mkF m 107 #[.val (.int p0), .val (.int p1), .val (.int p2), .val (.int p3), .val (.int p4), .val (.int p5), .val (.int u1), .val (.int u2), .val (.int u3), .val (.int vn), .val (.int (0 : Int32)), .val (.int c3), .val (.int sl), .val (.int q), .unset, .unset] [(.ref b3)])) _
    refine XS.dup X3.here hx rfl (hb hby at_107) rfl rfl ?_
    show Steps p.tables e below (T3.setTop (mkF m 108 #[.val (.int p0), .val (.int p1), .val (.int p2), .val (.int p3), .val (.int p4), .val (.int p5), .val (.int u1), .val (.int u2), .val (.int u3), .val (.int vn), .val (.int (0 : Int32)), .val (.int c3), .val (.int sl), .val (.int q), .unset, .unset] [(.ref b3), (.ref b3)])) _
    refine XS.iconst X3.here hx rfl (hb hby at_108) ?_
    show Steps p.tables e below (T3.setTop (mkF m 109 #[.val (.int p0), .val (.int p1), .val (.int p2), .val (.int p3), .val (.int p4), .val (.int p5), .val (.int u1), .val (.int u2), .val (.int u3), .val (.int vn), .val (.int (0 : Int32)), .val (.int c3), .val (.int sl), .val (.int q), .unset, .unset] [(.int (0 : Int32)), (.ref b3), (.ref b3)])) _
    refine XS.bipush X3.here hx rfl (hb hby at_109) ?_
    show Steps p.tables e below (T3.setTop (mkF m 111 #[.val (.int p0), .val (.int p1), .val (.int p2), .val (.int p3), .val (.int p4), .val (.int p5), .val (.int u1), .val (.int u2), .val (.int u3), .val (.int vn), .val (.int (0 : Int32)), .val (.int c3), .val (.int sl), .val (.int q), .unset, .unset] [(.int (64 : Int32)), (.int (0 : Int32)), (.ref b3), (.ref b3)])) _
    refine XS.iconst X3.here hx rfl (hb hby at_111) ?_
    show Steps p.tables e below (T3.setTop (mkF m 112 #[.val (.int p0), .val (.int p1), .val (.int p2), .val (.int p3), .val (.int p4), .val (.int p5), .val (.int u1), .val (.int u2), .val (.int u3), .val (.int vn), .val (.int (0 : Int32)), .val (.int c3), .val (.int sl), .val (.int q), .unset, .unset] [(.int (0 : Int32)), (.int (64 : Int32)), (.int (0 : Int32)), (.ref b3), (.ref b3)])) _
    refine st4.trans ?_
    show Steps p.tables e below (T4.setTop (mkF m 115 #[.val (.int p0), .val (.int p1), .val (.int p2), .val (.int p3), .val (.int p4), .val (.int p5), .val (.int u1), .val (.int u2), .val (.int u3), .val (.int vn), .val (.int (0 : Int32)), .val (.int c3), .val (.int sl), .val (.int q), .unset, .unset] [(.ref b3)])) _
    refine XS.astore X4.here hx rfl (hb hby at_115) rfl rfl (l' := #[.val (.int p0), .val (.int p1), .val (.int p2), .val (.int p3), .val (.int p4), .val (.int p5), .val (.int u1), .val (.int u2), .val (.int u3), .val (.int vn), .val (.int (0 : Int32)), .val (.int c3), .val (.int sl), .val (.int q), .val (.ref b3), .unset]) rfl ?_
    show Steps p.tables e below (T4.setTop (mkF m 117 #[.val (.int p0), .val (.int p1), .val (.int p2), .val (.int p3), .val (.int p4), .val (.int p5), .val (.int u1), .val (.int u2), .val (.int u3), .val (.int vn), .val (.int (0 : Int32)), .val (.int c3), .val (.int sl), .val (.int q), .val (.ref b3), .unset] [])) _
    refine XS.iload X4.here hx rfl (hb hby at_117) rfl ?_
    show Steps p.tables e below (T4.setTop (mkF m 119 #[.val (.int p0), .val (.int p1), .val (.int p2), .val (.int p3), .val (.int p4), .val (.int p5), .val (.int u1), .val (.int u2), .val (.int u3), .val (.int vn), .val (.int (0 : Int32)), .val (.int c3), .val (.int sl), .val (.int q), .val (.ref b3), .unset] [(.int vn)])) _
    refine XS.iconst X4.here hx rfl (hb hby at_119) ?_
    show Steps p.tables e below (T4.setTop (mkF m 120 #[.val (.int p0), .val (.int p1), .val (.int p2), .val (.int p3), .val (.int p4), .val (.int p5), .val (.int u1), .val (.int u2), .val (.int u3), .val (.int vn), .val (.int (0 : Int32)), .val (.int c3), .val (.int sl), .val (.int q), .val (.ref b3), .unset] [(.int (1 : Int32)), (.int vn)])) _
    refine XS.icmpNo X4.here hx rfl (hb hby at_120) rfl (flt hn1).1 ?_
    show Steps p.tables e below (T4.setTop (mkF m 123 #[.val (.int p0), .val (.int p1), .val (.int p2), .val (.int p3), .val (.int p4), .val (.int p5), .val (.int u1), .val (.int u2), .val (.int u3), .val (.int vn), .val (.int (0 : Int32)), .val (.int c3), .val (.int sl), .val (.int q), .val (.ref b3), .unset] [])) _
    refine XS.aload X4.here hx rfl (hb hby at_123) rfl rfl ?_
    show Steps p.tables e below (T4.setTop (mkF m 125 #[.val (.int p0), .val (.int p1), .val (.int p2), .val (.int p3), .val (.int p4), .val (.int p5), .val (.int u1), .val (.int u2), .val (.int u3), .val (.int vn), .val (.int (0 : Int32)), .val (.int c3), .val (.int sl), .val (.int q), .val (.ref b3), .unset] [(.ref b3)])) _
    refine XS.iloadN X4.here hx rfl (hb hby at_125) rfl ?_
    show Steps p.tables e below (T4.setTop (mkF m 126 #[.val (.int p0), .val (.int p1), .val (.int p2), .val (.int p3), .val (.int p4), .val (.int p5), .val (.int u1), .val (.int u2), .val (.int u3), .val (.int vn), .val (.int (0 : Int32)), .val (.int c3), .val (.int sl), .val (.int q), .val (.ref b3), .unset] [(.int p0), (.ref b3)])) _
    refine XS.iload X4.here hx rfl (hb hby at_126) rfl ?_
    show Steps p.tables e below (T4.setTop (mkF m 128 #[.val (.int p0), .val (.int p1), .val (.int p2), .val (.int p3), .val (.int p4), .val (.int p5), .val (.int u1), .val (.int u2), .val (.int u3), .val (.int vn), .val (.int (0 : Int32)), .val (.int c3), .val (.int sl), .val (.int q), .val (.ref b3), .unset] [(.int u1), (.int p0), (.ref b3)])) _
    refine st5.trans ?_
    show Steps p.tables e below (T5.setTop (mkF m 131 #[.val (.int p0), .val (.int p1), .val (.int p2), .val (.int p3), .val (.int p4), .val (.int p5), .val (.int u1), .val (.int u2), .val (.int u3), .val (.int vn), .val (.int (0 : Int32)), .val (.int c3), .val (.int sl), .val (.int q), .val (.ref b3), .unset] [])) _
    refine XS.iload X5.here hx rfl (hb hby at_131) rfl ?_
    show Steps p.tables e below (T5.setTop (mkF m 133 #[.val (.int p0), .val (.int p1), .val (.int p2), .val (.int p3), .val (.int p4), .val (.int p5), .val (.int u1), .val (.int u2), .val (.int u3), .val (.int vn), .val (.int (0 : Int32)), .val (.int c3), .val (.int sl), .val (.int q), .val (.ref b3), .unset] [(.int vn)])) _
    refine XS.iconst X5.here hx rfl (hb hby at_133) ?_
    show Steps p.tables e below (T5.setTop (mkF m 134 #[.val (.int p0), .val (.int p1), .val (.int p2), .val (.int p3), .val (.int p4), .val (.int p5), .val (.int u1), .val (.int u2), .val (.int u3), .val (.int vn), .val (.int (0 : Int32)), .val (.int c3), .val (.int sl), .val (.int q), .val (.ref b3), .unset] [(.int (2 : Int32)), (.int vn)])) _
    refine XS.icmpNo X5.here hx rfl (hb hby at_134) rfl (flt hn2).1 ?_
    show Steps p.tables e below (T5.setTop (mkF m 137 #[.val (.int p0), .val (.int p1), .val (.int p2), .val (.int p3), .val (.int p4), .val (.int p5), .val (.int u1), .val (.int u2), .val (.int u3), .val (.int vn), .val (.int (0 : Int32)), .val (.int c3), .val (.int sl), .val (.int q), .val (.ref b3), .unset] [])) _
    refine XS.aload X5.here hx rfl (hb hby at_137) rfl rfl ?_
    show Steps p.tables e below (T5.setTop (mkF m 139 #[.val (.int p0), .val (.int p1), .val (.int p2), .val (.int p3), .val (.int p4), .val (.int p5), .val (.int u1), .val (.int u2), .val (.int u3), .val (.int vn), .val (.int (0 : Int32)), .val (.int c3), .val (.int sl), .val (.int q), .val (.ref b3), .unset] [(.ref b3)])) _
    refine XS.iloadN X5.here hx rfl (hb hby at_139) rfl ?_
    show Steps p.tables e below (T5.setTop (mkF m 140 #[.val (.int p0), .val (.int p1), .val (.int p2), .val (.int p3), .val (.int p4), .val (.int p5), .val (.int u1), .val (.int u2), .val (.int u3), .val (.int vn), .val (.int (0 : Int32)), .val (.int c3), .val (.int sl), .val (.int q), .val (.ref b3), .unset] [(.int p1), (.ref b3)])) _
    refine XS.iload X5.here hx rfl (hb hby at_140) rfl ?_
    show Steps p.tables e below (T5.setTop (mkF m 142 #[.val (.int p0), .val (.int p1), .val (.int p2), .val (.int p3), .val (.int p4), .val (.int p5), .val (.int u1), .val (.int u2), .val (.int u3), .val (.int vn), .val (.int (0 : Int32)), .val (.int c3), .val (.int sl), .val (.int q), .val (.ref b3), .unset] [(.int u2), (.int p1), (.ref b3)])) _
    refine st6.trans ?_
    show Steps p.tables e below (T6.setTop (mkF m 145 #[.val (.int p0), .val (.int p1), .val (.int p2), .val (.int p3), .val (.int p4), .val (.int p5), .val (.int u1), .val (.int u2), .val (.int u3), .val (.int vn), .val (.int (0 : Int32)), .val (.int c3), .val (.int sl), .val (.int q), .val (.ref b3), .unset] [])) _
    refine XS.iload X6.here hx rfl (hb hby at_145) rfl ?_
    show Steps p.tables e below (T6.setTop (mkF m 147 #[.val (.int p0), .val (.int p1), .val (.int p2), .val (.int p3), .val (.int p4), .val (.int p5), .val (.int u1), .val (.int u2), .val (.int u3), .val (.int vn), .val (.int (0 : Int32)), .val (.int c3), .val (.int sl), .val (.int q), .val (.ref b3), .unset] [(.int (0 : Int32))])) _
    refine XS.ifYes X6.here hx rfl (pc0 := 147) (pc' := 159) rfl (hb hby at_147) rfl ((if0 _ _).trans (teq (by decide : (0 : Int32) = (0 : Int32))).1) (by decide) (by decide) ?_
    show Steps p.tables e below (T6.setTop (mkF m 159 #[.val (.int p0), .val (.int p1), .val (.int p2), .val (.int p3), .val (.int p4), .val (.int p5), .val (.int u1), .val (.int u2), .val (.int u3), .val (.int vn), .val (.int (0 : Int32)), .val (.int c3), .val (.int sl), .val (.int q), .val (.ref b3), .unset] [])) _
    refine XS.iconst X6.here hx rfl (hb hby at_159) ?_
    show Steps p.tables e below (T6.setTop (mkF m 160 #[.val (.int p0), .val (.int p1), .val (.int p2), .val (.int p3), .val (.int p4), .val (.int p5), .val (.int u1), .val (.int u2), .val (.int u3), .val (.int vn), .val (.int (0 : Int32)), .val (.int c3), .val (.int sl), .val (.int q), .val (.ref b3), .unset] [(.int (-1 : Int32))])) _
    refine XS.istore X6.here hx rfl (hb hby at_160) rfl (l' := #[.val (.int p0), .val (.int p1), .val (.int p2), .val (.int p3), .val (.int p4), .val (.int p5), .val (.int u1), .val (.int u2), .val (.int u3), .val (.int vn), .val (.int (0 : Int32)), .val (.int c3), .val (.int sl), .val (.int q), .val (.ref b3), .val (.int (-1 : Int32))]) rfl ?_
    show Steps p.tables e below (T6.setTop (mkF m 162 #[.val (.int p0), .val (.int p1), .val (.int p2), .val (.int p3), .val (.int p4), .val (.int p5), .val (.int u1), .val (.int u2), .val (.int u3), .val (.int vn), .val (.int (0 : Int32)), .val (.int c3), .val (.int sl), .val (.int q), .val (.ref b3), .val (.int (-1 : Int32))] [])) _
    refine fk7 _ ?_
    show Steps p.tables e below (T6.setTop (mkF m 178 #[.val (.int p0), .val (.int p1), .val (.int p2), .val (.int p3), .val (.int p4), .val (.int p5), .val (.int u1), .val (.int u2), .val (.int u3), .val (.int vn), .val (.int (0 : Int32)), .val (.int c3), .val (.int sl), .val (.int q), .val (.ref b3), .val (.int ex1)] [])) _
    refine fk8 _ ?_
    show Steps p.tables e below (T6.setTop (mkF m 194 #[.val (.int p0), .val (.int p1), .val (.int p2), .val (.int p3), .val (.int p4), .val (.int p5), .val (.int u1), .val (.int u2), .val (.int u3), .val (.int vn), .val (.int (0 : Int32)), .val (.int c3), .val (.int sl), .val (.int q), .val (.ref b3), .val (.int ex2)] [])) _
    refine fk9 _ ?_
    show Steps p.tables e below (T6.setTop (mkF m 210 #[.val (.int p0), .val (.int p1), .val (.int p2), .val (.int p3), .val (.int p4), .val (.int p5), .val (.int u1), .val (.int u2), .val (.int u3), .val (.int vn), .val (.int (0 : Int32)), .val (.int c3), .val (.int sl), .val (.int q), .val (.ref b3), .val (.int ex3)] [])) _
    refine XS.aload X6.here hx rfl (hb hby at_210) rfl rfl ?_
    show Steps p.tables e below (T6.setTop (mkF m 212 #[.val (.int p0), .val (.int p1), .val (.int p2), .val (.int p3), .val (.int p4), .val (.int p5), .val (.int u1), .val (.int u2), .val (.int u3), .val (.int vn), .val (.int (0 : Int32)), .val (.int c3), .val (.int sl), .val (.int q), .val (.ref b3), .val (.int ex3)] [(.ref b3)])) _
    refine XS.iload X6.here hx rfl (hb hby at_212) rfl ?_
    show Steps p.tables e below (T6.setTop (mkF m 214 #[.val (.int p0), .val (.int p1), .val (.int p2), .val (.int p3), .val (.int p4), .val (.int p5), .val (.int u1), .val (.int u2), .val (.int u3), .val (.int vn), .val (.int (0 : Int32)), .val (.int c3), .val (.int sl), .val (.int q), .val (.ref b3), .val (.int ex3)] [(.int q), (.ref b3)])) _
    refine st10.trans ?_
    show Steps p.tables e below (T10.setTop (mkF m 217 #[.val (.int p0), .val (.int p1), .val (.int p2), .val (.int p3), .val (.int p4), .val (.int p5), .val (.int u1), .val (.int u2), .val (.int u3), .val (.int vn), .val (.int (0 : Int32)), .val (.int c3), .val (.int sl), .val (.int q), .val (.ref b3), .val (.int ex3)] [(.int (own_get (own_put (own_put [] p0 u1) p1 u2) q))])) _
    refine XS.iload X10.here hx rfl (hb hby at_217) rfl ?_
    show Steps p.tables e below (T10.setTop (mkF m 219 #[.val (.int p0), .val (.int p1), .val (.int p2), .val (.int p3), .val (.int p4), .val (.int p5), .val (.int u1), .val (.int u2), .val (.int u3), .val (.int vn), .val (.int (0 : Int32)), .val (.int c3), .val (.int sl), .val (.int q), .val (.ref b3), .val (.int ex3)] [(.int ex3), (.int (own_get (own_put (own_put [] p0 u1) p1 u2) q))])) _
    refine XS.icmpNo X10.here hx rfl (hb hby at_219) rfl (teq hget).2 ?_
    show Steps p.tables e below (T10.setTop (mkF m 222 #[.val (.int p0), .val (.int p1), .val (.int p2), .val (.int p3), .val (.int p4), .val (.int p5), .val (.int u1), .val (.int u2), .val (.int u3), .val (.int vn), .val (.int (0 : Int32)), .val (.int c3), .val (.int sl), .val (.int q), .val (.ref b3), .val (.int ex3)] [])) _
    refine XS.iconst X10.here hx rfl (hb hby at_222) ?_
    show Steps p.tables e below (T10.setTop (mkF m 223 #[.val (.int p0), .val (.int p1), .val (.int p2), .val (.int p3), .val (.int p4), .val (.int p5), .val (.int u1), .val (.int u2), .val (.int u3), .val (.int vn), .val (.int (0 : Int32)), .val (.int c3), .val (.int sl), .val (.int q), .val (.ref b3), .val (.int ex3)] [(.int (1 : Int32))])) _
    refine XS.goto X10.here hx rfl (pc0 := 223) (pc' := 227) rfl (hb hby at_223) (by decide) (by decide) ?_
    show Steps p.tables e below (T10.setTop (mkF m 227 #[.val (.int p0), .val (.int p1), .val (.int p2), .val (.int p3), .val (.int p4), .val (.int p5), .val (.int u1), .val (.int u2), .val (.int u3), .val (.int vn), .val (.int (0 : Int32)), .val (.int c3), .val (.int sl), .val (.int q), .val (.ref b3), .val (.int ex3)] [(.int (1 : Int32))])) _
    exact retN X10 hx (t := .boolean) Bd.returns (by simp) (hb hby at_227) hr
  · show own_R n0 _ T10.heap _
    rw [e10]
    exact ⟨rfl, N10⟩
theorem own_exp_F (p0 p1 c3 q v1 v2 v3 ex1 ex2 ex3 : Int32) (hx1 : (q = p0 ∧ ex1 = v1) ∨ (¬ (q = p0) ∧ ex1 = (-1 : Int32))) (hx2 : (q = p1 ∧ ex2 = v2) ∨ (¬ (q = p1) ∧ ex2 = ex1)) (hx3 : (q = c3 ∧ ex3 = v3) ∨ (¬ (q = c3) ∧ ex3 = ex2)) : (if c3 = q then v3 else (if p1 = q then v2 else (if p0 = q then v1 else own_get [] q))) = ex3 := by
  simp only [@eq_comm _ _ q, own_get]
  rcases hx1 with ⟨a1, b1⟩ | ⟨a1, b1⟩ <;> rcases hx2 with ⟨a2, b2⟩ | ⟨a2, b2⟩ <;> rcases hx3 with ⟨a3, b3⟩ | ⟨a3, b3⟩ <;> simp_all
set_option maxRecDepth 65536 in
set_option maxHeartbeats 40000000 in
theorem rm0F (l : Launch) (Z : State) (a0 : Array Value) (hw : ∀ d ∈ tables_1, d.before a0 Z = true) (ws : List Jvm.Cond) (p0 : Int32) (p1 : Int32) (p2 : Int32) (p3 : Int32) (p4 : Int32) (p5 : Int32) (wE : Addr) (u1 u2 u3 vn sl c3 q ex1 ex2 ex3 : Int32) (h0 : Heap) (n0 : Nat) (O0 : Old Z n0 h0) (S_EMPTY : Sta Z Z.heap "com/example/kvasir/kvasir/tableau/DependencySet" "EMPTY" "Lcom/example/kvasir/kvasir/tableau/DependencySet;" (.ref wE)) (hu1 : (p2 &&& (2147483647 : Int32)) = u1) (hu2 : (p3 &&& (2147483647 : Int32)) = u2) (hu3 : (p4 &&& (2147483647 : Int32)) = u3) (hvn : (((p5.toUInt32 >>> ((4 : Int32) &&& 31).toUInt32).toInt32) &&& (3 : Int32)) = vn) (hsl : (((p5.toUInt32 >>> ((2 : Int32) &&& 31).toUInt32).toInt32) &&& (3 : Int32)) = sl) (hn1 : ¬ (vn < (1 : Int32))) (hn2 : ¬ (vn < (2 : Int32))) (hn3 : ¬ ((p5 &&& (1 : Int32)) = (0 : Int32))) (hc3 : ((p5 &&& (2 : Int32)) = (0 : Int32) ∧ c3 = p1) ∨ (¬ ((p5 &&& (2 : Int32)) = (0 : Int32)) ∧ c3 = p0)) (hq : (sl = (0 : Int32) ∧ q = p0) ∨ (¬ (sl = (0 : Int32)) ∧ sl = (1 : Int32) ∧ q = p1) ∨ (¬ (sl = (0 : Int32)) ∧ ¬ (sl = (1 : Int32)) ∧ sl = (2 : Int32) ∧ q = (p0 + (1 : Int32))) ∨ (¬ (sl = (0 : Int32)) ∧ ¬ (sl = (1 : Int32)) ∧ ¬ (sl = (2 : Int32)) ∧ q = p5)) (hx1 : (q = p0 ∧ ex1 = u1) ∨ (¬ (q = p0) ∧ ex1 = (-1 : Int32))) (hx2 : (q = p1 ∧ ex2 = u2) ∨ (¬ (q = p1) ∧ ex2 = ex1)) (hx3 : (q = c3 ∧ ex3 = u3) ∨ (¬ (q = c3) ∧ ex3 = ex2)) :
    MetFree l x (head1 (Jvm.Cond.code x code maxLocals ret :: ws) room_1) (fun a U => a = #[(.int p0), (.int p1), (.int p2), (.int p3), (.int p4), (.int p5)] ∧ Z.Warmed39 U.vm ∧ U.heap = h0) (fun _ _ _ _ _ => True) (fun _ U o U' => ∃ v L, o = .returned v ∧ own_R n0 v U'.heap L ∧ FrameEnd U o U' L room_1.cells room_1.slots) := by
  refine MetFree.of_bodySF (plainFor_of_name pn_0) hisR ?_
  intro p e s m args below meth c s₁ Bd hml0 hP hK
  obtain ⟨rfl, hZ, hh⟩ := hP
  have hx := Bd.exec
  have hby := Bd.bytes
  have hml : c.maxLocals = 16 := hml0
  have hown : s.vm.findClass "com/example/kvasir/kvasir/tableau/NodeAgendaPlacePinLaw" = some m.cls := findClass_of_methodNamed Bd.named
  have hnm := (name_of_methodNamed Bd.named Bd.method).1
  have X0 : Stand p l e room_1 s m #[(.int p0), (.int p1), (.int p2), (.int p3), (.int p4), (.int p5)] below meth c s₁ [] 0 0 := Stand.of_body Bd
  have e0 : s₁.heap = h0 := by rw [← hh, Bd.state]; rfl
  have N0 := Fr.nil n0
  have pre0 : ∀ t, Steps p.tables e below (s₁.setTop (mkF m 0 #[.val (.int p0), .val (.int p1), .val (.int p2), .val (.int p3), .val (.int p4), .val (.int p5), .unset, .unset, .unset, .unset, .unset, .unset, .unset, .unset, .unset, .unset] [])) t → Steps p.tables e below (s₁.setTop (entryFrame m #[(.int p0), (.int p1), (.int p2), (.int p3), (.int p4), (.int p5)] maxLocals)) t := fun t k => castTop (ef_0 m p0 p1 p2 p3 p4 p5) k
  have fk1 : ∀ target, Steps p.tables e below (s₁.setTop (mkF m 53 #[.val (.int p0), .val (.int p1), .val (.int p2), .val (.int p3), .val (.int p4), .val (.int p5), .val (.int u1), .val (.int u2), .val (.int u3), .val (.int vn), .val (.int (1 : Int32)), .unset, .unset, .unset, .unset, .unset] [(.int c3)])) target → Steps p.tables e below (s₁.setTop (mkF m 41 #[.val (.int p0), .val (.int p1), .val (.int p2), .val (.int p3), .val (.int p4), .val (.int p5), .val (.int u1), .val (.int u2), .val (.int u3), .val (.int vn), .val (.int (1 : Int32)), .unset, .unset, .unset, .unset, .unset] [])) target := by
    intro target kt
    rcases hc3 with ⟨z1, z2⟩ | ⟨z1, z2⟩
    · rw [z2] at kt
      show Steps p.tables e below (s₁.setTop (mkF m 41 #[.val (.int p0), .val (.int p1), .val (.int p2), .val (.int p3), .val (.int p4), .val (.int p5), .val (.int u1), .val (.int u2), .val (.int u3), .val (.int vn), .val (.int (1 : Int32)), .unset, .unset, .unset, .unset, .unset] [])) _
      refine XS.iload X0.here hx rfl (hb hby at_41) rfl ?_
      show Steps p.tables e below (s₁.setTop (mkF m 43 #[.val (.int p0), .val (.int p1), .val (.int p2), .val (.int p3), .val (.int p4), .val (.int p5), .val (.int u1), .val (.int u2), .val (.int u3), .val (.int vn), .val (.int (1 : Int32)), .unset, .unset, .unset, .unset, .unset] [(.int p5)])) _
      refine XS.iconst X0.here hx rfl (hb hby at_43) ?_
      show Steps p.tables e below (s₁.setTop (mkF m 44 #[.val (.int p0), .val (.int p1), .val (.int p2), .val (.int p3), .val (.int p4), .val (.int p5), .val (.int u1), .val (.int u2), .val (.int u3), .val (.int vn), .val (.int (1 : Int32)), .unset, .unset, .unset, .unset, .unset] [(.int (2 : Int32)), (.int p5)])) _
      refine XS.iand X0.here hx rfl (hb hby at_44) rfl ?_
      show Steps p.tables e below (s₁.setTop (mkF m 45 #[.val (.int p0), .val (.int p1), .val (.int p2), .val (.int p3), .val (.int p4), .val (.int p5), .val (.int u1), .val (.int u2), .val (.int u3), .val (.int vn), .val (.int (1 : Int32)), .unset, .unset, .unset, .unset, .unset] [(.int (p5 &&& (2 : Int32)))])) _
      refine XS.ifYes X0.here hx rfl (pc0 := 45) (pc' := 52) rfl (hb hby at_45) rfl ((if0 _ _).trans (teq z1).1) (by decide) (by decide) ?_
      show Steps p.tables e below (s₁.setTop (mkF m 52 #[.val (.int p0), .val (.int p1), .val (.int p2), .val (.int p3), .val (.int p4), .val (.int p5), .val (.int u1), .val (.int u2), .val (.int u3), .val (.int vn), .val (.int (1 : Int32)), .unset, .unset, .unset, .unset, .unset] [])) _
      refine XS.iloadN X0.here hx rfl (hb hby at_52) rfl ?_
      show Steps p.tables e below (s₁.setTop (mkF m 53 #[.val (.int p0), .val (.int p1), .val (.int p2), .val (.int p3), .val (.int p4), .val (.int p5), .val (.int u1), .val (.int u2), .val (.int u3), .val (.int vn), .val (.int (1 : Int32)), .unset, .unset, .unset, .unset, .unset] [(.int p1)])) _
      exact kt
    · rw [z2] at kt
      show Steps p.tables e below (s₁.setTop (mkF m 41 #[.val (.int p0), .val (.int p1), .val (.int p2), .val (.int p3), .val (.int p4), .val (.int p5), .val (.int u1), .val (.int u2), .val (.int u3), .val (.int vn), .val (.int (1 : Int32)), .unset, .unset, .unset, .unset, .unset] [])) _
      refine XS.iload X0.here hx rfl (hb hby at_41) rfl ?_
      show Steps p.tables e below (s₁.setTop (mkF m 43 #[.val (.int p0), .val (.int p1), .val (.int p2), .val (.int p3), .val (.int p4), .val (.int p5), .val (.int u1), .val (.int u2), .val (.int u3), .val (.int vn), .val (.int (1 : Int32)), .unset, .unset, .unset, .unset, .unset] [(.int p5)])) _
      refine XS.iconst X0.here hx rfl (hb hby at_43) ?_
      show Steps p.tables e below (s₁.setTop (mkF m 44 #[.val (.int p0), .val (.int p1), .val (.int p2), .val (.int p3), .val (.int p4), .val (.int p5), .val (.int u1), .val (.int u2), .val (.int u3), .val (.int vn), .val (.int (1 : Int32)), .unset, .unset, .unset, .unset, .unset] [(.int (2 : Int32)), (.int p5)])) _
      refine XS.iand X0.here hx rfl (hb hby at_44) rfl ?_
      show Steps p.tables e below (s₁.setTop (mkF m 45 #[.val (.int p0), .val (.int p1), .val (.int p2), .val (.int p3), .val (.int p4), .val (.int p5), .val (.int u1), .val (.int u2), .val (.int u3), .val (.int vn), .val (.int (1 : Int32)), .unset, .unset, .unset, .unset, .unset] [(.int (p5 &&& (2 : Int32)))])) _
      refine XS.ifNo X0.here hx rfl (hb hby at_45) rfl ((if0 _ _).trans (feq z1).1) ?_
      show Steps p.tables e below (s₁.setTop (mkF m 48 #[.val (.int p0), .val (.int p1), .val (.int p2), .val (.int p3), .val (.int p4), .val (.int p5), .val (.int u1), .val (.int u2), .val (.int u3), .val (.int vn), .val (.int (1 : Int32)), .unset, .unset, .unset, .unset, .unset] [])) _
      refine XS.iloadN X0.here hx rfl (hb hby at_48) rfl ?_
      show Steps p.tables e below (s₁.setTop (mkF m 49 #[.val (.int p0), .val (.int p1), .val (.int p2), .val (.int p3), .val (.int p4), .val (.int p5), .val (.int u1), .val (.int u2), .val (.int u3), .val (.int vn), .val (.int (1 : Int32)), .unset, .unset, .unset, .unset, .unset] [(.int p0)])) _
      refine XS.goto X0.here hx rfl (pc0 := 49) (pc' := 53) rfl (hb hby at_49) (by decide) (by decide) ?_
      show Steps p.tables e below (s₁.setTop (mkF m 53 #[.val (.int p0), .val (.int p1), .val (.int p2), .val (.int p3), .val (.int p4), .val (.int p5), .val (.int u1), .val (.int u2), .val (.int u3), .val (.int vn), .val (.int (1 : Int32)), .unset, .unset, .unset, .unset, .unset] [(.int p0)])) _
      exact kt
  have fk2 : ∀ target, Steps p.tables e below (s₁.setTop (mkF m 104 #[.val (.int p0), .val (.int p1), .val (.int p2), .val (.int p3), .val (.int p4), .val (.int p5), .val (.int u1), .val (.int u2), .val (.int u3), .val (.int vn), .val (.int (1 : Int32)), .val (.int c3), .val (.int sl), .val (.int q), .unset, .unset] [])) target → Steps p.tables e below (s₁.setTop (mkF m 63 #[.val (.int p0), .val (.int p1), .val (.int p2), .val (.int p3), .val (.int p4), .val (.int p5), .val (.int u1), .val (.int u2), .val (.int u3), .val (.int vn), .val (.int (1 : Int32)), .val (.int c3), .val (.int sl), .unset, .unset, .unset] [])) target := by
    intro target kt
    rcases hq with ⟨z1, z2⟩ | ⟨z1, z2, z3⟩ | ⟨z1, z2, z3, z4⟩ | ⟨z1, z2, z3, z4⟩
    · rw [z2] at kt
      show Steps p.tables e below (s₁.setTop (mkF m 63 #[.val (.int p0), .val (.int p1), .val (.int p2), .val (.int p3), .val (.int p4), .val (.int p5), .val (.int u1), .val (.int u2), .val (.int u3), .val (.int vn), .val (.int (1 : Int32)), .val (.int c3), .val (.int sl), .unset, .unset, .unset] [])) _
      refine XS.iload X0.here hx rfl (hb hby at_63) rfl ?_
      show Steps p.tables e below (s₁.setTop (mkF m 65 #[.val (.int p0), .val (.int p1), .val (.int p2), .val (.int p3), .val (.int p4), .val (.int p5), .val (.int u1), .val (.int u2), .val (.int u3), .val (.int vn), .val (.int (1 : Int32)), .val (.int c3), .val (.int sl), .unset, .unset, .unset] [(.int sl)])) _
      refine XS.ifNo X0.here hx rfl (hb hby at_65) rfl ((if0 _ _).trans (teq z1).2) ?_
      show Steps p.tables e below (s₁.setTop (mkF m 68 #[.val (.int p0), .val (.int p1), .val (.int p2), .val (.int p3), .val (.int p4), .val (.int p5), .val (.int u1), .val (.int u2), .val (.int u3), .val (.int vn), .val (.int (1 : Int32)), .val (.int c3), .val (.int sl), .unset, .unset, .unset] [])) _
      refine XS.iloadN X0.here hx rfl (hb hby at_68) rfl ?_
      show Steps p.tables e below (s₁.setTop (mkF m 69 #[.val (.int p0), .val (.int p1), .val (.int p2), .val (.int p3), .val (.int p4), .val (.int p5), .val (.int u1), .val (.int u2), .val (.int u3), .val (.int vn), .val (.int (1 : Int32)), .val (.int c3), .val (.int sl), .unset, .unset, .unset] [(.int p0)])) _
      refine XS.istore X0.here hx rfl (hb hby at_69) rfl (l' := #[.val (.int p0), .val (.int p1), .val (.int p2), .val (.int p3), .val (.int p4), .val (.int p5), .val (.int u1), .val (.int u2), .val (.int u3), .val (.int vn), .val (.int (1 : Int32)), .val (.int c3), .val (.int sl), .val (.int p0), .unset, .unset]) rfl ?_
      show Steps p.tables e below (s₁.setTop (mkF m 71 #[.val (.int p0), .val (.int p1), .val (.int p2), .val (.int p3), .val (.int p4), .val (.int p5), .val (.int u1), .val (.int u2), .val (.int u3), .val (.int vn), .val (.int (1 : Int32)), .val (.int c3), .val (.int sl), .val (.int p0), .unset, .unset] [])) _
      refine XS.goto X0.here hx rfl (pc0 := 71) (pc' := 104) rfl (hb hby at_71) (by decide) (by decide) ?_
      show Steps p.tables e below (s₁.setTop (mkF m 104 #[.val (.int p0), .val (.int p1), .val (.int p2), .val (.int p3), .val (.int p4), .val (.int p5), .val (.int u1), .val (.int u2), .val (.int u3), .val (.int vn), .val (.int (1 : Int32)), .val (.int c3), .val (.int sl), .val (.int p0), .unset, .unset] [])) _
      exact kt
    · rw [z3] at kt
      show Steps p.tables e below (s₁.setTop (mkF m 63 #[.val (.int p0), .val (.int p1), .val (.int p2), .val (.int p3), .val (.int p4), .val (.int p5), .val (.int u1), .val (.int u2), .val (.int u3), .val (.int vn), .val (.int (1 : Int32)), .val (.int c3), .val (.int sl), .unset, .unset, .unset] [])) _
      refine XS.iload X0.here hx rfl (hb hby at_63) rfl ?_
      show Steps p.tables e below (s₁.setTop (mkF m 65 #[.val (.int p0), .val (.int p1), .val (.int p2), .val (.int p3), .val (.int p4), .val (.int p5), .val (.int u1), .val (.int u2), .val (.int u3), .val (.int vn), .val (.int (1 : Int32)), .val (.int c3), .val (.int sl), .unset, .unset, .unset] [(.int sl)])) _
      refine XS.ifYes X0.here hx rfl (pc0 := 65) (pc' := 74) rfl (hb hby at_65) rfl ((if0 _ _).trans (feq z1).2) (by decide) (by decide) ?_
      show Steps p.tables e below (s₁.setTop (mkF m 74 #[.val (.int p0), .val (.int p1), .val (.int p2), .val (.int p3), .val (.int p4), .val (.int p5), .val (.int u1), .val (.int u2), .val (.int u3), .val (.int vn), .val (.int (1 : Int32)), .val (.int c3), .val (.int sl), .unset, .unset, .unset] [])) _
      refine XS.iload X0.here hx rfl (hb hby at_74) rfl ?_
      show Steps p.tables e below (s₁.setTop (mkF m 76 #[.val (.int p0), .val (.int p1), .val (.int p2), .val (.int p3), .val (.int p4), .val (.int p5), .val (.int u1), .val (.int u2), .val (.int u3), .val (.int vn), .val (.int (1 : Int32)), .val (.int c3), .val (.int sl), .unset, .unset, .unset] [(.int sl)])) _
      refine XS.iconst X0.here hx rfl (hb hby at_76) ?_
      show Steps p.tables e below (s₁.setTop (mkF m 77 #[.val (.int p0), .val (.int p1), .val (.int p2), .val (.int p3), .val (.int p4), .val (.int p5), .val (.int u1), .val (.int u2), .val (.int u3), .val (.int vn), .val (.int (1 : Int32)), .val (.int c3), .val (.int sl), .unset, .unset, .unset] [(.int (1 : Int32)), (.int sl)])) _
      refine XS.icmpNo X0.here hx rfl (hb hby at_77) rfl (teq z2).2 ?_
      show Steps p.tables e below (s₁.setTop (mkF m 80 #[.val (.int p0), .val (.int p1), .val (.int p2), .val (.int p3), .val (.int p4), .val (.int p5), .val (.int u1), .val (.int u2), .val (.int u3), .val (.int vn), .val (.int (1 : Int32)), .val (.int c3), .val (.int sl), .unset, .unset, .unset] [])) _
      refine XS.iloadN X0.here hx rfl (hb hby at_80) rfl ?_
      show Steps p.tables e below (s₁.setTop (mkF m 81 #[.val (.int p0), .val (.int p1), .val (.int p2), .val (.int p3), .val (.int p4), .val (.int p5), .val (.int u1), .val (.int u2), .val (.int u3), .val (.int vn), .val (.int (1 : Int32)), .val (.int c3), .val (.int sl), .unset, .unset, .unset] [(.int p1)])) _
      refine XS.istore X0.here hx rfl (hb hby at_81) rfl (l' := #[.val (.int p0), .val (.int p1), .val (.int p2), .val (.int p3), .val (.int p4), .val (.int p5), .val (.int u1), .val (.int u2), .val (.int u3), .val (.int vn), .val (.int (1 : Int32)), .val (.int c3), .val (.int sl), .val (.int p1), .unset, .unset]) rfl ?_
      show Steps p.tables e below (s₁.setTop (mkF m 83 #[.val (.int p0), .val (.int p1), .val (.int p2), .val (.int p3), .val (.int p4), .val (.int p5), .val (.int u1), .val (.int u2), .val (.int u3), .val (.int vn), .val (.int (1 : Int32)), .val (.int c3), .val (.int sl), .val (.int p1), .unset, .unset] [])) _
      refine XS.goto X0.here hx rfl (pc0 := 83) (pc' := 104) rfl (hb hby at_83) (by decide) (by decide) ?_
      show Steps p.tables e below (s₁.setTop (mkF m 104 #[.val (.int p0), .val (.int p1), .val (.int p2), .val (.int p3), .val (.int p4), .val (.int p5), .val (.int u1), .val (.int u2), .val (.int u3), .val (.int vn), .val (.int (1 : Int32)), .val (.int c3), .val (.int sl), .val (.int p1), .unset, .unset] [])) _
      exact kt
    · rw [z4] at kt
      show Steps p.tables e below (s₁.setTop (mkF m 63 #[.val (.int p0), .val (.int p1), .val (.int p2), .val (.int p3), .val (.int p4), .val (.int p5), .val (.int u1), .val (.int u2), .val (.int u3), .val (.int vn), .val (.int (1 : Int32)), .val (.int c3), .val (.int sl), .unset, .unset, .unset] [])) _
      refine XS.iload X0.here hx rfl (hb hby at_63) rfl ?_
      show Steps p.tables e below (s₁.setTop (mkF m 65 #[.val (.int p0), .val (.int p1), .val (.int p2), .val (.int p3), .val (.int p4), .val (.int p5), .val (.int u1), .val (.int u2), .val (.int u3), .val (.int vn), .val (.int (1 : Int32)), .val (.int c3), .val (.int sl), .unset, .unset, .unset] [(.int sl)])) _
      refine XS.ifYes X0.here hx rfl (pc0 := 65) (pc' := 74) rfl (hb hby at_65) rfl ((if0 _ _).trans (feq z1).2) (by decide) (by decide) ?_
      show Steps p.tables e below (s₁.setTop (mkF m 74 #[.val (.int p0), .val (.int p1), .val (.int p2), .val (.int p3), .val (.int p4), .val (.int p5), .val (.int u1), .val (.int u2), .val (.int u3), .val (.int vn), .val (.int (1 : Int32)), .val (.int c3), .val (.int sl), .unset, .unset, .unset] [])) _
      refine XS.iload X0.here hx rfl (hb hby at_74) rfl ?_
      show Steps p.tables e below (s₁.setTop (mkF m 76 #[.val (.int p0), .val (.int p1), .val (.int p2), .val (.int p3), .val (.int p4), .val (.int p5), .val (.int u1), .val (.int u2), .val (.int u3), .val (.int vn), .val (.int (1 : Int32)), .val (.int c3), .val (.int sl), .unset, .unset, .unset] [(.int sl)])) _
      refine XS.iconst X0.here hx rfl (hb hby at_76) ?_
      show Steps p.tables e below (s₁.setTop (mkF m 77 #[.val (.int p0), .val (.int p1), .val (.int p2), .val (.int p3), .val (.int p4), .val (.int p5), .val (.int u1), .val (.int u2), .val (.int u3), .val (.int vn), .val (.int (1 : Int32)), .val (.int c3), .val (.int sl), .unset, .unset, .unset] [(.int (1 : Int32)), (.int sl)])) _
      refine XS.icmpYes X0.here hx rfl (pc0 := 77) (pc' := 86) rfl (hb hby at_77) rfl (feq z2).2 (by decide) (by decide) ?_
      show Steps p.tables e below (s₁.setTop (mkF m 86 #[.val (.int p0), .val (.int p1), .val (.int p2), .val (.int p3), .val (.int p4), .val (.int p5), .val (.int u1), .val (.int u2), .val (.int u3), .val (.int vn), .val (.int (1 : Int32)), .val (.int c3), .val (.int sl), .unset, .unset, .unset] [])) _
      refine XS.iload X0.here hx rfl (hb hby at_86) rfl ?_
      show Steps p.tables e below (s₁.setTop (mkF m 88 #[.val (.int p0), .val (.int p1), .val (.int p2), .val (.int p3), .val (.int p4), .val (.int p5), .val (.int u1), .val (.int u2), .val (.int u3), .val (.int vn), .val (.int (1 : Int32)), .val (.int c3), .val (.int sl), .unset, .unset, .unset] [(.int sl)])) _
      refine XS.iconst X0.here hx rfl (hb hby at_88) ?_
      show Steps p.tables e below (s₁.setTop (mkF m 89 #[.val (.int p0), .val (.int p1), .val (.int p2), .val (.int p3), .val (.int p4), .val (.int p5), .val (.int u1), .val (.int u2), .val (.int u3), .val (.int vn), .val (.int (1 : Int32)), .val (.int c3), .val (.int sl), .unset, .unset, .unset] [(.int (2 : Int32)), (.int sl)])) _
      refine XS.icmpNo X0.here hx rfl (hb hby at_89) rfl (teq z3).2 ?_
      show Steps p.tables e below (s₁.setTop (mkF m 92 #[.val (.int p0), .val (.int p1), .val (.int p2), .val (.int p3), .val (.int p4), .val (.int p5), .val (.int u1), .val (.int u2), .val (.int u3), .val (.int vn), .val (.int (1 : Int32)), .val (.int c3), .val (.int sl), .unset, .unset, .unset] [])) _
      refine XS.iloadN X0.here hx rfl (hb hby at_92) rfl ?_
      show Steps p.tables e below (s₁.setTop (mkF m 93 #[.val (.int p0), .val (.int p1), .val (.int p2), .val (.int p3), .val (.int p4), .val (.int p5), .val (.int u1), .val (.int u2), .val (.int u3), .val (.int vn), .val (.int (1 : Int32)), .val (.int c3), .val (.int sl), .unset, .unset, .unset] [(.int p0)])) _
      refine XS.iconst X0.here hx rfl (hb hby at_93) ?_
      show Steps p.tables e below (s₁.setTop (mkF m 94 #[.val (.int p0), .val (.int p1), .val (.int p2), .val (.int p3), .val (.int p4), .val (.int p5), .val (.int u1), .val (.int u2), .val (.int u3), .val (.int vn), .val (.int (1 : Int32)), .val (.int c3), .val (.int sl), .unset, .unset, .unset] [(.int (1 : Int32)), (.int p0)])) _
      refine XS.iadd X0.here hx rfl (hb hby at_94) rfl ?_
      show Steps p.tables e below (s₁.setTop (mkF m 95 #[.val (.int p0), .val (.int p1), .val (.int p2), .val (.int p3), .val (.int p4), .val (.int p5), .val (.int u1), .val (.int u2), .val (.int u3), .val (.int vn), .val (.int (1 : Int32)), .val (.int c3), .val (.int sl), .unset, .unset, .unset] [(.int (p0 + (1 : Int32)))])) _
      refine XS.istore X0.here hx rfl (hb hby at_95) rfl (l' := #[.val (.int p0), .val (.int p1), .val (.int p2), .val (.int p3), .val (.int p4), .val (.int p5), .val (.int u1), .val (.int u2), .val (.int u3), .val (.int vn), .val (.int (1 : Int32)), .val (.int c3), .val (.int sl), .val (.int (p0 + (1 : Int32))), .unset, .unset]) rfl ?_
      show Steps p.tables e below (s₁.setTop (mkF m 97 #[.val (.int p0), .val (.int p1), .val (.int p2), .val (.int p3), .val (.int p4), .val (.int p5), .val (.int u1), .val (.int u2), .val (.int u3), .val (.int vn), .val (.int (1 : Int32)), .val (.int c3), .val (.int sl), .val (.int (p0 + (1 : Int32))), .unset, .unset] [])) _
      refine XS.goto X0.here hx rfl (pc0 := 97) (pc' := 104) rfl (hb hby at_97) (by decide) (by decide) ?_
      show Steps p.tables e below (s₁.setTop (mkF m 104 #[.val (.int p0), .val (.int p1), .val (.int p2), .val (.int p3), .val (.int p4), .val (.int p5), .val (.int u1), .val (.int u2), .val (.int u3), .val (.int vn), .val (.int (1 : Int32)), .val (.int c3), .val (.int sl), .val (.int (p0 + (1 : Int32))), .unset, .unset] [])) _
      exact kt
    · rw [z4] at kt
      show Steps p.tables e below (s₁.setTop (mkF m 63 #[.val (.int p0), .val (.int p1), .val (.int p2), .val (.int p3), .val (.int p4), .val (.int p5), .val (.int u1), .val (.int u2), .val (.int u3), .val (.int vn), .val (.int (1 : Int32)), .val (.int c3), .val (.int sl), .unset, .unset, .unset] [])) _
      refine XS.iload X0.here hx rfl (hb hby at_63) rfl ?_
      show Steps p.tables e below (s₁.setTop (mkF m 65 #[.val (.int p0), .val (.int p1), .val (.int p2), .val (.int p3), .val (.int p4), .val (.int p5), .val (.int u1), .val (.int u2), .val (.int u3), .val (.int vn), .val (.int (1 : Int32)), .val (.int c3), .val (.int sl), .unset, .unset, .unset] [(.int sl)])) _
      refine XS.ifYes X0.here hx rfl (pc0 := 65) (pc' := 74) rfl (hb hby at_65) rfl ((if0 _ _).trans (feq z1).2) (by decide) (by decide) ?_
      show Steps p.tables e below (s₁.setTop (mkF m 74 #[.val (.int p0), .val (.int p1), .val (.int p2), .val (.int p3), .val (.int p4), .val (.int p5), .val (.int u1), .val (.int u2), .val (.int u3), .val (.int vn), .val (.int (1 : Int32)), .val (.int c3), .val (.int sl), .unset, .unset, .unset] [])) _
      refine XS.iload X0.here hx rfl (hb hby at_74) rfl ?_
      show Steps p.tables e below (s₁.setTop (mkF m 76 #[.val (.int p0), .val (.int p1), .val (.int p2), .val (.int p3), .val (.int p4), .val (.int p5), .val (.int u1), .val (.int u2), .val (.int u3), .val (.int vn), .val (.int (1 : Int32)), .val (.int c3), .val (.int sl), .unset, .unset, .unset] [(.int sl)])) _
      refine XS.iconst X0.here hx rfl (hb hby at_76) ?_
      show Steps p.tables e below (s₁.setTop (mkF m 77 #[.val (.int p0), .val (.int p1), .val (.int p2), .val (.int p3), .val (.int p4), .val (.int p5), .val (.int u1), .val (.int u2), .val (.int u3), .val (.int vn), .val (.int (1 : Int32)), .val (.int c3), .val (.int sl), .unset, .unset, .unset] [(.int (1 : Int32)), (.int sl)])) _
      refine XS.icmpYes X0.here hx rfl (pc0 := 77) (pc' := 86) rfl (hb hby at_77) rfl (feq z2).2 (by decide) (by decide) ?_
      show Steps p.tables e below (s₁.setTop (mkF m 86 #[.val (.int p0), .val (.int p1), .val (.int p2), .val (.int p3), .val (.int p4), .val (.int p5), .val (.int u1), .val (.int u2), .val (.int u3), .val (.int vn), .val (.int (1 : Int32)), .val (.int c3), .val (.int sl), .unset, .unset, .unset] [])) _
      refine XS.iload X0.here hx rfl (hb hby at_86) rfl ?_
      show Steps p.tables e below (s₁.setTop (mkF m 88 #[.val (.int p0), .val (.int p1), .val (.int p2), .val (.int p3), .val (.int p4), .val (.int p5), .val (.int u1), .val (.int u2), .val (.int u3), .val (.int vn), .val (.int (1 : Int32)), .val (.int c3), .val (.int sl), .unset, .unset, .unset] [(.int sl)])) _
      refine XS.iconst X0.here hx rfl (hb hby at_88) ?_
      show Steps p.tables e below (s₁.setTop (mkF m 89 #[.val (.int p0), .val (.int p1), .val (.int p2), .val (.int p3), .val (.int p4), .val (.int p5), .val (.int u1), .val (.int u2), .val (.int u3), .val (.int vn), .val (.int (1 : Int32)), .val (.int c3), .val (.int sl), .unset, .unset, .unset] [(.int (2 : Int32)), (.int sl)])) _
      refine XS.icmpYes X0.here hx rfl (pc0 := 89) (pc' := 100) rfl (hb hby at_89) rfl (feq z3).2 (by decide) (by decide) ?_
      show Steps p.tables e below (s₁.setTop (mkF m 100 #[.val (.int p0), .val (.int p1), .val (.int p2), .val (.int p3), .val (.int p4), .val (.int p5), .val (.int u1), .val (.int u2), .val (.int u3), .val (.int vn), .val (.int (1 : Int32)), .val (.int c3), .val (.int sl), .unset, .unset, .unset] [])) _
      refine XS.iload X0.here hx rfl (hb hby at_100) rfl ?_
      show Steps p.tables e below (s₁.setTop (mkF m 102 #[.val (.int p0), .val (.int p1), .val (.int p2), .val (.int p3), .val (.int p4), .val (.int p5), .val (.int u1), .val (.int u2), .val (.int u3), .val (.int vn), .val (.int (1 : Int32)), .val (.int c3), .val (.int sl), .unset, .unset, .unset] [(.int p5)])) _
      refine XS.istore X0.here hx rfl (hb hby at_102) rfl (l' := #[.val (.int p0), .val (.int p1), .val (.int p2), .val (.int p3), .val (.int p4), .val (.int p5), .val (.int u1), .val (.int u2), .val (.int u3), .val (.int vn), .val (.int (1 : Int32)), .val (.int c3), .val (.int sl), .val (.int p5), .unset, .unset]) rfl ?_
      show Steps p.tables e below (s₁.setTop (mkF m 104 #[.val (.int p0), .val (.int p1), .val (.int p2), .val (.int p3), .val (.int p4), .val (.int p5), .val (.int u1), .val (.int u2), .val (.int u3), .val (.int vn), .val (.int (1 : Int32)), .val (.int c3), .val (.int sl), .val (.int p5), .unset, .unset] [])) _
      exact kt
  obtain ⟨T3, h3, X3, e3, E3, A3, D3, U3, st3⟩ := newO X0 hx hZ hown (hw _ (List.mem_of_getElem? (i := 1) rfl)) (hw _ (List.mem_of_getElem? (i := 2) rfl)) (hw _ (List.mem_of_getElem? (i := 3) rfl)) e0 (g := (mkF m 104 #[.val (.int p0), .val (.int p1), .val (.int p2), .val (.int p3), .val (.int p4), .val (.int p5), .val (.int u1), .val (.int u2), .val (.int u3), .val (.int vn), .val (.int (1 : Int32)), .val (.int c3), .val (.int sl), .val (.int q), .unset, .unset] [])) rfl (hb hby at_104) (by decide) (by decide)
  obtain ⟨b3, g3⟩ : ∃ z, z = h0.size := ⟨_, rfl⟩
  rw [← g3] at A3 D3 U3 st3
  have Ut3 : Unt h3 b3 := U3
  have g_b3 : n0 ≤ b3 := Nat.le_trans (own_le O0) (Nat.le_of_eq g3.symm)
  have O3 := O0.ext E3
  have F_concepts_b3 : Fld Z h3 b3 "com/example/kvasir/kvasir/tableau/Node" "concepts" "[I" .null := D3 (Or.inl (hw _ (List.mem_of_getElem? (i := 18) rfl))) (ty := (.array .int)) (by decide)
  have F_reasons_b3 : Fld Z h3 b3 "com/example/kvasir/kvasir/tableau/Node" "reasons" "[Lcom/example/kvasir/kvasir/tableau/DependencySet;" .null := D3 (Or.inl (hw _ (List.mem_of_getElem? (i := 22) rfl))) (ty := (.array (.object "com/example/kvasir/kvasir/tableau/DependencySet"))) (by decide)
  have F_edgeRoles_b3 : Fld Z h3 b3 "com/example/kvasir/kvasir/tableau/Node" "edgeRoles" "[I" .null := D3 (Or.inl (hw _ (List.mem_of_getElem? (i := 24) rfl))) (ty := (.array .int)) (by decide)
  have F_edgeTargets_b3 : Fld Z h3 b3 "com/example/kvasir/kvasir/tableau/Node" "edgeTargets" "[Lcom/example/kvasir/kvasir/tableau/Node;" .null := D3 (Or.inl (hw _ (List.mem_of_getElem? (i := 28) rfl))) (ty := (.array (.object "com/example/kvasir/kvasir/tableau/Node"))) (by decide)
  have F_edgeReasons_b3 : Fld Z h3 b3 "com/example/kvasir/kvasir/tableau/Node" "edgeReasons" "[Lcom/example/kvasir/kvasir/tableau/DependencySet;" .null := D3 (Or.inl (hw _ (List.mem_of_getElem? (i := 30) rfl))) (ty := (.array (.object "com/example/kvasir/kvasir/tableau/DependencySet"))) (by decide)
  have F_apart_b3 : Fld Z h3 b3 "com/example/kvasir/kvasir/tableau/Node" "apart" "[Lcom/example/kvasir/kvasir/tableau/Node;" .null := D3 (Or.inl (hw _ (List.mem_of_getElem? (i := 32) rfl))) (ty := (.array (.object "com/example/kvasir/kvasir/tableau/Node"))) (by decide)
  have F_apartReasons_b3 : Fld Z h3 b3 "com/example/kvasir/kvasir/tableau/Node" "apartReasons" "[Lcom/example/kvasir/kvasir/tableau/DependencySet;" .null := D3 (Or.inl (hw _ (List.mem_of_getElem? (i := 34) rfl))) (ty := (.array (.object "com/example/kvasir/kvasir/tableau/DependencySet"))) (by decide)
  have F_groups_b3 : Fld Z h3 b3 "com/example/kvasir/kvasir/tableau/Node" "groups" "[Lcom/example/kvasir/kvasir/tableau/ApartGroup;" .null := D3 (Or.inl (hw _ (List.mem_of_getElem? (i := 38) rfl))) (ty := (.array (.object "com/example/kvasir/kvasir/tableau/ApartGroup"))) (by decide)
  have F_groupReasons_b3 : Fld Z h3 b3 "com/example/kvasir/kvasir/tableau/Node" "groupReasons" "[Lcom/example/kvasir/kvasir/tableau/DependencySet;" .null := D3 (Or.inl (hw _ (List.mem_of_getElem? (i := 40) rfl))) (ty := (.array (.object "com/example/kvasir/kvasir/tableau/DependencySet"))) (by decide)
  have F_agendaPlaces_b3 : Fld Z h3 b3 "com/example/kvasir/kvasir/tableau/Node" "agendaPlaces" "[I" .null := D3 (Or.inl (hw _ (List.mem_of_getElem? (i := 42) rfl))) (ty := (.array .int)) (by decide)
  have F_parent_b3 : Fld Z h3 b3 "com/example/kvasir/kvasir/tableau/Node" "parent" "Lcom/example/kvasir/kvasir/tableau/Node;" .null := D3 (Or.inr (hw _ (List.mem_of_getElem? (i := 44) rfl))) (ty := (.object "com/example/kvasir/kvasir/tableau/Node")) (by decide)
  have F_number_b3 : Fld Z h3 b3 "com/example/kvasir/kvasir/tableau/Node" "number" "I" (.int (0 : Int32)) := D3 (Or.inr (hw _ (List.mem_of_getElem? (i := 46) rfl))) (ty := .int) (by decide)
  have F_value_b3 : Fld Z h3 b3 "com/example/kvasir/kvasir/tableau/Node" "value" "Z" (.int (0 : Int32)) := D3 (Or.inr (hw _ (List.mem_of_getElem? (i := 48) rfl))) (ty := .boolean) (by decide)
  have F_copies_b3 : Fld Z h3 b3 "com/example/kvasir/kvasir/tableau/Node" "copies" "J" (.long (0 : Int64)) := D3 (Or.inr (hw _ (List.mem_of_getElem? (i := 50) rfl))) (ty := .long) (by decide)
  have F_madeFor_b3 : Fld Z h3 b3 "com/example/kvasir/kvasir/tableau/Node" "madeFor" "I" (.int (0 : Int32)) := D3 (Or.inr (hw _ (List.mem_of_getElem? (i := 52) rfl))) (ty := .int) (by decide)
  have F_madeBecause_b3 : Fld Z h3 b3 "com/example/kvasir/kvasir/tableau/Node" "madeBecause" "Lcom/example/kvasir/kvasir/tableau/DependencySet;" .null := D3 (Or.inr (hw _ (List.mem_of_getElem? (i := 54) rfl))) (ty := (.object "com/example/kvasir/kvasir/tableau/DependencySet")) (by decide)
  have F_members_b3 : Fld Z h3 b3 "com/example/kvasir/kvasir/tableau/Node" "members" "[J" .null := D3 (Or.inr (hw _ (List.mem_of_getElem? (i := 57) rfl))) (ty := (.array .long)) (by decide)
  obtain ⟨_, _, ⟨T4, L4, k4, n4⟩, -, X4, ⟨Lc4, hQ4, l4, y4, z4⟩, st4⟩ := X3.specialBack hx (y := (⟨"com/example/kvasir/kvasir/tableau/Node", "<init>", "(IIZ)V"⟩ : MethodName)) rfl hown (mvT hZ (hw _ (List.mem_of_getElem? (i := 4) rfl))) (mvT hZ (hw _ (List.mem_of_getElem? (i := 5) rfl))) (mvT hZ (hw _ (List.mem_of_getElem? (i := 6) rfl))) (by decide) (backOf (W := 1) (rmC1 l Z a0 hw [] b3 wE  h3 n0 O3 S_EMPTY A3 Ut3 g_b3) hZ (hw _ (List.mem_of_getElem? (i := 6) rfl)) (hw _ (List.mem_of_getElem? (i := 3) rfl)) (by decide) (by decide)) (g := (mkF m 112 #[.val (.int p0), .val (.int p1), .val (.int p2), .val (.int p3), .val (.int p4), .val (.int p5), .val (.int u1), .val (.int u2), .val (.int u3), .val (.int vn), .val (.int (1 : Int32)), .val (.int c3), .val (.int sl), .val (.int q), .unset, .unset] [(.int (0 : Int32)), (.int (64 : Int32)), (.int (0 : Int32)), (.ref b3), (.ref b3)])) rfl (by rw [hml]; rfl) (Steps.refl _) (a := b3) (argsL := [(.int (0 : Int32)), (.int (64 : Int32)), (.int (0 : Int32))]) (rest := [(.ref b3)]) (lenOf pd_3 rfl) rfl (by show 2 * 0 + _ ≤ _; exact Nat.le_of_eq rfl) (hb hby at_112) (fun _ _ => ⟨rfl, e3, (by decide : 1 + 11 ≤ _), (by decide : 29 + 23 ≤ _)⟩)
  dsimp only [Pt.U, Pt.locs, Pt.cells, Pt.slots] at X4 l4 y4 z4 st4 hQ4
  subst l4 y4 z4
  obtain ⟨rfl, N4q, O4, Ag4⟩ := hQ4
  have N4 := Fr.app N0 N4q
  obtain ⟨cq5, kq5, q5a, q5b, q5c⟩ := isOf hZ rfl Ag4.1
  obtain ⟨_, _, ⟨T5, L5, k5, n5⟩, -, X5, ⟨Lc5, hQ5, l5, y5, z5⟩, st5⟩ := X4.virtualBack hx (y := (⟨"com/example/kvasir/kvasir/tableau/Node", "placeOnAgenda", "(II)V"⟩ : MethodName)) (z := (⟨"com/example/kvasir/kvasir/tableau/Node", "placeOnAgenda", "(II)V"⟩ : MethodName)) hown (mvT hZ (hw _ (List.mem_of_getElem? (i := 58) rfl))) (mvT hZ (hw _ (List.mem_of_getElem? (i := 59) rfl))) (notFace_of_selects (args := #[]) (mvT hZ (hw _ (List.mem_of_getElem? (i := 61) rfl)))) (mvT hZ (hw _ (List.mem_of_getElem? (i := 61) rfl))) (mvT hZ (hw _ (List.mem_of_getElem? (i := 60) rfl))) (by decide) (backOf (W := 0) (rmP l Z a0 hw [] b3 p0 u1 [] T4.heap n0 O4 Ag4 (by decide)) hZ (hw _ (List.mem_of_getElem? (i := 62) rfl)) (hw _ (List.mem_of_getElem? (i := 3) rfl)) (by decide) (by decide)) q5a q5c (g := (mkF m 128 #[.val (.int p0), .val (.int p1), .val (.int p2), .val (.int p3), .val (.int p4), .val (.int p5), .val (.int u1), .val (.int u2), .val (.int u3), .val (.int vn), .val (.int (1 : Int32)), .val (.int c3), .val (.int sl), .val (.int q), .val (.ref b3), .unset] [(.int u1), (.int p0), (.ref b3)])) rfl (by rw [hml]; rfl) (Steps.refl _) (argsL := [(.int p0), (.int u1)]) (rest := []) (lenOf pd_5 rfl) rfl (by show 2 * 0 + _ ≤ _; exact Nat.le_of_eq rfl) (hb hby at_128) (fun _ _ => ⟨rfl, rfl, (by decide : 12 + 1 ≤ _), (by decide : 52 + 6 ≤ _)⟩)
  dsimp only [Pt.U, Pt.locs, Pt.cells, Pt.slots] at X5 l5 y5 z5 st5 hQ5
  subst l5 y5 z5
  obtain ⟨rfl, N5q, O5, Ag5⟩ := hQ5
  have N5 := Fr.app N4 N5q
  obtain ⟨cq6, kq6, q6a, q6b, q6c⟩ := isOf hZ rfl Ag5.1
  obtain ⟨_, _, ⟨T6, L6, k6, n6⟩, -, X6, ⟨Lc6, hQ6, l6, y6, z6⟩, st6⟩ := X5.virtualBack hx (y := (⟨"com/example/kvasir/kvasir/tableau/Node", "placeOnAgenda", "(II)V"⟩ : MethodName)) (z := (⟨"com/example/kvasir/kvasir/tableau/Node", "placeOnAgenda", "(II)V"⟩ : MethodName)) hown (mvT hZ (hw _ (List.mem_of_getElem? (i := 58) rfl))) (mvT hZ (hw _ (List.mem_of_getElem? (i := 59) rfl))) (notFace_of_selects (args := #[]) (mvT hZ (hw _ (List.mem_of_getElem? (i := 61) rfl)))) (mvT hZ (hw _ (List.mem_of_getElem? (i := 61) rfl))) (mvT hZ (hw _ (List.mem_of_getElem? (i := 60) rfl))) (by decide) (backOf (W := 0) (rmP l Z a0 hw [] b3 p1 u2 (own_put [] p0 u1) T5.heap n0 O5 Ag5 (by show (1 : Nat) ≤ 2; decide)) hZ (hw _ (List.mem_of_getElem? (i := 62) rfl)) (hw _ (List.mem_of_getElem? (i := 3) rfl)) (by decide) (by decide)) q6a q6c (g := (mkF m 142 #[.val (.int p0), .val (.int p1), .val (.int p2), .val (.int p3), .val (.int p4), .val (.int p5), .val (.int u1), .val (.int u2), .val (.int u3), .val (.int vn), .val (.int (1 : Int32)), .val (.int c3), .val (.int sl), .val (.int q), .val (.ref b3), .unset] [(.int u2), (.int p1), (.ref b3)])) rfl (by rw [hml]; rfl) (Steps.refl _) (argsL := [(.int p1), (.int u2)]) (rest := []) (lenOf pd_5 rfl) rfl (by show 2 * 0 + _ ≤ _; exact Nat.le_of_eq rfl) (hb hby at_142) (fun _ _ => ⟨rfl, rfl, (by decide : 13 + 1 ≤ _), (by decide : 58 + 6 ≤ _)⟩)
  dsimp only [Pt.U, Pt.locs, Pt.cells, Pt.slots] at X6 l6 y6 z6 st6 hQ6
  subst l6 y6 z6
  obtain ⟨rfl, N6q, O6, Ag6⟩ := hQ6
  have N6 := Fr.app N5 N6q
  obtain ⟨cq7, kq7, q7a, q7b, q7c⟩ := isOf hZ rfl Ag6.1
  obtain ⟨_, _, ⟨T7, L7, k7, n7⟩, -, X7, ⟨Lc7, hQ7, l7, y7, z7⟩, st7⟩ := X6.virtualBack hx (y := (⟨"com/example/kvasir/kvasir/tableau/Node", "placeOnAgenda", "(II)V"⟩ : MethodName)) (z := (⟨"com/example/kvasir/kvasir/tableau/Node", "placeOnAgenda", "(II)V"⟩ : MethodName)) hown (mvT hZ (hw _ (List.mem_of_getElem? (i := 58) rfl))) (mvT hZ (hw _ (List.mem_of_getElem? (i := 59) rfl))) (notFace_of_selects (args := #[]) (mvT hZ (hw _ (List.mem_of_getElem? (i := 61) rfl)))) (mvT hZ (hw _ (List.mem_of_getElem? (i := 61) rfl))) (mvT hZ (hw _ (List.mem_of_getElem? (i := 60) rfl))) (by decide) (backOf (W := 0) (rmP l Z a0 hw [] b3 c3 u3 (own_put (own_put [] p0 u1) p1 u2) T6.heap n0 O6 Ag6 (own_len_put _ _ _)) hZ (hw _ (List.mem_of_getElem? (i := 62) rfl)) (hw _ (List.mem_of_getElem? (i := 3) rfl)) (by decide) (by decide)) q7a q7c (g := (mkF m 156 #[.val (.int p0), .val (.int p1), .val (.int p2), .val (.int p3), .val (.int p4), .val (.int p5), .val (.int u1), .val (.int u2), .val (.int u3), .val (.int vn), .val (.int (1 : Int32)), .val (.int c3), .val (.int sl), .val (.int q), .val (.ref b3), .unset] [(.int u3), (.int c3), (.ref b3)])) rfl (by rw [hml]; rfl) (Steps.refl _) (argsL := [(.int c3), (.int u3)]) (rest := []) (lenOf pd_5 rfl) rfl (by show 2 * 0 + _ ≤ _; exact Nat.le_of_eq rfl) (hb hby at_156) (fun _ _ => ⟨rfl, rfl, (by decide : 14 + 1 ≤ _), (by decide : 64 + 6 ≤ _)⟩)
  dsimp only [Pt.U, Pt.locs, Pt.cells, Pt.slots] at X7 l7 y7 z7 st7 hQ7
  subst l7 y7 z7
  obtain ⟨rfl, N7q, O7, Ag7⟩ := hQ7
  have N7 := Fr.app N6 N7q
  have fk8 : ∀ target, Steps p.tables e below (T7.setTop (mkF m 178 #[.val (.int p0), .val (.int p1), .val (.int p2), .val (.int p3), .val (.int p4), .val (.int p5), .val (.int u1), .val (.int u2), .val (.int u3), .val (.int vn), .val (.int (1 : Int32)), .val (.int c3), .val (.int sl), .val (.int q), .val (.ref b3), .val (.int ex1)] [])) target → Steps p.tables e below (T7.setTop (mkF m 162 #[.val (.int p0), .val (.int p1), .val (.int p2), .val (.int p3), .val (.int p4), .val (.int p5), .val (.int u1), .val (.int u2), .val (.int u3), .val (.int vn), .val (.int (1 : Int32)), .val (.int c3), .val (.int sl), .val (.int q), .val (.ref b3), .val (.int (-1 : Int32))] [])) target := by
    intro target kt
    rcases hx1 with ⟨z1, z2⟩ | ⟨z1, z2⟩
    · rw [z2] at kt
      show Steps p.tables e below (T7.setTop (mkF m 162 #[.val (.int p0), .val (.int p1), .val (.int p2), .val (.int p3), .val (.int p4), .val (.int p5), .val (.int u1), .val (.int u2), .val (.int u3), .val (.int vn), .val (.int (1 : Int32)), .val (.int c3), .val (.int sl), .val (.int q), .val (.ref b3), .val (.int (-1 : Int32))] [])) _
      refine XS.iload X7.here hx rfl (hb hby at_162) rfl ?_
      show Steps p.tables e below (T7.setTop (mkF m 164 #[.val (.int p0), .val (.int p1), .val (.int p2), .val (.int p3), .val (.int p4), .val (.int p5), .val (.int u1), .val (.int u2), .val (.int u3), .val (.int vn), .val (.int (1 : Int32)), .val (.int c3), .val (.int sl), .val (.int q), .val (.ref b3), .val (.int (-1 : Int32))] [(.int vn)])) _
      refine XS.iconst X7.here hx rfl (hb hby at_164) ?_
      show Steps p.tables e below (T7.setTop (mkF m 165 #[.val (.int p0), .val (.int p1), .val (.int p2), .val (.int p3), .val (.int p4), .val (.int p5), .val (.int u1), .val (.int u2), .val (.int u3), .val (.int vn), .val (.int (1 : Int32)), .val (.int c3), .val (.int sl), .val (.int q), .val (.ref b3), .val (.int (-1 : Int32))] [(.int (1 : Int32)), (.int vn)])) _
      refine XS.icmpNo X7.here hx rfl (hb hby at_165) rfl (flt hn1).1 ?_
      show Steps p.tables e below (T7.setTop (mkF m 168 #[.val (.int p0), .val (.int p1), .val (.int p2), .val (.int p3), .val (.int p4), .val (.int p5), .val (.int u1), .val (.int u2), .val (.int u3), .val (.int vn), .val (.int (1 : Int32)), .val (.int c3), .val (.int sl), .val (.int q), .val (.ref b3), .val (.int (-1 : Int32))] [])) _
      refine XS.iload X7.here hx rfl (hb hby at_168) rfl ?_
      show Steps p.tables e below (T7.setTop (mkF m 170 #[.val (.int p0), .val (.int p1), .val (.int p2), .val (.int p3), .val (.int p4), .val (.int p5), .val (.int u1), .val (.int u2), .val (.int u3), .val (.int vn), .val (.int (1 : Int32)), .val (.int c3), .val (.int sl), .val (.int q), .val (.ref b3), .val (.int (-1 : Int32))] [(.int q)])) _
      refine XS.iloadN X7.here hx rfl (hb hby at_170) rfl ?_
      show Steps p.tables e below (T7.setTop (mkF m 171 #[.val (.int p0), .val (.int p1), .val (.int p2), .val (.int p3), .val (.int p4), .val (.int p5), .val (.int u1), .val (.int u2), .val (.int u3), .val (.int vn), .val (.int (1 : Int32)), .val (.int c3), .val (.int sl), .val (.int q), .val (.ref b3), .val (.int (-1 : Int32))] [(.int p0), (.int q)])) _
      refine XS.icmpNo X7.here hx rfl (hb hby at_171) rfl (teq z1).2 ?_
      show Steps p.tables e below (T7.setTop (mkF m 174 #[.val (.int p0), .val (.int p1), .val (.int p2), .val (.int p3), .val (.int p4), .val (.int p5), .val (.int u1), .val (.int u2), .val (.int u3), .val (.int vn), .val (.int (1 : Int32)), .val (.int c3), .val (.int sl), .val (.int q), .val (.ref b3), .val (.int (-1 : Int32))] [])) _
      refine XS.iload X7.here hx rfl (hb hby at_174) rfl ?_
      show Steps p.tables e below (T7.setTop (mkF m 176 #[.val (.int p0), .val (.int p1), .val (.int p2), .val (.int p3), .val (.int p4), .val (.int p5), .val (.int u1), .val (.int u2), .val (.int u3), .val (.int vn), .val (.int (1 : Int32)), .val (.int c3), .val (.int sl), .val (.int q), .val (.ref b3), .val (.int (-1 : Int32))] [(.int u1)])) _
      refine XS.istore X7.here hx rfl (hb hby at_176) rfl (l' := #[.val (.int p0), .val (.int p1), .val (.int p2), .val (.int p3), .val (.int p4), .val (.int p5), .val (.int u1), .val (.int u2), .val (.int u3), .val (.int vn), .val (.int (1 : Int32)), .val (.int c3), .val (.int sl), .val (.int q), .val (.ref b3), .val (.int u1)]) rfl ?_
      show Steps p.tables e below (T7.setTop (mkF m 178 #[.val (.int p0), .val (.int p1), .val (.int p2), .val (.int p3), .val (.int p4), .val (.int p5), .val (.int u1), .val (.int u2), .val (.int u3), .val (.int vn), .val (.int (1 : Int32)), .val (.int c3), .val (.int sl), .val (.int q), .val (.ref b3), .val (.int u1)] [])) _
      exact kt
    · rw [z2] at kt
      show Steps p.tables e below (T7.setTop (mkF m 162 #[.val (.int p0), .val (.int p1), .val (.int p2), .val (.int p3), .val (.int p4), .val (.int p5), .val (.int u1), .val (.int u2), .val (.int u3), .val (.int vn), .val (.int (1 : Int32)), .val (.int c3), .val (.int sl), .val (.int q), .val (.ref b3), .val (.int (-1 : Int32))] [])) _
      refine XS.iload X7.here hx rfl (hb hby at_162) rfl ?_
      show Steps p.tables e below (T7.setTop (mkF m 164 #[.val (.int p0), .val (.int p1), .val (.int p2), .val (.int p3), .val (.int p4), .val (.int p5), .val (.int u1), .val (.int u2), .val (.int u3), .val (.int vn), .val (.int (1 : Int32)), .val (.int c3), .val (.int sl), .val (.int q), .val (.ref b3), .val (.int (-1 : Int32))] [(.int vn)])) _
      refine XS.iconst X7.here hx rfl (hb hby at_164) ?_
      show Steps p.tables e below (T7.setTop (mkF m 165 #[.val (.int p0), .val (.int p1), .val (.int p2), .val (.int p3), .val (.int p4), .val (.int p5), .val (.int u1), .val (.int u2), .val (.int u3), .val (.int vn), .val (.int (1 : Int32)), .val (.int c3), .val (.int sl), .val (.int q), .val (.ref b3), .val (.int (-1 : Int32))] [(.int (1 : Int32)), (.int vn)])) _
      refine XS.icmpNo X7.here hx rfl (hb hby at_165) rfl (flt hn1).1 ?_
      show Steps p.tables e below (T7.setTop (mkF m 168 #[.val (.int p0), .val (.int p1), .val (.int p2), .val (.int p3), .val (.int p4), .val (.int p5), .val (.int u1), .val (.int u2), .val (.int u3), .val (.int vn), .val (.int (1 : Int32)), .val (.int c3), .val (.int sl), .val (.int q), .val (.ref b3), .val (.int (-1 : Int32))] [])) _
      refine XS.iload X7.here hx rfl (hb hby at_168) rfl ?_
      show Steps p.tables e below (T7.setTop (mkF m 170 #[.val (.int p0), .val (.int p1), .val (.int p2), .val (.int p3), .val (.int p4), .val (.int p5), .val (.int u1), .val (.int u2), .val (.int u3), .val (.int vn), .val (.int (1 : Int32)), .val (.int c3), .val (.int sl), .val (.int q), .val (.ref b3), .val (.int (-1 : Int32))] [(.int q)])) _
      refine XS.iloadN X7.here hx rfl (hb hby at_170) rfl ?_
      show Steps p.tables e below (T7.setTop (mkF m 171 #[.val (.int p0), .val (.int p1), .val (.int p2), .val (.int p3), .val (.int p4), .val (.int p5), .val (.int u1), .val (.int u2), .val (.int u3), .val (.int vn), .val (.int (1 : Int32)), .val (.int c3), .val (.int sl), .val (.int q), .val (.ref b3), .val (.int (-1 : Int32))] [(.int p0), (.int q)])) _
      refine XS.icmpYes X7.here hx rfl (pc0 := 171) (pc' := 178) rfl (hb hby at_171) rfl (feq z1).2 (by decide) (by decide) ?_
      show Steps p.tables e below (T7.setTop (mkF m 178 #[.val (.int p0), .val (.int p1), .val (.int p2), .val (.int p3), .val (.int p4), .val (.int p5), .val (.int u1), .val (.int u2), .val (.int u3), .val (.int vn), .val (.int (1 : Int32)), .val (.int c3), .val (.int sl), .val (.int q), .val (.ref b3), .val (.int (-1 : Int32))] [])) _
      exact kt
  have fk9 : ∀ target, Steps p.tables e below (T7.setTop (mkF m 194 #[.val (.int p0), .val (.int p1), .val (.int p2), .val (.int p3), .val (.int p4), .val (.int p5), .val (.int u1), .val (.int u2), .val (.int u3), .val (.int vn), .val (.int (1 : Int32)), .val (.int c3), .val (.int sl), .val (.int q), .val (.ref b3), .val (.int ex2)] [])) target → Steps p.tables e below (T7.setTop (mkF m 178 #[.val (.int p0), .val (.int p1), .val (.int p2), .val (.int p3), .val (.int p4), .val (.int p5), .val (.int u1), .val (.int u2), .val (.int u3), .val (.int vn), .val (.int (1 : Int32)), .val (.int c3), .val (.int sl), .val (.int q), .val (.ref b3), .val (.int ex1)] [])) target := by
    intro target kt
    rcases hx2 with ⟨z1, z2⟩ | ⟨z1, z2⟩
    · rw [z2] at kt
      show Steps p.tables e below (T7.setTop (mkF m 178 #[.val (.int p0), .val (.int p1), .val (.int p2), .val (.int p3), .val (.int p4), .val (.int p5), .val (.int u1), .val (.int u2), .val (.int u3), .val (.int vn), .val (.int (1 : Int32)), .val (.int c3), .val (.int sl), .val (.int q), .val (.ref b3), .val (.int ex1)] [])) _
      refine XS.iload X7.here hx rfl (hb hby at_178) rfl ?_
      show Steps p.tables e below (T7.setTop (mkF m 180 #[.val (.int p0), .val (.int p1), .val (.int p2), .val (.int p3), .val (.int p4), .val (.int p5), .val (.int u1), .val (.int u2), .val (.int u3), .val (.int vn), .val (.int (1 : Int32)), .val (.int c3), .val (.int sl), .val (.int q), .val (.ref b3), .val (.int ex1)] [(.int vn)])) _
      refine XS.iconst X7.here hx rfl (hb hby at_180) ?_
      show Steps p.tables e below (T7.setTop (mkF m 181 #[.val (.int p0), .val (.int p1), .val (.int p2), .val (.int p3), .val (.int p4), .val (.int p5), .val (.int u1), .val (.int u2), .val (.int u3), .val (.int vn), .val (.int (1 : Int32)), .val (.int c3), .val (.int sl), .val (.int q), .val (.ref b3), .val (.int ex1)] [(.int (2 : Int32)), (.int vn)])) _
      refine XS.icmpNo X7.here hx rfl (hb hby at_181) rfl (flt hn2).1 ?_
      show Steps p.tables e below (T7.setTop (mkF m 184 #[.val (.int p0), .val (.int p1), .val (.int p2), .val (.int p3), .val (.int p4), .val (.int p5), .val (.int u1), .val (.int u2), .val (.int u3), .val (.int vn), .val (.int (1 : Int32)), .val (.int c3), .val (.int sl), .val (.int q), .val (.ref b3), .val (.int ex1)] [])) _
      refine XS.iload X7.here hx rfl (hb hby at_184) rfl ?_
      show Steps p.tables e below (T7.setTop (mkF m 186 #[.val (.int p0), .val (.int p1), .val (.int p2), .val (.int p3), .val (.int p4), .val (.int p5), .val (.int u1), .val (.int u2), .val (.int u3), .val (.int vn), .val (.int (1 : Int32)), .val (.int c3), .val (.int sl), .val (.int q), .val (.ref b3), .val (.int ex1)] [(.int q)])) _
      refine XS.iloadN X7.here hx rfl (hb hby at_186) rfl ?_
      show Steps p.tables e below (T7.setTop (mkF m 187 #[.val (.int p0), .val (.int p1), .val (.int p2), .val (.int p3), .val (.int p4), .val (.int p5), .val (.int u1), .val (.int u2), .val (.int u3), .val (.int vn), .val (.int (1 : Int32)), .val (.int c3), .val (.int sl), .val (.int q), .val (.ref b3), .val (.int ex1)] [(.int p1), (.int q)])) _
      refine XS.icmpNo X7.here hx rfl (hb hby at_187) rfl (teq z1).2 ?_
      show Steps p.tables e below (T7.setTop (mkF m 190 #[.val (.int p0), .val (.int p1), .val (.int p2), .val (.int p3), .val (.int p4), .val (.int p5), .val (.int u1), .val (.int u2), .val (.int u3), .val (.int vn), .val (.int (1 : Int32)), .val (.int c3), .val (.int sl), .val (.int q), .val (.ref b3), .val (.int ex1)] [])) _
      refine XS.iload X7.here hx rfl (hb hby at_190) rfl ?_
      show Steps p.tables e below (T7.setTop (mkF m 192 #[.val (.int p0), .val (.int p1), .val (.int p2), .val (.int p3), .val (.int p4), .val (.int p5), .val (.int u1), .val (.int u2), .val (.int u3), .val (.int vn), .val (.int (1 : Int32)), .val (.int c3), .val (.int sl), .val (.int q), .val (.ref b3), .val (.int ex1)] [(.int u2)])) _
      refine XS.istore X7.here hx rfl (hb hby at_192) rfl (l' := #[.val (.int p0), .val (.int p1), .val (.int p2), .val (.int p3), .val (.int p4), .val (.int p5), .val (.int u1), .val (.int u2), .val (.int u3), .val (.int vn), .val (.int (1 : Int32)), .val (.int c3), .val (.int sl), .val (.int q), .val (.ref b3), .val (.int u2)]) rfl ?_
      show Steps p.tables e below (T7.setTop (mkF m 194 #[.val (.int p0), .val (.int p1), .val (.int p2), .val (.int p3), .val (.int p4), .val (.int p5), .val (.int u1), .val (.int u2), .val (.int u3), .val (.int vn), .val (.int (1 : Int32)), .val (.int c3), .val (.int sl), .val (.int q), .val (.ref b3), .val (.int u2)] [])) _
      exact kt
    · rw [z2] at kt
      show Steps p.tables e below (T7.setTop (mkF m 178 #[.val (.int p0), .val (.int p1), .val (.int p2), .val (.int p3), .val (.int p4), .val (.int p5), .val (.int u1), .val (.int u2), .val (.int u3), .val (.int vn), .val (.int (1 : Int32)), .val (.int c3), .val (.int sl), .val (.int q), .val (.ref b3), .val (.int ex1)] [])) _
      refine XS.iload X7.here hx rfl (hb hby at_178) rfl ?_
      show Steps p.tables e below (T7.setTop (mkF m 180 #[.val (.int p0), .val (.int p1), .val (.int p2), .val (.int p3), .val (.int p4), .val (.int p5), .val (.int u1), .val (.int u2), .val (.int u3), .val (.int vn), .val (.int (1 : Int32)), .val (.int c3), .val (.int sl), .val (.int q), .val (.ref b3), .val (.int ex1)] [(.int vn)])) _
      refine XS.iconst X7.here hx rfl (hb hby at_180) ?_
      show Steps p.tables e below (T7.setTop (mkF m 181 #[.val (.int p0), .val (.int p1), .val (.int p2), .val (.int p3), .val (.int p4), .val (.int p5), .val (.int u1), .val (.int u2), .val (.int u3), .val (.int vn), .val (.int (1 : Int32)), .val (.int c3), .val (.int sl), .val (.int q), .val (.ref b3), .val (.int ex1)] [(.int (2 : Int32)), (.int vn)])) _
      refine XS.icmpNo X7.here hx rfl (hb hby at_181) rfl (flt hn2).1 ?_
      show Steps p.tables e below (T7.setTop (mkF m 184 #[.val (.int p0), .val (.int p1), .val (.int p2), .val (.int p3), .val (.int p4), .val (.int p5), .val (.int u1), .val (.int u2), .val (.int u3), .val (.int vn), .val (.int (1 : Int32)), .val (.int c3), .val (.int sl), .val (.int q), .val (.ref b3), .val (.int ex1)] [])) _
      refine XS.iload X7.here hx rfl (hb hby at_184) rfl ?_
      show Steps p.tables e below (T7.setTop (mkF m 186 #[.val (.int p0), .val (.int p1), .val (.int p2), .val (.int p3), .val (.int p4), .val (.int p5), .val (.int u1), .val (.int u2), .val (.int u3), .val (.int vn), .val (.int (1 : Int32)), .val (.int c3), .val (.int sl), .val (.int q), .val (.ref b3), .val (.int ex1)] [(.int q)])) _
      refine XS.iloadN X7.here hx rfl (hb hby at_186) rfl ?_
      show Steps p.tables e below (T7.setTop (mkF m 187 #[.val (.int p0), .val (.int p1), .val (.int p2), .val (.int p3), .val (.int p4), .val (.int p5), .val (.int u1), .val (.int u2), .val (.int u3), .val (.int vn), .val (.int (1 : Int32)), .val (.int c3), .val (.int sl), .val (.int q), .val (.ref b3), .val (.int ex1)] [(.int p1), (.int q)])) _
      refine XS.icmpYes X7.here hx rfl (pc0 := 187) (pc' := 194) rfl (hb hby at_187) rfl (feq z1).2 (by decide) (by decide) ?_
      show Steps p.tables e below (T7.setTop (mkF m 194 #[.val (.int p0), .val (.int p1), .val (.int p2), .val (.int p3), .val (.int p4), .val (.int p5), .val (.int u1), .val (.int u2), .val (.int u3), .val (.int vn), .val (.int (1 : Int32)), .val (.int c3), .val (.int sl), .val (.int q), .val (.ref b3), .val (.int ex1)] [])) _
      exact kt
  have fk10 : ∀ target, Steps p.tables e below (T7.setTop (mkF m 210 #[.val (.int p0), .val (.int p1), .val (.int p2), .val (.int p3), .val (.int p4), .val (.int p5), .val (.int u1), .val (.int u2), .val (.int u3), .val (.int vn), .val (.int (1 : Int32)), .val (.int c3), .val (.int sl), .val (.int q), .val (.ref b3), .val (.int ex3)] [])) target → Steps p.tables e below (T7.setTop (mkF m 194 #[.val (.int p0), .val (.int p1), .val (.int p2), .val (.int p3), .val (.int p4), .val (.int p5), .val (.int u1), .val (.int u2), .val (.int u3), .val (.int vn), .val (.int (1 : Int32)), .val (.int c3), .val (.int sl), .val (.int q), .val (.ref b3), .val (.int ex2)] [])) target := by
    intro target kt
    rcases hx3 with ⟨z1, z2⟩ | ⟨z1, z2⟩
    · rw [z2] at kt
      show Steps p.tables e below (T7.setTop (mkF m 194 #[.val (.int p0), .val (.int p1), .val (.int p2), .val (.int p3), .val (.int p4), .val (.int p5), .val (.int u1), .val (.int u2), .val (.int u3), .val (.int vn), .val (.int (1 : Int32)), .val (.int c3), .val (.int sl), .val (.int q), .val (.ref b3), .val (.int ex2)] [])) _
      refine XS.iload X7.here hx rfl (hb hby at_194) rfl ?_
      show Steps p.tables e below (T7.setTop (mkF m 196 #[.val (.int p0), .val (.int p1), .val (.int p2), .val (.int p3), .val (.int p4), .val (.int p5), .val (.int u1), .val (.int u2), .val (.int u3), .val (.int vn), .val (.int (1 : Int32)), .val (.int c3), .val (.int sl), .val (.int q), .val (.ref b3), .val (.int ex2)] [(.int (1 : Int32))])) _
      refine XS.ifNo X7.here hx rfl (hb hby at_196) rfl ((if0 _ _).trans (feq (by decide : ¬ ((1 : Int32) = (0 : Int32)))).1) ?_
      show Steps p.tables e below (T7.setTop (mkF m 199 #[.val (.int p0), .val (.int p1), .val (.int p2), .val (.int p3), .val (.int p4), .val (.int p5), .val (.int u1), .val (.int u2), .val (.int u3), .val (.int vn), .val (.int (1 : Int32)), .val (.int c3), .val (.int sl), .val (.int q), .val (.ref b3), .val (.int ex2)] [])) _
      refine XS.iload X7.here hx rfl (hb hby at_199) rfl ?_
      show Steps p.tables e below (T7.setTop (mkF m 201 #[.val (.int p0), .val (.int p1), .val (.int p2), .val (.int p3), .val (.int p4), .val (.int p5), .val (.int u1), .val (.int u2), .val (.int u3), .val (.int vn), .val (.int (1 : Int32)), .val (.int c3), .val (.int sl), .val (.int q), .val (.ref b3), .val (.int ex2)] [(.int q)])) _
      refine XS.iload X7.here hx rfl (hb hby at_201) rfl ?_
      show Steps p.tables e below (T7.setTop (mkF m 203 #[.val (.int p0), .val (.int p1), .val (.int p2), .val (.int p3), .val (.int p4), .val (.int p5), .val (.int u1), .val (.int u2), .val (.int u3), .val (.int vn), .val (.int (1 : Int32)), .val (.int c3), .val (.int sl), .val (.int q), .val (.ref b3), .val (.int ex2)] [(.int c3), (.int q)])) _
      refine XS.icmpNo X7.here hx rfl (hb hby at_203) rfl (teq z1).2 ?_
      show Steps p.tables e below (T7.setTop (mkF m 206 #[.val (.int p0), .val (.int p1), .val (.int p2), .val (.int p3), .val (.int p4), .val (.int p5), .val (.int u1), .val (.int u2), .val (.int u3), .val (.int vn), .val (.int (1 : Int32)), .val (.int c3), .val (.int sl), .val (.int q), .val (.ref b3), .val (.int ex2)] [])) _
      refine XS.iload X7.here hx rfl (hb hby at_206) rfl ?_
      show Steps p.tables e below (T7.setTop (mkF m 208 #[.val (.int p0), .val (.int p1), .val (.int p2), .val (.int p3), .val (.int p4), .val (.int p5), .val (.int u1), .val (.int u2), .val (.int u3), .val (.int vn), .val (.int (1 : Int32)), .val (.int c3), .val (.int sl), .val (.int q), .val (.ref b3), .val (.int ex2)] [(.int u3)])) _
      refine XS.istore X7.here hx rfl (hb hby at_208) rfl (l' := #[.val (.int p0), .val (.int p1), .val (.int p2), .val (.int p3), .val (.int p4), .val (.int p5), .val (.int u1), .val (.int u2), .val (.int u3), .val (.int vn), .val (.int (1 : Int32)), .val (.int c3), .val (.int sl), .val (.int q), .val (.ref b3), .val (.int u3)]) rfl ?_
      show Steps p.tables e below (T7.setTop (mkF m 210 #[.val (.int p0), .val (.int p1), .val (.int p2), .val (.int p3), .val (.int p4), .val (.int p5), .val (.int u1), .val (.int u2), .val (.int u3), .val (.int vn), .val (.int (1 : Int32)), .val (.int c3), .val (.int sl), .val (.int q), .val (.ref b3), .val (.int u3)] [])) _
      exact kt
    · rw [z2] at kt
      show Steps p.tables e below (T7.setTop (mkF m 194 #[.val (.int p0), .val (.int p1), .val (.int p2), .val (.int p3), .val (.int p4), .val (.int p5), .val (.int u1), .val (.int u2), .val (.int u3), .val (.int vn), .val (.int (1 : Int32)), .val (.int c3), .val (.int sl), .val (.int q), .val (.ref b3), .val (.int ex2)] [])) _
      refine XS.iload X7.here hx rfl (hb hby at_194) rfl ?_
      show Steps p.tables e below (T7.setTop (mkF m 196 #[.val (.int p0), .val (.int p1), .val (.int p2), .val (.int p3), .val (.int p4), .val (.int p5), .val (.int u1), .val (.int u2), .val (.int u3), .val (.int vn), .val (.int (1 : Int32)), .val (.int c3), .val (.int sl), .val (.int q), .val (.ref b3), .val (.int ex2)] [(.int (1 : Int32))])) _
      refine XS.ifNo X7.here hx rfl (hb hby at_196) rfl ((if0 _ _).trans (feq (by decide : ¬ ((1 : Int32) = (0 : Int32)))).1) ?_
      show Steps p.tables e below (T7.setTop (mkF m 199 #[.val (.int p0), .val (.int p1), .val (.int p2), .val (.int p3), .val (.int p4), .val (.int p5), .val (.int u1), .val (.int u2), .val (.int u3), .val (.int vn), .val (.int (1 : Int32)), .val (.int c3), .val (.int sl), .val (.int q), .val (.ref b3), .val (.int ex2)] [])) _
      refine XS.iload X7.here hx rfl (hb hby at_199) rfl ?_
      show Steps p.tables e below (T7.setTop (mkF m 201 #[.val (.int p0), .val (.int p1), .val (.int p2), .val (.int p3), .val (.int p4), .val (.int p5), .val (.int u1), .val (.int u2), .val (.int u3), .val (.int vn), .val (.int (1 : Int32)), .val (.int c3), .val (.int sl), .val (.int q), .val (.ref b3), .val (.int ex2)] [(.int q)])) _
      refine XS.iload X7.here hx rfl (hb hby at_201) rfl ?_
      show Steps p.tables e below (T7.setTop (mkF m 203 #[.val (.int p0), .val (.int p1), .val (.int p2), .val (.int p3), .val (.int p4), .val (.int p5), .val (.int u1), .val (.int u2), .val (.int u3), .val (.int vn), .val (.int (1 : Int32)), .val (.int c3), .val (.int sl), .val (.int q), .val (.ref b3), .val (.int ex2)] [(.int c3), (.int q)])) _
      refine XS.icmpYes X7.here hx rfl (pc0 := 203) (pc' := 210) rfl (hb hby at_203) rfl (feq z1).2 (by decide) (by decide) ?_
      show Steps p.tables e below (T7.setTop (mkF m 210 #[.val (.int p0), .val (.int p1), .val (.int p2), .val (.int p3), .val (.int p4), .val (.int p5), .val (.int u1), .val (.int u2), .val (.int u3), .val (.int vn), .val (.int (1 : Int32)), .val (.int c3), .val (.int sl), .val (.int q), .val (.ref b3), .val (.int ex2)] [])) _
      exact kt
  have hget : own_get (own_put (own_put (own_put [] p0 u1) p1 u2) c3 u3) q = ex3 := by
    simp only [own_get_put]
    exact own_exp_F p0 p1 c3 q u1 u2 u3 ex1 ex2 ex3 hx1 hx2 hx3
  obtain ⟨cq11, kq11, q11a, q11b, q11c⟩ := isOf hZ rfl Ag7.1
  obtain ⟨_, _, ⟨T11, L11, k11, n11⟩, -, X11, ⟨Lc11, hQ11, l11, y11, z11⟩, st11⟩ := X7.virtualBack hx (y := (⟨"com/example/kvasir/kvasir/tableau/Node", "agendaPlace", "(I)I"⟩ : MethodName)) (z := (⟨"com/example/kvasir/kvasir/tableau/Node", "agendaPlace", "(I)I"⟩ : MethodName)) hown (mvT hZ (hw _ (List.mem_of_getElem? (i := 75) rfl))) (mvT hZ (hw _ (List.mem_of_getElem? (i := 76) rfl))) (notFace_of_selects (args := #[]) (mvT hZ (hw _ (List.mem_of_getElem? (i := 78) rfl)))) (mvT hZ (hw _ (List.mem_of_getElem? (i := 78) rfl))) (mvT hZ (hw _ (List.mem_of_getElem? (i := 77) rfl))) (by decide) (backOf (W := 0) (rmG l Z a0 hw [] b3 q (own_put (own_put (own_put [] p0 u1) p1 u2) c3 u3) T7.heap n0 O7 Ag7 (Nat.le_trans (own_len_put _ _ _) (Nat.succ_le_succ (Nat.le_trans (own_len_put _ _ _) (Nat.succ_le_succ (own_len_put _ _ _))))) (own_nn_put _ _ _ (own_nn_put _ _ _ (own_nn_put _ _ _ trivial (hu1 ▸ own_mask_nn _)) (hu2 ▸ own_mask_nn _)) (hu3 ▸ own_mask_nn _))) hZ (hw _ (List.mem_of_getElem? (i := 79) rfl)) (hw _ (List.mem_of_getElem? (i := 3) rfl)) (by decide) (by decide)) q11a q11c (g := (mkF m 214 #[.val (.int p0), .val (.int p1), .val (.int p2), .val (.int p3), .val (.int p4), .val (.int p5), .val (.int u1), .val (.int u2), .val (.int u3), .val (.int vn), .val (.int (1 : Int32)), .val (.int c3), .val (.int sl), .val (.int q), .val (.ref b3), .val (.int ex3)] [(.int q), (.ref b3)])) rfl (by rw [hml]; rfl) (Steps.refl _) (argsL := [(.int q)]) (rest := []) (lenOf pd_4 rfl) rfl (by show 2 * 0 + _ ≤ _; exact Nat.le_of_eq rfl) (hb hby at_214) (fun _ _ => ⟨rfl, rfl, (by decide : 15 + 0 ≤ _), (by decide : 70 + 0 ≤ _)⟩)
  dsimp only [Pt.U, Pt.locs, Pt.cells, Pt.slots] at X11 l11 y11 z11 st11 hQ11
  subst l11 y11 z11
  obtain ⟨rfl, N11q, e11⟩ := hQ11
  have N11 := Fr.app N7 N11q
  obtain ⟨fs, hr, hrun, hended, hW, hsame⟩ := X11.leave (v := some (.int (1 : Int32))) (fun h => by rw [Bd.returns] at h; cases h)
  refine ⟨_, _, pre0 _ ?_, hrun, hended, _, _, rfl, ?_, ⟨_, rfl⟩, hW, hsame.mono (by decide) (by decide)⟩
  · show Steps p.tables e below (s₁.setTop (mkF m 0 #[.val (.int p0), .val (.int p1), .val (.int p2), .val (.int p3), .val (.int p4), .val (.int p5), .unset, .unset, .unset, .unset, .unset, .unset, .unset, .unset, .unset, .unset] [])) _
    refine XS.iloadN X0.here hx rfl (hb hby at_0) rfl ?_
    show Steps p.tables e below (s₁.setTop (mkF m 1 #[.val (.int p0), .val (.int p1), .val (.int p2), .val (.int p3), .val (.int p4), .val (.int p5), .unset, .unset, .unset, .unset, .unset, .unset, .unset, .unset, .unset, .unset] [(.int p2)])) _
    refine X0.ldcInt hx hown (mvT hZ (hw _ (List.mem_of_getElem? (i := 0) rfl))) (g := (mkF m 1 #[.val (.int p0), .val (.int p1), .val (.int p2), .val (.int p3), .val (.int p4), .val (.int p5), .unset, .unset, .unset, .unset, .unset, .unset, .unset, .unset, .unset, .unset] [(.int p2)])) rfl (hb hby at_1) _ ?_
    show Steps p.tables e below (s₁.setTop (mkF m 3 #[.val (.int p0), .val (.int p1), .val (.int p2), .val (.int p3), .val (.int p4), .val (.int p5), .unset, .unset, .unset, .unset, .unset, .unset, .unset, .unset, .unset, .unset] [(.int (2147483647 : Int32)), (.int p2)])) _
    refine XS.iand X0.here hx rfl (hb hby at_3) rfl ?_
    show Steps p.tables e below (s₁.setTop (mkF m 4 #[.val (.int p0), .val (.int p1), .val (.int p2), .val (.int p3), .val (.int p4), .val (.int p5), .unset, .unset, .unset, .unset, .unset, .unset, .unset, .unset, .unset, .unset] [(.int (p2 &&& (2147483647 : Int32)))])) _
    rw [hu1]
    show Steps p.tables e below (s₁.setTop (mkF m 4 #[.val (.int p0), .val (.int p1), .val (.int p2), .val (.int p3), .val (.int p4), .val (.int p5), .unset, .unset, .unset, .unset, .unset, .unset, .unset, .unset, .unset, .unset] [(.int u1)])) _
    refine XS.istore X0.here hx rfl (hb hby at_4) rfl (l' := #[.val (.int p0), .val (.int p1), .val (.int p2), .val (.int p3), .val (.int p4), .val (.int p5), .val (.int u1), .unset, .unset, .unset, .unset, .unset, .unset, .unset, .unset, .unset]) rfl ?_
    show Steps p.tables e below (s₁.setTop (mkF m 6 #[.val (.int p0), .val (.int p1), .val (.int p2), .val (.int p3), .val (.int p4), .val (.int p5), .val (.int u1), .unset, .unset, .unset, .unset, .unset, .unset, .unset, .unset, .unset] [])) _
    refine XS.iloadN X0.here hx rfl (hb hby at_6) rfl ?_
    show Steps p.tables e below (s₁.setTop (mkF m 7 #[.val (.int p0), .val (.int p1), .val (.int p2), .val (.int p3), .val (.int p4), .val (.int p5), .val (.int u1), .unset, .unset, .unset, .unset, .unset, .unset, .unset, .unset, .unset] [(.int p3)])) _
    refine X0.ldcInt hx hown (mvT hZ (hw _ (List.mem_of_getElem? (i := 0) rfl))) (g := (mkF m 7 #[.val (.int p0), .val (.int p1), .val (.int p2), .val (.int p3), .val (.int p4), .val (.int p5), .val (.int u1), .unset, .unset, .unset, .unset, .unset, .unset, .unset, .unset, .unset] [(.int p3)])) rfl (hb hby at_7) _ ?_
    show Steps p.tables e below (s₁.setTop (mkF m 9 #[.val (.int p0), .val (.int p1), .val (.int p2), .val (.int p3), .val (.int p4), .val (.int p5), .val (.int u1), .unset, .unset, .unset, .unset, .unset, .unset, .unset, .unset, .unset] [(.int (2147483647 : Int32)), (.int p3)])) _
    refine XS.iand X0.here hx rfl (hb hby at_9) rfl ?_
    show Steps p.tables e below (s₁.setTop (mkF m 10 #[.val (.int p0), .val (.int p1), .val (.int p2), .val (.int p3), .val (.int p4), .val (.int p5), .val (.int u1), .unset, .unset, .unset, .unset, .unset, .unset, .unset, .unset, .unset] [(.int (p3 &&& (2147483647 : Int32)))])) _
    rw [hu2]
    show Steps p.tables e below (s₁.setTop (mkF m 10 #[.val (.int p0), .val (.int p1), .val (.int p2), .val (.int p3), .val (.int p4), .val (.int p5), .val (.int u1), .unset, .unset, .unset, .unset, .unset, .unset, .unset, .unset, .unset] [(.int u2)])) _
    refine XS.istore X0.here hx rfl (hb hby at_10) rfl (l' := #[.val (.int p0), .val (.int p1), .val (.int p2), .val (.int p3), .val (.int p4), .val (.int p5), .val (.int u1), .val (.int u2), .unset, .unset, .unset, .unset, .unset, .unset, .unset, .unset]) rfl ?_
    show Steps p.tables e below (s₁.setTop (mkF m 12 #[.val (.int p0), .val (.int p1), .val (.int p2), .val (.int p3), .val (.int p4), .val (.int p5), .val (.int u1), .val (.int u2), .unset, .unset, .unset, .unset, .unset, .unset, .unset, .unset] [])) _
    refine XS.iload X0.here hx rfl (hb hby at_12) rfl ?_
    show Steps p.tables e below (s₁.setTop (mkF m 14 #[.val (.int p0), .val (.int p1), .val (.int p2), .val (.int p3), .val (.int p4), .val (.int p5), .val (.int u1), .val (.int u2), .unset, .unset, .unset, .unset, .unset, .unset, .unset, .unset] [(.int p4)])) _
    refine X0.ldcInt hx hown (mvT hZ (hw _ (List.mem_of_getElem? (i := 0) rfl))) (g := (mkF m 14 #[.val (.int p0), .val (.int p1), .val (.int p2), .val (.int p3), .val (.int p4), .val (.int p5), .val (.int u1), .val (.int u2), .unset, .unset, .unset, .unset, .unset, .unset, .unset, .unset] [(.int p4)])) rfl (hb hby at_14) _ ?_
    show Steps p.tables e below (s₁.setTop (mkF m 16 #[.val (.int p0), .val (.int p1), .val (.int p2), .val (.int p3), .val (.int p4), .val (.int p5), .val (.int u1), .val (.int u2), .unset, .unset, .unset, .unset, .unset, .unset, .unset, .unset] [(.int (2147483647 : Int32)), (.int p4)])) _
    refine XS.iand X0.here hx rfl (hb hby at_16) rfl ?_
    show Steps p.tables e below (s₁.setTop (mkF m 17 #[.val (.int p0), .val (.int p1), .val (.int p2), .val (.int p3), .val (.int p4), .val (.int p5), .val (.int u1), .val (.int u2), .unset, .unset, .unset, .unset, .unset, .unset, .unset, .unset] [(.int (p4 &&& (2147483647 : Int32)))])) _
    rw [hu3]
    show Steps p.tables e below (s₁.setTop (mkF m 17 #[.val (.int p0), .val (.int p1), .val (.int p2), .val (.int p3), .val (.int p4), .val (.int p5), .val (.int u1), .val (.int u2), .unset, .unset, .unset, .unset, .unset, .unset, .unset, .unset] [(.int u3)])) _
    refine XS.istore X0.here hx rfl (hb hby at_17) rfl (l' := #[.val (.int p0), .val (.int p1), .val (.int p2), .val (.int p3), .val (.int p4), .val (.int p5), .val (.int u1), .val (.int u2), .val (.int u3), .unset, .unset, .unset, .unset, .unset, .unset, .unset]) rfl ?_
    show Steps p.tables e below (s₁.setTop (mkF m 19 #[.val (.int p0), .val (.int p1), .val (.int p2), .val (.int p3), .val (.int p4), .val (.int p5), .val (.int u1), .val (.int u2), .val (.int u3), .unset, .unset, .unset, .unset, .unset, .unset, .unset] [])) _
    refine XS.iload X0.here hx rfl (hb hby at_19) rfl ?_
    show Steps p.tables e below (s₁.setTop (mkF m 21 #[.val (.int p0), .val (.int p1), .val (.int p2), .val (.int p3), .val (.int p4), .val (.int p5), .val (.int u1), .val (.int u2), .val (.int u3), .unset, .unset, .unset, .unset, .unset, .unset, .unset] [(.int p5)])) _
    refine XS.iconst X0.here hx rfl (hb hby at_21) ?_
    show Steps p.tables e below (s₁.setTop (mkF m 22 #[.val (.int p0), .val (.int p1), .val (.int p2), .val (.int p3), .val (.int p4), .val (.int p5), .val (.int u1), .val (.int u2), .val (.int u3), .unset, .unset, .unset, .unset, .unset, .unset, .unset] [(.int (4 : Int32)), (.int p5)])) _
    refine XS.iushr X0.here hx rfl (hb hby at_22) rfl ?_
    show Steps p.tables e below (s₁.setTop (mkF m 23 #[.val (.int p0), .val (.int p1), .val (.int p2), .val (.int p3), .val (.int p4), .val (.int p5), .val (.int u1), .val (.int u2), .val (.int u3), .unset, .unset, .unset, .unset, .unset, .unset, .unset] [(.int ((p5.toUInt32 >>> ((4 : Int32) &&& 31).toUInt32).toInt32))])) _
    refine XS.iconst X0.here hx rfl (hb hby at_23) ?_
    show Steps p.tables e below (s₁.setTop (mkF m 24 #[.val (.int p0), .val (.int p1), .val (.int p2), .val (.int p3), .val (.int p4), .val (.int p5), .val (.int u1), .val (.int u2), .val (.int u3), .unset, .unset, .unset, .unset, .unset, .unset, .unset] [(.int (3 : Int32)), (.int ((p5.toUInt32 >>> ((4 : Int32) &&& 31).toUInt32).toInt32))])) _
    refine XS.iand X0.here hx rfl (hb hby at_24) rfl ?_
    show Steps p.tables e below (s₁.setTop (mkF m 25 #[.val (.int p0), .val (.int p1), .val (.int p2), .val (.int p3), .val (.int p4), .val (.int p5), .val (.int u1), .val (.int u2), .val (.int u3), .unset, .unset, .unset, .unset, .unset, .unset, .unset] [(.int (((p5.toUInt32 >>> ((4 : Int32) &&& 31).toUInt32).toInt32) &&& (3 : Int32)))])) _
    rw [hvn]
    show Steps p.tables e below (s₁.setTop (mkF m 25 #[.val (.int p0), .val (.int p1), .val (.int p2), .val (.int p3), .val (.int p4), .val (.int p5), .val (.int u1), .val (.int u2), .val (.int u3), .unset, .unset, .unset, .unset, .unset, .unset, .unset] [(.int vn)])) _
    refine XS.istore X0.here hx rfl (hb hby at_25) rfl (l' := #[.val (.int p0), .val (.int p1), .val (.int p2), .val (.int p3), .val (.int p4), .val (.int p5), .val (.int u1), .val (.int u2), .val (.int u3), .val (.int vn), .unset, .unset, .unset, .unset, .unset, .unset]) rfl ?_
    show Steps p.tables e below (s₁.setTop (mkF m 27 #[.val (.int p0), .val (.int p1), .val (.int p2), .val (.int p3), .val (.int p4), .val (.int p5), .val (.int u1), .val (.int u2), .val (.int u3), .val (.int vn), .unset, .unset, .unset, .unset, .unset, .unset] [])) _
    refine XS.iload X0.here hx rfl (hb hby at_27) rfl ?_
    show Steps p.tables e below (s₁.setTop (mkF m 29 #[.val (.int p0), .val (.int p1), .val (.int p2), .val (.int p3), .val (.int p4), .val (.int p5), .val (.int u1), .val (.int u2), .val (.int u3), .val (.int vn), .unset, .unset, .unset, .unset, .unset, .unset] [(.int p5)])) _
    refine XS.iconst X0.here hx rfl (hb hby at_29) ?_
    show Steps p.tables e below (s₁.setTop (mkF m 30 #[.val (.int p0), .val (.int p1), .val (.int p2), .val (.int p3), .val (.int p4), .val (.int p5), .val (.int u1), .val (.int u2), .val (.int u3), .val (.int vn), .unset, .unset, .unset, .unset, .unset, .unset] [(.int (1 : Int32)), (.int p5)])) _
    refine XS.iand X0.here hx rfl (hb hby at_30) rfl ?_
    show Steps p.tables e below (s₁.setTop (mkF m 31 #[.val (.int p0), .val (.int p1), .val (.int p2), .val (.int p3), .val (.int p4), .val (.int p5), .val (.int u1), .val (.int u2), .val (.int u3), .val (.int vn), .unset, .unset, .unset, .unset, .unset, .unset] [(.int (p5 &&& (1 : Int32)))])) _
    refine XS.ifNo X0.here hx rfl (hb hby at_31) rfl ((if0 _ _).trans (feq hn3).1) ?_
    show Steps p.tables e below (s₁.setTop (mkF m 34 #[.val (.int p0), .val (.int p1), .val (.int p2), .val (.int p3), .val (.int p4), .val (.int p5), .val (.int u1), .val (.int u2), .val (.int u3), .val (.int vn), .unset, .unset, .unset, .unset, .unset, .unset] [])) _
    refine XS.iconst X0.here hx rfl (hb hby at_34) ?_
    show Steps p.tables e below (s₁.setTop (mkF m 35 #[.val (.int p0), .val (.int p1), .val (.int p2), .val (.int p3), .val (.int p4), .val (.int p5), .val (.int u1), .val (.int u2), .val (.int u3), .val (.int vn), .unset, .unset, .unset, .unset, .unset, .unset] [(.int (1 : Int32))])) _
    refine XS.goto X0.here hx rfl (pc0 := 35) (pc' := 39) rfl (hb hby at_35) (by decide) (by decide) ?_
    show Steps p.tables e below (s₁.setTop (mkF m 39 #[.val (.int p0), .val (.int p1), .val (.int p2), .val (.int p3), .val (.int p4), .val (.int p5), .val (.int u1), .val (.int u2), .val (.int u3), .val (.int vn), .unset, .unset, .unset, .unset, .unset, .unset] [(.int (1 : Int32))])) _
    refine XS.istore X0.here hx rfl (hb hby at_39) rfl (l' := #[.val (.int p0), .val (.int p1), .val (.int p2), .val (.int p3), .val (.int p4), .val (.int p5), .val (.int u1), .val (.int u2), .val (.int u3), .val (.int vn), .val (.int (1 : Int32)), .unset, .unset, .unset, .unset, .unset]) rfl ?_
    show Steps p.tables e below (s₁.setTop (mkF m 41 #[.val (.int p0), .val (.int p1), .val (.int p2), .val (.int p3), .val (.int p4), .val (.int p5), .val (.int u1), .val (.int u2), .val (.int u3), .val (.int vn), .val (.int (1 : Int32)), .unset, .unset, .unset, .unset, .unset] [])) _
    refine fk1 _ ?_
    show Steps p.tables e below (s₁.setTop (mkF m 53 #[.val (.int p0), .val (.int p1), .val (.int p2), .val (.int p3), .val (.int p4), .val (.int p5), .val (.int u1), .val (.int u2), .val (.int u3), .val (.int vn), .val (.int (1 : Int32)), .unset, .unset, .unset, .unset, .unset] [(.int c3)])) _
    refine XS.istore X0.here hx rfl (hb hby at_53) rfl (l' := #[.val (.int p0), .val (.int p1), .val (.int p2), .val (.int p3), .val (.int p4), .val (.int p5), .val (.int u1), .val (.int u2), .val (.int u3), .val (.int vn), .val (.int (1 : Int32)), .val (.int c3), .unset, .unset, .unset, .unset]) rfl ?_
    show Steps p.tables e below (s₁.setTop (mkF m 55 #[.val (.int p0), .val (.int p1), .val (.int p2), .val (.int p3), .val (.int p4), .val (.int p5), .val (.int u1), .val (.int u2), .val (.int u3), .val (.int vn), .val (.int (1 : Int32)), .val (.int c3), .unset, .unset, .unset, .unset] [])) _
    refine XS.iload X0.here hx rfl (hb hby at_55) rfl ?_
    show Steps p.tables e below (s₁.setTop (mkF m 57 #[.val (.int p0), .val (.int p1), .val (.int p2), .val (.int p3), .val (.int p4), .val (.int p5), .val (.int u1), .val (.int u2), .val (.int u3), .val (.int vn), .val (.int (1 : Int32)), .val (.int c3), .unset, .unset, .unset, .unset] [(.int p5)])) _
    refine XS.iconst X0.here hx rfl (hb hby at_57) ?_
    show Steps p.tables e below (s₁.setTop (mkF m 58 #[.val (.int p0), .val (.int p1), .val (.int p2), .val (.int p3), .val (.int p4), .val (.int p5), .val (.int u1), .val (.int u2), .val (.int u3), .val (.int vn), .val (.int (1 : Int32)), .val (.int c3), .unset, .unset, .unset, .unset] [(.int (2 : Int32)), (.int p5)])) _
    refine XS.iushr X0.here hx rfl (hb hby at_58) rfl ?_
    show Steps p.tables e below (s₁.setTop (mkF m 59 #[.val (.int p0), .val (.int p1), .val (.int p2), .val (.int p3), .val (.int p4), .val (.int p5), .val (.int u1), .val (.int u2), .val (.int u3), .val (.int vn), .val (.int (1 : Int32)), .val (.int c3), .unset, .unset, .unset, .unset] [(.int ((p5.toUInt32 >>> ((2 : Int32) &&& 31).toUInt32).toInt32))])) _
    refine XS.iconst X0.here hx rfl (hb hby at_59) ?_
    show Steps p.tables e below (s₁.setTop (mkF m 60 #[.val (.int p0), .val (.int p1), .val (.int p2), .val (.int p3), .val (.int p4), .val (.int p5), .val (.int u1), .val (.int u2), .val (.int u3), .val (.int vn), .val (.int (1 : Int32)), .val (.int c3), .unset, .unset, .unset, .unset] [(.int (3 : Int32)), (.int ((p5.toUInt32 >>> ((2 : Int32) &&& 31).toUInt32).toInt32))])) _
    refine XS.iand X0.here hx rfl (hb hby at_60) rfl ?_
    show Steps p.tables e below (s₁.setTop (mkF m 61 #[.val (.int p0), .val (.int p1), .val (.int p2), .val (.int p3), .val (.int p4), .val (.int p5), .val (.int u1), .val (.int u2), .val (.int u3), .val (.int vn), .val (.int (1 : Int32)), .val (.int c3), .unset, .unset, .unset, .unset] [(.int (((p5.toUInt32 >>> ((2 : Int32) &&& 31).toUInt32).toInt32) &&& (3 : Int32)))])) _
    rw [hsl]
    show Steps p.tables e below (s₁.setTop (mkF m 61 #[.val (.int p0), .val (.int p1), .val (.int p2), .val (.int p3), .val (.int p4), .val (.int p5), .val (.int u1), .val (.int u2), .val (.int u3), .val (.int vn), .val (.int (1 : Int32)), .val (.int c3), .unset, .unset, .unset, .unset] [(.int sl)])) _
    refine XS.istore X0.here hx rfl (hb hby at_61) rfl (l' := #[.val (.int p0), .val (.int p1), .val (.int p2), .val (.int p3), .val (.int p4), .val (.int p5), .val (.int u1), .val (.int u2), .val (.int u3), .val (.int vn), .val (.int (1 : Int32)), .val (.int c3), .val (.int sl), .unset, .unset, .unset]) rfl ?_
    show Steps p.tables e below (s₁.setTop (mkF m 63 #[.val (.int p0), .val (.int p1), .val (.int p2), .val (.int p3), .val (.int p4), .val (.int p5), .val (.int u1), .val (.int u2), .val (.int u3), .val (.int vn), .val (.int (1 : Int32)), .val (.int c3), .val (.int sl), .unset, .unset, .unset] [])) _
    refine fk2 _ ?_
    show Steps p.tables e below (s₁.setTop (mkF m 104 #[.val (.int p0), .val (.int p1), .val (.int p2), .val (.int p3), .val (.int p4), .val (.int p5), .val (.int u1), .val (.int u2), .val (.int u3), .val (.int vn), .val (.int (1 : Int32)), .val (.int c3), .val (.int sl), .val (.int q), .unset, .unset] [])) _
    refine st3 _ ?_
    show Steps p.tables e below (T3.setTop (mkF m 107 #[.val (.int p0), .val (.int p1), .val (.int p2), .val (.int p3), .val (.int p4), .val (.int p5), .val (.int u1), .val (.int u2), .val (.int u3), .val (.int vn), .val (.int (1 : Int32)), .val (.int c3), .val (.int sl), .val (.int q), .unset, .unset] [(.ref b3)])) _
    refine XS.dup X3.here hx rfl (hb hby at_107) rfl rfl ?_
    show Steps p.tables e below (T3.setTop (mkF m 108 #[.val (.int p0), .val (.int p1), .val (.int p2), .val (.int p3), .val (.int p4), .val (.int p5), .val (.int u1), .val (.int u2), .val (.int u3), .val (.int vn), .val (.int (1 : Int32)), .val (.int c3), .val (.int sl), .val (.int q), .unset, .unset] [(.ref b3), (.ref b3)])) _
    refine XS.iconst X3.here hx rfl (hb hby at_108) ?_
    show Steps p.tables e below (T3.setTop (mkF m 109 #[.val (.int p0), .val (.int p1), .val (.int p2), .val (.int p3), .val (.int p4), .val (.int p5), .val (.int u1), .val (.int u2), .val (.int u3), .val (.int vn), .val (.int (1 : Int32)), .val (.int c3), .val (.int sl), .val (.int q), .unset, .unset] [(.int (0 : Int32)), (.ref b3), (.ref b3)])) _
    refine XS.bipush X3.here hx rfl (hb hby at_109) ?_
    show Steps p.tables e below (T3.setTop (mkF m 111 #[.val (.int p0), .val (.int p1), .val (.int p2), .val (.int p3), .val (.int p4), .val (.int p5), .val (.int u1), .val (.int u2), .val (.int u3), .val (.int vn), .val (.int (1 : Int32)), .val (.int c3), .val (.int sl), .val (.int q), .unset, .unset] [(.int (64 : Int32)), (.int (0 : Int32)), (.ref b3), (.ref b3)])) _
    refine XS.iconst X3.here hx rfl (hb hby at_111) ?_
    show Steps p.tables e below (T3.setTop (mkF m 112 #[.val (.int p0), .val (.int p1), .val (.int p2), .val (.int p3), .val (.int p4), .val (.int p5), .val (.int u1), .val (.int u2), .val (.int u3), .val (.int vn), .val (.int (1 : Int32)), .val (.int c3), .val (.int sl), .val (.int q), .unset, .unset] [(.int (0 : Int32)), (.int (64 : Int32)), (.int (0 : Int32)), (.ref b3), (.ref b3)])) _
    refine st4.trans ?_
    show Steps p.tables e below (T4.setTop (mkF m 115 #[.val (.int p0), .val (.int p1), .val (.int p2), .val (.int p3), .val (.int p4), .val (.int p5), .val (.int u1), .val (.int u2), .val (.int u3), .val (.int vn), .val (.int (1 : Int32)), .val (.int c3), .val (.int sl), .val (.int q), .unset, .unset] [(.ref b3)])) _
    refine XS.astore X4.here hx rfl (hb hby at_115) rfl rfl (l' := #[.val (.int p0), .val (.int p1), .val (.int p2), .val (.int p3), .val (.int p4), .val (.int p5), .val (.int u1), .val (.int u2), .val (.int u3), .val (.int vn), .val (.int (1 : Int32)), .val (.int c3), .val (.int sl), .val (.int q), .val (.ref b3), .unset]) rfl ?_
    show Steps p.tables e below (T4.setTop (mkF m 117 #[.val (.int p0), .val (.int p1), .val (.int p2), .val (.int p3), .val (.int p4), .val (.int p5), .val (.int u1), .val (.int u2), .val (.int u3), .val (.int vn), .val (.int (1 : Int32)), .val (.int c3), .val (.int sl), .val (.int q), .val (.ref b3), .unset] [])) _
    refine XS.iload X4.here hx rfl (hb hby at_117) rfl ?_
    show Steps p.tables e below (T4.setTop (mkF m 119 #[.val (.int p0), .val (.int p1), .val (.int p2), .val (.int p3), .val (.int p4), .val (.int p5), .val (.int u1), .val (.int u2), .val (.int u3), .val (.int vn), .val (.int (1 : Int32)), .val (.int c3), .val (.int sl), .val (.int q), .val (.ref b3), .unset] [(.int vn)])) _
    refine XS.iconst X4.here hx rfl (hb hby at_119) ?_
    show Steps p.tables e below (T4.setTop (mkF m 120 #[.val (.int p0), .val (.int p1), .val (.int p2), .val (.int p3), .val (.int p4), .val (.int p5), .val (.int u1), .val (.int u2), .val (.int u3), .val (.int vn), .val (.int (1 : Int32)), .val (.int c3), .val (.int sl), .val (.int q), .val (.ref b3), .unset] [(.int (1 : Int32)), (.int vn)])) _
    refine XS.icmpNo X4.here hx rfl (hb hby at_120) rfl (flt hn1).1 ?_
    show Steps p.tables e below (T4.setTop (mkF m 123 #[.val (.int p0), .val (.int p1), .val (.int p2), .val (.int p3), .val (.int p4), .val (.int p5), .val (.int u1), .val (.int u2), .val (.int u3), .val (.int vn), .val (.int (1 : Int32)), .val (.int c3), .val (.int sl), .val (.int q), .val (.ref b3), .unset] [])) _
    refine XS.aload X4.here hx rfl (hb hby at_123) rfl rfl ?_
    show Steps p.tables e below (T4.setTop (mkF m 125 #[.val (.int p0), .val (.int p1), .val (.int p2), .val (.int p3), .val (.int p4), .val (.int p5), .val (.int u1), .val (.int u2), .val (.int u3), .val (.int vn), .val (.int (1 : Int32)), .val (.int c3), .val (.int sl), .val (.int q), .val (.ref b3), .unset] [(.ref b3)])) _
    refine XS.iloadN X4.here hx rfl (hb hby at_125) rfl ?_
    show Steps p.tables e below (T4.setTop (mkF m 126 #[.val (.int p0), .val (.int p1), .val (.int p2), .val (.int p3), .val (.int p4), .val (.int p5), .val (.int u1), .val (.int u2), .val (.int u3), .val (.int vn), .val (.int (1 : Int32)), .val (.int c3), .val (.int sl), .val (.int q), .val (.ref b3), .unset] [(.int p0), (.ref b3)])) _
    refine XS.iload X4.here hx rfl (hb hby at_126) rfl ?_
    show Steps p.tables e below (T4.setTop (mkF m 128 #[.val (.int p0), .val (.int p1), .val (.int p2), .val (.int p3), .val (.int p4), .val (.int p5), .val (.int u1), .val (.int u2), .val (.int u3), .val (.int vn), .val (.int (1 : Int32)), .val (.int c3), .val (.int sl), .val (.int q), .val (.ref b3), .unset] [(.int u1), (.int p0), (.ref b3)])) _
    refine st5.trans ?_
    show Steps p.tables e below (T5.setTop (mkF m 131 #[.val (.int p0), .val (.int p1), .val (.int p2), .val (.int p3), .val (.int p4), .val (.int p5), .val (.int u1), .val (.int u2), .val (.int u3), .val (.int vn), .val (.int (1 : Int32)), .val (.int c3), .val (.int sl), .val (.int q), .val (.ref b3), .unset] [])) _
    refine XS.iload X5.here hx rfl (hb hby at_131) rfl ?_
    show Steps p.tables e below (T5.setTop (mkF m 133 #[.val (.int p0), .val (.int p1), .val (.int p2), .val (.int p3), .val (.int p4), .val (.int p5), .val (.int u1), .val (.int u2), .val (.int u3), .val (.int vn), .val (.int (1 : Int32)), .val (.int c3), .val (.int sl), .val (.int q), .val (.ref b3), .unset] [(.int vn)])) _
    refine XS.iconst X5.here hx rfl (hb hby at_133) ?_
    show Steps p.tables e below (T5.setTop (mkF m 134 #[.val (.int p0), .val (.int p1), .val (.int p2), .val (.int p3), .val (.int p4), .val (.int p5), .val (.int u1), .val (.int u2), .val (.int u3), .val (.int vn), .val (.int (1 : Int32)), .val (.int c3), .val (.int sl), .val (.int q), .val (.ref b3), .unset] [(.int (2 : Int32)), (.int vn)])) _
    refine XS.icmpNo X5.here hx rfl (hb hby at_134) rfl (flt hn2).1 ?_
    show Steps p.tables e below (T5.setTop (mkF m 137 #[.val (.int p0), .val (.int p1), .val (.int p2), .val (.int p3), .val (.int p4), .val (.int p5), .val (.int u1), .val (.int u2), .val (.int u3), .val (.int vn), .val (.int (1 : Int32)), .val (.int c3), .val (.int sl), .val (.int q), .val (.ref b3), .unset] [])) _
    refine XS.aload X5.here hx rfl (hb hby at_137) rfl rfl ?_
    show Steps p.tables e below (T5.setTop (mkF m 139 #[.val (.int p0), .val (.int p1), .val (.int p2), .val (.int p3), .val (.int p4), .val (.int p5), .val (.int u1), .val (.int u2), .val (.int u3), .val (.int vn), .val (.int (1 : Int32)), .val (.int c3), .val (.int sl), .val (.int q), .val (.ref b3), .unset] [(.ref b3)])) _
    refine XS.iloadN X5.here hx rfl (hb hby at_139) rfl ?_
    show Steps p.tables e below (T5.setTop (mkF m 140 #[.val (.int p0), .val (.int p1), .val (.int p2), .val (.int p3), .val (.int p4), .val (.int p5), .val (.int u1), .val (.int u2), .val (.int u3), .val (.int vn), .val (.int (1 : Int32)), .val (.int c3), .val (.int sl), .val (.int q), .val (.ref b3), .unset] [(.int p1), (.ref b3)])) _
    refine XS.iload X5.here hx rfl (hb hby at_140) rfl ?_
    show Steps p.tables e below (T5.setTop (mkF m 142 #[.val (.int p0), .val (.int p1), .val (.int p2), .val (.int p3), .val (.int p4), .val (.int p5), .val (.int u1), .val (.int u2), .val (.int u3), .val (.int vn), .val (.int (1 : Int32)), .val (.int c3), .val (.int sl), .val (.int q), .val (.ref b3), .unset] [(.int u2), (.int p1), (.ref b3)])) _
    refine st6.trans ?_
    show Steps p.tables e below (T6.setTop (mkF m 145 #[.val (.int p0), .val (.int p1), .val (.int p2), .val (.int p3), .val (.int p4), .val (.int p5), .val (.int u1), .val (.int u2), .val (.int u3), .val (.int vn), .val (.int (1 : Int32)), .val (.int c3), .val (.int sl), .val (.int q), .val (.ref b3), .unset] [])) _
    refine XS.iload X6.here hx rfl (hb hby at_145) rfl ?_
    show Steps p.tables e below (T6.setTop (mkF m 147 #[.val (.int p0), .val (.int p1), .val (.int p2), .val (.int p3), .val (.int p4), .val (.int p5), .val (.int u1), .val (.int u2), .val (.int u3), .val (.int vn), .val (.int (1 : Int32)), .val (.int c3), .val (.int sl), .val (.int q), .val (.ref b3), .unset] [(.int (1 : Int32))])) _
    refine XS.ifNo X6.here hx rfl (hb hby at_147) rfl ((if0 _ _).trans (feq (by decide : ¬ ((1 : Int32) = (0 : Int32)))).1) ?_
    show Steps p.tables e below (T6.setTop (mkF m 150 #[.val (.int p0), .val (.int p1), .val (.int p2), .val (.int p3), .val (.int p4), .val (.int p5), .val (.int u1), .val (.int u2), .val (.int u3), .val (.int vn), .val (.int (1 : Int32)), .val (.int c3), .val (.int sl), .val (.int q), .val (.ref b3), .unset] [])) _
    refine XS.aload X6.here hx rfl (hb hby at_150) rfl rfl ?_
    show Steps p.tables e below (T6.setTop (mkF m 152 #[.val (.int p0), .val (.int p1), .val (.int p2), .val (.int p3), .val (.int p4), .val (.int p5), .val (.int u1), .val (.int u2), .val (.int u3), .val (.int vn), .val (.int (1 : Int32)), .val (.int c3), .val (.int sl), .val (.int q), .val (.ref b3), .unset] [(.ref b3)])) _
    refine XS.iload X6.here hx rfl (hb hby at_152) rfl ?_
    show Steps p.tables e below (T6.setTop (mkF m 154 #[.val (.int p0), .val (.int p1), .val (.int p2), .val (.int p3), .val (.int p4), .val (.int p5), .val (.int u1), .val (.int u2), .val (.int u3), .val (.int vn), .val (.int (1 : Int32)), .val (.int c3), .val (.int sl), .val (.int q), .val (.ref b3), .unset] [(.int c3), (.ref b3)])) _
    refine XS.iload X6.here hx rfl (hb hby at_154) rfl ?_
    show Steps p.tables e below (T6.setTop (mkF m 156 #[.val (.int p0), .val (.int p1), .val (.int p2), .val (.int p3), .val (.int p4), .val (.int p5), .val (.int u1), .val (.int u2), .val (.int u3), .val (.int vn), .val (.int (1 : Int32)), .val (.int c3), .val (.int sl), .val (.int q), .val (.ref b3), .unset] [(.int u3), (.int c3), (.ref b3)])) _
    refine st7.trans ?_
    show Steps p.tables e below (T7.setTop (mkF m 159 #[.val (.int p0), .val (.int p1), .val (.int p2), .val (.int p3), .val (.int p4), .val (.int p5), .val (.int u1), .val (.int u2), .val (.int u3), .val (.int vn), .val (.int (1 : Int32)), .val (.int c3), .val (.int sl), .val (.int q), .val (.ref b3), .unset] [])) _
    refine XS.iconst X7.here hx rfl (hb hby at_159) ?_
    show Steps p.tables e below (T7.setTop (mkF m 160 #[.val (.int p0), .val (.int p1), .val (.int p2), .val (.int p3), .val (.int p4), .val (.int p5), .val (.int u1), .val (.int u2), .val (.int u3), .val (.int vn), .val (.int (1 : Int32)), .val (.int c3), .val (.int sl), .val (.int q), .val (.ref b3), .unset] [(.int (-1 : Int32))])) _
    refine XS.istore X7.here hx rfl (hb hby at_160) rfl (l' := #[.val (.int p0), .val (.int p1), .val (.int p2), .val (.int p3), .val (.int p4), .val (.int p5), .val (.int u1), .val (.int u2), .val (.int u3), .val (.int vn), .val (.int (1 : Int32)), .val (.int c3), .val (.int sl), .val (.int q), .val (.ref b3), .val (.int (-1 : Int32))]) rfl ?_
    show Steps p.tables e below (T7.setTop (mkF m 162 #[.val (.int p0), .val (.int p1), .val (.int p2), .val (.int p3), .val (.int p4), .val (.int p5), .val (.int u1), .val (.int u2), .val (.int u3), .val (.int vn), .val (.int (1 : Int32)), .val (.int c3), .val (.int sl), .val (.int q), .val (.ref b3), .val (.int (-1 : Int32))] [])) _
    refine fk8 _ ?_
    show Steps p.tables e below (T7.setTop (mkF m 178 #[.val (.int p0), .val (.int p1), .val (.int p2), .val (.int p3), .val (.int p4), .val (.int p5), .val (.int u1), .val (.int u2), .val (.int u3), .val (.int vn), .val (.int (1 : Int32)), .val (.int c3), .val (.int sl), .val (.int q), .val (.ref b3), .val (.int ex1)] [])) _
    refine fk9 _ ?_
    show Steps p.tables e below (T7.setTop (mkF m 194 #[.val (.int p0), .val (.int p1), .val (.int p2), .val (.int p3), .val (.int p4), .val (.int p5), .val (.int u1), .val (.int u2), .val (.int u3), .val (.int vn), .val (.int (1 : Int32)), .val (.int c3), .val (.int sl), .val (.int q), .val (.ref b3), .val (.int ex2)] [])) _
    refine fk10 _ ?_
    show Steps p.tables e below (T7.setTop (mkF m 210 #[.val (.int p0), .val (.int p1), .val (.int p2), .val (.int p3), .val (.int p4), .val (.int p5), .val (.int u1), .val (.int u2), .val (.int u3), .val (.int vn), .val (.int (1 : Int32)), .val (.int c3), .val (.int sl), .val (.int q), .val (.ref b3), .val (.int ex3)] [])) _
    refine XS.aload X7.here hx rfl (hb hby at_210) rfl rfl ?_
    show Steps p.tables e below (T7.setTop (mkF m 212 #[.val (.int p0), .val (.int p1), .val (.int p2), .val (.int p3), .val (.int p4), .val (.int p5), .val (.int u1), .val (.int u2), .val (.int u3), .val (.int vn), .val (.int (1 : Int32)), .val (.int c3), .val (.int sl), .val (.int q), .val (.ref b3), .val (.int ex3)] [(.ref b3)])) _
    refine XS.iload X7.here hx rfl (hb hby at_212) rfl ?_
    show Steps p.tables e below (T7.setTop (mkF m 214 #[.val (.int p0), .val (.int p1), .val (.int p2), .val (.int p3), .val (.int p4), .val (.int p5), .val (.int u1), .val (.int u2), .val (.int u3), .val (.int vn), .val (.int (1 : Int32)), .val (.int c3), .val (.int sl), .val (.int q), .val (.ref b3), .val (.int ex3)] [(.int q), (.ref b3)])) _
    refine st11.trans ?_
    show Steps p.tables e below (T11.setTop (mkF m 217 #[.val (.int p0), .val (.int p1), .val (.int p2), .val (.int p3), .val (.int p4), .val (.int p5), .val (.int u1), .val (.int u2), .val (.int u3), .val (.int vn), .val (.int (1 : Int32)), .val (.int c3), .val (.int sl), .val (.int q), .val (.ref b3), .val (.int ex3)] [(.int (own_get (own_put (own_put (own_put [] p0 u1) p1 u2) c3 u3) q))])) _
    refine XS.iload X11.here hx rfl (hb hby at_217) rfl ?_
    show Steps p.tables e below (T11.setTop (mkF m 219 #[.val (.int p0), .val (.int p1), .val (.int p2), .val (.int p3), .val (.int p4), .val (.int p5), .val (.int u1), .val (.int u2), .val (.int u3), .val (.int vn), .val (.int (1 : Int32)), .val (.int c3), .val (.int sl), .val (.int q), .val (.ref b3), .val (.int ex3)] [(.int ex3), (.int (own_get (own_put (own_put (own_put [] p0 u1) p1 u2) c3 u3) q))])) _
    refine XS.icmpNo X11.here hx rfl (hb hby at_219) rfl (teq hget).2 ?_
    show Steps p.tables e below (T11.setTop (mkF m 222 #[.val (.int p0), .val (.int p1), .val (.int p2), .val (.int p3), .val (.int p4), .val (.int p5), .val (.int u1), .val (.int u2), .val (.int u3), .val (.int vn), .val (.int (1 : Int32)), .val (.int c3), .val (.int sl), .val (.int q), .val (.ref b3), .val (.int ex3)] [])) _
    refine XS.iconst X11.here hx rfl (hb hby at_222) ?_
    show Steps p.tables e below (T11.setTop (mkF m 223 #[.val (.int p0), .val (.int p1), .val (.int p2), .val (.int p3), .val (.int p4), .val (.int p5), .val (.int u1), .val (.int u2), .val (.int u3), .val (.int vn), .val (.int (1 : Int32)), .val (.int c3), .val (.int sl), .val (.int q), .val (.ref b3), .val (.int ex3)] [(.int (1 : Int32))])) _
    refine XS.goto X11.here hx rfl (pc0 := 223) (pc' := 227) rfl (hb hby at_223) (by decide) (by decide) ?_
    show Steps p.tables e below (T11.setTop (mkF m 227 #[.val (.int p0), .val (.int p1), .val (.int p2), .val (.int p3), .val (.int p4), .val (.int p5), .val (.int u1), .val (.int u2), .val (.int u3), .val (.int vn), .val (.int (1 : Int32)), .val (.int c3), .val (.int sl), .val (.int q), .val (.ref b3), .val (.int ex3)] [(.int (1 : Int32))])) _
    exact retN X11 hx (t := .boolean) Bd.returns (by simp) (hb hby at_227) hr
  · show own_R n0 _ T11.heap _
    rw [e11]
    exact ⟨rfl, N11⟩
set_option maxRecDepth 65536 in
set_option maxHeartbeats 40000000 in
theorem comes_1 {Post : Tables → Env → Array Value → State → Outcome → State → Prop} (hpost : ∀ tb e args s v u, (limb_1_1.after args s (.returned v) u = true ∧ limb_1_2.after args s (.returned v) u = true ∧ True) → FrameEnd s (.returned v) u (Jvm.fieldLocs frame_1_writes args s ++ Jvm.arrayLocs frame_1_arrays args s ++ Jvm.staticLocs frame_1_statics s) 40 192 → Post tb e args s (.returned v) u) :
    ArmFor flags0 classFile x code maxLocals ret World_1 tables_1 room_1 Calls_1 rest_1 Pre_1 Post := by
  intro l hfl _ _ p e ha hc hk s m args below hf hA hF happ hP
  obtain ⟨hcalls, hrest, hpre⟩ := hP
  obtain ⟨-, -, -, hnamed, -, -, -, hat⟩ := (Spec.applies_iff hf).mp happ
  obtain ⟨hg, hn⟩ := and_e (Cond.before_iff.mp (show (Jvm.Cond.and given_1 narrow_1).before args s = true from hpre))
  obtain ⟨gc, gr0⟩ := and_e hg
  obtain ⟨ga0, gr1⟩ := and_e gr0
  obtain ⟨ga1, gr2⟩ := and_e gr1
  obtain ⟨ga2, gr3⟩ := and_e gr2
  obtain ⟨ga3, gr4⟩ := and_e gr3
  obtain ⟨ga4, gr5⟩ := and_e gr4
  obtain ⟨w0, w1, w2, w3, w4, w5, rfl⟩ : ∃ w0 w1 w2 w3 w4 w5 : Value, args = #[w0, w1, w2, w3, w4, w5] := by
    have hs : args.size = 6 := by simpa [Cond.value, given_1] using gc
    obtain ⟨L⟩ := args
    match L, hs with
    | [w0, w1, w2, w3, w4, w5], _ => exact ⟨w0, w1, w2, w3, w4, w5, rfl⟩
  have hw := fun d (hd : d ∈ tables_1) => atoms_spec (ws := Jvm.Cond.code x code maxLocals ret :: tables_1) hat d (List.mem_cons_of_mem _ hd)
  have hfit : Fit s := fun {y c} hc i hi => by
    obtain ⟨ha, rfl⟩ := Array.getElem?_eq_some_iff.mp hc
    have q := List.all_eq_true.mp ((Array.all_eq_true_iff_forall_mem.mp hF) _ (Array.getElem_mem ha)) i (List.mem_range.mpr hi)
    simpa [Array.getElem?_eq_getElem hi] using q
  obtain ⟨i0, ei0⟩ := is_v ga0
  obtain rfl : w0 = (.int i0) := Option.some.inj ei0
  obtain ⟨i1, ei1⟩ := is_v ga1
  obtain rfl : w1 = (.int i1) := Option.some.inj ei1
  obtain ⟨i2, ei2⟩ := is_v ga2
  obtain rfl : w2 = (.int i2) := Option.some.inj ei2
  obtain ⟨i3, ei3⟩ := is_v ga3
  obtain rfl : w3 = (.int i3) := Option.some.inj ei3
  obtain ⟨i4, ei4⟩ := is_v ga4
  obtain rfl : w4 = (.int i4) := Option.some.inj ei4
  obtain ⟨i5, ei5⟩ := is_v gr5
  obtain rfl : w5 = (.int i5) := Option.some.inj ei5
  obtain ⟨w_EMPTY, ev_EMPTY⟩ := exa_v hn
  have S_EMPTY := Sta.start ev_EMPTY (Or.inr ⟨(hw _ (List.mem_of_getElem? (i := 8) rfl)), (hw _ (List.mem_of_getElem? (i := 9) rfl))⟩)
  have E_EMPTY := Exa.start ev_EMPTY hn
  have key : MetFree l x (head1 (Jvm.Cond.code x code maxLocals ret :: tables_1) room_1) (fun a U => a = #[(.int i0), (.int i1), (.int i2), (.int i3), (.int i4), (.int i5)] ∧ s.Warmed39 U.vm ∧ U.heap = s.heap) (fun _ _ _ _ _ => True) (fun _ U o U' => ∃ v L, o = .returned v ∧ own_R s.heap.size v U'.heap L ∧ FrameEnd U o U' L room_1.cells room_1.slots) := by
    obtain ⟨u1, hu1⟩ : ∃ u : Int32, (i2 &&& (2147483647 : Int32)) = u := ⟨_, rfl⟩
    obtain ⟨u2, hu2⟩ : ∃ u : Int32, (i3 &&& (2147483647 : Int32)) = u := ⟨_, rfl⟩
    obtain ⟨u3, hu3⟩ : ∃ u : Int32, (i4 &&& (2147483647 : Int32)) = u := ⟨_, rfl⟩
    obtain ⟨vn, hvn⟩ : ∃ u : Int32, (((i5.toUInt32 >>> ((4 : Int32) &&& 31).toUInt32).toInt32) &&& (3 : Int32)) = u := ⟨_, rfl⟩
    obtain ⟨sl, hsl⟩ : ∃ u : Int32, (((i5.toUInt32 >>> ((2 : Int32) &&& 31).toUInt32).toInt32) &&& (3 : Int32)) = u := ⟨_, rfl⟩
    obtain ⟨c3, hc3⟩ : ∃ c3 : Int32, ((i5 &&& (2 : Int32)) = (0 : Int32) ∧ c3 = i1) ∨ (¬ ((i5 &&& (2 : Int32)) = (0 : Int32)) ∧ c3 = i0) := by
      by_cases z : (i5 &&& (2 : Int32)) = (0 : Int32)
      · exact ⟨_, Or.inl ⟨z, rfl⟩⟩
      · exact ⟨_, Or.inr ⟨z, rfl⟩⟩
    obtain ⟨q, hq⟩ : ∃ q : Int32, (sl = (0 : Int32) ∧ q = i0) ∨ (¬ (sl = (0 : Int32)) ∧ sl = (1 : Int32) ∧ q = i1) ∨ (¬ (sl = (0 : Int32)) ∧ ¬ (sl = (1 : Int32)) ∧ sl = (2 : Int32) ∧ q = (i0 + (1 : Int32))) ∨ (¬ (sl = (0 : Int32)) ∧ ¬ (sl = (1 : Int32)) ∧ ¬ (sl = (2 : Int32)) ∧ q = i5) := by
      by_cases z0 : sl = (0 : Int32)
      · exact ⟨_, Or.inl ⟨z0, rfl⟩⟩
      · by_cases z1 : sl = (1 : Int32)
        · exact ⟨_, Or.inr (Or.inl ⟨z0, z1, rfl⟩)⟩
        · by_cases z2 : sl = (2 : Int32)
          · exact ⟨_, Or.inr (Or.inr (Or.inl ⟨z0, z1, z2, rfl⟩))⟩
          · exact ⟨_, Or.inr (Or.inr (Or.inr ⟨z0, z1, z2, rfl⟩))⟩
    have ex : ∀ (a b v u : Int32), ∃ e : Int32, (a = b ∧ e = v) ∨ (¬ (a = b) ∧ e = u) := by
      intro a b v u
      by_cases z : a = b
      · exact ⟨_, Or.inl ⟨z, rfl⟩⟩
      · exact ⟨_, Or.inr ⟨z, rfl⟩⟩
    by_cases hn1 : vn < (1 : Int32)
    · have hn2 : vn < (2 : Int32) := by
        have ex1 : (1 : Int32).toInt = 1 := by decide
        have ex2 : (2 : Int32).toInt = 2 := by decide
        have hn1' := hn1
        rw [Int32.lt_iff_toInt_lt, ex1] at hn1'
        rw [Int32.lt_iff_toInt_lt, ex2]
        omega
      by_cases hn3 : (i5 &&& (1 : Int32)) = (0 : Int32)
      · obtain ⟨ex1, hx1⟩ : ∃ ex1 : Int32, ex1 = (-1 : Int32) := ⟨_, rfl⟩
        obtain ⟨ex2, hx2⟩ : ∃ ex2 : Int32, ex2 = ex1 := ⟨_, rfl⟩
        obtain ⟨ex3, hx3⟩ : ∃ ex3 : Int32, ex3 = ex2 := ⟨_, rfl⟩
        exact rm0A l s _ hw tables_1 i0 i1 i2 i3 i4 i5 w_EMPTY u1 u2 u3 vn sl c3 q ex1 ex2 ex3 s.heap s.heap.size (Old.start s) S_EMPTY hu1 hu2 hu3 hvn hsl hn1 hn2 hn3 hc3 hq hx1 hx2 hx3
      · obtain ⟨ex1, hx1⟩ : ∃ ex1 : Int32, ex1 = (-1 : Int32) := ⟨_, rfl⟩
        obtain ⟨ex2, hx2⟩ : ∃ ex2 : Int32, ex2 = ex1 := ⟨_, rfl⟩
        obtain ⟨ex3, hx3⟩ := ex q c3 u3 ex2
        exact rm0B l s _ hw tables_1 i0 i1 i2 i3 i4 i5 w_EMPTY u1 u2 u3 vn sl c3 q ex1 ex2 ex3 s.heap s.heap.size (Old.start s) S_EMPTY hu1 hu2 hu3 hvn hsl hn1 hn2 hn3 hc3 hq hx1 hx2 hx3
    · by_cases hn2 : vn < (2 : Int32)
      · by_cases hn3 : (i5 &&& (1 : Int32)) = (0 : Int32)
        · obtain ⟨ex1, hx1⟩ := ex q i0 u1 (-1 : Int32)
          obtain ⟨ex2, hx2⟩ : ∃ ex2 : Int32, ex2 = ex1 := ⟨_, rfl⟩
          obtain ⟨ex3, hx3⟩ : ∃ ex3 : Int32, ex3 = ex2 := ⟨_, rfl⟩
          exact rm0C l s _ hw tables_1 i0 i1 i2 i3 i4 i5 w_EMPTY u1 u2 u3 vn sl c3 q ex1 ex2 ex3 s.heap s.heap.size (Old.start s) S_EMPTY hu1 hu2 hu3 hvn hsl hn1 hn2 hn3 hc3 hq hx1 hx2 hx3
        · obtain ⟨ex1, hx1⟩ := ex q i0 u1 (-1 : Int32)
          obtain ⟨ex2, hx2⟩ : ∃ ex2 : Int32, ex2 = ex1 := ⟨_, rfl⟩
          obtain ⟨ex3, hx3⟩ := ex q c3 u3 ex2
          exact rm0D l s _ hw tables_1 i0 i1 i2 i3 i4 i5 w_EMPTY u1 u2 u3 vn sl c3 q ex1 ex2 ex3 s.heap s.heap.size (Old.start s) S_EMPTY hu1 hu2 hu3 hvn hsl hn1 hn2 hn3 hc3 hq hx1 hx2 hx3
      · by_cases hn3 : (i5 &&& (1 : Int32)) = (0 : Int32)
        · obtain ⟨ex1, hx1⟩ := ex q i0 u1 (-1 : Int32)
          obtain ⟨ex2, hx2⟩ := ex q i1 u2 ex1
          obtain ⟨ex3, hx3⟩ : ∃ ex3 : Int32, ex3 = ex2 := ⟨_, rfl⟩
          exact rm0E l s _ hw tables_1 i0 i1 i2 i3 i4 i5 w_EMPTY u1 u2 u3 vn sl c3 q ex1 ex2 ex3 s.heap s.heap.size (Old.start s) S_EMPTY hu1 hu2 hu3 hvn hsl hn1 hn2 hn3 hc3 hq hx1 hx2 hx3
        · obtain ⟨ex1, hx1⟩ := ex q i0 u1 (-1 : Int32)
          obtain ⟨ex2, hx2⟩ := ex q i1 u2 ex1
          obtain ⟨ex3, hx3⟩ := ex q c3 u3 ex2
          exact rm0F l s _ hw tables_1 i0 i1 i2 i3 i4 i5 w_EMPTY u1 u2 u3 vn sl c3 q ex1 ex2 ex3 s.heap s.heap.size (Old.start s) S_EMPTY hu1 hu2 hu3 hvn hsl hn1 hn2 hn3 hc3 hq hx1 hx2 hx3
  obtain ⟨n, o, h1, h2, h3, _, L, rfl, ⟨rfl, N⟩, hq⟩ := key p e ha hc hk s m _ below hf ((Spec.applies_iff_loose hf).mp happ).1 ⟨rfl, State.Warmed39.refl s, rfl⟩ trivial
  refine ⟨n, _, h1, h2, h3, hpost _ _ _ _ _ _ ⟨Cond.after_iff.mpr rfl, Cond.after_iff.mpr (eq_i res_at (Term.int_eval (1)) rfl), trivial⟩ ⟨hq.1, hq.2.1, (hq.2.2.sift fun y hy => Or.inr (N y hy)).mono (by decide) (by decide)⟩⟩
theorem main_1_1 : Claimed_1_1 := comes_1 fun _ _ _ _ _ _ h hF => ⟨h.1, hF⟩
theorem main_1_2 : Claimed_1_2 := comes_1 fun _ _ _ _ _ _ h hF => ⟨h.2.1, hF⟩
end Jvm.Pilot.@@N@@
namespace Jvm.Pilot.@@N@@
open Jvm Jvm.ClassFile Sem Op Lib Jvm.Free Jvm.Stand Jvm.Pilot.@@N@@.Jvm.D
/-! MADE BY PROGRAM (witnessworld.py) out of the Statement's table words and the real class files: 19 classes; the members and pool entries that the words name. The judged class is class 1, her method 1. -/
namespace start1
open Jvm.ClassFile
def u (s : String) : CpInfo := .utf8 (stringToUtf16 s)
/-- a pool by its gaps: so many unusable entries, then the entry; so many at the end -/
def gap : Nat → List CpInfo → List CpInfo
  | 0, r => r
  | n + 1, r => .unusable :: gap n r
def poolList (es : List (Nat × CpInfo)) (last : Nat) : List CpInfo := es.foldr (fun e r => gap e.1 (e.2 :: r)) (gap last [])
def pool (es : List (Nat × CpInfo)) (last : Nat) : Array CpInfo := ⟨poolList es last⟩
def fileOf (pool : Array CpInfo) (this : Nat) (attrs : Array Attribute := #[]) (ms : Array MethodInfo := #[]) (fl : Nat := 33) (sup : Nat := 0) (ifs : Array Nat := #[]) (fds : Array FieldInfo := #[]) : ClassFile where
  minorVersion := 0
  majorVersion := 65
  constantPool := pool
  accessFlags := fl
  thisClass := this
  superClass := sup
  interfaces := ifs
  fields := fds
  methods := ms
  attributes := attrs
def plain (name : String) (sup : Option ClassId) : Class where
  name := name
  kind := .ordinary
  loader := none
  accessFlags := 33
  super := sup
  interfaces := #[]
  cf := none
  fields := #[]
  methods := #[]
  instanceTypes := #[]
  staticTypes := #[]
  resolved := #[]
  callSites := []
  init := .initialized
  statics := none
  mirror := none

def pool0 : Array CpInfo := pool [(5, u "<init>"), (0, u "()V"), (1, .class_ 10), (1, u "java/lang/Object")] 113

def k0c0 : Code := { maxStack := 0, maxLocals := 1, code := object_method_1_code, exceptionTable := #[], attributes := #[] }
def k0m0 : Method := { name := "<init>", desc := "()V", sig := { parameters := [], returnType := none }, accessFlags := 1, code := some k0c0 }
/-- java/lang/Object -/
def k0 : Class := { plain "java/lang/Object" none with
  accessFlags := 33
  interfaces := #[]
  cf := some (fileOf pool0 8 #[] #[{ accessFlags := 1, nameIndex := 5, descriptorIndex := 6, attributes := #[] }] 33 0 #[] #[])
  fields := #[]
  methods := #[k0m0]
  instanceTypes := #[]
  staticTypes := #[]
  resolved := Array.replicate 124 none
  statics := none }

def pool1 : Array CpInfo := pool [(2, .class_ 4), (1, u "java/lang/Object"), (0, u "<init>"), (0, u "()V"), (0, .integer 2147483647), (0, .class_ 9), (0, u "com/example/kvasir/kvasir/tableau/Node"), (0, .methodref 8 11), (0, .nameAndType 5 12), (0, u "(IIZ)V"), (0, .methodref 8 14), (0, .nameAndType 15 16), (0, u "placeOnAgenda"), (0, u "(II)V"), (0, .methodref 8 18), (0, .nameAndType 19 20), (0, u "agendaPlace"), (0, u "(I)I"), (0, .class_ 22), (0, u "com/example/kvasir/kvasir/tableau/NodeAgendaPlacePinLaw"), (2, u "law"), (0, u "(IIIIII)Z")] 3

def k1m0 : Method := { name := "<init>", desc := "()V", sig := { parameters := [], returnType := none }, accessFlags := 1, code := none }
def k1c1 : Code := { maxStack := 5, maxLocals := 16, code := code, exceptionTable := #[], attributes := #[] }
def k1m1 : Method := { name := "law", desc := "(IIIIII)Z", sig := { parameters := [.int, .int, .int, .int, .int, .int], returnType := some .boolean }, accessFlags := 9, code := some k1c1 }
/-- com/example/kvasir/kvasir/tableau/NodeAgendaPlacePinLaw -/
def k1 : Class := { plain "com/example/kvasir/kvasir/tableau/NodeAgendaPlacePinLaw" (some 0) with
  accessFlags := 49
  interfaces := #[]
  cf := some (fileOf pool1 21 #[] #[{ accessFlags := 1, nameIndex := 5, descriptorIndex := 6, attributes := #[] }, { accessFlags := 9, nameIndex := 25, descriptorIndex := 26, attributes := #[] }] 49 2 #[] #[])
  fields := #[]
  methods := #[k1m0, k1m1]
  instanceTypes := #[]
  staticTypes := #[]
  resolved := Array.replicate 30 none
  statics := none }

def pool2 : Array CpInfo := pool [(1, .fieldref 2 3), (0, .class_ 4), (0, .nameAndType 5 6), (0, u "com/example/kvasir/kvasir/tableau/DependencySet"), (0, u "EMPTY"), (0, u "Lcom/example/kvasir/kvasir/tableau/DependencySet;"), (0, .methodref 8 9), (0, .class_ 10), (0, .nameAndType 11 12), (0, u "com/example/kvasir/kvasir/tableau/Node"), (0, u "<init>"), (0, u "(Lcom/example/kvasir/kvasir/tableau/Node;IIZJILcom/example/kvasir/kvasir/tableau/DependencySet;)V"), (0, .methodref 14 15), (0, .class_ 16), (0, .nameAndType 11 17), (0, u "java/lang/Object"), (0, u "()V"), (0, .fieldref 8 19), (0, .nameAndType 20 21), (0, u "concepts"), (0, u "[I"), (0, .fieldref 8 23), (0, .nameAndType 24 25), (0, u "reasons"), (0, u "[Lcom/example/kvasir/kvasir/tableau/DependencySet;"), (0, .fieldref 8 27), (0, .nameAndType 28 21), (0, u "edgeRoles"), (0, .fieldref 8 30), (0, .nameAndType 31 32), (0, u "edgeTargets"), (0, u "[Lcom/example/kvasir/kvasir/tableau/Node;"), (0, .fieldref 8 34), (0, .nameAndType 35 25), (0, u "edgeReasons"), (0, .fieldref 8 37), (0, .nameAndType 38 32), (0, u "apart"), (0, .fieldref 8 40), (0, .nameAndType 41 25), (0, u "apartReasons"), (0, .class_ 43), (0, u "com/example/kvasir/kvasir/tableau/ApartGroup"), (0, .fieldref 8 45), (0, .nameAndType 46 47), (0, u "groups"), (0, u "[Lcom/example/kvasir/kvasir/tableau/ApartGroup;"), (0, .fieldref 8 49), (0, .nameAndType 50 25), (0, u "groupReasons"), (0, .fieldref 8 52), (0, .nameAndType 53 21), (0, u "agendaPlaces"), (0, .fieldref 8 55), (0, .nameAndType 56 57), (0, u "parent"), (0, u "Lcom/example/kvasir/kvasir/tableau/Node;"), (0, .fieldref 8 59), (0, .nameAndType 60 61), (0, u "number"), (0, u "I"), (0, .fieldref 8 63), (0, .nameAndType 64 65), (0, u "value"), (0, u "Z"), (0, .fieldref 8 67), (0, .nameAndType 68 69), (0, u "copies"), (0, u "J"), (0, .fieldref 8 71), (0, .nameAndType 72 61), (0, u "madeFor"), (0, .fieldref 8 74), (0, .nameAndType 75 6), (0, u "madeBecause"), (0, .fieldref 8 77), (0, .nameAndType 78 79), (0, u "members"), (0, u "[J"), (2, u "split"), (5, u "size"), (0, .methodref 90 91), (0, .class_ 92), (0, .nameAndType 93 94), (0, u "java/util/Arrays"), (0, u "copyOf"), (0, u "([II)[I"), (6, u "labelHash"), (18, u "edgeCount"), (7, u "parentRolesHash"), (2, u "apartCount"), (2, u "groupCount"), (26, u "pruned"), (2, u "mergedInto"), (2, u "mergeReason"), (2, u "filed"), (2, u "filedUnder"), (0, u "(IIZ)V"), (20, u "(I)I"), (33, u "agendaPlace"), (0, u "placeOnAgenda"), (0, u "(II)V")] 8

def k2c0 : Code := { maxStack := 9, maxLocals := 4, code := prog_32_method_1_code, exceptionTable := #[], attributes := #[] }
def k2m0 : Method := { name := "<init>", desc := "(IIZ)V", sig := { parameters := [.int, .int, .boolean], returnType := none }, accessFlags := 0, code := some k2c0 }
def k2c1 : Code := { maxStack := 3, maxLocals := 9, code := prog_32_method_3_code, exceptionTable := #[], attributes := #[] }
def k2m1 : Method := { name := "<init>", desc := "(Lcom/example/kvasir/kvasir/tableau/Node;IIZJILcom/example/kvasir/kvasir/tableau/DependencySet;)V", sig := { parameters := [(.object "com/example/kvasir/kvasir/tableau/Node"), .int, .int, .boolean, .long, .int, (.object "com/example/kvasir/kvasir/tableau/DependencySet")], returnType := none }, accessFlags := 2, code := some k2c1 }
def k2c2 : Code := { maxStack := 3, maxLocals := 4, code := prog_32_method_53_code, exceptionTable := #[], attributes := #[] }
def k2m2 : Method := { name := "agendaPlace", desc := "(I)I", sig := { parameters := [.int], returnType := some .int }, accessFlags := 0, code := some k2c2 }
def k2c3 : Code := { maxStack := 4, maxLocals := 4, code := prog_32_method_54_code, exceptionTable := #[], attributes := #[] }
def k2m3 : Method := { name := "placeOnAgenda", desc := "(II)V", sig := { parameters := [.int, .int], returnType := none }, accessFlags := 0, code := some k2c3 }
/-- com/example/kvasir/kvasir/tableau/Node -/
def k2 : Class := { plain "com/example/kvasir/kvasir/tableau/Node" (some 0) with
  accessFlags := 32
  interfaces := #[]
  cf := some (fileOf pool2 8 #[] #[{ accessFlags := 0, nameIndex := 11, descriptorIndex := 174, attributes := #[] }, { accessFlags := 2, nameIndex := 11, descriptorIndex := 12, attributes := #[] }, { accessFlags := 0, nameIndex := 229, descriptorIndex := 195, attributes := #[] }, { accessFlags := 0, nameIndex := 230, descriptorIndex := 231, attributes := #[] }] 32 14 #[] #[{ accessFlags := 18, nameIndex := 56, descriptorIndex := 57, attributes := #[] }, { accessFlags := 18, nameIndex := 60, descriptorIndex := 61, attributes := #[] }, { accessFlags := 18, nameIndex := 64, descriptorIndex := 65, attributes := #[] }, { accessFlags := 18, nameIndex := 68, descriptorIndex := 69, attributes := #[] }, { accessFlags := 18, nameIndex := 72, descriptorIndex := 61, attributes := #[] }, { accessFlags := 18, nameIndex := 75, descriptorIndex := 6, attributes := #[] }, { accessFlags := 2, nameIndex := 82, descriptorIndex := 65, attributes := #[] }, { accessFlags := 18, nameIndex := 78, descriptorIndex := 79, attributes := #[] }, { accessFlags := 2, nameIndex := 101, descriptorIndex := 69, attributes := #[] }, { accessFlags := 2, nameIndex := 20, descriptorIndex := 21, attributes := #[] }, { accessFlags := 2, nameIndex := 24, descriptorIndex := 25, attributes := #[] }, { accessFlags := 2, nameIndex := 88, descriptorIndex := 61, attributes := #[] }, { accessFlags := 2, nameIndex := 128, descriptorIndex := 69, attributes := #[] }, { accessFlags := 2, nameIndex := 28, descriptorIndex := 21, attributes := #[] }, { accessFlags := 2, nameIndex := 31, descriptorIndex := 32, attributes := #[] }, { accessFlags := 2, nameIndex := 35, descriptorIndex := 25, attributes := #[] }, { accessFlags := 2, nameIndex := 120, descriptorIndex := 61, attributes := #[] }, { accessFlags := 2, nameIndex := 38, descriptorIndex := 32, attributes := #[] }, { accessFlags := 2, nameIndex := 41, descriptorIndex := 25, attributes := #[] }, { accessFlags := 2, nameIndex := 131, descriptorIndex := 61, attributes := #[] }, { accessFlags := 2, nameIndex := 46, descriptorIndex := 47, attributes := #[] }, { accessFlags := 2, nameIndex := 50, descriptorIndex := 25, attributes := #[] }, { accessFlags := 2, nameIndex := 134, descriptorIndex := 61, attributes := #[] }, { accessFlags := 2, nameIndex := 161, descriptorIndex := 65, attributes := #[] }, { accessFlags := 2, nameIndex := 164, descriptorIndex := 57, attributes := #[] }, { accessFlags := 2, nameIndex := 167, descriptorIndex := 6, attributes := #[] }, { accessFlags := 2, nameIndex := 173, descriptorIndex := 69, attributes := #[] }, { accessFlags := 2, nameIndex := 170, descriptorIndex := 65, attributes := #[] }, { accessFlags := 2, nameIndex := 53, descriptorIndex := 21, attributes := #[] }])
  fields := #[{ name := "parent", type := (.object "com/example/kvasir/kvasir/tableau/Node"), accessFlags := 18, slot := 0, constantValue := 0 }, { name := "number", type := .int, accessFlags := 18, slot := 1, constantValue := 0 }, { name := "value", type := .boolean, accessFlags := 18, slot := 2, constantValue := 0 }, { name := "copies", type := .long, accessFlags := 18, slot := 3, constantValue := 0 }, { name := "madeFor", type := .int, accessFlags := 18, slot := 4, constantValue := 0 }, { name := "madeBecause", type := (.object "com/example/kvasir/kvasir/tableau/DependencySet"), accessFlags := 18, slot := 5, constantValue := 0 }, { name := "split", type := .boolean, accessFlags := 2, slot := 6, constantValue := 0 }, { name := "members", type := (.array .long), accessFlags := 18, slot := 7, constantValue := 0 }, { name := "labelHash", type := .long, accessFlags := 2, slot := 8, constantValue := 0 }, { name := "concepts", type := (.array .int), accessFlags := 2, slot := 9, constantValue := 0 }, { name := "reasons", type := (.array (.object "com/example/kvasir/kvasir/tableau/DependencySet")), accessFlags := 2, slot := 10, constantValue := 0 }, { name := "size", type := .int, accessFlags := 2, slot := 11, constantValue := 0 }, { name := "parentRolesHash", type := .long, accessFlags := 2, slot := 12, constantValue := 0 }, { name := "edgeRoles", type := (.array .int), accessFlags := 2, slot := 13, constantValue := 0 }, { name := "edgeTargets", type := (.array (.object "com/example/kvasir/kvasir/tableau/Node")), accessFlags := 2, slot := 14, constantValue := 0 }, { name := "edgeReasons", type := (.array (.object "com/example/kvasir/kvasir/tableau/DependencySet")), accessFlags := 2, slot := 15, constantValue := 0 }, { name := "edgeCount", type := .int, accessFlags := 2, slot := 16, constantValue := 0 }, { name := "apart", type := (.array (.object "com/example/kvasir/kvasir/tableau/Node")), accessFlags := 2, slot := 17, constantValue := 0 }, { name := "apartReasons", type := (.array (.object "com/example/kvasir/kvasir/tableau/DependencySet")), accessFlags := 2, slot := 18, constantValue := 0 }, { name := "apartCount", type := .int, accessFlags := 2, slot := 19, constantValue := 0 }, { name := "groups", type := (.array (.object "com/example/kvasir/kvasir/tableau/ApartGroup")), accessFlags := 2, slot := 20, constantValue := 0 }, { name := "groupReasons", type := (.array (.object "com/example/kvasir/kvasir/tableau/DependencySet")), accessFlags := 2, slot := 21, constantValue := 0 }, { name := "groupCount", type := .int, accessFlags := 2, slot := 22, constantValue := 0 }, { name := "pruned", type := .boolean, accessFlags := 2, slot := 23, constantValue := 0 }, { name := "mergedInto", type := (.object "com/example/kvasir/kvasir/tableau/Node"), accessFlags := 2, slot := 24, constantValue := 0 }, { name := "mergeReason", type := (.object "com/example/kvasir/kvasir/tableau/DependencySet"), accessFlags := 2, slot := 25, constantValue := 0 }, { name := "filedUnder", type := .long, accessFlags := 2, slot := 26, constantValue := 0 }, { name := "filed", type := .boolean, accessFlags := 2, slot := 27, constantValue := 0 }, { name := "agendaPlaces", type := (.array .int), accessFlags := 2, slot := 28, constantValue := 0 }]
  methods := #[k2m0, k2m1, k2m2, k2m3]
  instanceTypes := #[(.object "com/example/kvasir/kvasir/tableau/Node"), .int, .boolean, .long, .int, (.object "com/example/kvasir/kvasir/tableau/DependencySet"), .boolean, (.array .long), .long, (.array .int), (.array (.object "com/example/kvasir/kvasir/tableau/DependencySet")), .int, .long, (.array .int), (.array (.object "com/example/kvasir/kvasir/tableau/Node")), (.array (.object "com/example/kvasir/kvasir/tableau/DependencySet")), .int, (.array (.object "com/example/kvasir/kvasir/tableau/Node")), (.array (.object "com/example/kvasir/kvasir/tableau/DependencySet")), .int, (.array (.object "com/example/kvasir/kvasir/tableau/ApartGroup")), (.array (.object "com/example/kvasir/kvasir/tableau/DependencySet")), .int, .boolean, (.object "com/example/kvasir/kvasir/tableau/Node"), (.object "com/example/kvasir/kvasir/tableau/DependencySet"), .long, .boolean, (.array .int)]
  staticTypes := #[]
  resolved := Array.replicate 240 none
  statics := none }

def pool3 : Array CpInfo := pool [(2, .class_ 4), (1, u "java/lang/Object"), (3, .class_ 10), (1, u "com/example/kvasir/kvasir/tableau/DependencySet"), (0, u "levels"), (0, u "[I"), (21, u "EMPTY"), (0, u "Lcom/example/kvasir/kvasir/tableau/DependencySet;")] 16

/-- com/example/kvasir/kvasir/tableau/DependencySet -/
def k3 : Class := { plain "com/example/kvasir/kvasir/tableau/DependencySet" (some 0) with
  accessFlags := 32
  interfaces := #[]
  cf := some (fileOf pool3 8 #[] #[] 32 2 #[] #[{ accessFlags := 24, nameIndex := 34, descriptorIndex := 35, attributes := #[] }, { accessFlags := 18, nameIndex := 11, descriptorIndex := 12, attributes := #[] }])
  fields := #[{ name := "EMPTY", type := (.object "com/example/kvasir/kvasir/tableau/DependencySet"), accessFlags := 24, slot := 0, constantValue := 0 }, { name := "levels", type := (.array .int), accessFlags := 18, slot := 0, constantValue := 0 }]
  methods := #[]
  instanceTypes := #[(.array .int)]
  staticTypes := #[(.object "com/example/kvasir/kvasir/tableau/DependencySet")]
  resolved := Array.replicate 52 none
  statics := some 0 }

def pool4 : Array CpInfo := pool [(2, .class_ 4), (1, u "java/lang/Object"), (0, u "<init>"), (0, u "()V"), (1, .class_ 10), (1, u "com/example/kvasir/kvasir/tableau/ApartGroup"), (0, u "size"), (0, u "I")] 7

def k4m0 : Method := { name := "<init>", desc := "()V", sig := { parameters := [], returnType := none }, accessFlags := 0, code := none }
/-- com/example/kvasir/kvasir/tableau/ApartGroup -/
def k4 : Class := { plain "com/example/kvasir/kvasir/tableau/ApartGroup" (some 0) with
  accessFlags := 32
  interfaces := #[]
  cf := some (fileOf pool4 8 #[] #[{ accessFlags := 0, nameIndex := 5, descriptorIndex := 6, attributes := #[] }] 32 2 #[] #[{ accessFlags := 2, nameIndex := 11, descriptorIndex := 12, attributes := #[] }])
  fields := #[{ name := "size", type := .int, accessFlags := 2, slot := 0, constantValue := 0 }]
  methods := #[k4m0]
  instanceTypes := #[.int]
  staticTypes := #[]
  resolved := Array.replicate 20 none
  statics := none }

def pool5 : Array CpInfo := pool [(2, .class_ 4), (1, u "java/lang/Object"), (0, u "<init>"), (0, u "()V"), (7, .class_ 16), (1, u "java/util/Arrays"), (57, .class_ 76), (1, u "java/util/Arrays$NaturalOrder"), (36, .class_ 115), (1, u "java/util/Arrays$LegacyMergeSort"), (1, u "Z"), (32, .methodref 151 152), (0, .class_ 153), (0, .nameAndType 154 155), (0, u "java/lang/System"), (0, u "arraycopy"), (0, u "(Ljava/lang/Object;ILjava/lang/Object;II)V"), (146, u "copyOf"), (1, .methodref 305 306), (0, .class_ 307), (0, .nameAndType 308 309), (0, u "java/lang/Math"), (0, u "min"), (0, u "(II)I"), (65, .class_ 376), (0, u "java/util/Arrays$ArrayList"), (68, u "$assertionsDisabled"), (269, u "MIN_ARRAY_SORT_GRAN"), (0, u "I"), (2, u "INSERTIONSORT_THRESHOLD"), (151, u "([II)[I"), (103, .class_ 976), (0, u "java/util/Arrays$ArrayItr")] 52

def k5m0 : Method := { name := "<init>", desc := "()V", sig := { parameters := [], returnType := none }, accessFlags := 2, code := none }
def k5c1 : Code := { maxStack := 6, maxLocals := 3, code := jdk_65_method_123_code, exceptionTable := #[], attributes := #[] }
def k5m1 : Method := { name := "copyOf", desc := "([II)[I", sig := { parameters := [(.array .int), .int], returnType := some (.array .int) }, accessFlags := 9, code := some k5c1 }
/-- java/util/Arrays -/
def k5 : Class := { plain "java/util/Arrays" (some 0) with
  accessFlags := 49
  interfaces := #[]
  cf := some (fileOf pool5 14 #[.nestMembers #[975, 375, 113, 74]] #[{ accessFlags := 2, nameIndex := 5, descriptorIndex := 6, attributes := #[] }, { accessFlags := 9, nameIndex := 302, descriptorIndex := 871, attributes := #[] }] 49 2 #[] #[{ accessFlags := 26, nameIndex := 715, descriptorIndex := 716, attributes := #[] }, { accessFlags := 26, nameIndex := 719, descriptorIndex := 716, attributes := #[] }, { accessFlags := 4120, nameIndex := 445, descriptorIndex := 117, attributes := #[] }])
  fields := #[{ name := "MIN_ARRAY_SORT_GRAN", type := .int, accessFlags := 26, slot := 0, constantValue := 0 }, { name := "INSERTIONSORT_THRESHOLD", type := .int, accessFlags := 26, slot := 1, constantValue := 0 }, { name := "$assertionsDisabled", type := .boolean, accessFlags := 4120, slot := 2, constantValue := 0 }]
  methods := #[k5m0, k5m1]
  instanceTypes := #[]
  staticTypes := #[.int, .int, .boolean]
  resolved := Array.replicate 1029 none
  statics := none }

def pool6 : Array CpInfo := pool [(1, .class_ 2), (0, u "java/lang/Math"), (1, .class_ 6), (1, u "java/lang/Object"), (0, u "<init>"), (0, u "()V"), (89, .class_ 100), (1, u "java/lang/Math$RandomNumberGeneratorHolder"), (71, u "negativeZeroFloatBits"), (0, u "J"), (2, u "negativeZeroDoubleBits"), (24, u "min"), (43, u "$assertionsDisabled"), (0, u "Z"), (88, u "(II)I"), (2, u "twoToTheDoubleScaleDown"), (0, u "D"), (4, u "twoToTheDoubleScaleUp"), (9, u "E"), (3, u "PI"), (2, u "TAU"), (2, u "DEGREES_TO_RADIANS"), (0, u "RADIANS_TO_DEGREES")] 94

def k6m0 : Method := { name := "<init>", desc := "()V", sig := { parameters := [], returnType := none }, accessFlags := 2, code := none }
def k6c1 : Code := { maxStack := 2, maxLocals := 2, code := jdk_29_method_69_code, exceptionTable := #[], attributes := #[] }
def k6m1 : Method := { name := "min", desc := "(II)I", sig := { parameters := [.int, .int], returnType := some .int }, accessFlags := 9, code := some k6c1 }
/-- java/lang/Math -/
def k6 : Class := { plain "java/lang/Math" (some 0) with
  accessFlags := 49
  interfaces := #[]
  cf := some (fileOf pool6 1 #[.nestMembers #[98]] #[{ accessFlags := 2, nameIndex := 7, descriptorIndex := 8, attributes := #[] }, { accessFlags := 9, nameIndex := 201, descriptorIndex := 335, attributes := #[] }] 49 4 #[] #[{ accessFlags := 25, nameIndex := 354, descriptorIndex := 339, attributes := #[] }, { accessFlags := 25, nameIndex := 358, descriptorIndex := 339, attributes := #[] }, { accessFlags := 25, nameIndex := 361, descriptorIndex := 339, attributes := #[] }, { accessFlags := 26, nameIndex := 364, descriptorIndex := 339, attributes := #[] }, { accessFlags := 26, nameIndex := 365, descriptorIndex := 339, attributes := #[] }, { accessFlags := 26, nameIndex := 172, descriptorIndex := 173, attributes := #[] }, { accessFlags := 26, nameIndex := 176, descriptorIndex := 173, attributes := #[] }, { accessFlags := 8, nameIndex := 344, descriptorIndex := 339, attributes := #[] }, { accessFlags := 8, nameIndex := 338, descriptorIndex := 339, attributes := #[] }, { accessFlags := 4120, nameIndex := 245, descriptorIndex := 246, attributes := #[] }])
  fields := #[{ name := "E", type := .double, accessFlags := 25, slot := 0, constantValue := 0 }, { name := "PI", type := .double, accessFlags := 25, slot := 1, constantValue := 0 }, { name := "TAU", type := .double, accessFlags := 25, slot := 2, constantValue := 0 }, { name := "DEGREES_TO_RADIANS", type := .double, accessFlags := 26, slot := 3, constantValue := 0 }, { name := "RADIANS_TO_DEGREES", type := .double, accessFlags := 26, slot := 4, constantValue := 0 }, { name := "negativeZeroFloatBits", type := .long, accessFlags := 26, slot := 5, constantValue := 0 }, { name := "negativeZeroDoubleBits", type := .long, accessFlags := 26, slot := 6, constantValue := 0 }, { name := "twoToTheDoubleScaleUp", type := .double, accessFlags := 8, slot := 7, constantValue := 0 }, { name := "twoToTheDoubleScaleDown", type := .double, accessFlags := 8, slot := 8, constantValue := 0 }, { name := "$assertionsDisabled", type := .boolean, accessFlags := 4120, slot := 9, constantValue := 0 }]
  methods := #[k6m0, k6m1]
  instanceTypes := #[]
  staticTypes := #[.double, .double, .double, .double, .double, .long, .long, .double, .double, .boolean]
  resolved := Array.replicate 460 none
  statics := none }

def pool7 : Array CpInfo := pool [(2, .class_ 4), (1, u "java/lang/Object"), (0, u "<init>"), (0, u "()V"), (1, .class_ 10), (1, u "java/lang/System"), (0, u "allowSecurityManager"), (0, u "I"), (16, u "cons"), (0, u "Ljava/io/Console;"), (77, .class_ 110), (1, u "java/lang/System$CallersHolder"), (43, u "initialErrStream"), (0, u "Ljava/io/PrintStream;"), (19, u "security"), (0, u "Ljava/lang/SecurityManager;"), (31, .class_ 209), (0, u "java/lang/System$1"), (7, u "props"), (0, u "Ljava/util/Properties;"), (2, u "lineSeparator"), (0, u "Ljava/lang/String;"), (96, .class_ 321), (1, u "java/lang/System$LoggerFinder"), (5, .class_ 328), (0, u "java/lang/System$Logger"), (67, u "err"), (2, u "out"), (91, u "notSupportedJnuEncoding"), (15, u "in"), (17, u "initialIn"), (0, u "Ljava/io/InputStream;"), (35, u "bootLayer"), (0, u "Ljava/lang/ModuleLayer;"), (99, .class_ 664), (0, u "java/lang/System$2"), (9, u "NEVER"), (2, u "MAYBE"), (49, u "arraycopy"), (0, u "(Ljava/lang/Object;ILjava/lang/Object;II)V"), (72, .class_ 802), (0, u "java/lang/System$Logger$Level")] 31

def k7m0 : Method := { name := "<init>", desc := "()V", sig := { parameters := [], returnType := none }, accessFlags := 2, code := none }
def k7m1 : Method := { name := "arraycopy", desc := "(Ljava/lang/Object;ILjava/lang/Object;II)V", sig := { parameters := [(.object "java/lang/Object"), .int, (.object "java/lang/Object"), .int, .int], returnType := none }, accessFlags := 265, code := none }
/-- java/lang/System -/
def k7 : Class := { plain "java/lang/System" (some 0) with
  accessFlags := 49
  interfaces := #[]
  cf := some (fileOf pool7 8 #[.nestMembers #[319, 327, 801, 108, 663, 208]] #[{ accessFlags := 2, nameIndex := 5, descriptorIndex := 6, attributes := #[] }, { accessFlags := 265, nameIndex := 727, descriptorIndex := 728, attributes := #[] }] 49 2 #[] #[{ accessFlags := 25, nameIndex := 507, descriptorIndex := 526, attributes := #[] }, { accessFlags := 25, nameIndex := 399, descriptorIndex := 155, attributes := #[] }, { accessFlags := 25, nameIndex := 396, descriptorIndex := 155, attributes := #[] }, { accessFlags := 10, nameIndex := 525, descriptorIndex := 526, attributes := #[] }, { accessFlags := 26, nameIndex := 674, descriptorIndex := 12, attributes := #[] }, { accessFlags := 26, nameIndex := 677, descriptorIndex := 12, attributes := #[] }, { accessFlags := 10, nameIndex := 11, descriptorIndex := 12, attributes := #[] }, { accessFlags := 74, nameIndex := 175, descriptorIndex := 176, attributes := #[] }, { accessFlags := 10, nameIndex := 491, descriptorIndex := 222, attributes := #[] }, { accessFlags := 74, nameIndex := 29, descriptorIndex := 30, attributes := #[] }, { accessFlags := 74, nameIndex := 154, descriptorIndex := 155, attributes := #[] }, { accessFlags := 10, nameIndex := 217, descriptorIndex := 218, attributes := #[] }, { accessFlags := 10, nameIndex := 221, descriptorIndex := 222, attributes := #[] }, { accessFlags := 8, nameIndex := 562, descriptorIndex := 563, attributes := #[] }])
  fields := #[{ name := "in", type := (.object "java/io/InputStream"), accessFlags := 25, slot := 0, constantValue := 0 }, { name := "out", type := (.object "java/io/PrintStream"), accessFlags := 25, slot := 1, constantValue := 0 }, { name := "err", type := (.object "java/io/PrintStream"), accessFlags := 25, slot := 2, constantValue := 0 }, { name := "initialIn", type := (.object "java/io/InputStream"), accessFlags := 10, slot := 3, constantValue := 0 }, { name := "NEVER", type := .int, accessFlags := 26, slot := 4, constantValue := 0 }, { name := "MAYBE", type := .int, accessFlags := 26, slot := 5, constantValue := 0 }, { name := "allowSecurityManager", type := .int, accessFlags := 10, slot := 6, constantValue := 0 }, { name := "security", type := (.object "java/lang/SecurityManager"), accessFlags := 74, slot := 7, constantValue := 0 }, { name := "notSupportedJnuEncoding", type := (.object "java/lang/String"), accessFlags := 10, slot := 8, constantValue := 0 }, { name := "cons", type := (.object "java/io/Console"), accessFlags := 74, slot := 9, constantValue := 0 }, { name := "initialErrStream", type := (.object "java/io/PrintStream"), accessFlags := 74, slot := 10, constantValue := 0 }, { name := "props", type := (.object "java/util/Properties"), accessFlags := 10, slot := 11, constantValue := 0 }, { name := "lineSeparator", type := (.object "java/lang/String"), accessFlags := 10, slot := 12, constantValue := 0 }, { name := "bootLayer", type := (.object "java/lang/ModuleLayer"), accessFlags := 8, slot := 13, constantValue := 0 }]
  methods := #[k7m0, k7m1]
  instanceTypes := #[]
  staticTypes := #[(.object "java/io/InputStream"), (.object "java/io/PrintStream"), (.object "java/io/PrintStream"), (.object "java/io/InputStream"), .int, .int, .int, (.object "java/lang/SecurityManager"), (.object "java/lang/String"), (.object "java/io/Console"), (.object "java/io/PrintStream"), (.object "java/util/Properties"), (.object "java/lang/String"), (.object "java/lang/ModuleLayer")]
  resolved := Array.replicate 834 none
  statics := none }

def pool8 : Array CpInfo := pool [(1, u "java/lang/Cloneable"), (0, .class_ 1), (0, u "java/lang/Object"), (0, .class_ 3)] 3

/-- java/lang/Cloneable -/
def k8 : Class := { plain "java/lang/Cloneable" (some 0) with
  accessFlags := 1537
  interfaces := #[]
  cf := some (fileOf pool8 2 #[] #[] 1537 4 #[] #[])
  fields := #[]
  methods := #[]
  instanceTypes := #[]
  staticTypes := #[]
  resolved := Array.replicate 8 none
  statics := none }

def pool9 : Array CpInfo := pool [(1, u "java/io/Serializable"), (0, .class_ 1), (0, u "java/lang/Object"), (0, .class_ 3)] 3

/-- java/io/Serializable -/
def k9 : Class := { plain "java/io/Serializable" (some 0) with
  accessFlags := 1537
  interfaces := #[]
  cf := some (fileOf pool9 2 #[] #[] 1537 4 #[] #[])
  fields := #[]
  methods := #[]
  instanceTypes := #[]
  staticTypes := #[]
  resolved := Array.replicate 8 none
  statics := none }

/-- the primitive byte -/
def k10 : Class := { plain "byte" none with kind := .primitive 'B', accessFlags := 0x411 }
/-- [B -/
def k11 : Class := { plain "[B" (some 0) with kind := .array 10 .byte, interfaces := #[8, 9], accessFlags := 1041 }

/-- the primitive int -/
def k12 : Class := { plain "int" none with kind := .primitive 'I', accessFlags := 0x411 }
/-- [I -/
def k13 : Class := { plain "[I" (some 0) with kind := .array 12 .int, interfaces := #[8, 9], accessFlags := 1041 }

/-- the primitive long -/
def k14 : Class := { plain "long" none with kind := .primitive 'J', accessFlags := 0x411 }
/-- [J -/
def k15 : Class := { plain "[J" (some 0) with kind := .array 14 .long, interfaces := #[8, 9], accessFlags := 1041 }

/-- [Lcom/example/kvasir/kvasir/tableau/ApartGroup; -/
def k16 : Class := { plain "[Lcom/example/kvasir/kvasir/tableau/ApartGroup;" (some 0) with kind := .array 4 (.object "com/example/kvasir/kvasir/tableau/ApartGroup"), interfaces := #[8, 9], accessFlags := 1041 }

/-- [Lcom/example/kvasir/kvasir/tableau/DependencySet; -/
def k17 : Class := { plain "[Lcom/example/kvasir/kvasir/tableau/DependencySet;" (some 0) with kind := .array 3 (.object "com/example/kvasir/kvasir/tableau/DependencySet"), interfaces := #[8, 9], accessFlags := 1041 }

/-- [Lcom/example/kvasir/kvasir/tableau/Node; -/
def k18 : Class := { plain "[Lcom/example/kvasir/kvasir/tableau/Node;" (some 0) with kind := .array 2 (.object "com/example/kvasir/kvasir/tableau/Node"), interfaces := #[8, 9], accessFlags := 1041 }

def heap : Heap := #[{ cls := 3, slots := #[.ref 1], vm := .statics 3 },
  { cls := 3, slots := #[.null], vm := .none }]
def classes : Array Class := #[k0, k1, k2, k3, k4, k5, k6, k7, k8, k9, k10, k11, k12, k13, k14, k15, k16, k17, k18]
def interned : List (Array UInt16 × Addr) := []
def slotsUsed : Nat := 2
def theMethod : MethodId := ⟨1, 1⟩
def args0 : Array Value := #[.int 1, .int 2, .int 3, .int 4, .int 5, .int 6]
def aboutOver (below : List Frame) : State where
  vm := { classes := classes, interned := interned.toArray }
  heap := heap
  slotsUsed := slotsUsed
  threads := #[{ frames := .invoking theMethod args0 :: below }]
def below0 : List Frame := [.native { method := ⟨0, 0⟩, args := #[] }]
def about1 : State := aboutOver below0
def p0 : Program := .bare "" "" ""
def e0 : Env := launch0.env 0 0 0
theorem w_frames : about1.frames = Frame.invoking theMethod args0 :: below0 := rfl
set_option maxRecDepth 65536 in
theorem w_args : argsFit about1.vm theMethod args0 = true := by decide +kernel
set_option maxRecDepth 65536 in
theorem w_heap : heapFits about1 = true := by decide +kernel
set_option maxRecDepth 65536 in
theorem w_runnable : about1.curStatus? = some .runnable := by decide +kernel
set_option maxRecDepth 65536 in
theorem w_alone : about1.alone = true := by decide +kernel
set_option maxRecDepth 65536 in
theorem w_named : about1.methodNamed? x = some theMethod := by decide +kernel
set_option maxRecDepth 65536 in
theorem w_hears : about1.hears theMethod below0 = true := by decide +kernel
set_option maxRecDepth 65536 in
theorem w_ripe : about1.ripe theMethod args0 below0 = true := by decide +kernel
theorem w_running : about1.status = .running := rfl
set_option maxRecDepth 65536 in
theorem w_room : about1.hasRoom e0.platform room_1 = true :=
  launch0.hasRoom_least _ room_1 (by decide +kernel) (by decide +kernel) (by decide +kernel) (by decide +kernel) (by decide +kernel) (by decide +kernel)
theorem allAtoms_all (ts : List Jvm.Cond) (a : Array Jvm.Value) (st : Jvm.State) : (allAtoms ts).before a st = ts.all (fun c => c.before a st) := by
  induction ts with
  | nil => rfl
  | cons c t ih =>
    show (Jvm.Cond.and c (allAtoms t)).before a st = _
    rw [Jvm.Cond.before_and, ih, List.all_cons]
def words1 : List Jvm.Cond := Jvm.Cond.code x code maxLocals ret :: tables_1
/-- a 'code' word, met by the world's own term for the bytes: nothing is compared byte by byte -/
theorem code_word {y : MethodName} {bytes : ByteArray} {mx : Nat} {rt : Option FieldType} {a : Array Value} {s : State} {m : MethodId} {meth : Method} {c : Code} (h1 : s.methodNamed? y = some m) (h2 : s.vm.method? m = some meth) (h3 : meth.code = some c) (h4 : c.code = bytes)
    (h5 : (c.maxLocals == mx && c.exceptionTable.isEmpty && decide (c.maxStack ≤ mostOperands) && decide (meth.sig.returnType = rt) && !meth.locks && decide (parseMethodDescriptor y.desc = some meth.sig)) = true) : (Jvm.Cond.code y bytes mx rt).before a s = true := by
  simp only [Bool.and_eq_true, beq_iff_eq, Bool.not_eq_true', decide_eq_true_eq] at h5
  obtain ⟨⟨⟨⟨⟨g1, g2⟩, g3⟩, g4⟩, g5⟩, g6⟩ := h5
  simp [Cond.before, Cond.holds, Cond.value, h1, h2, h3, h4, g1, g2, g3, g4, g5, g6]
def isCode : Jvm.Cond → Bool
  | .code _ _ _ _ => true
  | _ => false
theorem all_split {L : List Jvm.Cond} {P : Jvm.Cond → Bool} (h1 : L.all (fun c => isCode c || P c) = true) (h2 : ∀ c ∈ L.filter isCode, P c = true) : L.all P = true := by
  refine List.all_eq_true.mpr fun c hc => ?_
  have h := List.all_eq_true.mp h1 c hc
  rcases Bool.eq_false_or_eq_true (isCode c) with hi | hi
  · exact h2 c (List.mem_filter.mpr ⟨hc, hi⟩)
  · simpa [hi] using h
set_option maxRecDepth 65536 in
theorem w_c0 : (Jvm.Cond.code x code maxLocals ret).before args0 about1 = true := code_word (m := ⟨1, 1⟩) (meth := k1m1) (c := k1c1) (by decide +kernel) rfl rfl rfl (by decide +kernel)
set_option maxRecDepth 65536 in
theorem w_c1 : (Jvm.Cond.code ({ cls := "com/example/kvasir/kvasir/tableau/Node", name := "<init>", desc := "(IIZ)V" } : Jvm.MethodName) prog_32_method_1_code (4 : Nat) (Option.none : Option Jvm.ClassFile.FieldType)).before args0 about1 = true := code_word (m := ⟨2, 0⟩) (meth := k2m0) (c := k2c0) (by decide +kernel) rfl rfl rfl (by decide +kernel)
set_option maxRecDepth 65536 in
theorem w_c2 : (Jvm.Cond.code ({ cls := "com/example/kvasir/kvasir/tableau/Node", name := "<init>", desc := "(Lcom/example/kvasir/kvasir/tableau/Node;IIZJILcom/example/kvasir/kvasir/tableau/DependencySet;)V" } : Jvm.MethodName) prog_32_method_3_code (9 : Nat) (Option.none : Option Jvm.ClassFile.FieldType)).before args0 about1 = true := code_word (m := ⟨2, 1⟩) (meth := k2m1) (c := k2c1) (by decide +kernel) rfl rfl rfl (by decide +kernel)
set_option maxRecDepth 65536 in
theorem w_c3 : (Jvm.Cond.code ({ cls := "java/lang/Object", name := "<init>", desc := "()V" } : Jvm.MethodName) object_method_1_code (1 : Nat) (Option.none : Option Jvm.ClassFile.FieldType)).before args0 about1 = true := code_word (m := ⟨0, 0⟩) (meth := k0m0) (c := k0c0) (by decide +kernel) rfl rfl rfl (by decide +kernel)
set_option maxRecDepth 65536 in
theorem w_c4 : (Jvm.Cond.code ({ cls := "com/example/kvasir/kvasir/tableau/Node", name := "placeOnAgenda", desc := "(II)V" } : Jvm.MethodName) prog_32_method_54_code (4 : Nat) (Option.none : Option Jvm.ClassFile.FieldType)).before args0 about1 = true := code_word (m := ⟨2, 3⟩) (meth := k2m3) (c := k2c3) (by decide +kernel) rfl rfl rfl (by decide +kernel)
set_option maxRecDepth 65536 in
theorem w_c5 : (Jvm.Cond.code ({ cls := "java/util/Arrays", name := "copyOf", desc := "([II)[I" } : Jvm.MethodName) jdk_65_method_123_code (3 : Nat) (Option.some (Jvm.ClassFile.FieldType.array Jvm.ClassFile.FieldType.int))).before args0 about1 = true := code_word (m := ⟨5, 1⟩) (meth := k5m1) (c := k5c1) (by decide +kernel) rfl rfl rfl (by decide +kernel)
set_option maxRecDepth 65536 in
theorem w_c6 : (Jvm.Cond.code ({ cls := "java/lang/Math", name := "min", desc := "(II)I" } : Jvm.MethodName) jdk_29_method_69_code (2 : Nat) (Option.some Jvm.ClassFile.FieldType.int)).before args0 about1 = true := code_word (m := ⟨6, 1⟩) (meth := k6m1) (c := k6c1) (by decide +kernel) rfl rfl rfl (by decide +kernel)
set_option maxRecDepth 65536 in
theorem w_c7 : (Jvm.Cond.code ({ cls := "com/example/kvasir/kvasir/tableau/Node", name := "agendaPlace", desc := "(I)I" } : Jvm.MethodName) prog_32_method_53_code (4 : Nat) (Option.some Jvm.ClassFile.FieldType.int)).before args0 about1 = true := code_word (m := ⟨2, 2⟩) (meth := k2m2) (c := k2c2) (by decide +kernel) rfl rfl rfl (by decide +kernel)
def codes1 : List Jvm.Cond := [Jvm.Cond.code x code maxLocals ret, Jvm.Cond.code ({ cls := "com/example/kvasir/kvasir/tableau/Node", name := "<init>", desc := "(IIZ)V" } : Jvm.MethodName) prog_32_method_1_code (4 : Nat) (Option.none : Option Jvm.ClassFile.FieldType), Jvm.Cond.code ({ cls := "com/example/kvasir/kvasir/tableau/Node", name := "<init>", desc := "(Lcom/example/kvasir/kvasir/tableau/Node;IIZJILcom/example/kvasir/kvasir/tableau/DependencySet;)V" } : Jvm.MethodName) prog_32_method_3_code (9 : Nat) (Option.none : Option Jvm.ClassFile.FieldType), Jvm.Cond.code ({ cls := "java/lang/Object", name := "<init>", desc := "()V" } : Jvm.MethodName) object_method_1_code (1 : Nat) (Option.none : Option Jvm.ClassFile.FieldType), Jvm.Cond.code ({ cls := "com/example/kvasir/kvasir/tableau/Node", name := "placeOnAgenda", desc := "(II)V" } : Jvm.MethodName) prog_32_method_54_code (4 : Nat) (Option.none : Option Jvm.ClassFile.FieldType), Jvm.Cond.code ({ cls := "java/util/Arrays", name := "copyOf", desc := "([II)[I" } : Jvm.MethodName) jdk_65_method_123_code (3 : Nat) (Option.some (Jvm.ClassFile.FieldType.array Jvm.ClassFile.FieldType.int)), Jvm.Cond.code ({ cls := "java/lang/Math", name := "min", desc := "(II)I" } : Jvm.MethodName) jdk_29_method_69_code (2 : Nat) (Option.some Jvm.ClassFile.FieldType.int), Jvm.Cond.code ({ cls := "com/example/kvasir/kvasir/tableau/Node", name := "agendaPlace", desc := "(I)I" } : Jvm.MethodName) prog_32_method_53_code (4 : Nat) (Option.some Jvm.ClassFile.FieldType.int)]
set_option maxRecDepth 65536 in
theorem codes_eq : words1.filter isCode = codes1 := rfl
theorem w_codes : ∀ c ∈ words1.filter isCode, c.before args0 about1 = true := by
  rw [codes_eq]
  intro c hc
  simp only [codes1, List.mem_cons, List.not_mem_nil, or_false] at hc
  rcases hc with rfl | rfl | rfl | rfl | rfl | rfl | rfl | rfl
  · exact w_c0
  · exact w_c1
  · exact w_c2
  · exact w_c3
  · exact w_c4
  · exact w_c5
  · exact w_c6
  · exact w_c7
set_option maxRecDepth 65536 in
theorem w_t1 : (words1.take 24).all (fun c => isCode c || c.before args0 about1) = true := by decide +kernel
set_option maxRecDepth 65536 in
theorem w_t2 : ((words1.drop 24).take 24).all (fun c => isCode c || c.before args0 about1) = true := by decide +kernel
set_option maxRecDepth 65536 in
theorem w_t3 : (((words1.drop 24).drop 24).take 24).all (fun c => isCode c || c.before args0 about1) = true := by decide +kernel
set_option maxRecDepth 65536 in
theorem w_t4 : (((words1.drop 24).drop 24).drop 24).all (fun c => isCode c || c.before args0 about1) = true := by decide +kernel
theorem w_tables : (allAtoms (Jvm.Cond.code x code maxLocals ret :: tables_1)).before args0 about1 = true := by
  rw [allAtoms_all]
  show words1.all (fun c => c.before args0 about1) = true
  refine all_split ?_ w_codes
  rw [← List.take_append_drop 24 words1, List.all_append, w_t1, ← List.take_append_drop 24 (words1.drop 24), List.all_append, w_t2, ← List.take_append_drop 24 ((words1.drop 24).drop 24), List.all_append, w_t3, w_t4]
  rfl
set_option maxRecDepth 65536 in
theorem w_case : (Jvm.Cond.and given_1 narrow_1).before args0 about1 = true := by decide +kernel
theorem w_applies : (headSpec (Jvm.Cond.code x code maxLocals ret :: tables_1) room_1).applies x e0.platform about1 = true :=
  (Spec.applies_iff w_frames).mpr ⟨w_running, w_runnable, w_alone, w_named, w_hears, w_ripe, w_room, w_tables⟩
theorem atStart : AtStart classFile x code maxLocals ret World_1 tables_1 room_1 Calls_1 rest_1 Pre_1 launch0 p0 e0 about1 theMethod args0 below0 :=
  ⟨lists_1, trivial, launch0.admits_env _ _ _, launch0.least_env, fairChoices_fair.cas, fairChoices_fair.clock, w_frames, w_args, w_heap, w_applies, trivial, trivial, w_case⟩
end start1
theorem witness_1 : WitnessClaimed_1 := ⟨start1.p0, start1.e0, start1.about1, start1.theMethod, start1.args0, start1.below0, start1.atStart⟩
end Jvm.Pilot.@@N@@
