import JvmDerived
import JvmDerived.Pilot.@@N@@Statement
import JvmDerived.Pilot.@@N@@Code
set_option linter.unusedVariables false
set_option linter.unusedSimpArgs false
namespace Jvm.RoadKit
open Sem ClassFile Op Lib Jvm.Stand Jvm.Free Jvm.LawKit
section New
variable {p : Program} {l : Launch} {e : Env} {R : Room} {s : State} {m : MethodId} {args : Array Value} {below : List Frame} {meth : Method} {c : Code} {T : State} {locs : List Loc} {cells slots : Nat}
theorem retI (X : Stand p l e R s m args below meth c T locs cells slots) (hx : p.tables.exec = Jvm.exec) {pc : Nat} {Ls : Array Slot} {z : Int32} {rest : List Value} (hret : meth.sig.returnType = some .int) (hd : decode c.code pc = .ok (.ireturn, 1)) {fs : List Frame}
    (hl : ∀ (f : JFrame) (acts : List Action), f.method = m → f.locked = none → f.entered = [] → (doReturn e (T.setTop f) acts (some (.int z))).1 = T.setFrames fs) : Steps p.tables e below (T.setTop (mkF m pc Ls (.int z :: rest))) (T.setFrames fs) := by
  have hm' : T.vm.method? m = some meth := X.method'
  have hn : narrow .int (.int z) = .int z := rfl
  show Steps p.tables e below (T.setTop { method := m, pc := pc, locals := Ls, stack := _ :: rest, locked := none }) _
  jvm_step X.here [X.here.top, hx, hd, hm', hret, hn]
  first | (intro acts; rw [hl _ acts rfl rfl rfl]) | rw [hl _ _ rfl rfl rfl]
  exact Steps.refl _
end New
end Jvm.RoadKit
namespace Jvm.Pilot.@@N@@
open Jvm Jvm.ClassFile Sem Op Lib Jvm.Free Jvm.Stand Jvm.LawKit Jvm.RoadKit Bundle Jvm.Pilot.@@N@@.Jvm.D
abbrev mN0 : MethodName := ⟨"java/util/AbstractCollection", "<init>", "()V"⟩
abbrev mN1 : MethodName := ⟨"java/util/AbstractList", "<init>", "()V"⟩
abbrev mN2 : MethodName := ⟨"java/util/ArrayList", "<init>", "()V"⟩
abbrev mN3 : MethodName := ⟨"java/lang/StringLatin1", "canEncode", "(C)Z"⟩
abbrev mN4 : MethodName := ⟨"java/lang/StringLatin1", "toBytes", "(C)[B"⟩
abbrev mN5 : MethodName := ⟨"java/lang/String", "<init>", "([BB)V"⟩
abbrev mN6 : MethodName := ⟨"java/lang/String", "valueOf", "(C)Ljava/lang/String;"⟩
abbrev mN7 : MethodName := ⟨"java/lang/Math", "max", "(II)I"⟩
abbrev mN8 : MethodName := ⟨"java/util/ArrayList", "grow", "(I)[Ljava/lang/Object;"⟩
abbrev mN9 : MethodName := ⟨"java/util/ArrayList", "grow", "()[Ljava/lang/Object;"⟩
abbrev mN10 : MethodName := ⟨"java/util/ArrayList", "add", "(Ljava/lang/Object;[Ljava/lang/Object;I)V"⟩
abbrev mN11 : MethodName := ⟨"java/util/ArrayList", "add", "(Ljava/lang/Object;)Z"⟩
abbrev mN12 : MethodName := ⟨"com/example/graftwork/graftwork/ElementDefinitionTypesPinLaw", "draw", "(I)Ljava/util/ArrayList;"⟩
abbrev mN13 : MethodName := ⟨"java/util/ArrayList", "size", "()I"⟩
abbrev mN14 : MethodName := ⟨"java/util/ArrayList", "isEmpty", "()Z"⟩
abbrev mN15 : MethodName := ⟨"java/util/List", "of", "()Ljava/util/List;"⟩
abbrev mN16 : MethodName := ⟨"java/lang/Math", "min", "(II)I"⟩
abbrev mN17 : MethodName := ⟨"java/util/Arrays", "copyOf", "([Ljava/lang/Object;ILjava/lang/Class;)[Ljava/lang/Object;"⟩
abbrev mN18 : MethodName := ⟨"java/util/Arrays", "copyOf", "([Ljava/lang/Object;I)[Ljava/lang/Object;"⟩
abbrev mN19 : MethodName := ⟨"java/util/ArrayList", "toArray", "()[Ljava/lang/Object;"⟩
abbrev mN20 : MethodName := ⟨"java/util/ImmutableCollections$AbstractImmutableCollection", "<init>", "()V"⟩
abbrev mN21 : MethodName := ⟨"java/util/ImmutableCollections$AbstractImmutableList", "<init>", "()V"⟩
abbrev mN22 : MethodName := ⟨"java/util/Objects", "requireNonNull", "(Ljava/lang/Object;)Ljava/lang/Object;"⟩
abbrev mN23 : MethodName := ⟨"java/util/ImmutableCollections$List12", "<init>", "(Ljava/lang/Object;)V"⟩
abbrev mN24 : MethodName := ⟨"java/util/ImmutableCollections$List12", "<init>", "(Ljava/lang/Object;Ljava/lang/Object;)V"⟩
abbrev mN25 : MethodName := ⟨"java/util/List", "of", "([Ljava/lang/Object;)Ljava/util/List;"⟩
abbrev mN26 : MethodName := ⟨"java/util/ImmutableCollections", "listCopy", "(Ljava/util/Collection;)Ljava/util/List;"⟩
abbrev mN27 : MethodName := ⟨"java/util/ImmutableCollections$List12", "size", "()I"⟩
abbrev mN28 : MethodName := ⟨"java/util/ImmutableCollections$ListN", "size", "()I"⟩
abbrev mN29 : MethodName := ⟨"java/util/Collection", "isEmpty", "()Z"⟩
abbrev mN30 : MethodName := ⟨"java/util/Collection", "toArray", "()[Ljava/lang/Object;"⟩
abbrev mN31 : MethodName := ⟨"java/util/List", "copyOf", "(Ljava/util/Collection;)Ljava/util/List;"⟩
abbrev mN32 : MethodName := ⟨"java/util/AbstractMap", "<init>", "()V"⟩
abbrev mN33 : MethodName := ⟨"java/util/HashMap", "<init>", "()V"⟩
abbrev mN34 : MethodName := ⟨"java/util/LinkedHashMap", "<init>", "()V"⟩
abbrev mN35 : MethodName := ⟨"java/lang/String", "isLatin1", "()Z"⟩
abbrev mN36 : MethodName := ⟨"java/lang/String", "coder", "()B"⟩
abbrev mN37 : MethodName := ⟨"java/lang/String", "length", "()I"⟩
abbrev mN38 : MethodName := ⟨"java/lang/StringLatin1", "canEncode", "(I)Z"⟩
abbrev mN39 : MethodName := ⟨"java/lang/StringLatin1", "lastIndexOf", "([BII)I"⟩
abbrev mN40 : MethodName := ⟨"java/lang/String", "lastIndexOf", "(II)I"⟩
abbrev mN41 : MethodName := ⟨"java/lang/String", "lastIndexOf", "(I)I"⟩
abbrev mN42 : MethodName := ⟨"jdk/internal/util/Preconditions", "checkFromToIndex", "(IIILjava/util/function/BiFunction;)I"⟩
abbrev mN43 : MethodName := ⟨"java/lang/String", "checkBoundsBeginEnd", "(III)V"⟩
abbrev mN44 : MethodName := ⟨"java/util/Arrays", "checkLength", "(II)V"⟩
abbrev mN45 : MethodName := ⟨"java/util/Arrays", "copyOfRangeByte", "([BII)[B"⟩
abbrev mN46 : MethodName := ⟨"java/util/Arrays", "copyOfRange", "([BII)[B"⟩
abbrev mN47 : MethodName := ⟨"java/lang/StringLatin1", "newString", "([BII)Ljava/lang/String;"⟩
abbrev mN48 : MethodName := ⟨"java/lang/String", "substring", "(II)Ljava/lang/String;"⟩
abbrev mN49 : MethodName := ⟨"java/lang/String", "substring", "(I)Ljava/lang/String;"⟩
abbrev mN50 : MethodName := ⟨"jdk/internal/util/ArraysSupport", "mismatch", "([BI[BII)I"⟩
abbrev mN51 : MethodName := ⟨"java/lang/String", "startsWith", "(Ljava/lang/String;I)Z"⟩
abbrev mN52 : MethodName := ⟨"java/lang/String", "endsWith", "(Ljava/lang/String;)Z"⟩
abbrev mN53 : MethodName := ⟨"com/example/graftwork/graftwork/ElementDefinition", "types", "()Ljava/util/List;"⟩
abbrev mN54 : MethodName := ⟨"com/example/graftwork/graftwork/ElementDefinition", "reuse", "(Lcom/example/graftwork/graftwork/ElementDefinition;)V"⟩
abbrev mN55 : MethodName := ⟨"java/util/ImmutableCollections$List12", "get", "(I)Ljava/lang/Object;"⟩
abbrev mN56 : MethodName := ⟨"jdk/internal/util/Preconditions", "checkIndex", "(IILjava/util/function/BiFunction;)I"⟩
abbrev mN57 : MethodName := ⟨"java/util/Objects", "checkIndex", "(II)I"⟩
abbrev mN58 : MethodName := ⟨"java/util/ArrayList", "elementData", "(I)Ljava/lang/Object;"⟩
abbrev mN59 : MethodName := ⟨"java/util/ArrayList", "get", "(I)Ljava/lang/Object;"⟩
abbrev mN60 : MethodName := ⟨"java/lang/String", "equals", "(Ljava/lang/Object;)Z"⟩
abbrev mN61 : MethodName := ⟨"com/example/graftwork/graftwork/ElementDefinitionTypesPinLaw", "same", "(Ljava/util/List;Ljava/util/List;I)Z"⟩
abbrev mN62 : MethodName := ⟨"java/util/List", "size", "()I"⟩
abbrev mN63 : MethodName := ⟨"java/util/List", "get", "(I)Ljava/lang/Object;"⟩
abbrev mN64 : MethodName := ⟨"com/example/graftwork/graftwork/ElementDefinition", "<init>", "(Ljava/lang/String;IILjava/util/List;)V"⟩
set_option maxRecDepth 65536
set_option maxHeartbeats 40000000
theorem oW {a0 : Array Value} {Z : State} (hw : ∀ d ∈ tables_1, d.before a0 Z = true) (i : Nat) {d : Jvm.Cond} (h : tables_1[i]? = some d) : d.before a0 Z = true := hw d (List.mem_of_getElem? h)
abbrev HW (a0 : Array Value) (Z : State) : Prop := ∀ d ∈ tables_1, d.before a0 Z = true
abbrev rM (a b c d : Nat) : Room := { frames := a, cells := b, slots := c, locals := d }
abbrev vI (x : Int32) : Slot := .val (.int x)
abbrev vR (a : Addr) : Slot := .val (.ref a)
abbrev oM (l : Launch) (Z : State) (y : MethodName) (bytes : ByteArray) (ml : Nat) (ret : Option FieldType) (ws : List Jvm.Cond) (rm : Room) (as : Array Value) (h0 : Heap) (Q : Option Value → Heap → List Loc → Prop) : Prop := MetFree l y (head1 (Jvm.Cond.code y bytes ml ret :: ws) rm) (fun a U => a = as ∧ Z.Warmed39 U.vm ∧ U.heap = h0) (fun _ _ _ _ _ => True) (fun _ U o U' => ∃ v L, o = .returned v ∧ Q v U'.heap L ∧ FrameEnd U o U' L rm.cells rm.slots)
abbrev oS (p : Program) (e : Env) (below : List Frame) (T : State) (m : MethodId) (pc : Nat) (L : Array Slot) (S : List Value) (t : State) : Prop := Steps p.tables e below (T.setTop (mkF m pc L S)) t
theorem own_le {Z : State} {n0 : Nat} {h : Heap} (O : Old Z n0 h) : n0 ≤ h.size := O.1 ▸ O.2.1
def own_Q (r : Value) (h0 : Heap) (n0 : Nat) (v : Option Value) (h : Heap) (L : List Loc) : Prop := v = some r ∧ Fr n0 L ∧ h = h0
def own_Qn (h0 : Heap) (n0 : Nat) (v : Option Value) (h : Heap) (L : List Loc) : Prop := v = none ∧ Fr n0 L ∧ h = h0
def own_R (n0 : Nat) (v : Option Value) (h : Heap) (L : List Loc) : Prop := v = some (.int 1) ∧ Fr n0 L
theorem own_ne {args : Array Value} {s : State} {t u : Term} {K n d : String} {a b : Addr} {i j : Int32} (ht : t.eval args s none [] s = some (.ref a)) (hu : u.eval args s none [] s = some (.ref b))
    (h1 : (Jvm.Cond.eq (Term.field t K n d) (Term.int i)).value args s none s [] = some true) (h2 : (Jvm.Cond.eq (Term.field u K n d) (Term.int j)).value args s none s [] = some true) (hij : i ≠ j) : ¬ a = b := by
  intro e
  subst e
  obtain ⟨v, e1, e2⟩ := Cond.eq_worth h1
  obtain ⟨v', e3, e4⟩ := Cond.eq_worth h2
  rw [fld_at ht] at e1
  rw [fld_at hu] at e3
  have q1 : v = .int i := Option.some.inj (e2.symm.trans (Term.int_eval i))
  have q2 : v' = .int j := Option.some.inj (e4.symm.trans (Term.int_eval j))
  have q3 : v = v' := Option.some.inj (e1.symm.trans e3)
  rw [q1, q2] at q3
  exact hij (by injection q3)
def own_EL : List (String × Nat) := [("com/example/graftwork/graftwork/ElementDefinition", 39), ("com/example/graftwork/graftwork/ElementDefinitionTypesPinLaw", 43), ("com/example/graftwork/graftwork/ElementDefinitionTypesPinLaw", 48), ("com/example/graftwork/graftwork/ElementDefinitionTypesPinLaw", 50), ("com/example/graftwork/graftwork/ElementDefinitionTypesPinLaw", 52)]
theorem own_EW {a0 : Array Value} {Z : State} (hw : HW a0 Z) : EW Z a0 own_EL := EW.cons (oW hw 207 rfl) (by decide) (EW.cons (oW hw 94 rfl) (by decide) (EW.cons (oW hw 255 rfl) (by decide) (EW.cons (oW hw 262 rfl) (by decide) (EW.cons (oW hw 386 rfl) (by decide) (EW.nil)))))
theorem own_safeV {Z : State} {vm : Vm} {h : Heap} {x : Addr} {k : ClassId} {ty : FieldType} {z : Int32} {vs : List Value} {dv : Value} (hal : Z.vm.Alike vm) (V : Arv Z h x k ty z vs dv) (ht : ty ≠ .byte) : Safe Z own_EL vm h x := by
  obtain ⟨c, A, -⟩ := V
  exact Safe.arr hal A ht
theorem own_ne0 {Z : State} {h : Heap} {a b : Addr} {k k2 : ClassId} {ty ty2 : FieldType} {vs v2 : List Value} {dv d2 : Value} (A : Arv Z h a k ty (0 : Int32) vs dv) (F : Arv Z h b k2 ty2 (10 : Int32) v2 d2) : a ≠ b := arv_ne A F (Or.inl (by decide))
def own_Mir (Z : State) (C : String) (m : Addr) : Prop := ∃ (c : ClassId) (k : Class), Z.vm.findClass C = some c ∧ Z.vm.classes[c]? = some k ∧ k.mirror = some m
theorem own_mirEv {Z s : State} {C : String} {m : Addr} {args : Array Value} (hZ : Z.Warmed39 s.vm) (M : own_Mir Z C m) : (Term.mirror C).eval args s none [] s = some (.ref m) := by
  obtain ⟨c, k, m1, m2, m3⟩ := M
  obtain ⟨k', q, ek⟩ := hZ.alike.2.2 _ _ m2
  have m1' : s.vm.findClass C = some c := by rw [hZ.alike.findClass]; exact m1
  have m3' : k'.mirror = some m := by rw [ek]; exact m3
  simp [Term.eval, m1', q, m3']
theorem own_gcls {p : Program} {l : Launch} {e : Env} {R : Room} {s : State} {m : MethodId} {args : Array Value} {below : List Frame} {meth : Method} {c : Code} {T : State} {locs : List Loc} {cells slots : Nat} {Z : State} {h : Heap} {a : Addr} (X : Stand p l e R s m args below meth c T locs cells slots) (hx : p.tables.exec = Jvm.exec) (hZ : Z.Warmed39 s.vm) {a0 : Array Value} {own C : String} {index : Nat} (hown : s.vm.findClass own = some m.cls)
    (w1 : (Jvm.Cond.methodLink own index ⟨"java/lang/Object", "getClass", "()Ljava/lang/Class;"⟩).before a0 Z = true) (w2 : (Jvm.Cond.declares ⟨"java/lang/Object", "getClass", "()Ljava/lang/Class;"⟩).before a0 Z = true) (w3 : (Jvm.Cond.noSuperclass "java/lang/Object").before a0 Z = true) (w4 : (Jvm.Cond.selects C ⟨"java/lang/Object", "getClass", "()Ljava/lang/Class;"⟩ ⟨"java/lang/Object", "getClass", "()Ljava/lang/Class;"⟩).before a0 Z = true)
    (w5 : (Jvm.Cond.instanceMethod ⟨"java/lang/Object", "getClass", "()Ljava/lang/Class;"⟩).before a0 Z = true) (w6 : (Jvm.Cond.native ⟨"java/lang/Object", "getClass", "()Ljava/lang/Class;"⟩).before a0 Z = true) (eT : T.heap = h) (E : Exa Z h a C) {mr : Addr} (M : own_Mir Z C mr)
    {g : JFrame} (hg : g.method = m) (hsize : g.locals.size = c.maxLocals) {rest : List Value} (hs : g.stack = .ref a :: rest) (hd : decode c.code g.pc = .ok (.invokevirtual index, 3)) (hf : 1 ≤ R.frames) {W : Nat} (hW : 2 * g.monitorRoom + (rest.map fun v => v.category).sum ≤ W) (hl : W + (nativeFrameWords "java/lang/Object" "getClass" 1 + 11) ≤ R.locals) :
    ∃ T', Stand p l e R s m args below meth c T' locs cells slots ∧ T'.heap = h ∧ ∀ target, Steps p.tables e below (T'.setTop { g with pc := g.pc + 3, stack := .ref mr :: rest }) target → Steps p.tables e below (T.setTop g) target := by
  obtain ⟨cB, kB, i1, i2, i3⟩ := isOf hZ eT E
  obtain ⟨cc, kc, m1, m2, m3⟩ := M
  rw [hZ.alike.findClass] at i1
  cases i1.symm.trans m1
  obtain ⟨k', q, ek⟩ := hZ.alike.2.2 _ _ m2
  obtain ⟨vm', X', st⟩ := X.getClassOf hx hown (mvT hZ w1) (mvT hZ w2) (nf_top (args := #[]) (mvT hZ w3)) (mvT hZ w4) (mvT hZ w5) (mvT hZ w6) (by rw [hZ.alike.findClass]; exact m1) i3 q (by rw [ek]; exact m3) hg hsize hs hd hf (by omega)
  exact ⟨_, X', eT, st⟩
def own_QK (o : Addr) (h0 : Heap) (n0 : Nat) (v : Option Value) (h : Heap) (L : List Loc) : Prop := v = none ∧ Fr n0 L ∧ Keep h0 h [o]
theorem d4_0 : decode jdk_22_method_1_code 0 = .ok (.aload_n 0, 1) := by decide +kernel
theorem d4_1 : decode jdk_22_method_1_code 1 = .ok (.invokespecial 1, 3) := by decide +kernel
theorem d4_4 : decode jdk_22_method_1_code 4 = .ok (.return_, 1) := by decide +kernel
theorem ef_4 (m : MethodId) (x0 : Addr) : entryFrame m #[(.ref x0)] 1 = mkF m 0 #[.val (.ref x0)] [] := by first | (simp [entryFrame, mkF, argsToLocals, Value.category]; done) | rfl
theorem pn_4 : plainName "java/util/AbstractCollection" = true := by first | (simp [plainName, overriddenIn]; done) | decide +kernel
theorem rmAC (l : Launch) (Z : State) (a0 : Array Value) (hw : HW a0 Z) (ws : List Jvm.Cond) (o0 : Addr) (h0 : Heap) (n0 : Nat) (O0 : Old Z n0 h0) :
    oM l Z mN0 jdk_22_method_1_code 1 none ws (rM 1 0 0 12) #[(.ref o0)] h0 (own_Qn h0 n0) := by
  refine MetFree.of_bodySF (plainFor_of_name pn_4) hisR ?_
  intro p e s m args below meth c s₁ Bd hml0 hP hK
  obtain ⟨rfl, hZ, hh⟩ := hP
  have hx := Bd.exec
  have hby := Bd.bytes
  have hml : c.maxLocals = 1 := hml0
  have hown : s.vm.findClass "java/util/AbstractCollection" = some m.cls := findClass_of_methodNamed Bd.named
  have X0 : Stand p l e (rM 1 0 0 12) s m #[(.ref o0)] below meth c s₁ [] 0 0 := Stand.of_body Bd
  have e0 : s₁.heap = h0 := by rw [← hh, Bd.state]; rfl
  have N0 := Fr.nil n0
  have pre0 := fun t (k : oS p e below s₁ m 0 #[vR o0] [] t) => castTop (ef_4 m o0) k
  obtain ⟨T1, X1, e1, st1⟩ := initO X0 hx hZ hown (oW hw 22 rfl) (oW hw 23 rfl) (oW hw 24 rfl) e0 (g := (mkF m 1 #[vR o0] [(.ref o0)])) rfl (by rw [hml]; rfl) rfl (hb hby d4_1) (by decide) (W := 0) (by show 2 * 0 + _ ≤ _; exact Nat.le_of_eq rfl) (by decide)
  obtain ⟨fs, hr, hrun, hended, hW, hsame⟩ := X1.leave (v := none) (fun _ => rfl)
  refine ⟨_, _, pre0 _ ?_, hrun, hended, _, _, rfl, ?_, ⟨_, rfl⟩, hW, hsame.mono (by decide) (by decide)⟩
  · show oS p e below s₁ m 0 #[vR o0] [] _
    refine XS.aloadN X0.here hx rfl (hb hby d4_0) rfl rfl ?_
    show oS p e below s₁ m 1 #[vR o0] [(.ref o0)] _
    refine st1 _ ?_
    show oS p e below T1 m 4 #[vR o0] [] _
    exact X1.returnOut hx Bd.returns (hb hby d4_4) hr
  · show own_Qn h0 n0 _ T1.heap _
    rw [e1]
    exact ⟨rfl, N0, rfl⟩
def own_QAbL (Z : State) (o : Addr) (h0 : Heap) (n0 : Nat) (v : Option Value) (h : Heap) (L : List Loc) : Prop := v = none ∧ Fr n0 L ∧ Keep h0 h [o] ∧ Fld Z h o "java/util/AbstractList" "modCount" "I" (.int 0) ∧ Fld Z h o "java/util/ArrayList" "size" "I" (.int 0) ∧ Fld Z h o "java/util/ArrayList" "elementData" "[Ljava/lang/Object;" .null
def own_QA0 (Z : State) (o ad : Addr) (h0 : Heap) (n0 : Nat) (v : Option Value) (h : Heap) (L : List Loc) : Prop := v = none ∧ Fr n0 L ∧ Keep h0 h [o] ∧ Fld Z h o "java/util/AbstractList" "modCount" "I" (.int 0) ∧ Fld Z h o "java/util/ArrayList" "size" "I" (.int 0) ∧ Fld Z h o "java/util/ArrayList" "elementData" "[Ljava/lang/Object;" (.ref ad)
theorem d3_0 : decode jdk_39_method_1_code 0 = .ok (.aload_n 0, 1) := by decide +kernel
theorem d3_1 : decode jdk_39_method_1_code 1 = .ok (.invokespecial 1, 3) := by decide +kernel
theorem pd_0 : parseMethodDescriptor "()V" = some ⟨[], none⟩ := by decide +kernel
theorem d3_4 : decode jdk_39_method_1_code 4 = .ok (.aload_n 0, 1) := by decide +kernel
theorem d3_5 : decode jdk_39_method_1_code 5 = .ok (.iconst 0, 1) := by decide +kernel
theorem d3_6 : decode jdk_39_method_1_code 6 = .ok (.putfield 7, 3) := by decide +kernel
theorem d3_9 : decode jdk_39_method_1_code 9 = .ok (.return_, 1) := by decide +kernel
theorem ef_3 (m : MethodId) (x0 : Addr) : entryFrame m #[(.ref x0)] 1 = mkF m 0 #[.val (.ref x0)] [] := by first | (simp [entryFrame, mkF, argsToLocals, Value.category]; done) | rfl
theorem pn_3 : plainName "java/util/AbstractList" = true := by first | (simp [plainName, overriddenIn]; done) | decide +kernel
theorem rmAbL (l : Launch) (Z : State) (a0 : Array Value) (hw : HW a0 Z) (ws : List Jvm.Cond) (o0 : Addr) (h0 : Heap) (n0 : Nat) (O0 : Old Z n0 h0) (E_o0 : Exa Z h0 o0 "java/util/ArrayList") (F_modCount_o0 : Fld Z h0 o0 "java/util/AbstractList" "modCount" "I" (.int 0)) (F_size_o0 : Fld Z h0 o0 "java/util/ArrayList" "size" "I" (.int 0)) (F_elementData_o0 : Fld Z h0 o0 "java/util/ArrayList" "elementData" "[Ljava/lang/Object;" .null) (g_o0 : n0 ≤ o0) :
    oM l Z mN1 jdk_39_method_1_code 1 none ws (rM 2 0 0 24) #[(.ref o0)] h0 (own_QAbL Z o0 h0 n0) := by
  refine MetFree.of_bodySF (plainFor_of_name pn_3) hisR ?_
  intro p e s m args below meth c s₁ Bd hml0 hP hK
  obtain ⟨rfl, hZ, hh⟩ := hP
  have hx := Bd.exec
  have hby := Bd.bytes
  have hml : c.maxLocals = 1 := hml0
  have hown : s.vm.findClass "java/util/AbstractList" = some m.cls := findClass_of_methodNamed Bd.named
  have X0 : Stand p l e (rM 2 0 0 24) s m #[(.ref o0)] below meth c s₁ [] 0 0 := Stand.of_body Bd
  have e0 : s₁.heap = h0 := by rw [← hh, Bd.state]; rfl
  have N0 := Fr.nil n0
  have pre0 := fun t (k : oS p e below s₁ m 0 #[vR o0] [] t) => castTop (ef_3 m o0) k
  obtain ⟨_, _, ⟨T1, L1, k1, n1⟩, -, X1, ⟨Lc1, hQ1, l1, y1, z1⟩, st1⟩ := X0.specialBack hx (y := mN0) rfl hown (mvT hZ (oW hw 16 rfl)) (mvT hZ (oW hw 17 rfl)) (mvT hZ (oW hw 21 rfl)) (by decide) (backOf (W := 0) (rmAC l Z a0 hw [] o0  h0 n0 O0 ) hZ (oW hw 21 rfl) (oW hw 20 rfl) (by decide) (by decide)) (g := (mkF m 1 #[vR o0] [(.ref o0)])) rfl (by rw [hml]; rfl) (Steps.refl _) (a := o0) (argsL := []) (rest := []) (lenOf pd_0 rfl) rfl (by show 2 * 0 + _ ≤ _; exact Nat.le_of_eq rfl) (hb hby d3_1) (fun _ _ => ⟨rfl, e0, (by decide : 0 + 0 ≤ _), (by decide : 0 + 0 ≤ _)⟩)
  dsimp only [Pt.U, Pt.locs, Pt.cells, Pt.slots] at X1 l1 y1 z1 st1 hQ1
  subst l1 y1 z1
  obtain ⟨rfl, N1q, e1⟩ := hQ1
  have N1 := Fr.app N0 N1q
  obtain ⟨T2, h2, X2, e2, W2, st2⟩ := putF X1 hx hZ hown (host := "") (Or.inl (oW hw 25 rfl)) Via.refl e1 F_modCount_o0 E_o0 (Or.inl (oW hw 26 rfl)) (oW hw 5 rfl) (ty := .int) (by decide) rfl rfl (g := (mkF m 6 #[vR o0] [(.int 0), (.ref o0)])) rfl rfl (hb hby d3_6)
  have O2 := O0.wr W2 g_o0
  have Fw2 := F_modCount_o0.same W2
  have N2 := Fr.snoc X2 N1 g_o0
  have f_o0_1_size := (F_size_o0.other W2 (Or.inr (slot_ne (Or.inl (oW hw 63 rfl)) (Or.inl (oW hw 26 rfl)) (by decide) (t := .int) (t' := .int) (by decide) (by decide))))
  have f_o0_1_elementData := (F_elementData_o0.other W2 (Or.inr (slot_ne (Or.inl (oW hw 29 rfl)) (Or.inl (oW hw 26 rfl)) (by decide) (t := (.array (.object "java/lang/Object"))) (t' := .int) (by decide) (by decide))))
  obtain ⟨fs, hr, hrun, hended, hW, hsame⟩ := X2.leave (v := none) (fun _ => rfl)
  refine ⟨_, _, pre0 _ ?_, hrun, hended, _, _, rfl, ?_, ⟨_, rfl⟩, hW, hsame.mono (by decide) (by decide)⟩
  · show oS p e below s₁ m 0 #[vR o0] [] _
    refine XS.aloadN X0.here hx rfl (hb hby d3_0) rfl rfl ?_
    show oS p e below s₁ m 1 #[vR o0] [(.ref o0)] _
    refine st1.trans ?_
    show oS p e below T1 m 4 #[vR o0] [] _
    refine XS.aloadN X1.here hx rfl (hb hby d3_4) rfl rfl ?_
    refine XS.iconst X1.here hx rfl (hb hby d3_5) ?_
    show oS p e below T1 m 6 #[vR o0] [(.int 0), (.ref o0)] _
    refine st2 _ ?_
    show oS p e below T2 m 9 #[vR o0] [] _
    exact X2.returnOut hx Bd.returns (hb hby d3_9) hr
  · show own_QAbL Z o0 h0 n0 _ T2.heap _
    rw [e2]
    exact ⟨rfl, N2, ((Keep.refl h0 [o0]).wr W2 (Or.inl (List.mem_of_getElem? (i := 0) rfl))), Fw2, f_o0_1_size, f_o0_1_elementData⟩
theorem d2_0 : decode jdk_38_method_2_code 0 = .ok (.aload_n 0, 1) := by decide +kernel
theorem d2_1 : decode jdk_38_method_2_code 1 = .ok (.invokespecial 1, 3) := by decide +kernel
theorem d2_4 : decode jdk_38_method_2_code 4 = .ok (.aload_n 0, 1) := by decide +kernel
theorem d2_5 : decode jdk_38_method_2_code 5 = .ok (.getstatic 39, 3) := by decide +kernel
theorem d2_8 : decode jdk_38_method_2_code 8 = .ok (.putfield 9, 3) := by decide +kernel
theorem d2_11 : decode jdk_38_method_2_code 11 = .ok (.return_, 1) := by decide +kernel
theorem ef_2 (m : MethodId) (x0 : Addr) : entryFrame m #[(.ref x0)] 1 = mkF m 0 #[.val (.ref x0)] [] := by first | (simp [entryFrame, mkF, argsToLocals, Value.category]; done) | rfl
theorem pn_2 : plainName "java/util/ArrayList" = true := by first | (simp [plainName, overriddenIn]; done) | decide +kernel
theorem rmA0 (l : Launch) (Z : State) (a0 : Array Value) (hw : HW a0 Z) (ws : List Jvm.Cond) (o0 : Addr) (ad : Addr) (kd : ClassId) (h0 : Heap) (n0 : Nat) (O0 : Old Z n0 h0) (E_o0 : Exa Z h0 o0 "java/util/ArrayList") (F_modCount_o0 : Fld Z h0 o0 "java/util/AbstractList" "modCount" "I" (.int 0)) (F_size_o0 : Fld Z h0 o0 "java/util/ArrayList" "size" "I" (.int 0)) (F_elementData_o0 : Fld Z h0 o0 "java/util/ArrayList" "elementData" "[Ljava/lang/Object;" .null) (g_o0 : n0 ≤ o0) (S_DE : Sta Z Z.heap "java/util/ArrayList" "DEFAULTCAPACITY_EMPTY_ELEMENTDATA" "[Ljava/lang/Object;" (.ref ad)) (V_ad : Arv Z Z.heap ad kd (.object "java/lang/Object") (0 : Int32) [] .null) :
    oM l Z mN2 jdk_38_method_2_code 1 none ws (rM 3 0 0 36) #[(.ref o0)] h0 (own_QA0 Z o0 ad h0 n0) := by
  refine MetFree.of_bodySF (plainFor_of_name pn_2) hisR ?_
  intro p e s m args below meth c s₁ Bd hml0 hP hK
  obtain ⟨rfl, hZ, hh⟩ := hP
  have hx := Bd.exec
  have hby := Bd.bytes
  have hml : c.maxLocals = 1 := hml0
  have hown : s.vm.findClass "java/util/ArrayList" = some m.cls := findClass_of_methodNamed Bd.named
  have X0 : Stand p l e (rM 3 0 0 36) s m #[(.ref o0)] below meth c s₁ [] 0 0 := Stand.of_body Bd
  have e0 : s₁.heap = h0 := by rw [← hh, Bd.state]; rfl
  have N0 := Fr.nil n0
  have pre0 := fun t (k : oS p e below s₁ m 0 #[vR o0] [] t) => castTop (ef_2 m o0) k
  obtain ⟨_, _, ⟨T1, L1, k1, n1⟩, -, X1, ⟨Lc1, hQ1, l1, y1, z1⟩, st1⟩ := X0.specialBack hx (y := mN1) rfl hown (mvT hZ (oW hw 10 rfl)) (mvT hZ (oW hw 11 rfl)) (mvT hZ (oW hw 15 rfl)) (by decide) (backOf (W := 0) (rmAbL l Z a0 hw [] o0  h0 n0 O0 E_o0 F_modCount_o0 F_size_o0 F_elementData_o0 g_o0) hZ (oW hw 15 rfl) (oW hw 14 rfl) (by decide) (by decide)) (g := (mkF m 1 #[vR o0] [(.ref o0)])) rfl (by rw [hml]; rfl) (Steps.refl _) (a := o0) (argsL := []) (rest := []) (lenOf pd_0 rfl) rfl (by show 2 * 0 + _ ≤ _; exact Nat.le_of_eq rfl) (hb hby d2_1) (fun _ _ => ⟨rfl, e0, (by decide : 0 + 0 ≤ _), (by decide : 0 + 0 ≤ _)⟩)
  dsimp only [Pt.U, Pt.locs, Pt.cells, Pt.slots] at X1 l1 y1 z1 st1 hQ1
  subst l1 y1 z1
  obtain ⟨rfl, N1q, K1, Fm1, Fs1, Fe1⟩ := hQ1
  have N1 := Fr.app N0 N1q
  have O1 := O0.keep K1 (allS g_o0 all0)
  obtain ⟨T2, X2, e2, st2⟩ := getS2 X1 hx hZ hown (host := "") (Or.inl (oW hw 27 rfl)) Via.refl rfl (S_DE.ext O1.2) (g := (mkF m 5 #[vR o0] [(.ref o0)])) rfl (hb hby d2_5)
  obtain ⟨T3, h3, X3, e3, W3, st3⟩ := putF X2 hx hZ hown (host := "") (Or.inl (oW hw 28 rfl)) Via.refl e2 Fe1 (E_o0.keep K1) (Or.inl (oW hw 29 rfl)) (oW hw 5 rfl) (ty := (.array (.object "java/lang/Object"))) (by decide) rfl rfl (g := (mkF m 8 #[vR o0] [(.ref ad), (.ref o0)])) rfl rfl (hb hby d2_8)
  have O3 := O1.wr W3 g_o0
  have Fw3 := Fe1.same W3
  have N3 := Fr.snoc X3 N1 g_o0
  have f_o0_2_modCount := (Fm1.other W3 (Or.inr (slot_ne (Or.inl (oW hw 26 rfl)) (Or.inl (oW hw 29 rfl)) (by decide) (t := .int) (t' := (.array (.object "java/lang/Object"))) (by decide) (by decide))))
  have f_o0_2_size := (Fs1.other W3 (Or.inr (slot_ne (Or.inl (oW hw 63 rfl)) (Or.inl (oW hw 29 rfl)) (by decide) (t := .int) (t' := (.array (.object "java/lang/Object"))) (by decide) (by decide))))
  obtain ⟨fs, hr, hrun, hended, hW, hsame⟩ := X3.leave (v := none) (fun _ => rfl)
  refine ⟨_, _, pre0 _ ?_, hrun, hended, _, _, rfl, ?_, ⟨_, rfl⟩, hW, hsame.mono (by decide) (by decide)⟩
  · show oS p e below s₁ m 0 #[vR o0] [] _
    refine XS.aloadN X0.here hx rfl (hb hby d2_0) rfl rfl ?_
    show oS p e below s₁ m 1 #[vR o0] [(.ref o0)] _
    refine st1.trans ?_
    show oS p e below T1 m 4 #[vR o0] [] _
    refine XS.aloadN X1.here hx rfl (hb hby d2_4) rfl rfl ?_
    show oS p e below T1 m 5 #[vR o0] [(.ref o0)] _
    refine st2 _ ?_
    show oS p e below T2 m 8 #[vR o0] [(.ref ad), (.ref o0)] _
    refine st3 _ ?_
    show oS p e below T3 m 11 #[vR o0] [] _
    exact X3.returnOut hx Bd.returns (hb hby d2_11) hr
  · show own_QA0 Z o0 ad h0 n0 _ T3.heap _
    rw [e3]
    exact ⟨rfl, N3, (((Keep.refl h0 [o0]).trans K1 (allS (Or.inl (List.mem_of_getElem? (i := 0) rfl)) all0)).wr W3 (Or.inl (List.mem_of_getElem? (i := 0) rfl))), f_o0_2_modCount, f_o0_2_size, Fw3⟩
def own_QB (h0 : Heap) (n0 : Nat) (v : Option Value) (h : Heap) (L : List Loc) : Prop := ∃ b : Addr, v = some (.ref b) ∧ Fr n0 L ∧ Keep h0 h [] ∧ h0.size ≤ b
def own_QV (Z : State)  (h0 : Heap) (n0 : Nat) (v : Option Value) (h : Heap) (L : List Loc) : Prop := ∃ b : Addr, v = some (.ref b) ∧ Fr n0 L ∧ Keep h0 h [] ∧ Exa Z h b "java/lang/String" ∧ h0.size ≤ b
theorem d7_0 : decode jdk_43_method_3_code 0 = .ok (.iload_n 0, 1) := by decide +kernel
theorem d7_1 : decode jdk_43_method_3_code 1 = .ok (.sipush 255, 3) := by decide +kernel
theorem d7_4 : decode jdk_43_method_3_code 4 = .ok (.if_icmp .gt 7, 3) := by decide +kernel
theorem d7_7 : decode jdk_43_method_3_code 7 = .ok (.iconst 1, 1) := by decide +kernel
theorem d7_8 : decode jdk_43_method_3_code 8 = .ok (.goto 4, 3) := by decide +kernel
theorem d7_12 : decode jdk_43_method_3_code 12 = .ok (.ireturn, 1) := by decide +kernel
theorem ef_7 (m : MethodId) (x0 : Int32) : entryFrame m #[(.int x0)] 1 = mkF m 0 #[.val (.int x0)] [] := by first | (simp [entryFrame, mkF, argsToLocals, Value.category]; done) | rfl
theorem pn_7 : plainName "java/lang/StringLatin1" = true := by first | (simp [plainName, overriddenIn]; done) | decide +kernel
theorem rmCE (l : Launch) (Z : State) (a0 : Array Value) (hw : HW a0 Z) (ws : List Jvm.Cond) (p0 : Int32) (h0 : Heap) (n0 : Nat) (O0 : Old Z n0 h0) (hc4 : ¬ ((255 : Int32) < p0)) :
    oM l Z mN3 jdk_43_method_3_code 1 (some .boolean) ws (rM 0 0 0 0) #[(.int p0)] h0 (own_Q (.int 1) h0 n0) := by
  refine MetFree.of_bodySF (plainFor_of_name pn_7) hisR ?_
  intro p e s m args below meth c s₁ Bd hml0 hP hK
  obtain ⟨rfl, hZ, hh⟩ := hP
  have hx := Bd.exec
  have hby := Bd.bytes
  have hml : c.maxLocals = 1 := hml0
  have hown : s.vm.findClass "java/lang/StringLatin1" = some m.cls := findClass_of_methodNamed Bd.named
  have X0 : Stand p l e (rM 0 0 0 0) s m #[(.int p0)] below meth c s₁ [] 0 0 := Stand.of_body Bd
  have e0 : s₁.heap = h0 := by rw [← hh, Bd.state]; rfl
  have N0 := Fr.nil n0
  have pre0 := fun t (k : oS p e below s₁ m 0 #[vI p0] [] t) => castTop (ef_7 m p0) k
  obtain ⟨fs, hr, hrun, hended, hW, hsame⟩ := X0.leave (v := some (.int 1)) (fun h => by rw [Bd.returns] at h; cases h)
  refine ⟨_, _, pre0 _ ?_, hrun, hended, _, _, rfl, ?_, ⟨_, rfl⟩, hW, hsame.mono (by decide) (by decide)⟩
  · show oS p e below s₁ m 0 #[vI p0] [] _
    refine XS.iloadN X0.here hx rfl (hb hby d7_0) rfl ?_
    refine XS.sipush X0.here hx rfl (hb hby d7_1) ?_
    refine XS.icmpNo X0.here hx rfl (hb hby d7_4) rfl (flt hc4).2.2.1 ?_
    show oS p e below s₁ m 7 #[vI p0] [] _
    refine XS.iconst X0.here hx rfl (hb hby d7_7) ?_
    refine XS.goto X0.here hx rfl (pc0 := 8) (pc' := 12) rfl (hb hby d7_8) (by decide) (by decide) ?_
    show oS p e below s₁ m 12 #[vI p0] [(.int 1)] _
    exact retN X0 hx (t := .boolean) Bd.returns (by simp) (hb hby d7_12) hr
  · show own_Q (.int 1) h0 n0 _ s₁.heap _
    rw [e0]
    exact ⟨rfl, N0, rfl⟩
theorem d8_0 : decode jdk_43_method_46_code 0 = .ok (.iconst 1, 1) := by decide +kernel
theorem d8_1 : decode jdk_43_method_46_code 1 = .ok (.newarray .byte, 2) := by decide +kernel
theorem d8_3 : decode jdk_43_method_46_code 3 = .ok (.dup, 1) := by decide +kernel
theorem d8_4 : decode jdk_43_method_46_code 4 = .ok (.iconst 0, 1) := by decide +kernel
theorem d8_5 : decode jdk_43_method_46_code 5 = .ok (.iload_n 0, 1) := by decide +kernel
theorem d8_6 : decode jdk_43_method_46_code 6 = .ok (.i2b, 1) := by decide +kernel
theorem d8_7 : decode jdk_43_method_46_code 7 = .ok (.bastore, 1) := by decide +kernel
theorem d8_8 : decode jdk_43_method_46_code 8 = .ok (.areturn, 1) := by decide +kernel
theorem ef_8 (m : MethodId) (x0 : Int32) : entryFrame m #[(.int x0)] 1 = mkF m 0 #[.val (.int x0)] [] := by first | (simp [entryFrame, mkF, argsToLocals, Value.category]; done) | rfl
theorem pn_8 : plainName "java/lang/StringLatin1" = true := by first | (simp [plainName, overriddenIn]; done) | decide +kernel
theorem rmTB (l : Launch) (Z : State) (a0 : Array Value) (hw : HW a0 Z) (ws : List Jvm.Cond) (p0 : Int32) (h0 : Heap) (n0 : Nat) (O0 : Old Z n0 h0) :
    oM l Z mN4 jdk_43_method_46_code 1 (some (.array .byte)) ws (rM 0 1 1 0) #[(.int p0)] h0 (own_QB h0 n0) := by
  refine MetFree.of_bodySF (plainFor_of_name pn_8) hisR ?_
  intro p e s m args below meth c s₁ Bd hml0 hP hK
  obtain ⟨rfl, hZ, hh⟩ := hP
  have hx := Bd.exec
  have hby := Bd.bytes
  have hml : c.maxLocals = 1 := hml0
  have hown : s.vm.findClass "java/lang/StringLatin1" = some m.cls := findClass_of_methodNamed Bd.named
  have X0 : Stand p l e (rM 0 1 1 0) s m #[(.int p0)] below meth c s₁ [] 0 0 := Stand.of_body Bd
  have e0 : s₁.heap = h0 := by rw [← hh, Bd.state]; rfl
  have N0 := Fr.nil n0
  have pre0 := fun t (k : oS p e below s₁ m 0 #[vI p0] [] t) => castTop (ef_8 m p0) k
  obtain ⟨T1, h1, k1, X1, e1, E1, A1, st1⟩ := newP X0 hx hZ (oW hw 45 rfl) e0 (g := (mkF m 1 #[vI p0] [(.int 1)])) rfl (hb hby d8_1) rfl (by decide) (cap := 1) (by decide) (by decide) (by decide) (by decide)
  obtain ⟨b1, g1⟩ : ∃ z, z = h0.size := ⟨_, rfl⟩
  rw [← g1] at A1 st1
  have g_b1 : n0 ≤ b1 := Nat.le_trans (own_le O0) (Nat.le_of_eq g1.symm)
  have O1 := O0.ext E1
  have V_b1 : Arv Z h1 b1 k1 .byte (1 : Int32) [(.int 0)] (.int 0) := (Arv.new A1 (by decide)).pad (pad_rep [] (.int 0) 1)
  obtain ⟨cl2, Ar2, qa2, Sz2, Ng2, Hs2, Ft2⟩ := V_b1
  obtain ⟨T2, h2, X2, e2, W2, st2⟩ := stB X1 hx hZ e1 Ar2 (j := (0 : Int32)) (inb_of Sz2 ⟨by decide, by decide⟩) (g := (mkF m 7 #[vI p0] [(.int (p0.toInt8.toInt32)), (.int 0), (.ref b1), (.ref b1)])) rfl rfl (hb hby d8_7)
  have O2 := O1.wr W2 g_b1
  have N2 := Fr.snoc X2 N0 g_b1
  have V2 : Arv Z h2 b1 k1 .byte (1 : Int32) [(.int (nar .byte (p0.toInt8.toInt32)))] (.int 0) := Arv.set Ar2 qa2 Sz2 Ng2 Hs2 Ft2 (fits_nar_byte _) W2 0 rfl (Nat.le_of_ble_eq_true rfl)
  obtain ⟨fs, hr, hrun, hended, hW, hsame⟩ := X2.leave (v := some (.ref b1)) (fun h => by rw [Bd.returns] at h; cases h)
  refine ⟨_, _, pre0 _ ?_, hrun, hended, _, _, rfl, ?_, ⟨_, rfl⟩, hW, hsame.mono (by decide) (by decide)⟩
  · show oS p e below s₁ m 0 #[vI p0] [] _
    refine XS.iconst X0.here hx rfl (hb hby d8_0) ?_
    show oS p e below s₁ m 1 #[vI p0] [(.int 1)] _
    refine st1 _ ?_
    show oS p e below T1 m 3 #[vI p0] [(.ref b1)] _
    refine XS.dup X1.here hx rfl (hb hby d8_3) rfl rfl ?_
    refine XS.iconst X1.here hx rfl (hb hby d8_4) ?_
    refine XS.iloadN X1.here hx rfl (hb hby d8_5) rfl ?_
    show oS p e below T1 m 6 #[vI p0] [(.int p0), (.int 0), (.ref b1), (.ref b1)] _
    refine XS.i2b X1.here hx rfl (hb hby d8_6) rfl ?_
    show oS p e below T1 m 7 #[vI p0] [(.int (p0.toInt8.toInt32)), (.int 0), (.ref b1), (.ref b1)] _
    refine st2 _ ?_
    show Steps p.tables e below (T2.setTop (mkF m 8 #[vI p0] [(.ref b1)])) _
    jvm_step X2.here [X2.here.top, hx, (hb hby d8_8), X2.method', Bd.returns, Value.isRef, FieldType.isReference]
    first | (intro acts; rw [hr _ acts rfl rfl rfl]) | rw [hr _ _ rfl rfl rfl]
    exact Steps.refl _
  · show own_QB h0 n0 _ T2.heap _
    rw [e2]
    exact ⟨b1, rfl, N2, (((Keep.refl h0 []).ext E1).wr W2 (Or.inr (Nat.le_of_eq g1.symm))), (Nat.le_of_eq g1.symm)⟩
def own_QSB (Z : State) (o t : Addr) (h0 : Heap) (n0 : Nat) (v : Option Value) (h : Heap) (L : List Loc) : Prop := v = none ∧ Fr n0 L ∧ Keep h0 h [o] ∧ Fld Z h o "java/lang/String" "value" "[B" (.ref t) ∧ Fld Z h o "java/lang/String" "coder" "B" (.int 0)
theorem d9_0 : decode jdk_42_method_151_code 0 = .ok (.aload_n 0, 1) := by decide +kernel
theorem d9_1 : decode jdk_42_method_151_code 1 = .ok (.invokespecial 1, 3) := by decide +kernel
theorem d9_4 : decode jdk_42_method_151_code 4 = .ok (.aload_n 0, 1) := by decide +kernel
theorem d9_5 : decode jdk_42_method_151_code 5 = .ok (.aload_n 1, 1) := by decide +kernel
theorem d9_6 : decode jdk_42_method_151_code 6 = .ok (.putfield 9, 3) := by decide +kernel
theorem d9_9 : decode jdk_42_method_151_code 9 = .ok (.aload_n 0, 1) := by decide +kernel
theorem d9_10 : decode jdk_42_method_151_code 10 = .ok (.iload_n 2, 1) := by decide +kernel
theorem d9_11 : decode jdk_42_method_151_code 11 = .ok (.putfield 15, 3) := by decide +kernel
theorem d9_14 : decode jdk_42_method_151_code 14 = .ok (.return_, 1) := by decide +kernel
theorem ef_9 (m : MethodId) (x0 : Addr) (x1 : Addr) (x2 : Int32) : entryFrame m #[(.ref x0), (.ref x1), (.int x2)] 3 = mkF m 0 #[.val (.ref x0), .val (.ref x1), .val (.int x2)] [] := by first | (simp [entryFrame, mkF, argsToLocals, Value.category]; done) | rfl
theorem pn_9 : plainName "java/lang/String" = true := by first | (simp [plainName, overriddenIn]; done) | decide +kernel
theorem rmSB (l : Launch) (Z : State) (a0 : Array Value) (hw : HW a0 Z) (ws : List Jvm.Cond) (o0 : Addr) (o1 : Addr) (h0 : Heap) (n0 : Nat) (O0 : Old Z n0 h0) (E_o0 : Exa Z h0 o0 "java/lang/String") (U_o0 : Unt h0 o0) (g_o0 : n0 ≤ o0) :
    oM l Z mN5 jdk_42_method_151_code 3 none ws (rM 1 0 0 12) #[(.ref o0), (.ref o1), (.int 0)] h0 (own_QSB Z o0 o1 h0 n0) := by
  refine MetFree.of_bodySF (plainFor_of_name pn_9) hisR ?_
  intro p e s m args below meth c s₁ Bd hml0 hP hK
  obtain ⟨rfl, hZ, hh⟩ := hP
  have hx := Bd.exec
  have hby := Bd.bytes
  have hml : c.maxLocals = 3 := hml0
  have hown : s.vm.findClass "java/lang/String" = some m.cls := findClass_of_methodNamed Bd.named
  have hnm := (name_of_methodNamed Bd.named Bd.method).1
  have X0 : Stand p l e (rM 1 0 0 12) s m #[(.ref o0), (.ref o1), (.int 0)] below meth c s₁ [] 0 0 := Stand.of_body Bd
  have e0 : s₁.heap = h0 := by rw [← hh, Bd.state]; rfl
  have N0 := Fr.nil n0
  have pre0 := fun t (k : oS p e below s₁ m 0 #[vR o0, vR o1, vI 0] [] t) => castTop (ef_9 m o0 o1 (0 : Int32)) k
  obtain ⟨T1, X1, e1, st1⟩ := initO X0 hx hZ hown (oW hw 50 rfl) (oW hw 23 rfl) (oW hw 24 rfl) e0 (g := (mkF m 1 #[vR o0, vR o1, vI 0] [(.ref o0)])) rfl (by rw [hml]; rfl) rfl (hb hby d9_1) (by decide) (W := 0) (by show 2 * 0 + _ ≤ _; exact Nat.le_of_eq rfl) (by decide)
  obtain ⟨uo2, Fo2⟩ := fld_laid E_o0 (Unt.known U_o0) (oW hw 41 rfl) (Or.inr (oW hw 52 rfl))
  obtain ⟨T2, h2, X2, e2, W2, st2⟩ := putF X1 hx hZ hown (host := "") (Or.inl (oW hw 51 rfl)) Via.refl e1 Fo2 E_o0 (Or.inr ⟨(oW hw 52 rfl), rfl, hnm⟩) (oW hw 41 rfl) (ty := (.array .byte)) (by decide) rfl rfl (g := (mkF m 6 #[vR o0, vR o1, vI 0] [(.ref o1), (.ref o0)])) rfl rfl (hb hby d9_6)
  have O2 := O0.wr W2 g_o0
  have Fw2 := Fo2.same W2
  have N2 := Fr.snoc X2 N0 g_o0
  obtain ⟨uo3, Fo3⟩ := fld_laid (E_o0.wr W2) (Unt.known (Unt.wr W2 U_o0)) (oW hw 41 rfl) (Or.inr (oW hw 54 rfl))
  obtain ⟨T3, h3, X3, e3, W3, st3⟩ := putFN X2 hx hZ hown (oW hw 53 rfl) Via.refl e2 Fo3 (E_o0.wr W2) (Or.inr ⟨(oW hw 54 rfl), rfl, hnm⟩) (oW hw 41 rfl) (ty := .byte) (v' := (.int 0)) (by decide) rfl (by decide) (g := (mkF m 11 #[vR o0, vR o1, vI 0] [(.int 0), (.ref o0)])) rfl rfl (hb hby d9_11)
  have O3 := O2.wr W3 g_o0
  have Fw3 := Fo3.same W3
  have N3 := Fr.snoc X3 N2 g_o0
  have f_o0_2_value := (Fw2.other W3 (Or.inr (slot_ne (Or.inr (oW hw 52 rfl)) (Or.inr (oW hw 54 rfl)) (by decide) (t := (.array .byte)) (t' := .byte) (by decide) (by decide))))
  obtain ⟨fs, hr, hrun, hended, hW, hsame⟩ := X3.leave (v := none) (fun _ => rfl)
  refine ⟨_, _, pre0 _ ?_, hrun, hended, _, _, rfl, ?_, ⟨_, rfl⟩, hW, hsame.mono (by decide) (by decide)⟩
  · show oS p e below s₁ m 0 #[vR o0, vR o1, vI 0] [] _
    refine XS.aloadN X0.here hx rfl (hb hby d9_0) rfl rfl ?_
    show oS p e below s₁ m 1 #[vR o0, vR o1, vI 0] [(.ref o0)] _
    refine st1 _ ?_
    show oS p e below T1 m 4 #[vR o0, vR o1, vI 0] [] _
    refine XS.aloadN X1.here hx rfl (hb hby d9_4) rfl rfl ?_
    refine XS.aloadN X1.here hx rfl (hb hby d9_5) rfl rfl ?_
    show oS p e below T1 m 6 #[vR o0, vR o1, vI 0] [(.ref o1), (.ref o0)] _
    refine st2 _ ?_
    show oS p e below T2 m 9 #[vR o0, vR o1, vI 0] [] _
    refine XS.aloadN X2.here hx rfl (hb hby d9_9) rfl rfl ?_
    refine XS.iloadN X2.here hx rfl (hb hby d9_10) rfl ?_
    show oS p e below T2 m 11 #[vR o0, vR o1, vI 0] [(.int 0), (.ref o0)] _
    refine st3 _ ?_
    show oS p e below T3 m 14 #[vR o0, vR o1, vI 0] [] _
    exact X3.returnOut hx Bd.returns (hb hby d9_14) hr
  · show own_QSB Z o0 o1 h0 n0 _ T3.heap _
    rw [e3]
    exact ⟨rfl, N3, (((Keep.refl h0 [o0]).wr W2 (Or.inl (List.mem_of_getElem? (i := 0) rfl))).wr W3 (Or.inl (List.mem_of_getElem? (i := 0) rfl))), f_o0_2_value, Fw3⟩
theorem d6_0 : decode jdk_42_method_139_code 0 = .ok (.getstatic 38, 3) := by decide +kernel
theorem d6_3 : decode jdk_42_method_139_code 3 = .ok (.ifCond .eq 23, 3) := by decide +kernel
theorem d6_6 : decode jdk_42_method_139_code 6 = .ok (.iload_n 0, 1) := by decide +kernel
theorem d6_7 : decode jdk_42_method_139_code 7 = .ok (.invokestatic 1015, 3) := by decide +kernel
theorem pd_1 : parseMethodDescriptor "(C)Z" = some ⟨[.char], some .boolean⟩ := by decide +kernel
theorem d6_10 : decode jdk_42_method_139_code 10 = .ok (.ifCond .eq 16, 3) := by decide +kernel
theorem d6_13 : decode jdk_42_method_139_code 13 = .ok (.new 10, 3) := by decide +kernel
theorem d6_16 : decode jdk_42_method_139_code 16 = .ok (.dup, 1) := by decide +kernel
theorem d6_17 : decode jdk_42_method_139_code 17 = .ok (.iload_n 0, 1) := by decide +kernel
theorem d6_18 : decode jdk_42_method_139_code 18 = .ok (.invokestatic 1018, 3) := by decide +kernel
theorem pd_2 : parseMethodDescriptor "(C)[B" = some ⟨[.char], some (.array .byte)⟩ := by decide +kernel
theorem d6_21 : decode jdk_42_method_139_code 21 = .ok (.iconst 0, 1) := by decide +kernel
theorem d6_22 : decode jdk_42_method_139_code 22 = .ok (.invokespecial 209, 3) := by decide +kernel
theorem pd_3 : parseMethodDescriptor "([BB)V" = some ⟨[(.array .byte), .byte], none⟩ := by decide +kernel
theorem d6_25 : decode jdk_42_method_139_code 25 = .ok (.areturn, 1) := by decide +kernel
theorem ef_6 (m : MethodId) (x0 : Int32) : entryFrame m #[(.int x0)] 1 = mkF m 0 #[.val (.int x0)] [] := by first | (simp [entryFrame, mkF, argsToLocals, Value.category]; done) | rfl
theorem pn_6 : plainName "java/lang/String" = true := by first | (simp [plainName, overriddenIn]; done) | decide +kernel
theorem rmVo (l : Launch) (Z : State) (a0 : Array Value) (hw : HW a0 Z) (ws : List Jvm.Cond) (p0 : Int32) (zc : Int32) (h0 : Heap) (n0 : Nat) (O0 : Old Z n0 h0) (S_CS : Sta Z Z.heap "java/lang/String" "COMPACT_STRINGS" "Z" (.int zc)) (hzc : ¬ zc = 0) (hp : ¬ (255 : Int32) < p0) :
    oM l Z mN6 jdk_42_method_139_code 1 (some (.object "java/lang/String")) ws (rM 2 2 5 27) #[(.int p0)] h0 (own_QV Z h0 n0) := by
  refine MetFree.of_bodySF (plainFor_of_name pn_6) hisR ?_
  intro p e s m args below meth c s₁ Bd hml0 hP hK
  obtain ⟨rfl, hZ, hh⟩ := hP
  have hx := Bd.exec
  have hby := Bd.bytes
  have hml : c.maxLocals = 1 := hml0
  have hown : s.vm.findClass "java/lang/String" = some m.cls := findClass_of_methodNamed Bd.named
  have X0 : Stand p l e (rM 2 2 5 27) s m #[(.int p0)] below meth c s₁ [] 0 0 := Stand.of_body Bd
  have e0 : s₁.heap = h0 := by rw [← hh, Bd.state]; rfl
  have N0 := Fr.nil n0
  have pre0 := fun t (k : oS p e below s₁ m 0 #[vI p0] [] t) => castTop (ef_6 m p0) k
  obtain ⟨T1, X1, e1, st1⟩ := getS2 X0 hx hZ hown (host := "") (Or.inl (oW hw 35 rfl)) Via.refl e0 (S_CS.ext O0.2) (g := (mkF m 0 #[vI p0] [])) rfl (hb hby d6_0)
  obtain ⟨_, _, ⟨T2, L2, k2, n2⟩, -, X2, ⟨Lc2, hQ2, l2, y2, z2⟩, st2⟩ := Jvm.LawKit.callS X1 hx (y := mN3) hown (mvT hZ (oW hw 36 rfl)) (mvT hZ (oW hw 37 rfl)) (mvT hZ (oW hw 38 rfl)) (mvT hZ (oW hw 39 rfl)) (by decide) (backOf (W := 0) (rmCE l Z a0 hw [] p0  h0 n0 O0 hp) hZ (oW hw 39 rfl) (oW hw 38 rfl) (by decide) (by decide)) (g := (mkF m 7 #[vI p0] [(.int p0)])) rfl (by rw [hml]; rfl) (argsL := [(.int p0)]) (rest := []) (lenOf pd_1 rfl) rfl (by show 2 * 0 + _ ≤ _; exact Nat.le_of_eq rfl) (hb hby d6_7) (fun _ _ => ⟨rfl, e1, (by decide : 0 + 0 ≤ _), (by decide : 0 + 0 ≤ _)⟩)
  dsimp only [Pt.U, Pt.locs, Pt.cells, Pt.slots] at X2 l2 y2 z2 st2 hQ2
  subst l2 y2 z2
  obtain ⟨rfl, N2q, e2⟩ := hQ2
  have N2 := Fr.app N0 N2q
  obtain ⟨T3, h3, X3, e3, E3, A3, D3, U3, st3⟩ := newO X2 hx hZ hown (oW hw 40 rfl) (oW hw 41 rfl) (oW hw 33 rfl) e2 (g := (mkF m 13 #[vI p0] [])) rfl (hb hby d6_13) (by decide) (by decide)
  obtain ⟨b3, g3⟩ : ∃ z, z = h0.size := ⟨_, rfl⟩
  rw [← g3] at A3 D3 U3 st3
  have Ut3 : Unt h3 b3 := U3
  have g_b3 : n0 ≤ b3 := Nat.le_trans (own_le O0) (Nat.le_of_eq g3.symm)
  have O3 := O0.ext E3
  have F_value_b3 : Fld Z h3 b3 "java/lang/String" "value" "[B" .null := D3 (Or.inr (oW hw 52 rfl)) (ty := (.array .byte)) (by decide)
  have F_coder_b3 : Fld Z h3 b3 "java/lang/String" "coder" "B" (.int 0) := D3 (Or.inr (oW hw 54 rfl)) (ty := .byte) (by decide)
  obtain ⟨_, _, ⟨T4, L4, k4, n4⟩, -, X4, ⟨Lc4, hQ4, l4, y4, z4⟩, st4⟩ := Jvm.LawKit.callS X3 hx (y := mN4) hown (mvT hZ (oW hw 42 rfl)) (mvT hZ (oW hw 43 rfl)) (mvT hZ (oW hw 38 rfl)) (mvT hZ (oW hw 44 rfl)) (by decide) (backOf (W := 2) (rmTB l Z a0 hw [] p0  h3 n0 O3 ) hZ (oW hw 44 rfl) (oW hw 38 rfl) (by decide) (by decide)) (g := (mkF m 18 #[vI p0] [(.int p0), (.ref b3), (.ref b3)])) rfl (by rw [hml]; rfl) (argsL := [(.int p0)]) (rest := [(.ref b3), (.ref b3)]) (lenOf pd_2 rfl) rfl (by show 2 * 0 + _ ≤ _; exact Nat.le_of_eq rfl) (hb hby d6_18) (fun _ _ => ⟨rfl, e3, (by decide : 1 + 1 ≤ _), (by decide : 4 + 1 ≤ _)⟩)
  dsimp only [Pt.U, Pt.locs, Pt.cells, Pt.slots] at X4 l4 y4 z4 st4 hQ4
  subst l4 y4 z4
  obtain ⟨b4, rfl, N4q, K4, Sb4⟩ := hQ4
  have N4 := Fr.app N2 N4q
  have O4 := O3.keep K4 all0
  obtain ⟨_, _, ⟨T5, L5, k5, n5⟩, -, X5, ⟨Lc5, hQ5, l5, y5, z5⟩, st5⟩ := X4.specialBack hx (y := mN5) rfl hown (mvT hZ (oW hw 46 rfl)) (mvT hZ (oW hw 47 rfl)) (mvT hZ (oW hw 49 rfl)) (by decide) (backOf (W := 1) (rmSB l Z a0 hw [] b3 b4  T4.heap n0 O4 (A3.keep K4) (Ut3.keep K4 nin0) g_b3) hZ (oW hw 49 rfl) (oW hw 33 rfl) (by decide) (by decide)) (g := (mkF m 22 #[vI p0] [(.int 0), (.ref b4), (.ref b3), (.ref b3)])) rfl (by rw [hml]; rfl) (Steps.refl _) (a := b3) (argsL := [(.ref b4), (.int 0)]) (rest := [(.ref b3)]) (lenOf pd_3 rfl) rfl (by show 2 * 0 + _ ≤ _; exact Nat.le_of_eq rfl) (hb hby d6_22) (fun _ _ => ⟨rfl, rfl, (by decide : 2 + 0 ≤ _), (by decide : 5 + 0 ≤ _)⟩)
  dsimp only [Pt.U, Pt.locs, Pt.cells, Pt.slots] at X5 l5 y5 z5 st5 hQ5
  subst l5 y5 z5
  obtain ⟨rfl, N5q, K5, Fv5, Fc5⟩ := hQ5
  have N5 := Fr.app N4 N5q
  have O5 := O4.keep K5 (allS g_b3 all0)
  obtain ⟨fs, hr, hrun, hended, hW, hsame⟩ := X5.leave (v := some (.ref b3)) (fun h => by rw [Bd.returns] at h; cases h)
  refine ⟨_, _, pre0 _ ?_, hrun, hended, _, _, rfl, ?_, ⟨_, rfl⟩, hW, hsame.mono (by decide) (by decide)⟩
  · show oS p e below s₁ m 0 #[vI p0] [] _
    refine st1 _ ?_
    show oS p e below T1 m 3 #[vI p0] [(.int zc)] _
    refine XS.ifNo X1.here hx rfl (hb hby d6_3) rfl ((if0 _ _).trans (feq hzc).1) ?_
    show oS p e below T1 m 6 #[vI p0] [] _
    refine XS.iloadN X1.here hx rfl (hb hby d6_6) rfl ?_
    show oS p e below T1 m 7 #[vI p0] [(.int p0)] _
    refine st2 _ ?_
    show oS p e below T2 m 10 #[vI p0] [(.int 1)] _
    refine XS.ifNo X2.here hx rfl (hb hby d6_10) rfl ((if0 _ _).trans (feq (by decide : ¬ ((1 : Int32) = (0 : Int32)))).1) ?_
    show oS p e below T2 m 13 #[vI p0] [] _
    refine st3 _ ?_
    show oS p e below T3 m 16 #[vI p0] [(.ref b3)] _
    refine XS.dup X3.here hx rfl (hb hby d6_16) rfl rfl ?_
    refine XS.iloadN X3.here hx rfl (hb hby d6_17) rfl ?_
    show oS p e below T3 m 18 #[vI p0] [(.int p0), (.ref b3), (.ref b3)] _
    refine st4 _ ?_
    show oS p e below T4 m 21 #[vI p0] [(.ref b4), (.ref b3), (.ref b3)] _
    refine XS.iconst X4.here hx rfl (hb hby d6_21) ?_
    show oS p e below T4 m 22 #[vI p0] [(.int 0), (.ref b4), (.ref b3), (.ref b3)] _
    refine st5.trans ?_
    show Steps p.tables e below (T5.setTop (mkF m 25 #[vI p0] [(.ref b3)])) _
    jvm_step X5.here [X5.here.top, hx, (hb hby d6_25), X5.method', Bd.returns, Value.isRef, FieldType.isReference]
    first | (intro acts; rw [hr _ acts rfl rfl rfl]) | rw [hr _ _ rfl rfl rfl]
    exact Steps.refl _
  · show own_QV Z h0 n0 _ T5.heap _
    exact ⟨b3, rfl, N5, ((((Keep.refl h0 []).ext E3).trans K4 all0).trans K5 (allS (Or.inr (Nat.le_of_eq g3.symm)) all0)), ((A3.keep K4).keep K5), (Nat.le_of_eq g3.symm)⟩
theorem d14_0 : decode jdk_29_method_65_code 0 = .ok (.iload_n 0, 1) := by decide +kernel
theorem d14_1 : decode jdk_29_method_65_code 1 = .ok (.iload_n 1, 1) := by decide +kernel
theorem d14_2 : decode jdk_29_method_65_code 2 = .ok (.if_icmp .lt 7, 3) := by decide +kernel
theorem d14_5 : decode jdk_29_method_65_code 5 = .ok (.iload_n 0, 1) := by decide +kernel
theorem d14_6 : decode jdk_29_method_65_code 6 = .ok (.goto 4, 3) := by decide +kernel
theorem d14_10 : decode jdk_29_method_65_code 10 = .ok (.ireturn, 1) := by decide +kernel
theorem ef_14 (m : MethodId) (x0 : Int32) (x1 : Int32) : entryFrame m #[(.int x0), (.int x1)] 2 = mkF m 0 #[.val (.int x0), .val (.int x1)] [] := by first | (simp [entryFrame, mkF, argsToLocals, Value.category]; done) | rfl
theorem rmMax (l : Launch) (Z : State) (a0 : Array Value) (hw : HW a0 Z) (ws : List Jvm.Cond)  (h0 : Heap) (n0 : Nat) (O0 : Old Z n0 h0) :
    oM l Z mN7 jdk_29_method_65_code 2 (some .int) ws (rM 0 0 0 0) #[(.int 10), (.int 1)] h0 (own_Q (.int 10) h0 n0) := by
  refine MetFree.of_bodySF (Jvm.Free.JP.mathPlain rfl (by decide +kernel)) hisR ?_
  intro p e s m args below meth c s₁ Bd hml0 hP hK
  obtain ⟨rfl, hZ, hh⟩ := hP
  have hx := Bd.exec
  have hby := Bd.bytes
  have hml : c.maxLocals = 2 := hml0
  have hown : s.vm.findClass "java/lang/Math" = some m.cls := findClass_of_methodNamed Bd.named
  have X0 : Stand p l e (rM 0 0 0 0) s m #[(.int 10), (.int 1)] below meth c s₁ [] 0 0 := Stand.of_body Bd
  have e0 : s₁.heap = h0 := by rw [← hh, Bd.state]; rfl
  have N0 := Fr.nil n0
  have pre0 := fun t (k : oS p e below s₁ m 0 #[vI 10, vI 1] [] t) => castTop (ef_14 m (10 : Int32) (1 : Int32)) k
  obtain ⟨fs, hr, hrun, hended, hW, hsame⟩ := X0.leave (v := some (.int 10)) (fun h => by rw [Bd.returns] at h; cases h)
  refine ⟨_, _, pre0 _ ?_, hrun, hended, _, _, rfl, ?_, ⟨_, rfl⟩, hW, hsame.mono (by decide) (by decide)⟩
  · show oS p e below s₁ m 0 #[vI 10, vI 1] [] _
    refine XS.iloadN X0.here hx rfl (hb hby d14_0) rfl ?_
    refine XS.iloadN X0.here hx rfl (hb hby d14_1) rfl ?_
    refine XS.icmpNo X0.here hx rfl (hb hby d14_2) rfl (flt (by decide : ¬ ((10 : Int32) < (1 : Int32)))).1 ?_
    show oS p e below s₁ m 5 #[vI 10, vI 1] [] _
    refine XS.iloadN X0.here hx rfl (hb hby d14_5) rfl ?_
    refine XS.goto X0.here hx rfl (pc0 := 6) (pc' := 10) rfl (hb hby d14_6) (by decide) (by decide) ?_
    show oS p e below s₁ m 10 #[vI 10, vI 1] [(.int 10)] _
    exact retI X0 hx Bd.returns (hb hby d14_10) hr
  · show own_Q (.int 10) h0 n0 _ s₁.heap _
    rw [e0]
    exact ⟨rfl, N0, rfl⟩
def own_QG (Z : State) (o : Addr) (mc : Int32) (h0 : Heap) (n0 : Nat) (v : Option Value) (h : Heap) (L : List Loc) : Prop := ∃ (b : Addr) (k : ClassId), v = some (.ref b) ∧ Fr n0 L ∧ Keep h0 h [o] ∧ Fld Z h o "java/util/AbstractList" "modCount" "I" (.int mc) ∧ Fld Z h o "java/util/ArrayList" "size" "I" (.int 0) ∧ Fld Z h o "java/util/ArrayList" "elementData" "[Ljava/lang/Object;" (.ref b) ∧ Arv Z h b k (.object "java/lang/Object") (10 : Int32) [.null, .null, .null, .null, .null, .null, .null, .null, .null, .null] .null ∧ Exa Z h b "[Ljava/lang/Object;" ∧ Ovr Z k "java/lang/Object" ∧ h0.size ≤ b
theorem d13_0 : decode jdk_38_method_6_code 0 = .ok (.aload_n 0, 1) := by decide +kernel
theorem d13_1 : decode jdk_38_method_6_code 1 = .ok (.getfield 9, 3) := by decide +kernel
theorem d13_4 : decode jdk_38_method_6_code 4 = .ok (.arraylength, 1) := by decide +kernel
theorem d13_5 : decode jdk_38_method_6_code 5 = .ok (.istore_n 2, 1) := by decide +kernel
theorem d13_6 : decode jdk_38_method_6_code 6 = .ok (.iload_n 2, 1) := by decide +kernel
theorem d13_7 : decode jdk_38_method_6_code 7 = .ok (.ifCond .gt 13, 3) := by decide +kernel
theorem d13_10 : decode jdk_38_method_6_code 10 = .ok (.aload_n 0, 1) := by decide +kernel
theorem d13_11 : decode jdk_38_method_6_code 11 = .ok (.getfield 9, 3) := by decide +kernel
theorem d13_14 : decode jdk_38_method_6_code 14 = .ok (.getstatic 39, 3) := by decide +kernel
theorem d13_17 : decode jdk_38_method_6_code 17 = .ok (.if_acmp .eq 28, 3) := by decide +kernel
theorem d13_45 : decode jdk_38_method_6_code 45 = .ok (.aload_n 0, 1) := by decide +kernel
theorem d13_46 : decode jdk_38_method_6_code 46 = .ok (.bipush 10, 2) := by decide +kernel
theorem d13_48 : decode jdk_38_method_6_code 48 = .ok (.iload_n 1, 1) := by decide +kernel
theorem d13_49 : decode jdk_38_method_6_code 49 = .ok (.invokestatic 79, 3) := by decide +kernel
theorem pd_4 : parseMethodDescriptor "(II)I" = some ⟨[.int, .int], some .int⟩ := by decide +kernel
theorem d13_52 : decode jdk_38_method_6_code 52 = .ok (.anewarray 7, 3) := by decide +kernel
theorem d13_55 : decode jdk_38_method_6_code 55 = .ok (.dup_x1, 1) := by decide +kernel
theorem d13_56 : decode jdk_38_method_6_code 56 = .ok (.putfield 9, 3) := by decide +kernel
theorem d13_59 : decode jdk_38_method_6_code 59 = .ok (.areturn, 1) := by decide +kernel
theorem ef_13 (m : MethodId) (x0 : Addr) (x1 : Int32) : entryFrame m #[(.ref x0), (.int x1)] 4 = mkF m 0 #[.val (.ref x0), .val (.int x1), .unset, .unset] [] := by first | (simp [entryFrame, mkF, argsToLocals, Value.category]; done) | rfl
theorem pn_13 : plainName "java/util/ArrayList" = true := by first | (simp [plainName, overriddenIn]; done) | decide +kernel
theorem rmG1 (l : Launch) (Z : State) (a0 : Array Value) (hw : HW a0 Z) (ws : List Jvm.Cond) (o0 : Addr) (mc : Int32) (ad : Addr) (kd : ClassId) (h0 : Heap) (n0 : Nat) (O0 : Old Z n0 h0) (E_o0 : Exa Z h0 o0 "java/util/ArrayList") (F_modCount_o0 : Fld Z h0 o0 "java/util/AbstractList" "modCount" "I" (.int mc)) (F_size_o0 : Fld Z h0 o0 "java/util/ArrayList" "size" "I" (.int 0)) (F_elementData_o0 : Fld Z h0 o0 "java/util/ArrayList" "elementData" "[Ljava/lang/Object;" (.ref ad)) (g_o0 : n0 ≤ o0) (S_DE : Sta Z Z.heap "java/util/ArrayList" "DEFAULTCAPACITY_EMPTY_ELEMENTDATA" "[Ljava/lang/Object;" (.ref ad)) (V_ad : Arv Z Z.heap ad kd (.object "java/lang/Object") (0 : Int32) [] .null) :
    oM l Z mN8 jdk_38_method_6_code 4 (some (.array (.object "java/lang/Object"))) ws (rM 1 1 10 14) #[(.ref o0), (.int 1)] h0 (own_QG Z o0 mc h0 n0) := by
  refine MetFree.of_bodySF (plainFor_of_name pn_13) hisR ?_
  intro p e s m args below meth c s₁ Bd hml0 hP hK
  obtain ⟨rfl, hZ, hh⟩ := hP
  have hx := Bd.exec
  have hby := Bd.bytes
  have hml : c.maxLocals = 4 := hml0
  have hown : s.vm.findClass "java/util/ArrayList" = some m.cls := findClass_of_methodNamed Bd.named
  have X0 : Stand p l e (rM 1 1 10 14) s m #[(.ref o0), (.int 1)] below meth c s₁ [] 0 0 := Stand.of_body Bd
  have e0 : s₁.heap = h0 := by rw [← hh, Bd.state]; rfl
  have N0 := Fr.nil n0
  have pre0 := fun t (k : oS p e below s₁ m 0 #[vR o0, vI 1, .unset, .unset] [] t) => castTop (ef_13 m o0 (1 : Int32)) k
  obtain ⟨T1, X1, e1, st1⟩ := getF X0 hx hZ hown (host := "") (Or.inl (oW hw 28 rfl)) Via.refl e0 F_elementData_o0 (g := (mkF m 1 #[vR o0, vI 1, .unset, .unset] [(.ref o0)])) rfl rfl (hb hby d13_1)
  obtain ⟨cl2, Ar2, qa2, Sz2, Ng2, Hs2, Ft2⟩ := (V_ad.ext O0.2)
  have V2o : Arv Z h0 ad kd (.object "java/lang/Object") (0 : Int32) [] .null := ⟨cl2, Ar2, qa2, Sz2, Ng2, Hs2, Ft2⟩
  obtain ⟨T3, X3, e3, st3⟩ := getF X1 hx hZ hown (host := "") (Or.inl (oW hw 28 rfl)) Via.refl e1 F_elementData_o0 (g := (mkF m 11 #[vR o0, vI 1, vI 0, .unset] [(.ref o0)])) rfl rfl (hb hby d13_11)
  obtain ⟨T4, X4, e4, st4⟩ := getS2 X3 hx hZ hown (host := "") (Or.inl (oW hw 27 rfl)) Via.refl e3 (S_DE.ext O0.2) (g := (mkF m 14 #[vR o0, vI 1, vI 0, .unset] [(.ref ad)])) rfl (hb hby d13_14)
  obtain ⟨_, _, ⟨T5, L5, k5, n5⟩, -, X5, ⟨Lc5, hQ5, l5, y5, z5⟩, st5⟩ := Jvm.LawKit.callS X4 hx (y := mN7) hown (mvT hZ (oW hw 79 rfl)) (mvT hZ (oW hw 80 rfl)) (mvT hZ (oW hw 81 rfl)) (mvT hZ (oW hw 82 rfl)) (by decide) (backOf (W := 1) (rmMax l Z a0 hw []   h0 n0 O0 ) hZ (oW hw 82 rfl) (oW hw 81 rfl) (by decide) (by decide)) (g := (mkF m 49 #[vR o0, vI 1, vI 0, .unset] [(.int 1), (.int 10), (.ref o0)])) rfl (by rw [hml]; rfl) (argsL := [(.int 10), (.int 1)]) (rest := [(.ref o0)]) (lenOf pd_4 rfl) rfl (by show 2 * 0 + _ ≤ _; exact Nat.le_of_eq rfl) (hb hby d13_49) (fun _ _ => ⟨rfl, e4, (by decide : 0 + 0 ≤ _), (by decide : 0 + 0 ≤ _)⟩)
  dsimp only [Pt.U, Pt.locs, Pt.cells, Pt.slots] at X5 l5 y5 z5 st5 hQ5
  subst l5 y5 z5
  obtain ⟨rfl, N5q, e5⟩ := hQ5
  have N5 := Fr.app N0 N5q
  obtain ⟨T6, h6, k6, X6, e6, E6, A6, Ex6, Ov6, st6⟩ := newRE X5 hx hZ hown (oW hw 83 rfl) (oW hw 84 rfl) e5 (g := (mkF m 52 #[vR o0, vI 1, vI 0, .unset] [(.int 10), (.ref o0)])) rfl (hb hby d13_52) rfl (by decide) (cap := 10) (by decide) (by decide) (by decide) (by decide) (ad := "[Ljava/lang/Object;") (by decide)
  obtain ⟨b6, g6⟩ : ∃ z, z = h0.size := ⟨_, rfl⟩
  rw [← g6] at A6 Ex6 st6
  have g_b6 : n0 ≤ b6 := Nat.le_trans (own_le O0) (Nat.le_of_eq g6.symm)
  have O6 := O0.ext E6
  have V_b6 : Arv Z h6 b6 k6 (.object "java/lang/Object") (10 : Int32) [.null, .null, .null, .null, .null, .null, .null, .null, .null, .null] .null := (Arv.new A6 (by decide)).pad (pad_rep [] .null 10)
  obtain ⟨T7, h7, X7, e7, W7, st7⟩ := putF X6 hx hZ hown (host := "") (Or.inl (oW hw 28 rfl)) Via.refl e6 (F_elementData_o0.ext E6) (E_o0.ext E6) (Or.inl (oW hw 29 rfl)) (oW hw 5 rfl) (ty := (.array (.object "java/lang/Object"))) (by decide) rfl rfl (g := (mkF m 56 #[vR o0, vI 1, vI 0, .unset] [(.ref b6), (.ref o0), (.ref b6)])) rfl rfl (hb hby d13_56)
  have O7 := O6.wr W7 g_o0
  have Fw7 := (F_elementData_o0.ext E6).same W7
  have N7 := Fr.snoc X7 N5 g_o0
  have f_o0_2_modCount := ((F_modCount_o0.ext E6).other W7 (Or.inr (slot_ne (Or.inl (oW hw 26 rfl)) (Or.inl (oW hw 29 rfl)) (by decide) (t := .int) (t' := (.array (.object "java/lang/Object"))) (by decide) (by decide))))
  have f_o0_2_size := ((F_size_o0.ext E6).other W7 (Or.inr (slot_ne (Or.inl (oW hw 63 rfl)) (Or.inl (oW hw 29 rfl)) (by decide) (t := .int) (t' := (.array (.object "java/lang/Object"))) (by decide) (by decide))))
  have v_b6_2_x := (V_b6.other W7 (Ne.symm (Nat.ne_of_lt (Nat.lt_of_lt_of_le F_elementData_o0.lt (Nat.le_of_eq g6.symm)))))
  obtain ⟨fs, hr, hrun, hended, hW, hsame⟩ := X7.leave (v := some (.ref b6)) (fun h => by rw [Bd.returns] at h; cases h)
  refine ⟨_, _, pre0 _ ?_, hrun, hended, _, _, rfl, ?_, ⟨_, rfl⟩, hW, hsame.mono (by decide) (by decide)⟩
  · show oS p e below s₁ m 0 #[vR o0, vI 1, .unset, .unset] [] _
    refine XS.aloadN X0.here hx rfl (hb hby d13_0) rfl rfl ?_
    show oS p e below s₁ m 1 #[vR o0, vI 1, .unset, .unset] [(.ref o0)] _
    refine st1 _ ?_
    show oS p e below T1 m 4 #[vR o0, vI 1, .unset, .unset] [(.ref ad)] _
    refine X1.arraylength hx (by rw [e1]; exact Ar2.1) (State.isArrayOf_alike hZ.alike Ar2.2.1) (g := (mkF m 4 #[vR o0, vI 1, .unset, .unset] [(.ref ad)])) rfl rfl (hb hby d13_4) _ ?_
    rw [len_of Sz2 Ng2]
    show oS p e below T1 m 5 #[vR o0, vI 1, .unset, .unset] [(.int 0)] _
    refine XS.istoreN X1.here hx rfl (hb hby d13_5) rfl (l' := #[vR o0, vI 1, vI 0, .unset]) rfl ?_
    show oS p e below T1 m 6 #[vR o0, vI 1, vI 0, .unset] [] _
    refine XS.iloadN X1.here hx rfl (hb hby d13_6) rfl ?_
    refine XS.ifNo X1.here hx rfl (hb hby d13_7) rfl ((if0 _ _).trans (flt (by decide : ¬ ((0 : Int32) < (0 : Int32)))).2.2.1) ?_
    show oS p e below T1 m 10 #[vR o0, vI 1, vI 0, .unset] [] _
    refine XS.aloadN X1.here hx rfl (hb hby d13_10) rfl rfl ?_
    show oS p e below T1 m 11 #[vR o0, vI 1, vI 0, .unset] [(.ref o0)] _
    refine st3 _ ?_
    show oS p e below T3 m 14 #[vR o0, vI 1, vI 0, .unset] [(.ref ad)] _
    refine st4 _ ?_
    show oS p e below T4 m 17 #[vR o0, vI 1, vI 0, .unset] [(.ref ad), (.ref ad)] _
    refine Jvm.RoadKit.acmp (g := (mkF m 17 #[vR o0, vI 1, vI 0, .unset] [(.ref ad), (.ref ad)])) X4 hx rfl rfl rfl (pc0 := 17) (pc' := 45) (same := true) rfl (hb hby d13_17) rfl (decide_eq_true rfl) (by decide) (by decide) ?_
    show oS p e below T4 m 45 #[vR o0, vI 1, vI 0, .unset] [] _
    refine XS.aloadN X4.here hx rfl (hb hby d13_45) rfl rfl ?_
    refine XS.bipush X4.here hx rfl (hb hby d13_46) ?_
    refine XS.iloadN X4.here hx rfl (hb hby d13_48) rfl ?_
    show oS p e below T4 m 49 #[vR o0, vI 1, vI 0, .unset] [(.int 1), (.int 10), (.ref o0)] _
    refine st5 _ ?_
    show oS p e below T5 m 52 #[vR o0, vI 1, vI 0, .unset] [(.int 10), (.ref o0)] _
    refine st6 _ ?_
    show oS p e below T6 m 55 #[vR o0, vI 1, vI 0, .unset] [(.ref b6), (.ref o0)] _
    refine XS.dupX1 X6.here hx rfl (hb hby d13_55) rfl rfl rfl ?_
    show oS p e below T6 m 56 #[vR o0, vI 1, vI 0, .unset] [(.ref b6), (.ref o0), (.ref b6)] _
    refine st7 _ ?_
    show Steps p.tables e below (T7.setTop (mkF m 59 #[vR o0, vI 1, vI 0, .unset] [(.ref b6)])) _
    jvm_step X7.here [X7.here.top, hx, (hb hby d13_59), X7.method', Bd.returns, Value.isRef, FieldType.isReference]
    first | (intro acts; rw [hr _ acts rfl rfl rfl]) | rw [hr _ _ rfl rfl rfl]
    exact Steps.refl _
  · show own_QG Z o0 mc h0 n0 _ T7.heap _
    rw [e7]
    exact ⟨b6, k6, rfl, N7, (((Keep.refl h0 [o0]).ext E6).wr W7 (Or.inl (List.mem_of_getElem? (i := 0) rfl))), f_o0_2_modCount, f_o0_2_size, Fw7, v_b6_2_x, (Ex6.wr W7), Ov6, (Nat.le_of_eq g6.symm)⟩
theorem d12_0 : decode jdk_38_method_7_code 0 = .ok (.aload_n 0, 1) := by decide +kernel
theorem d12_1 : decode jdk_38_method_7_code 1 = .ok (.aload_n 0, 1) := by decide +kernel
theorem d12_2 : decode jdk_38_method_7_code 2 = .ok (.getfield 48, 3) := by decide +kernel
theorem d12_5 : decode jdk_38_method_7_code 5 = .ok (.iconst 1, 1) := by decide +kernel
theorem d12_6 : decode jdk_38_method_7_code 6 = .ok (.iadd, 1) := by decide +kernel
theorem d12_7 : decode jdk_38_method_7_code 7 = .ok (.invokevirtual 69, 3) := by decide +kernel
theorem pd_5 : parseMethodDescriptor "(I)[Ljava/lang/Object;" = some ⟨[.int], some (.array (.object "java/lang/Object"))⟩ := by decide +kernel
theorem d12_10 : decode jdk_38_method_7_code 10 = .ok (.areturn, 1) := by decide +kernel
theorem ef_12 (m : MethodId) (x0 : Addr) : entryFrame m #[(.ref x0)] 1 = mkF m 0 #[.val (.ref x0)] [] := by first | (simp [entryFrame, mkF, argsToLocals, Value.category]; done) | rfl
theorem pn_12 : plainName "java/util/ArrayList" = true := by first | (simp [plainName, overriddenIn]; done) | decide +kernel
theorem rmG0 (l : Launch) (Z : State) (a0 : Array Value) (hw : HW a0 Z) (ws : List Jvm.Cond) (o0 : Addr) (mc : Int32) (ad : Addr) (kd : ClassId) (h0 : Heap) (n0 : Nat) (O0 : Old Z n0 h0) (E_o0 : Exa Z h0 o0 "java/util/ArrayList") (F_modCount_o0 : Fld Z h0 o0 "java/util/AbstractList" "modCount" "I" (.int mc)) (F_size_o0 : Fld Z h0 o0 "java/util/ArrayList" "size" "I" (.int 0)) (F_elementData_o0 : Fld Z h0 o0 "java/util/ArrayList" "elementData" "[Ljava/lang/Object;" (.ref ad)) (g_o0 : n0 ≤ o0) (S_DE : Sta Z Z.heap "java/util/ArrayList" "DEFAULTCAPACITY_EMPTY_ELEMENTDATA" "[Ljava/lang/Object;" (.ref ad)) (V_ad : Arv Z Z.heap ad kd (.object "java/lang/Object") (0 : Int32) [] .null) :
    oM l Z mN9 jdk_38_method_7_code 1 (some (.array (.object "java/lang/Object"))) ws (rM 2 1 10 29) #[(.ref o0)] h0 (own_QG Z o0 mc h0 n0) := by
  refine MetFree.of_bodySF (plainFor_of_name pn_12) hisR ?_
  intro p e s m args below meth c s₁ Bd hml0 hP hK
  obtain ⟨rfl, hZ, hh⟩ := hP
  have hx := Bd.exec
  have hby := Bd.bytes
  have hml : c.maxLocals = 1 := hml0
  have hown : s.vm.findClass "java/util/ArrayList" = some m.cls := findClass_of_methodNamed Bd.named
  have X0 : Stand p l e (rM 2 1 10 29) s m #[(.ref o0)] below meth c s₁ [] 0 0 := Stand.of_body Bd
  have e0 : s₁.heap = h0 := by rw [← hh, Bd.state]; rfl
  have N0 := Fr.nil n0
  have pre0 := fun t (k : oS p e below s₁ m 0 #[vR o0] [] t) => castTop (ef_12 m o0) k
  obtain ⟨T1, X1, e1, st1⟩ := getF X0 hx hZ hown (host := "") (Or.inl (oW hw 62 rfl)) Via.refl e0 F_size_o0 (g := (mkF m 2 #[vR o0] [(.ref o0), (.ref o0)])) rfl rfl (hb hby d12_2)
  obtain ⟨cq2, q2, q2'⟩ := E_o0.cell
  obtain ⟨_, _, ⟨T2, L2, k2, n2⟩, -, X2, ⟨Lc2, hQ2, l2, y2, z2⟩, st2⟩ := X1.privateBack hx (y := mN8) hown (mvT hZ (oW hw 74 rfl)) (mvT hZ (oW hw 75 rfl)) (mvT hZ (oW hw 77 rfl)) (Cond.privateMethod_at (mvP hZ (oW hw 76 rfl) (args := #[]))) (mvT hZ (oW hw 78 rfl)) (by decide) (backOf (W := 0) (rmG1 l Z a0 hw [] o0 mc ad kd h0 n0 O0 E_o0 F_modCount_o0 F_size_o0 F_elementData_o0 g_o0 S_DE V_ad) hZ (oW hw 78 rfl) (oW hw 6 rfl) (by decide) (by decide)) (g := (mkF m 7 #[vR o0] [(.int 1), (.ref o0)])) rfl (by rw [hml]; rfl) (Steps.refl _) (a := o0) (by rw [e1]; exact q2) q2' (argsL := [(.int 1)]) (rest := []) (lenOf pd_5 rfl) rfl (by show 2 * 0 + _ ≤ _; exact Nat.le_of_eq rfl) (hb hby d12_7) (fun _ _ => ⟨rfl, e1, (by decide : 0 + 1 ≤ _), (by decide : 0 + 10 ≤ _)⟩)
  dsimp only [Pt.U, Pt.locs, Pt.cells, Pt.slots] at X2 l2 y2 z2 st2 hQ2
  subst l2 y2 z2
  obtain ⟨b2, k92, rfl, N2q, K2, Fm2, Fs2, Fe2, Vb2, Eb2, Ov2, Sb2⟩ := hQ2
  have N2 := Fr.app N0 N2q
  have O2 := O0.keep K2 (allS g_o0 all0)
  obtain ⟨fs, hr, hrun, hended, hW, hsame⟩ := X2.leave (v := some (.ref b2)) (fun h => by rw [Bd.returns] at h; cases h)
  refine ⟨_, _, pre0 _ ?_, hrun, hended, _, _, rfl, ?_, ⟨_, rfl⟩, hW, hsame.mono (by decide) (by decide)⟩
  · show oS p e below s₁ m 0 #[vR o0] [] _
    refine XS.aloadN X0.here hx rfl (hb hby d12_0) rfl rfl ?_
    refine XS.aloadN X0.here hx rfl (hb hby d12_1) rfl rfl ?_
    show oS p e below s₁ m 2 #[vR o0] [(.ref o0), (.ref o0)] _
    refine st1 _ ?_
    show oS p e below T1 m 5 #[vR o0] [(.int 0), (.ref o0)] _
    refine XS.iconst X1.here hx rfl (hb hby d12_5) ?_
    refine XS.iadd X1.here hx rfl (hb hby d12_6) rfl ?_
    show oS p e below T1 m 7 #[vR o0] [(.int 1), (.ref o0)] _
    refine st2.trans ?_
    show Steps p.tables e below (T2.setTop (mkF m 10 #[vR o0] [(.ref b2)])) _
    jvm_step X2.here [X2.here.top, hx, (hb hby d12_10), X2.method', Bd.returns, Value.isRef, FieldType.isReference]
    first | (intro acts; rw [hr _ acts rfl rfl rfl]) | rw [hr _ _ rfl rfl rfl]
    exact Steps.refl _
  · show own_QG Z o0 mc h0 n0 _ T2.heap _
    exact ⟨b2, k92, rfl, N2, ((Keep.refl h0 [o0]).trans K2 (allS (Or.inl (List.mem_of_getElem? (i := 0) rfl)) all0)), Fm2, Fs2, Fe2, Vb2, Eb2, Ov2, Sb2⟩
def own_QD0 (Z : State) (o x : Addr) (mc : Int32) (h0 : Heap) (n0 : Nat) (v : Option Value) (h : Heap) (L : List Loc) : Prop := ∃ (b : Addr) (k : ClassId), v = none ∧ Fr n0 L ∧ Keep h0 h [o] ∧ Fld Z h o "java/util/AbstractList" "modCount" "I" (.int mc) ∧ Fld Z h o "java/util/ArrayList" "size" "I" (.int 1) ∧ Fld Z h o "java/util/ArrayList" "elementData" "[Ljava/lang/Object;" (.ref b) ∧ Arv Z h b k (.object "java/lang/Object") (10 : Int32) [(.ref x), .null, .null, .null, .null, .null, .null, .null, .null, .null] .null ∧ Exa Z h b "[Ljava/lang/Object;" ∧ Ovr Z k "java/lang/Object" ∧ h0.size ≤ b
theorem d11_0 : decode jdk_38_method_24_code 0 = .ok (.iload_n 3, 1) := by decide +kernel
theorem d11_1 : decode jdk_38_method_24_code 1 = .ok (.aload_n 2, 1) := by decide +kernel
theorem d11_2 : decode jdk_38_method_24_code 2 = .ok (.arraylength, 1) := by decide +kernel
theorem d11_3 : decode jdk_38_method_24_code 3 = .ok (.if_icmp .ne 8, 3) := by decide +kernel
theorem d11_6 : decode jdk_38_method_24_code 6 = .ok (.aload_n 0, 1) := by decide +kernel
theorem d11_7 : decode jdk_38_method_24_code 7 = .ok (.invokevirtual 129, 3) := by decide +kernel
theorem pd_6 : parseMethodDescriptor "()[Ljava/lang/Object;" = some ⟨[], some (.array (.object "java/lang/Object"))⟩ := by decide +kernel
theorem d11_10 : decode jdk_38_method_24_code 10 = .ok (.astore_n 2, 1) := by decide +kernel
theorem d11_11 : decode jdk_38_method_24_code 11 = .ok (.aload_n 2, 1) := by decide +kernel
theorem d11_12 : decode jdk_38_method_24_code 12 = .ok (.iload_n 3, 1) := by decide +kernel
theorem d11_13 : decode jdk_38_method_24_code 13 = .ok (.aload_n 1, 1) := by decide +kernel
theorem d11_14 : decode jdk_38_method_24_code 14 = .ok (.aastore, 1) := by decide +kernel
theorem d11_15 : decode jdk_38_method_24_code 15 = .ok (.aload_n 0, 1) := by decide +kernel
theorem d11_16 : decode jdk_38_method_24_code 16 = .ok (.iload_n 3, 1) := by decide +kernel
theorem d11_17 : decode jdk_38_method_24_code 17 = .ok (.iconst 1, 1) := by decide +kernel
theorem d11_18 : decode jdk_38_method_24_code 18 = .ok (.iadd, 1) := by decide +kernel
theorem d11_19 : decode jdk_38_method_24_code 19 = .ok (.putfield 48, 3) := by decide +kernel
theorem d11_22 : decode jdk_38_method_24_code 22 = .ok (.return_, 1) := by decide +kernel
theorem ef_11 (m : MethodId) (x0 : Addr) (x1 : Addr) (x2 : Addr) (x3 : Int32) : entryFrame m #[(.ref x0), (.ref x1), (.ref x2), (.int x3)] 4 = mkF m 0 #[.val (.ref x0), .val (.ref x1), .val (.ref x2), .val (.int x3)] [] := by first | (simp [entryFrame, mkF, argsToLocals, Value.category]; done) | rfl
theorem pn_11 : plainName "java/util/ArrayList" = true := by first | (simp [plainName, overriddenIn]; done) | decide +kernel
theorem rmD0 (l : Launch) (Z : State) (a0 : Array Value) (hw : HW a0 Z) (ws : List Jvm.Cond) (o0 : Addr) (o1 : Addr) (ad : Addr) (mc : Int32) (kd : ClassId) (h0 : Heap) (n0 : Nat) (O0 : Old Z n0 h0) (E_o0 : Exa Z h0 o0 "java/util/ArrayList") (F_modCount_o0 : Fld Z h0 o0 "java/util/AbstractList" "modCount" "I" (.int mc)) (F_size_o0 : Fld Z h0 o0 "java/util/ArrayList" "size" "I" (.int 0)) (F_elementData_o0 : Fld Z h0 o0 "java/util/ArrayList" "elementData" "[Ljava/lang/Object;" (.ref ad)) (g_o0 : n0 ≤ o0) (E_o1 : Exa Z h0 o1 "java/lang/String") (S_DE : Sta Z Z.heap "java/util/ArrayList" "DEFAULTCAPACITY_EMPTY_ELEMENTDATA" "[Ljava/lang/Object;" (.ref ad)) (V_ad : Arv Z Z.heap ad kd (.object "java/lang/Object") (0 : Int32) [] .null) :
    oM l Z mN10 jdk_38_method_24_code 4 none ws (rM 3 1 10 41) #[(.ref o0), (.ref o1), (.ref ad), (.int 0)] h0 (own_QD0 Z o0 o1 mc h0 n0) := by
  refine MetFree.of_bodySF (plainFor_of_name pn_11) hisR ?_
  intro p e s m args below meth c s₁ Bd hml0 hP hK
  obtain ⟨rfl, hZ, hh⟩ := hP
  have hx := Bd.exec
  have hby := Bd.bytes
  have hml : c.maxLocals = 4 := hml0
  have hown : s.vm.findClass "java/util/ArrayList" = some m.cls := findClass_of_methodNamed Bd.named
  have X0 : Stand p l e (rM 3 1 10 41) s m #[(.ref o0), (.ref o1), (.ref ad), (.int 0)] below meth c s₁ [] 0 0 := Stand.of_body Bd
  have e0 : s₁.heap = h0 := by rw [← hh, Bd.state]; rfl
  have N0 := Fr.nil n0
  have pre0 := fun t (k : oS p e below s₁ m 0 #[vR o0, vR o1, vR ad, vI 0] [] t) => castTop (ef_11 m o0 o1 ad (0 : Int32)) k
  obtain ⟨cl1, Ar1, qa1, Sz1, Ng1, Hs1, Ft1⟩ := (V_ad.ext O0.2)
  have V1o : Arv Z h0 ad kd (.object "java/lang/Object") (0 : Int32) [] .null := ⟨cl1, Ar1, qa1, Sz1, Ng1, Hs1, Ft1⟩
  obtain ⟨cq2, q2, q2'⟩ := E_o0.cell
  obtain ⟨_, _, ⟨T2, L2, k2, n2⟩, -, X2, ⟨Lc2, hQ2, l2, y2, z2⟩, st2⟩ := X0.privateBack hx (y := mN9) hown (mvT hZ (oW hw 69 rfl)) (mvT hZ (oW hw 70 rfl)) (mvT hZ (oW hw 72 rfl)) (Cond.privateMethod_at (mvP hZ (oW hw 71 rfl) (args := #[]))) (mvT hZ (oW hw 73 rfl)) (by decide) (backOf (W := 0) (rmG0 l Z a0 hw [] o0 mc ad kd h0 n0 O0 E_o0 F_modCount_o0 F_size_o0 F_elementData_o0 g_o0 S_DE V_ad) hZ (oW hw 73 rfl) (oW hw 6 rfl) (by decide) (by decide)) (g := (mkF m 7 #[vR o0, vR o1, vR ad, vI 0] [(.ref o0)])) rfl (by rw [hml]; rfl) (Steps.refl _) (a := o0) (by rw [e0]; exact q2) q2' (argsL := []) (rest := []) (lenOf pd_6 rfl) rfl (by show 2 * 0 + _ ≤ _; exact Nat.le_of_eq rfl) (hb hby d11_7) (fun _ _ => ⟨rfl, e0, (by decide : 0 + 1 ≤ _), (by decide : 0 + 10 ≤ _)⟩)
  dsimp only [Pt.U, Pt.locs, Pt.cells, Pt.slots] at X2 l2 y2 z2 st2 hQ2
  subst l2 y2 z2
  obtain ⟨b2, k92, rfl, N2q, K2, Fm2, Fs2, Fe2, Vb2, Eb2, Ov2, Sb2⟩ := hQ2
  have N2 := Fr.app N0 N2q
  have O2 := O0.keep K2 (allS g_o0 all0)
  obtain ⟨cl3, Ar3, qa3, Sz3, Ng3, Hs3, Ft3⟩ := Vb2
  obtain ⟨T3, h3, X3, e3, W3, st3⟩ := stR X2 hx hZ rfl Ar3 (j := (0 : Int32)) (inb_of Sz3 ⟨by decide, by decide⟩) rfl (Sto.ofV Ar3 qa3 Ov2 (Ins.of_exa (E_o1.keep K2) (oW hw 85 rfl))) (g := (mkF m 14 #[vR o0, vR o1, vR b2, vI 0] [(.ref o1), (.int 0), (.ref b2)])) rfl rfl (hb hby d11_14)
  have O3 := O2.wr W3 (Nat.le_trans (own_le O0) Sb2)
  have N3 := Fr.snoc X3 N2 (Nat.le_trans (own_le O0) Sb2)
  have V3 : Arv Z h3 b2 k92 (.object "java/lang/Object") (10 : Int32) [(.ref o1), .null, .null, .null, .null, .null, .null, .null, .null, .null] .null := Arv.set Ar3 qa3 Sz3 Ng3 Hs3 Ft3 rfl W3 0 rfl (Nat.le_of_ble_eq_true rfl)
  have f_o0_2_size := (Fs2.other W3 (Or.inl (Nat.ne_of_lt (Nat.lt_of_lt_of_le E_o0.lt Sb2))))
  obtain ⟨T4, h4, X4, e4, W4, st4⟩ := putF X3 hx hZ hown (host := "") (Or.inl (oW hw 62 rfl)) Via.refl e3 f_o0_2_size ((E_o0.keep K2).wr W3) (Or.inl (oW hw 63 rfl)) (oW hw 5 rfl) (ty := .int) (by decide) rfl rfl (g := (mkF m 19 #[vR o0, vR o1, vR b2, vI 0] [(.int 1), (.ref o0)])) rfl rfl (hb hby d11_19)
  have O4 := O3.wr W4 g_o0
  have Fw4 := f_o0_2_size.same W4
  have N4 := Fr.snoc X4 N3 g_o0
  have f_o0_3_modCount := ((Fm2.other W3 (Or.inl (Nat.ne_of_lt (Nat.lt_of_lt_of_le E_o0.lt Sb2)))).other W4 (Or.inr (slot_ne (Or.inl (oW hw 26 rfl)) (Or.inl (oW hw 63 rfl)) (by decide) (t := .int) (t' := .int) (by decide) (by decide))))
  have f_o0_3_elementData := ((Fe2.other W3 (Or.inl (Nat.ne_of_lt (Nat.lt_of_lt_of_le E_o0.lt Sb2)))).other W4 (Or.inr (slot_ne (Or.inl (oW hw 29 rfl)) (Or.inl (oW hw 63 rfl)) (by decide) (t := (.array (.object "java/lang/Object"))) (t' := .int) (by decide) (by decide))))
  have v_b2_3_x := (V3.other W4 (Ne.symm (Nat.ne_of_lt (Nat.lt_of_lt_of_le E_o0.lt Sb2))))
  obtain ⟨fs, hr, hrun, hended, hW, hsame⟩ := X4.leave (v := none) (fun _ => rfl)
  refine ⟨_, _, pre0 _ ?_, hrun, hended, _, _, rfl, ?_, ⟨_, rfl⟩, hW, hsame.mono (by decide) (by decide)⟩
  · show oS p e below s₁ m 0 #[vR o0, vR o1, vR ad, vI 0] [] _
    refine XS.iloadN X0.here hx rfl (hb hby d11_0) rfl ?_
    refine XS.aloadN X0.here hx rfl (hb hby d11_1) rfl rfl ?_
    show oS p e below s₁ m 2 #[vR o0, vR o1, vR ad, vI 0] [(.ref ad), (.int 0)] _
    refine X0.arraylength hx (by rw [e0]; exact Ar1.1) (State.isArrayOf_alike hZ.alike Ar1.2.1) (g := (mkF m 2 #[vR o0, vR o1, vR ad, vI 0] [(.ref ad), (.int 0)])) rfl rfl (hb hby d11_2) _ ?_
    rw [len_of Sz1 Ng1]
    show oS p e below s₁ m 3 #[vR o0, vR o1, vR ad, vI 0] [(.int 0), (.int 0)] _
    refine XS.icmpNo X0.here hx rfl (hb hby d11_3) rfl (teq (by decide : (0 : Int32) = (0 : Int32))).2 ?_
    show oS p e below s₁ m 6 #[vR o0, vR o1, vR ad, vI 0] [] _
    refine XS.aloadN X0.here hx rfl (hb hby d11_6) rfl rfl ?_
    show oS p e below s₁ m 7 #[vR o0, vR o1, vR ad, vI 0] [(.ref o0)] _
    refine st2.trans ?_
    show oS p e below T2 m 10 #[vR o0, vR o1, vR ad, vI 0] [(.ref b2)] _
    refine XS.astoreN X2.here hx rfl (hb hby d11_10) rfl rfl (l' := #[vR o0, vR o1, vR b2, vI 0]) rfl ?_
    show oS p e below T2 m 11 #[vR o0, vR o1, vR b2, vI 0] [] _
    refine XS.aloadN X2.here hx rfl (hb hby d11_11) rfl rfl ?_
    refine XS.iloadN X2.here hx rfl (hb hby d11_12) rfl ?_
    refine XS.aloadN X2.here hx rfl (hb hby d11_13) rfl rfl ?_
    show oS p e below T2 m 14 #[vR o0, vR o1, vR b2, vI 0] [(.ref o1), (.int 0), (.ref b2)] _
    refine st3 _ ?_
    show oS p e below T3 m 15 #[vR o0, vR o1, vR b2, vI 0] [] _
    refine XS.aloadN X3.here hx rfl (hb hby d11_15) rfl rfl ?_
    refine XS.iloadN X3.here hx rfl (hb hby d11_16) rfl ?_
    refine XS.iconst X3.here hx rfl (hb hby d11_17) ?_
    show oS p e below T3 m 18 #[vR o0, vR o1, vR b2, vI 0] [(.int 1), (.int 0), (.ref o0)] _
    refine XS.iadd X3.here hx rfl (hb hby d11_18) rfl ?_
    show oS p e below T3 m 19 #[vR o0, vR o1, vR b2, vI 0] [(.int 1), (.ref o0)] _
    refine st4 _ ?_
    show oS p e below T4 m 22 #[vR o0, vR o1, vR b2, vI 0] [] _
    exact X4.returnOut hx Bd.returns (hb hby d11_22) hr
  · show own_QD0 Z o0 o1 mc h0 n0 _ T4.heap _
    rw [e4]
    exact ⟨b2, k92, rfl, N4, ((((Keep.refl h0 [o0]).trans K2 (allS (Or.inl (List.mem_of_getElem? (i := 0) rfl)) all0)).wr W3 (Or.inr Sb2)).wr W4 (Or.inl (List.mem_of_getElem? (i := 0) rfl))), f_o0_3_modCount, Fw4, f_o0_3_elementData, v_b2_3_x, ((Eb2.wr W3).wr W4), Ov2, Sb2⟩
def own_QDn (Z : State) (o ed : Addr) (k : ClassId) (mc sz : Int32) (vs : List Value) (h0 : Heap) (n0 : Nat) (v : Option Value) (h : Heap) (L : List Loc) : Prop := v = none ∧ Fr n0 L ∧ Keep h0 h [o, ed] ∧ Fld Z h o "java/util/AbstractList" "modCount" "I" (.int mc) ∧ Fld Z h o "java/util/ArrayList" "size" "I" (.int sz) ∧ Fld Z h o "java/util/ArrayList" "elementData" "[Ljava/lang/Object;" (.ref ed) ∧ Arv Z h ed k (.object "java/lang/Object") (10 : Int32) vs .null
theorem rmD1 (l : Launch) (Z : State) (a0 : Array Value) (hw : HW a0 Z) (ws : List Jvm.Cond) (o0 : Addr) (o1 : Addr) (ed : Addr) (mc : Int32) (x1 : Addr) (ka : ClassId) (h0 : Heap) (n0 : Nat) (O0 : Old Z n0 h0) (E_o0 : Exa Z h0 o0 "java/util/ArrayList") (F_modCount_o0 : Fld Z h0 o0 "java/util/AbstractList" "modCount" "I" (.int mc)) (F_size_o0 : Fld Z h0 o0 "java/util/ArrayList" "size" "I" (.int 1)) (F_elementData_o0 : Fld Z h0 o0 "java/util/ArrayList" "elementData" "[Ljava/lang/Object;" (.ref ed)) (g_o0 : n0 ≤ o0) (g_ed : n0 ≤ ed) (E_o1 : Exa Z h0 o1 "java/lang/String") (V_ed : Arv Z h0 ed ka (.object "java/lang/Object") (10 : Int32) [(.ref x1), .null, .null, .null, .null, .null, .null, .null, .null, .null] .null) (hov : Ovr Z ka "java/lang/Object") :
    oM l Z mN10 jdk_38_method_24_code 4 none ws (rM 0 0 0 0) #[(.ref o0), (.ref o1), (.ref ed), (.int 1)] h0 (own_QDn Z o0 ed ka mc (2 : Int32) [(.ref x1), (.ref o1), .null, .null, .null, .null, .null, .null, .null, .null] h0 n0) := by
  refine MetFree.of_bodySF (plainFor_of_name pn_11) hisR ?_
  intro p e s m args below meth c s₁ Bd hml0 hP hK
  obtain ⟨rfl, hZ, hh⟩ := hP
  have hx := Bd.exec
  have hby := Bd.bytes
  have hml : c.maxLocals = 4 := hml0
  have hown : s.vm.findClass "java/util/ArrayList" = some m.cls := findClass_of_methodNamed Bd.named
  have X0 : Stand p l e (rM 0 0 0 0) s m #[(.ref o0), (.ref o1), (.ref ed), (.int 1)] below meth c s₁ [] 0 0 := Stand.of_body Bd
  have e0 : s₁.heap = h0 := by rw [← hh, Bd.state]; rfl
  have N0 := Fr.nil n0
  have pre0 := fun t (k : oS p e below s₁ m 0 #[vR o0, vR o1, vR ed, vI 1] [] t) => castTop (ef_11 m o0 o1 ed (1 : Int32)) k
  have nea := Exa.neArv E_o0 V_ed (oW hw 5 rfl)
  obtain ⟨cl1, Ar1, qa1, Sz1, Ng1, Hs1, Ft1⟩ := V_ed
  have V1o : Arv Z h0 ed ka (.object "java/lang/Object") (10 : Int32) [(.ref x1), .null, .null, .null, .null, .null, .null, .null, .null, .null] .null := ⟨cl1, Ar1, qa1, Sz1, Ng1, Hs1, Ft1⟩
  obtain ⟨cl2, Ar2, qa2, Sz2, Ng2, Hs2, Ft2⟩ := V1o
  obtain ⟨T2, h2, X2, e2, W2, st2⟩ := stR X0 hx hZ e0 Ar2 (j := (1 : Int32)) (inb_of Sz2 ⟨by decide, by decide⟩) rfl (Sto.ofV Ar2 qa2 hov (Ins.of_exa E_o1 (oW hw 85 rfl))) (g := (mkF m 14 #[vR o0, vR o1, vR ed, vI 1] [(.ref o1), (.int 1), (.ref ed)])) rfl rfl (hb hby d11_14)
  have O2 := O0.wr W2 g_ed
  have N2 := Fr.snoc X2 N0 g_ed
  have V2 : Arv Z h2 ed ka (.object "java/lang/Object") (10 : Int32) [(.ref x1), (.ref o1), .null, .null, .null, .null, .null, .null, .null, .null] .null := Arv.set Ar2 qa2 Sz2 Ng2 Hs2 Ft2 rfl W2 1 rfl (Nat.le_of_ble_eq_true rfl)
  obtain ⟨T3, h3, X3, e3, W3, st3⟩ := putF X2 hx hZ hown (host := "") (Or.inl (oW hw 62 rfl)) Via.refl e2 (F_size_o0.other W2 (Or.inl nea)) (E_o0.wr W2) (Or.inl (oW hw 63 rfl)) (oW hw 5 rfl) (ty := .int) (by decide) rfl rfl (g := (mkF m 19 #[vR o0, vR o1, vR ed, vI 1] [(.int 2), (.ref o0)])) rfl rfl (hb hby d11_19)
  have O3 := O2.wr W3 g_o0
  have Fw3 := (F_size_o0.other W2 (Or.inl nea)).same W3
  have N3 := Fr.snoc X3 N2 g_o0
  have f_o0_2_modCount := ((F_modCount_o0.other W2 (Or.inl nea)).other W3 (Or.inr (slot_ne (Or.inl (oW hw 26 rfl)) (Or.inl (oW hw 63 rfl)) (by decide) (t := .int) (t' := .int) (by decide) (by decide))))
  have f_o0_2_elementData := ((F_elementData_o0.other W2 (Or.inl nea)).other W3 (Or.inr (slot_ne (Or.inl (oW hw 29 rfl)) (Or.inl (oW hw 63 rfl)) (by decide) (t := (.array (.object "java/lang/Object"))) (t' := .int) (by decide) (by decide))))
  obtain ⟨fs, hr, hrun, hended, hW, hsame⟩ := X3.leave (v := none) (fun _ => rfl)
  refine ⟨_, _, pre0 _ ?_, hrun, hended, _, _, rfl, ?_, ⟨_, rfl⟩, hW, hsame.mono (by decide) (by decide)⟩
  · show oS p e below s₁ m 0 #[vR o0, vR o1, vR ed, vI 1] [] _
    refine XS.iloadN X0.here hx rfl (hb hby d11_0) rfl ?_
    refine XS.aloadN X0.here hx rfl (hb hby d11_1) rfl rfl ?_
    show oS p e below s₁ m 2 #[vR o0, vR o1, vR ed, vI 1] [(.ref ed), (.int 1)] _
    refine X0.arraylength hx (by rw [e0]; exact Ar1.1) (State.isArrayOf_alike hZ.alike Ar1.2.1) (g := (mkF m 2 #[vR o0, vR o1, vR ed, vI 1] [(.ref ed), (.int 1)])) rfl rfl (hb hby d11_2) _ ?_
    rw [len_of Sz1 Ng1]
    show oS p e below s₁ m 3 #[vR o0, vR o1, vR ed, vI 1] [(.int 10), (.int 1)] _
    refine XS.icmpYes X0.here hx rfl (pc0 := 3) (pc' := 11) rfl (hb hby d11_3) rfl (feq (by decide : ¬ ((1 : Int32) = (10 : Int32)))).2 (by decide) (by decide) ?_
    show oS p e below s₁ m 11 #[vR o0, vR o1, vR ed, vI 1] [] _
    refine XS.aloadN X0.here hx rfl (hb hby d11_11) rfl rfl ?_
    refine XS.iloadN X0.here hx rfl (hb hby d11_12) rfl ?_
    refine XS.aloadN X0.here hx rfl (hb hby d11_13) rfl rfl ?_
    show oS p e below s₁ m 14 #[vR o0, vR o1, vR ed, vI 1] [(.ref o1), (.int 1), (.ref ed)] _
    refine st2 _ ?_
    show oS p e below T2 m 15 #[vR o0, vR o1, vR ed, vI 1] [] _
    refine XS.aloadN X2.here hx rfl (hb hby d11_15) rfl rfl ?_
    refine XS.iloadN X2.here hx rfl (hb hby d11_16) rfl ?_
    refine XS.iconst X2.here hx rfl (hb hby d11_17) ?_
    show oS p e below T2 m 18 #[vR o0, vR o1, vR ed, vI 1] [(.int 1), (.int 1), (.ref o0)] _
    refine XS.iadd X2.here hx rfl (hb hby d11_18) rfl ?_
    show oS p e below T2 m 19 #[vR o0, vR o1, vR ed, vI 1] [(.int 2), (.ref o0)] _
    refine st3 _ ?_
    show oS p e below T3 m 22 #[vR o0, vR o1, vR ed, vI 1] [] _
    exact X3.returnOut hx Bd.returns (hb hby d11_22) hr
  · show own_QDn Z o0 ed ka mc (2 : Int32) [(.ref x1), (.ref o1), .null, .null, .null, .null, .null, .null, .null, .null] h0 n0 _ T3.heap _
    rw [e3]
    exact ⟨rfl, N3, (((Keep.refl h0 [o0, ed]).wr W2 (Or.inl (List.mem_of_getElem? (i := 1) rfl))).wr W3 (Or.inl (List.mem_of_getElem? (i := 0) rfl))), f_o0_2_modCount, Fw3, f_o0_2_elementData, (V2.other W3 (Ne.symm nea))⟩
theorem rmD2 (l : Launch) (Z : State) (a0 : Array Value) (hw : HW a0 Z) (ws : List Jvm.Cond) (o0 : Addr) (o1 : Addr) (ed : Addr) (mc : Int32) (x1 : Addr) (x2 : Addr) (ka : ClassId) (h0 : Heap) (n0 : Nat) (O0 : Old Z n0 h0) (E_o0 : Exa Z h0 o0 "java/util/ArrayList") (F_modCount_o0 : Fld Z h0 o0 "java/util/AbstractList" "modCount" "I" (.int mc)) (F_size_o0 : Fld Z h0 o0 "java/util/ArrayList" "size" "I" (.int 2)) (F_elementData_o0 : Fld Z h0 o0 "java/util/ArrayList" "elementData" "[Ljava/lang/Object;" (.ref ed)) (g_o0 : n0 ≤ o0) (g_ed : n0 ≤ ed) (E_o1 : Exa Z h0 o1 "java/lang/String") (V_ed : Arv Z h0 ed ka (.object "java/lang/Object") (10 : Int32) [(.ref x1), (.ref x2), .null, .null, .null, .null, .null, .null, .null, .null] .null) (hov : Ovr Z ka "java/lang/Object") :
    oM l Z mN10 jdk_38_method_24_code 4 none ws (rM 0 0 0 0) #[(.ref o0), (.ref o1), (.ref ed), (.int 2)] h0 (own_QDn Z o0 ed ka mc (3 : Int32) [(.ref x1), (.ref x2), (.ref o1), .null, .null, .null, .null, .null, .null, .null] h0 n0) := by
  refine MetFree.of_bodySF (plainFor_of_name pn_11) hisR ?_
  intro p e s m args below meth c s₁ Bd hml0 hP hK
  obtain ⟨rfl, hZ, hh⟩ := hP
  have hx := Bd.exec
  have hby := Bd.bytes
  have hml : c.maxLocals = 4 := hml0
  have hown : s.vm.findClass "java/util/ArrayList" = some m.cls := findClass_of_methodNamed Bd.named
  have X0 : Stand p l e (rM 0 0 0 0) s m #[(.ref o0), (.ref o1), (.ref ed), (.int 2)] below meth c s₁ [] 0 0 := Stand.of_body Bd
  have e0 : s₁.heap = h0 := by rw [← hh, Bd.state]; rfl
  have N0 := Fr.nil n0
  have pre0 := fun t (k : oS p e below s₁ m 0 #[vR o0, vR o1, vR ed, vI 2] [] t) => castTop (ef_11 m o0 o1 ed (2 : Int32)) k
  have nea := Exa.neArv E_o0 V_ed (oW hw 5 rfl)
  obtain ⟨cl1, Ar1, qa1, Sz1, Ng1, Hs1, Ft1⟩ := V_ed
  have V1o : Arv Z h0 ed ka (.object "java/lang/Object") (10 : Int32) [(.ref x1), (.ref x2), .null, .null, .null, .null, .null, .null, .null, .null] .null := ⟨cl1, Ar1, qa1, Sz1, Ng1, Hs1, Ft1⟩
  obtain ⟨cl2, Ar2, qa2, Sz2, Ng2, Hs2, Ft2⟩ := V1o
  obtain ⟨T2, h2, X2, e2, W2, st2⟩ := stR X0 hx hZ e0 Ar2 (j := (2 : Int32)) (inb_of Sz2 ⟨by decide, by decide⟩) rfl (Sto.ofV Ar2 qa2 hov (Ins.of_exa E_o1 (oW hw 85 rfl))) (g := (mkF m 14 #[vR o0, vR o1, vR ed, vI 2] [(.ref o1), (.int 2), (.ref ed)])) rfl rfl (hb hby d11_14)
  have O2 := O0.wr W2 g_ed
  have N2 := Fr.snoc X2 N0 g_ed
  have V2 : Arv Z h2 ed ka (.object "java/lang/Object") (10 : Int32) [(.ref x1), (.ref x2), (.ref o1), .null, .null, .null, .null, .null, .null, .null] .null := Arv.set Ar2 qa2 Sz2 Ng2 Hs2 Ft2 rfl W2 2 rfl (Nat.le_of_ble_eq_true rfl)
  obtain ⟨T3, h3, X3, e3, W3, st3⟩ := putF X2 hx hZ hown (host := "") (Or.inl (oW hw 62 rfl)) Via.refl e2 (F_size_o0.other W2 (Or.inl nea)) (E_o0.wr W2) (Or.inl (oW hw 63 rfl)) (oW hw 5 rfl) (ty := .int) (by decide) rfl rfl (g := (mkF m 19 #[vR o0, vR o1, vR ed, vI 2] [(.int 3), (.ref o0)])) rfl rfl (hb hby d11_19)
  have O3 := O2.wr W3 g_o0
  have Fw3 := (F_size_o0.other W2 (Or.inl nea)).same W3
  have N3 := Fr.snoc X3 N2 g_o0
  have f_o0_2_modCount := ((F_modCount_o0.other W2 (Or.inl nea)).other W3 (Or.inr (slot_ne (Or.inl (oW hw 26 rfl)) (Or.inl (oW hw 63 rfl)) (by decide) (t := .int) (t' := .int) (by decide) (by decide))))
  have f_o0_2_elementData := ((F_elementData_o0.other W2 (Or.inl nea)).other W3 (Or.inr (slot_ne (Or.inl (oW hw 29 rfl)) (Or.inl (oW hw 63 rfl)) (by decide) (t := (.array (.object "java/lang/Object"))) (t' := .int) (by decide) (by decide))))
  obtain ⟨fs, hr, hrun, hended, hW, hsame⟩ := X3.leave (v := none) (fun _ => rfl)
  refine ⟨_, _, pre0 _ ?_, hrun, hended, _, _, rfl, ?_, ⟨_, rfl⟩, hW, hsame.mono (by decide) (by decide)⟩
  · show oS p e below s₁ m 0 #[vR o0, vR o1, vR ed, vI 2] [] _
    refine XS.iloadN X0.here hx rfl (hb hby d11_0) rfl ?_
    refine XS.aloadN X0.here hx rfl (hb hby d11_1) rfl rfl ?_
    show oS p e below s₁ m 2 #[vR o0, vR o1, vR ed, vI 2] [(.ref ed), (.int 2)] _
    refine X0.arraylength hx (by rw [e0]; exact Ar1.1) (State.isArrayOf_alike hZ.alike Ar1.2.1) (g := (mkF m 2 #[vR o0, vR o1, vR ed, vI 2] [(.ref ed), (.int 2)])) rfl rfl (hb hby d11_2) _ ?_
    rw [len_of Sz1 Ng1]
    show oS p e below s₁ m 3 #[vR o0, vR o1, vR ed, vI 2] [(.int 10), (.int 2)] _
    refine XS.icmpYes X0.here hx rfl (pc0 := 3) (pc' := 11) rfl (hb hby d11_3) rfl (feq (by decide : ¬ ((2 : Int32) = (10 : Int32)))).2 (by decide) (by decide) ?_
    show oS p e below s₁ m 11 #[vR o0, vR o1, vR ed, vI 2] [] _
    refine XS.aloadN X0.here hx rfl (hb hby d11_11) rfl rfl ?_
    refine XS.iloadN X0.here hx rfl (hb hby d11_12) rfl ?_
    refine XS.aloadN X0.here hx rfl (hb hby d11_13) rfl rfl ?_
    show oS p e below s₁ m 14 #[vR o0, vR o1, vR ed, vI 2] [(.ref o1), (.int 2), (.ref ed)] _
    refine st2 _ ?_
    show oS p e below T2 m 15 #[vR o0, vR o1, vR ed, vI 2] [] _
    refine XS.aloadN X2.here hx rfl (hb hby d11_15) rfl rfl ?_
    refine XS.iloadN X2.here hx rfl (hb hby d11_16) rfl ?_
    refine XS.iconst X2.here hx rfl (hb hby d11_17) ?_
    show oS p e below T2 m 18 #[vR o0, vR o1, vR ed, vI 2] [(.int 1), (.int 2), (.ref o0)] _
    refine XS.iadd X2.here hx rfl (hb hby d11_18) rfl ?_
    show oS p e below T2 m 19 #[vR o0, vR o1, vR ed, vI 2] [(.int 3), (.ref o0)] _
    refine st3 _ ?_
    show oS p e below T3 m 22 #[vR o0, vR o1, vR ed, vI 2] [] _
    exact X3.returnOut hx Bd.returns (hb hby d11_22) hr
  · show own_QDn Z o0 ed ka mc (3 : Int32) [(.ref x1), (.ref x2), (.ref o1), .null, .null, .null, .null, .null, .null, .null] h0 n0 _ T3.heap _
    rw [e3]
    exact ⟨rfl, N3, (((Keep.refl h0 [o0, ed]).wr W2 (Or.inl (List.mem_of_getElem? (i := 1) rfl))).wr W3 (Or.inl (List.mem_of_getElem? (i := 0) rfl))), f_o0_2_modCount, Fw3, f_o0_2_elementData, (V2.other W3 (Ne.symm nea))⟩
def own_QE0 (Z : State) (o x : Addr) (mc : Int32) (h0 : Heap) (n0 : Nat) (v : Option Value) (h : Heap) (L : List Loc) : Prop := ∃ (b : Addr) (k : ClassId), v = some (.int 1) ∧ Fr n0 L ∧ Keep h0 h [o] ∧ Fld Z h o "java/util/AbstractList" "modCount" "I" (.int mc) ∧ Fld Z h o "java/util/ArrayList" "size" "I" (.int 1) ∧ Fld Z h o "java/util/ArrayList" "elementData" "[Ljava/lang/Object;" (.ref b) ∧ Arv Z h b k (.object "java/lang/Object") (10 : Int32) [(.ref x), .null, .null, .null, .null, .null, .null, .null, .null, .null] .null ∧ Exa Z h b "[Ljava/lang/Object;" ∧ Ovr Z k "java/lang/Object" ∧ h0.size ≤ b
def own_QEn (Z : State) (o ed : Addr) (k : ClassId) (mc sz : Int32) (vs : List Value) (h0 : Heap) (n0 : Nat) (v : Option Value) (h : Heap) (L : List Loc) : Prop := v = some (.int 1) ∧ Fr n0 L ∧ Keep h0 h [o, ed] ∧ Fld Z h o "java/util/AbstractList" "modCount" "I" (.int mc) ∧ Fld Z h o "java/util/ArrayList" "size" "I" (.int sz) ∧ Fld Z h o "java/util/ArrayList" "elementData" "[Ljava/lang/Object;" (.ref ed) ∧ Arv Z h ed k (.object "java/lang/Object") (10 : Int32) vs .null
theorem d10_0 : decode jdk_38_method_25_code 0 = .ok (.aload_n 0, 1) := by decide +kernel
theorem d10_1 : decode jdk_38_method_25_code 1 = .ok (.dup, 1) := by decide +kernel
theorem d10_2 : decode jdk_38_method_25_code 2 = .ok (.getfield 63, 3) := by decide +kernel
theorem d10_5 : decode jdk_38_method_25_code 5 = .ok (.iconst 1, 1) := by decide +kernel
theorem d10_6 : decode jdk_38_method_25_code 6 = .ok (.iadd, 1) := by decide +kernel
theorem d10_7 : decode jdk_38_method_25_code 7 = .ok (.putfield 63, 3) := by decide +kernel
theorem d10_10 : decode jdk_38_method_25_code 10 = .ok (.aload_n 0, 1) := by decide +kernel
theorem d10_11 : decode jdk_38_method_25_code 11 = .ok (.aload_n 1, 1) := by decide +kernel
theorem d10_12 : decode jdk_38_method_25_code 12 = .ok (.aload_n 0, 1) := by decide +kernel
theorem d10_13 : decode jdk_38_method_25_code 13 = .ok (.getfield 9, 3) := by decide +kernel
theorem d10_16 : decode jdk_38_method_25_code 16 = .ok (.aload_n 0, 1) := by decide +kernel
theorem d10_17 : decode jdk_38_method_25_code 17 = .ok (.getfield 48, 3) := by decide +kernel
theorem d10_20 : decode jdk_38_method_25_code 20 = .ok (.invokevirtual 131, 3) := by decide +kernel
theorem pd_7 : parseMethodDescriptor "(Ljava/lang/Object;[Ljava/lang/Object;I)V" = some ⟨[(.object "java/lang/Object"), (.array (.object "java/lang/Object")), .int], none⟩ := by decide +kernel
theorem d10_23 : decode jdk_38_method_25_code 23 = .ok (.iconst 1, 1) := by decide +kernel
theorem d10_24 : decode jdk_38_method_25_code 24 = .ok (.ireturn, 1) := by decide +kernel
theorem ef_10 (m : MethodId) (x0 : Addr) (x1 : Addr) : entryFrame m #[(.ref x0), (.ref x1)] 2 = mkF m 0 #[.val (.ref x0), .val (.ref x1)] [] := by first | (simp [entryFrame, mkF, argsToLocals, Value.category]; done) | rfl
theorem pn_10 : plainName "java/util/ArrayList" = true := by first | (simp [plainName, overriddenIn]; done) | decide +kernel
theorem rmE0 (l : Launch) (Z : State) (a0 : Array Value) (hw : HW a0 Z) (ws : List Jvm.Cond) (o0 : Addr) (o1 : Addr) (mc : Int32) (ad : Addr) (kd : ClassId) (h0 : Heap) (n0 : Nat) (O0 : Old Z n0 h0) (E_o0 : Exa Z h0 o0 "java/util/ArrayList") (F_modCount_o0 : Fld Z h0 o0 "java/util/AbstractList" "modCount" "I" (.int mc)) (F_size_o0 : Fld Z h0 o0 "java/util/ArrayList" "size" "I" (.int 0)) (F_elementData_o0 : Fld Z h0 o0 "java/util/ArrayList" "elementData" "[Ljava/lang/Object;" (.ref ad)) (g_o0 : n0 ≤ o0) (E_o1 : Exa Z h0 o1 "java/lang/String") (S_DE : Sta Z Z.heap "java/util/ArrayList" "DEFAULTCAPACITY_EMPTY_ELEMENTDATA" "[Ljava/lang/Object;" (.ref ad)) (V_ad : Arv Z Z.heap ad kd (.object "java/lang/Object") (0 : Int32) [] .null) :
    oM l Z mN11 jdk_38_method_25_code 2 (some .boolean) ws (rM 4 1 10 56) #[(.ref o0), (.ref o1)] h0 (own_QE0 Z o0 o1 (mc + (1 : Int32)) h0 n0) := by
  refine MetFree.of_bodySF (plainFor_of_name pn_10) hisR ?_
  intro p e s m args below meth c s₁ Bd hml0 hP hK
  obtain ⟨rfl, hZ, hh⟩ := hP
  have hx := Bd.exec
  have hby := Bd.bytes
  have hml : c.maxLocals = 2 := hml0
  have hown : s.vm.findClass "java/util/ArrayList" = some m.cls := findClass_of_methodNamed Bd.named
  have X0 : Stand p l e (rM 4 1 10 56) s m #[(.ref o0), (.ref o1)] below meth c s₁ [] 0 0 := Stand.of_body Bd
  have e0 : s₁.heap = h0 := by rw [← hh, Bd.state]; rfl
  have N0 := Fr.nil n0
  have pre0 := fun t (k : oS p e below s₁ m 0 #[vR o0, vR o1] [] t) => castTop (ef_10 m o0 o1) k
  obtain ⟨T1, X1, e1, st1⟩ := getF X0 hx hZ hown (host := "") (Or.inl (oW hw 60 rfl)) (Via.of (oW hw 61 rfl)) e0 F_modCount_o0 (g := (mkF m 2 #[vR o0, vR o1] [(.ref o0), (.ref o0)])) rfl rfl (hb hby d10_2)
  obtain ⟨T2, h2, X2, e2, W2, st2⟩ := putF X1 hx hZ hown (host := "") (Or.inl (oW hw 60 rfl)) (Via.of (oW hw 61 rfl)) e1 F_modCount_o0 E_o0 (Or.inl (oW hw 26 rfl)) (oW hw 5 rfl) (ty := .int) (by decide) rfl rfl (g := (mkF m 7 #[vR o0, vR o1] [(.int (mc + (1 : Int32))), (.ref o0)])) rfl rfl (hb hby d10_7)
  have O2 := O0.wr W2 g_o0
  have Fw2 := F_modCount_o0.same W2
  have N2 := Fr.snoc X2 N0 g_o0
  have f_o0_1_elementData := (F_elementData_o0.other W2 (Or.inr (slot_ne (Or.inl (oW hw 29 rfl)) (Or.inl (oW hw 26 rfl)) (by decide) (t := (.array (.object "java/lang/Object"))) (t' := .int) (by decide) (by decide))))
  obtain ⟨T3, X3, e3, st3⟩ := getF X2 hx hZ hown (host := "") (Or.inl (oW hw 28 rfl)) Via.refl e2 f_o0_1_elementData (g := (mkF m 13 #[vR o0, vR o1] [(.ref o0), (.ref o1), (.ref o0)])) rfl rfl (hb hby d10_13)
  have f_o0_1_size := (F_size_o0.other W2 (Or.inr (slot_ne (Or.inl (oW hw 63 rfl)) (Or.inl (oW hw 26 rfl)) (by decide) (t := .int) (t' := .int) (by decide) (by decide))))
  obtain ⟨T4, X4, e4, st4⟩ := getF X3 hx hZ hown (host := "") (Or.inl (oW hw 62 rfl)) Via.refl e3 f_o0_1_size (g := (mkF m 17 #[vR o0, vR o1] [(.ref o0), (.ref ad), (.ref o1), (.ref o0)])) rfl rfl (hb hby d10_17)
  obtain ⟨cq5, q5, q5'⟩ := (E_o0.wr W2).cell
  obtain ⟨_, _, ⟨T5, L5, k5, n5⟩, -, X5, ⟨Lc5, hQ5, l5, y5, z5⟩, st5⟩ := X4.privateBack hx (y := mN10) hown (mvT hZ (oW hw 64 rfl)) (mvT hZ (oW hw 65 rfl)) (mvT hZ (oW hw 67 rfl)) (Cond.privateMethod_at (mvP hZ (oW hw 66 rfl) (args := #[]))) (mvT hZ (oW hw 68 rfl)) (by decide) (backOf (W := 0) (rmD0 l Z a0 hw [] o0 o1 ad (mc + (1 : Int32)) kd h2 n0 O2 (E_o0.wr W2) Fw2 f_o0_1_size f_o0_1_elementData g_o0 (E_o1.wr W2) S_DE V_ad) hZ (oW hw 68 rfl) (oW hw 6 rfl) (by decide) (by decide)) (g := (mkF m 20 #[vR o0, vR o1] [(.int 0), (.ref ad), (.ref o1), (.ref o0)])) rfl (by rw [hml]; rfl) (Steps.refl _) (a := o0) (by rw [e4]; exact q5) q5' (argsL := [(.ref o1), (.ref ad), (.int 0)]) (rest := []) (lenOf pd_7 rfl) rfl (by show 2 * 0 + _ ≤ _; exact Nat.le_of_eq rfl) (hb hby d10_20) (fun _ _ => ⟨rfl, e4, (by decide : 0 + 1 ≤ _), (by decide : 0 + 10 ≤ _)⟩)
  dsimp only [Pt.U, Pt.locs, Pt.cells, Pt.slots] at X5 l5 y5 z5 st5 hQ5
  subst l5 y5 z5
  obtain ⟨b5, k95, rfl, N5q, K5, Fm5, Fs5, Fe5, Vb5, Eb5, Ov5, Sb5⟩ := hQ5
  have N5 := Fr.app N2 N5q
  have O5 := O2.keep K5 (allS g_o0 all0)
  obtain ⟨fs, hr, hrun, hended, hW, hsame⟩ := X5.leave (v := some (.int 1)) (fun h => by rw [Bd.returns] at h; cases h)
  refine ⟨_, _, pre0 _ ?_, hrun, hended, _, _, rfl, ?_, ⟨_, rfl⟩, hW, hsame.mono (by decide) (by decide)⟩
  · show oS p e below s₁ m 0 #[vR o0, vR o1] [] _
    refine XS.aloadN X0.here hx rfl (hb hby d10_0) rfl rfl ?_
    refine XS.dup X0.here hx rfl (hb hby d10_1) rfl rfl ?_
    show oS p e below s₁ m 2 #[vR o0, vR o1] [(.ref o0), (.ref o0)] _
    refine st1 _ ?_
    show oS p e below T1 m 5 #[vR o0, vR o1] [(.int mc), (.ref o0)] _
    refine XS.iconst X1.here hx rfl (hb hby d10_5) ?_
    refine XS.iadd X1.here hx rfl (hb hby d10_6) rfl ?_
    show oS p e below T1 m 7 #[vR o0, vR o1] [(.int (mc + (1 : Int32))), (.ref o0)] _
    refine st2 _ ?_
    show oS p e below T2 m 10 #[vR o0, vR o1] [] _
    refine XS.aloadN X2.here hx rfl (hb hby d10_10) rfl rfl ?_
    refine XS.aloadN X2.here hx rfl (hb hby d10_11) rfl rfl ?_
    refine XS.aloadN X2.here hx rfl (hb hby d10_12) rfl rfl ?_
    show oS p e below T2 m 13 #[vR o0, vR o1] [(.ref o0), (.ref o1), (.ref o0)] _
    refine st3 _ ?_
    show oS p e below T3 m 16 #[vR o0, vR o1] [(.ref ad), (.ref o1), (.ref o0)] _
    refine XS.aloadN X3.here hx rfl (hb hby d10_16) rfl rfl ?_
    show oS p e below T3 m 17 #[vR o0, vR o1] [(.ref o0), (.ref ad), (.ref o1), (.ref o0)] _
    refine st4 _ ?_
    show oS p e below T4 m 20 #[vR o0, vR o1] [(.int 0), (.ref ad), (.ref o1), (.ref o0)] _
    refine st5.trans ?_
    show oS p e below T5 m 23 #[vR o0, vR o1] [] _
    refine XS.iconst X5.here hx rfl (hb hby d10_23) ?_
    show oS p e below T5 m 24 #[vR o0, vR o1] [(.int 1)] _
    exact retN X5 hx (t := .boolean) Bd.returns (by simp) (hb hby d10_24) hr
  · show own_QE0 Z o0 o1 (mc + (1 : Int32)) h0 n0 _ T5.heap _
    exact ⟨b5, k95, rfl, N5, (((Keep.refl h0 [o0]).wr W2 (Or.inl (List.mem_of_getElem? (i := 0) rfl))).trans K5 (allS (Or.inl (List.mem_of_getElem? (i := 0) rfl)) all0)), Fm5, Fs5, Fe5, Vb5, Eb5, Ov5, (Nat.le_trans (Keep.of_wr W2).1 Sb5)⟩
theorem rmE1 (l : Launch) (Z : State) (a0 : Array Value) (hw : HW a0 Z) (ws : List Jvm.Cond) (o0 : Addr) (o1 : Addr) (mc : Int32) (ed : Addr) (x1 : Addr) (ka : ClassId) (h0 : Heap) (n0 : Nat) (O0 : Old Z n0 h0) (E_o0 : Exa Z h0 o0 "java/util/ArrayList") (F_modCount_o0 : Fld Z h0 o0 "java/util/AbstractList" "modCount" "I" (.int mc)) (F_size_o0 : Fld Z h0 o0 "java/util/ArrayList" "size" "I" (.int 1)) (F_elementData_o0 : Fld Z h0 o0 "java/util/ArrayList" "elementData" "[Ljava/lang/Object;" (.ref ed)) (g_o0 : n0 ≤ o0) (g_ed : n0 ≤ ed) (E_o1 : Exa Z h0 o1 "java/lang/String") (V_ed : Arv Z h0 ed ka (.object "java/lang/Object") (10 : Int32) [(.ref x1), .null, .null, .null, .null, .null, .null, .null, .null, .null] .null) (hov : Ovr Z ka "java/lang/Object") :
    oM l Z mN11 jdk_38_method_25_code 2 (some .boolean) ws (rM 4 1 10 56) #[(.ref o0), (.ref o1)] h0 (own_QEn Z o0 ed ka (mc + (1 : Int32)) (2 : Int32) [(.ref x1), (.ref o1), .null, .null, .null, .null, .null, .null, .null, .null] h0 n0) := by
  refine MetFree.of_bodySF (plainFor_of_name pn_10) hisR ?_
  intro p e s m args below meth c s₁ Bd hml0 hP hK
  obtain ⟨rfl, hZ, hh⟩ := hP
  have hx := Bd.exec
  have hby := Bd.bytes
  have hml : c.maxLocals = 2 := hml0
  have hown : s.vm.findClass "java/util/ArrayList" = some m.cls := findClass_of_methodNamed Bd.named
  have X0 : Stand p l e (rM 4 1 10 56) s m #[(.ref o0), (.ref o1)] below meth c s₁ [] 0 0 := Stand.of_body Bd
  have e0 : s₁.heap = h0 := by rw [← hh, Bd.state]; rfl
  have N0 := Fr.nil n0
  have pre0 := fun t (k : oS p e below s₁ m 0 #[vR o0, vR o1] [] t) => castTop (ef_10 m o0 o1) k
  have nea := Exa.neArv E_o0 V_ed (oW hw 5 rfl)
  obtain ⟨T1, X1, e1, st1⟩ := getF X0 hx hZ hown (host := "") (Or.inl (oW hw 60 rfl)) (Via.of (oW hw 61 rfl)) e0 F_modCount_o0 (g := (mkF m 2 #[vR o0, vR o1] [(.ref o0), (.ref o0)])) rfl rfl (hb hby d10_2)
  obtain ⟨T2, h2, X2, e2, W2, st2⟩ := putF X1 hx hZ hown (host := "") (Or.inl (oW hw 60 rfl)) (Via.of (oW hw 61 rfl)) e1 F_modCount_o0 E_o0 (Or.inl (oW hw 26 rfl)) (oW hw 5 rfl) (ty := .int) (by decide) rfl rfl (g := (mkF m 7 #[vR o0, vR o1] [(.int (mc + (1 : Int32))), (.ref o0)])) rfl rfl (hb hby d10_7)
  have O2 := O0.wr W2 g_o0
  have Fw2 := F_modCount_o0.same W2
  have N2 := Fr.snoc X2 N0 g_o0
  have f_o0_1_elementData := (F_elementData_o0.other W2 (Or.inr (slot_ne (Or.inl (oW hw 29 rfl)) (Or.inl (oW hw 26 rfl)) (by decide) (t := (.array (.object "java/lang/Object"))) (t' := .int) (by decide) (by decide))))
  obtain ⟨T3, X3, e3, st3⟩ := getF X2 hx hZ hown (host := "") (Or.inl (oW hw 28 rfl)) Via.refl e2 f_o0_1_elementData (g := (mkF m 13 #[vR o0, vR o1] [(.ref o0), (.ref o1), (.ref o0)])) rfl rfl (hb hby d10_13)
  have f_o0_1_size := (F_size_o0.other W2 (Or.inr (slot_ne (Or.inl (oW hw 63 rfl)) (Or.inl (oW hw 26 rfl)) (by decide) (t := .int) (t' := .int) (by decide) (by decide))))
  obtain ⟨T4, X4, e4, st4⟩ := getF X3 hx hZ hown (host := "") (Or.inl (oW hw 62 rfl)) Via.refl e3 f_o0_1_size (g := (mkF m 17 #[vR o0, vR o1] [(.ref o0), (.ref ed), (.ref o1), (.ref o0)])) rfl rfl (hb hby d10_17)
  obtain ⟨cq5, q5, q5'⟩ := (E_o0.wr W2).cell
  obtain ⟨_, _, ⟨T5, L5, k5, n5⟩, -, X5, ⟨Lc5, hQ5, l5, y5, z5⟩, st5⟩ := X4.privateBack hx (y := mN10) hown (mvT hZ (oW hw 64 rfl)) (mvT hZ (oW hw 65 rfl)) (mvT hZ (oW hw 67 rfl)) (Cond.privateMethod_at (mvP hZ (oW hw 66 rfl) (args := #[]))) (mvT hZ (oW hw 68 rfl)) (by decide) (backOf (W := 0) (rmD1 l Z a0 hw [] o0 o1 ed (mc + (1 : Int32)) x1 ka h2 n0 O2 (E_o0.wr W2) Fw2 f_o0_1_size f_o0_1_elementData g_o0 g_ed (E_o1.wr W2) (V_ed.other W2 (Ne.symm nea)) hov) hZ (oW hw 68 rfl) (oW hw 6 rfl) (by decide) (by decide)) (g := (mkF m 20 #[vR o0, vR o1] [(.int 1), (.ref ed), (.ref o1), (.ref o0)])) rfl (by rw [hml]; rfl) (Steps.refl _) (a := o0) (by rw [e4]; exact q5) q5' (argsL := [(.ref o1), (.ref ed), (.int 1)]) (rest := []) (lenOf pd_7 rfl) rfl (by show 2 * 0 + _ ≤ _; exact Nat.le_of_eq rfl) (hb hby d10_20) (fun _ _ => ⟨rfl, e4, (by decide : 0 + 0 ≤ _), (by decide : 0 + 0 ≤ _)⟩)
  dsimp only [Pt.U, Pt.locs, Pt.cells, Pt.slots] at X5 l5 y5 z5 st5 hQ5
  subst l5 y5 z5
  obtain ⟨rfl, N5q, K5, Fm5, Fs5, Fe5, Va5⟩ := hQ5
  have N5 := Fr.app N2 N5q
  have O5 := O2.keep K5 (allS g_o0 (allS g_ed all0))
  obtain ⟨fs, hr, hrun, hended, hW, hsame⟩ := X5.leave (v := some (.int 1)) (fun h => by rw [Bd.returns] at h; cases h)
  refine ⟨_, _, pre0 _ ?_, hrun, hended, _, _, rfl, ?_, ⟨_, rfl⟩, hW, hsame.mono (by decide) (by decide)⟩
  · show oS p e below s₁ m 0 #[vR o0, vR o1] [] _
    refine XS.aloadN X0.here hx rfl (hb hby d10_0) rfl rfl ?_
    refine XS.dup X0.here hx rfl (hb hby d10_1) rfl rfl ?_
    show oS p e below s₁ m 2 #[vR o0, vR o1] [(.ref o0), (.ref o0)] _
    refine st1 _ ?_
    show oS p e below T1 m 5 #[vR o0, vR o1] [(.int mc), (.ref o0)] _
    refine XS.iconst X1.here hx rfl (hb hby d10_5) ?_
    refine XS.iadd X1.here hx rfl (hb hby d10_6) rfl ?_
    show oS p e below T1 m 7 #[vR o0, vR o1] [(.int (mc + (1 : Int32))), (.ref o0)] _
    refine st2 _ ?_
    show oS p e below T2 m 10 #[vR o0, vR o1] [] _
    refine XS.aloadN X2.here hx rfl (hb hby d10_10) rfl rfl ?_
    refine XS.aloadN X2.here hx rfl (hb hby d10_11) rfl rfl ?_
    refine XS.aloadN X2.here hx rfl (hb hby d10_12) rfl rfl ?_
    show oS p e below T2 m 13 #[vR o0, vR o1] [(.ref o0), (.ref o1), (.ref o0)] _
    refine st3 _ ?_
    show oS p e below T3 m 16 #[vR o0, vR o1] [(.ref ed), (.ref o1), (.ref o0)] _
    refine XS.aloadN X3.here hx rfl (hb hby d10_16) rfl rfl ?_
    show oS p e below T3 m 17 #[vR o0, vR o1] [(.ref o0), (.ref ed), (.ref o1), (.ref o0)] _
    refine st4 _ ?_
    show oS p e below T4 m 20 #[vR o0, vR o1] [(.int 1), (.ref ed), (.ref o1), (.ref o0)] _
    refine st5.trans ?_
    show oS p e below T5 m 23 #[vR o0, vR o1] [] _
    refine XS.iconst X5.here hx rfl (hb hby d10_23) ?_
    show oS p e below T5 m 24 #[vR o0, vR o1] [(.int 1)] _
    exact retN X5 hx (t := .boolean) Bd.returns (by simp) (hb hby d10_24) hr
  · show own_QEn Z o0 ed ka (mc + (1 : Int32)) (2 : Int32) [(.ref x1), (.ref o1), .null, .null, .null, .null, .null, .null, .null, .null] h0 n0 _ T5.heap _
    exact ⟨rfl, N5, (((Keep.refl h0 [o0, ed]).wr W2 (Or.inl (List.mem_of_getElem? (i := 0) rfl))).trans K5 (allS (Or.inl (List.mem_of_getElem? (i := 0) rfl)) (allS (Or.inl (List.mem_of_getElem? (i := 1) rfl)) all0))), Fm5, Fs5, Fe5, Va5⟩
theorem rmE2 (l : Launch) (Z : State) (a0 : Array Value) (hw : HW a0 Z) (ws : List Jvm.Cond) (o0 : Addr) (o1 : Addr) (mc : Int32) (ed : Addr) (x1 : Addr) (x2 : Addr) (ka : ClassId) (h0 : Heap) (n0 : Nat) (O0 : Old Z n0 h0) (E_o0 : Exa Z h0 o0 "java/util/ArrayList") (F_modCount_o0 : Fld Z h0 o0 "java/util/AbstractList" "modCount" "I" (.int mc)) (F_size_o0 : Fld Z h0 o0 "java/util/ArrayList" "size" "I" (.int 2)) (F_elementData_o0 : Fld Z h0 o0 "java/util/ArrayList" "elementData" "[Ljava/lang/Object;" (.ref ed)) (g_o0 : n0 ≤ o0) (g_ed : n0 ≤ ed) (E_o1 : Exa Z h0 o1 "java/lang/String") (V_ed : Arv Z h0 ed ka (.object "java/lang/Object") (10 : Int32) [(.ref x1), (.ref x2), .null, .null, .null, .null, .null, .null, .null, .null] .null) (hov : Ovr Z ka "java/lang/Object") :
    oM l Z mN11 jdk_38_method_25_code 2 (some .boolean) ws (rM 4 1 10 56) #[(.ref o0), (.ref o1)] h0 (own_QEn Z o0 ed ka (mc + (1 : Int32)) (3 : Int32) [(.ref x1), (.ref x2), (.ref o1), .null, .null, .null, .null, .null, .null, .null] h0 n0) := by
  refine MetFree.of_bodySF (plainFor_of_name pn_10) hisR ?_
  intro p e s m args below meth c s₁ Bd hml0 hP hK
  obtain ⟨rfl, hZ, hh⟩ := hP
  have hx := Bd.exec
  have hby := Bd.bytes
  have hml : c.maxLocals = 2 := hml0
  have hown : s.vm.findClass "java/util/ArrayList" = some m.cls := findClass_of_methodNamed Bd.named
  have X0 : Stand p l e (rM 4 1 10 56) s m #[(.ref o0), (.ref o1)] below meth c s₁ [] 0 0 := Stand.of_body Bd
  have e0 : s₁.heap = h0 := by rw [← hh, Bd.state]; rfl
  have N0 := Fr.nil n0
  have pre0 := fun t (k : oS p e below s₁ m 0 #[vR o0, vR o1] [] t) => castTop (ef_10 m o0 o1) k
  have nea := Exa.neArv E_o0 V_ed (oW hw 5 rfl)
  obtain ⟨T1, X1, e1, st1⟩ := getF X0 hx hZ hown (host := "") (Or.inl (oW hw 60 rfl)) (Via.of (oW hw 61 rfl)) e0 F_modCount_o0 (g := (mkF m 2 #[vR o0, vR o1] [(.ref o0), (.ref o0)])) rfl rfl (hb hby d10_2)
  obtain ⟨T2, h2, X2, e2, W2, st2⟩ := putF X1 hx hZ hown (host := "") (Or.inl (oW hw 60 rfl)) (Via.of (oW hw 61 rfl)) e1 F_modCount_o0 E_o0 (Or.inl (oW hw 26 rfl)) (oW hw 5 rfl) (ty := .int) (by decide) rfl rfl (g := (mkF m 7 #[vR o0, vR o1] [(.int (mc + (1 : Int32))), (.ref o0)])) rfl rfl (hb hby d10_7)
  have O2 := O0.wr W2 g_o0
  have Fw2 := F_modCount_o0.same W2
  have N2 := Fr.snoc X2 N0 g_o0
  have f_o0_1_elementData := (F_elementData_o0.other W2 (Or.inr (slot_ne (Or.inl (oW hw 29 rfl)) (Or.inl (oW hw 26 rfl)) (by decide) (t := (.array (.object "java/lang/Object"))) (t' := .int) (by decide) (by decide))))
  obtain ⟨T3, X3, e3, st3⟩ := getF X2 hx hZ hown (host := "") (Or.inl (oW hw 28 rfl)) Via.refl e2 f_o0_1_elementData (g := (mkF m 13 #[vR o0, vR o1] [(.ref o0), (.ref o1), (.ref o0)])) rfl rfl (hb hby d10_13)
  have f_o0_1_size := (F_size_o0.other W2 (Or.inr (slot_ne (Or.inl (oW hw 63 rfl)) (Or.inl (oW hw 26 rfl)) (by decide) (t := .int) (t' := .int) (by decide) (by decide))))
  obtain ⟨T4, X4, e4, st4⟩ := getF X3 hx hZ hown (host := "") (Or.inl (oW hw 62 rfl)) Via.refl e3 f_o0_1_size (g := (mkF m 17 #[vR o0, vR o1] [(.ref o0), (.ref ed), (.ref o1), (.ref o0)])) rfl rfl (hb hby d10_17)
  obtain ⟨cq5, q5, q5'⟩ := (E_o0.wr W2).cell
  obtain ⟨_, _, ⟨T5, L5, k5, n5⟩, -, X5, ⟨Lc5, hQ5, l5, y5, z5⟩, st5⟩ := X4.privateBack hx (y := mN10) hown (mvT hZ (oW hw 64 rfl)) (mvT hZ (oW hw 65 rfl)) (mvT hZ (oW hw 67 rfl)) (Cond.privateMethod_at (mvP hZ (oW hw 66 rfl) (args := #[]))) (mvT hZ (oW hw 68 rfl)) (by decide) (backOf (W := 0) (rmD2 l Z a0 hw [] o0 o1 ed (mc + (1 : Int32)) x1 x2 ka h2 n0 O2 (E_o0.wr W2) Fw2 f_o0_1_size f_o0_1_elementData g_o0 g_ed (E_o1.wr W2) (V_ed.other W2 (Ne.symm nea)) hov) hZ (oW hw 68 rfl) (oW hw 6 rfl) (by decide) (by decide)) (g := (mkF m 20 #[vR o0, vR o1] [(.int 2), (.ref ed), (.ref o1), (.ref o0)])) rfl (by rw [hml]; rfl) (Steps.refl _) (a := o0) (by rw [e4]; exact q5) q5' (argsL := [(.ref o1), (.ref ed), (.int 2)]) (rest := []) (lenOf pd_7 rfl) rfl (by show 2 * 0 + _ ≤ _; exact Nat.le_of_eq rfl) (hb hby d10_20) (fun _ _ => ⟨rfl, e4, (by decide : 0 + 0 ≤ _), (by decide : 0 + 0 ≤ _)⟩)
  dsimp only [Pt.U, Pt.locs, Pt.cells, Pt.slots] at X5 l5 y5 z5 st5 hQ5
  subst l5 y5 z5
  obtain ⟨rfl, N5q, K5, Fm5, Fs5, Fe5, Va5⟩ := hQ5
  have N5 := Fr.app N2 N5q
  have O5 := O2.keep K5 (allS g_o0 (allS g_ed all0))
  obtain ⟨fs, hr, hrun, hended, hW, hsame⟩ := X5.leave (v := some (.int 1)) (fun h => by rw [Bd.returns] at h; cases h)
  refine ⟨_, _, pre0 _ ?_, hrun, hended, _, _, rfl, ?_, ⟨_, rfl⟩, hW, hsame.mono (by decide) (by decide)⟩
  · show oS p e below s₁ m 0 #[vR o0, vR o1] [] _
    refine XS.aloadN X0.here hx rfl (hb hby d10_0) rfl rfl ?_
    refine XS.dup X0.here hx rfl (hb hby d10_1) rfl rfl ?_
    show oS p e below s₁ m 2 #[vR o0, vR o1] [(.ref o0), (.ref o0)] _
    refine st1 _ ?_
    show oS p e below T1 m 5 #[vR o0, vR o1] [(.int mc), (.ref o0)] _
    refine XS.iconst X1.here hx rfl (hb hby d10_5) ?_
    refine XS.iadd X1.here hx rfl (hb hby d10_6) rfl ?_
    show oS p e below T1 m 7 #[vR o0, vR o1] [(.int (mc + (1 : Int32))), (.ref o0)] _
    refine st2 _ ?_
    show oS p e below T2 m 10 #[vR o0, vR o1] [] _
    refine XS.aloadN X2.here hx rfl (hb hby d10_10) rfl rfl ?_
    refine XS.aloadN X2.here hx rfl (hb hby d10_11) rfl rfl ?_
    refine XS.aloadN X2.here hx rfl (hb hby d10_12) rfl rfl ?_
    show oS p e below T2 m 13 #[vR o0, vR o1] [(.ref o0), (.ref o1), (.ref o0)] _
    refine st3 _ ?_
    show oS p e below T3 m 16 #[vR o0, vR o1] [(.ref ed), (.ref o1), (.ref o0)] _
    refine XS.aloadN X3.here hx rfl (hb hby d10_16) rfl rfl ?_
    show oS p e below T3 m 17 #[vR o0, vR o1] [(.ref o0), (.ref ed), (.ref o1), (.ref o0)] _
    refine st4 _ ?_
    show oS p e below T4 m 20 #[vR o0, vR o1] [(.int 2), (.ref ed), (.ref o1), (.ref o0)] _
    refine st5.trans ?_
    show oS p e below T5 m 23 #[vR o0, vR o1] [] _
    refine XS.iconst X5.here hx rfl (hb hby d10_23) ?_
    show oS p e below T5 m 24 #[vR o0, vR o1] [(.int 1)] _
    exact retN X5 hx (t := .boolean) Bd.returns (by simp) (hb hby d10_24) hr
  · show own_QEn Z o0 ed ka (mc + (1 : Int32)) (3 : Int32) [(.ref x1), (.ref x2), (.ref o1), .null, .null, .null, .null, .null, .null, .null] h0 n0 _ T5.heap _
    exact ⟨rfl, N5, (((Keep.refl h0 [o0, ed]).wr W2 (Or.inl (List.mem_of_getElem? (i := 0) rfl))).trans K5 (allS (Or.inl (List.mem_of_getElem? (i := 0) rfl)) (allS (Or.inl (List.mem_of_getElem? (i := 1) rfl)) all0))), Fm5, Fs5, Fe5, Va5⟩
def own_AL (Z : State) (h : Heap) (ad l ed : Addr) (n : Int32) (x1 x2 : Addr) : Prop := ∃ (k : ClassId) (mc : Int32), Exa Z h l "java/util/ArrayList" ∧ Fld Z h l "java/util/AbstractList" "modCount" "I" (.int mc) ∧ Fld Z h l "java/util/ArrayList" "size" "I" (.int n) ∧ Fld Z h l "java/util/ArrayList" "elementData" "[Ljava/lang/Object;" (.ref ed) ∧ ed < h.size ∧ ((n = 0 ∧ ed = ad) ∨ (n = 1 ∧ Arv Z h ed k (.object "java/lang/Object") (10 : Int32) [(.ref x1), .null, .null, .null, .null, .null, .null, .null, .null, .null] .null ∧ Exa Z h ed "[Ljava/lang/Object;" ∧ Ovr Z k "java/lang/Object" ∧ Exa Z h x1 "java/lang/String") ∨ (n = 2 ∧ Arv Z h ed k (.object "java/lang/Object") (10 : Int32) [(.ref x1), (.ref x2), .null, .null, .null, .null, .null, .null, .null, .null] .null ∧ Exa Z h ed "[Ljava/lang/Object;" ∧ Ovr Z k "java/lang/Object" ∧ Exa Z h x1 "java/lang/String" ∧ Exa Z h x2 "java/lang/String"))
theorem own_AL.ext {Z : State} {h h' : Heap} {ad l ed x1 x2 : Addr} {n : Int32} (A : own_AL Z h ad l ed n x1 x2) (E : Ext h h') : own_AL Z h' ad l ed n x1 x2 := by
  obtain ⟨k, mc, a1, a2, a3, a4, a5, s⟩ := A
  refine ⟨k, mc, a1.ext E, a2.ext E, a3.ext E, a4.ext E, Nat.lt_of_lt_of_le a5 E.1, ?_⟩
  rcases s with s | ⟨q, s1, s2, s3, s4⟩ | ⟨q, s1, s2, s3, s4, s5⟩
  · exact Or.inl s
  · exact Or.inr (Or.inl ⟨q, s1.ext E, s2.ext E, s3, s4.ext E⟩)
  · exact Or.inr (Or.inr ⟨q, s1.ext E, s2.ext E, s3, s4.ext E, s5.ext E⟩)
theorem own_AL.keep {Z : State} {h h' : Heap} {ad l ed x1 x2 : Addr} {n : Int32} {ws : List Addr} (A : own_AL Z h ad l ed n x1 x2) (K : Keep h h' ws) (hl : l ∉ ws) (he : ed ∉ ws) : own_AL Z h' ad l ed n x1 x2 := by
  obtain ⟨k, mc, a1, a2, a3, a4, a5, s⟩ := A
  refine ⟨k, mc, a1.keep K, a2.keep K hl, a3.keep K hl, a4.keep K hl, Nat.lt_of_lt_of_le a5 K.1, ?_⟩
  rcases s with s | ⟨q, s1, s2, s3, s4⟩ | ⟨q, s1, s2, s3, s4, s5⟩
  · exact Or.inl s
  · exact Or.inr (Or.inl ⟨q, s1.keep K he, s2.keep K, s3, s4.keep K⟩)
  · exact Or.inr (Or.inr ⟨q, s1.keep K he, s2.keep K, s3, s4.keep K, s5.keep K⟩)
theorem own_AL.other {Z : State} {h h' : Heap} {ad l ed x1 x2 a : Addr} {n : Int32} {sl : Nat} {v : Value} (A : own_AL Z h ad l ed n x1 x2) (W : Wr h h' a sl v) (hl : l ≠ a) (he : ed ≠ a) : own_AL Z h' ad l ed n x1 x2 := A.keep (Keep.of_wr W) (ninS hl nin0) (ninS he nin0)
theorem own_AL.exa {Z : State} {h : Heap} {ad l ed x1 x2 : Addr} {n : Int32} (A : own_AL Z h ad l ed n x1 x2) : Exa Z h l "java/util/ArrayList" := by obtain ⟨k, mc, a1, -⟩ := A; exact a1
theorem own_AL.sz {Z : State} {h : Heap} {ad l ed x1 x2 : Addr} {n : Int32} (A : own_AL Z h ad l ed n x1 x2) : Fld Z h l "java/util/ArrayList" "size" "I" (.int n) := by obtain ⟨k, mc, a1, a2, a3, -⟩ := A; exact a3
theorem own_AL.ltl {Z : State} {h : Heap} {ad l ed x1 x2 : Addr} {n : Int32} (A : own_AL Z h ad l ed n x1 x2) : l < h.size := A.exa.lt
theorem own_AL.lte {Z : State} {h : Heap} {ad l ed x1 x2 : Addr} {n : Int32} (A : own_AL Z h ad l ed n x1 x2) : ed < h.size := by obtain ⟨k, mc, a1, a2, a3, a4, a5, -⟩ := A; exact a5
theorem own_AL.nee {Z : State} {h : Heap} {ad l ed x1 x2 o : Addr} {n : Int32} {C : String} {kd : ClassId} {j : Nat} {a0 : Array Value} (A : own_AL Z h ad l ed n x1 x2) (V : Arv Z h ad kd (.object "java/lang/Object") (0 : Int32) [] .null) (E : Exa Z h o C) (w : (Jvm.Cond.instantiable C j).before a0 Z = true) : ed ≠ o := by
  obtain ⟨k, mc, a1, a2, a3, a4, a5, s⟩ := A
  rcases s with ⟨-, rfl⟩ | ⟨q, s1, -⟩ | ⟨q, s1, -⟩
  · exact Ne.symm (E.neArv V w)
  · exact Ne.symm (E.neArv s1 w)
  · exact Ne.symm (E.neArv s1 w)
def own_LS (Z : State) (h : Heap) (l ed : Addr) (n : Int32) (x1 x2 : Addr) : Prop := n = 0 ∨ ∃ (k : ClassId) (m : Int32), Exa Z h l "java/util/ArrayList" ∧ Fld Z h l "java/util/ArrayList" "size" "I" (.int m) ∧ Fld Z h l "java/util/ArrayList" "elementData" "[Ljava/lang/Object;" (.ref ed) ∧ ((n = 1 ∧ (0 : Int32) < m ∧ ∃ y1 y2 : Value, Arv Z h ed k (.object "java/lang/Object") (10 : Int32) [(.ref x1), y1, y2, .null, .null, .null, .null, .null, .null, .null] .null) ∨ (n = 2 ∧ (1 : Int32) < m ∧ ∃ y2 : Value, Arv Z h ed k (.object "java/lang/Object") (10 : Int32) [(.ref x1), (.ref x2), y2, .null, .null, .null, .null, .null, .null, .null] .null))
theorem own_LS.ext {Z : State} {h h' : Heap} {l ed x1 x2 : Addr} {n : Int32} (A : own_LS Z h l ed n x1 x2) (E : Ext h h') : own_LS Z h' l ed n x1 x2 := by
  rcases A with A | ⟨k, m, a1, a2, a3, s⟩
  · exact Or.inl A
  · refine Or.inr ⟨k, m, a1.ext E, a2.ext E, a3.ext E, ?_⟩
    rcases s with ⟨q, r, y1, y2, s⟩ | ⟨q, r, y2, s⟩
    · exact Or.inl ⟨q, r, y1, y2, s.ext E⟩
    · exact Or.inr ⟨q, r, y2, s.ext E⟩
theorem own_LS.keep {Z : State} {h h' : Heap} {l ed x1 x2 : Addr} {n : Int32} {ws : List Addr} (A : own_LS Z h l ed n x1 x2) (K : Keep h h' ws) (hl : l ∉ ws) (he : ed ∉ ws) : own_LS Z h' l ed n x1 x2 := by
  rcases A with A | ⟨k, m, a1, a2, a3, s⟩
  · exact Or.inl A
  · refine Or.inr ⟨k, m, a1.keep K, a2.keep K hl, a3.keep K hl, ?_⟩
    rcases s with ⟨q, r, y1, y2, s⟩ | ⟨q, r, y2, s⟩
    · exact Or.inl ⟨q, r, y1, y2, s.keep K he⟩
    · exact Or.inr ⟨q, r, y2, s.keep K he⟩
theorem own_AL.ls {Z : State} {h : Heap} {ad l ed x1 x2 : Addr} {n : Int32} (A : own_AL Z h ad l ed n x1 x2) : own_LS Z h l ed n x1 x2 := by
  obtain ⟨k, mc, a1, a2, a3, a4, a5, s⟩ := A
  rcases s with ⟨q, -⟩ | ⟨q, s1, -⟩ | ⟨q, s1, -⟩
  · exact Or.inl q
  · exact Or.inr ⟨k, n, a1, a3, a4, Or.inl ⟨q, by rw [q]; decide, .null, .null, s1⟩⟩
  · exact Or.inr ⟨k, n, a1, a3, a4, Or.inr ⟨q, by rw [q]; decide, .null, s1⟩⟩
def own_IL (Z : State) (h : Heap) (el em g : Addr) (n : Int32) (x1 x2 : Addr) : Prop := (n = 0 ∧ g = el) ∨ (n = 1 ∧ Exa Z h g "java/util/ImmutableCollections$List12" ∧ Fld Z h g "java/util/ImmutableCollections$List12" "e0" "Ljava/lang/Object;" (.ref x1) ∧ Fld Z h g "java/util/ImmutableCollections$List12" "e1" "Ljava/lang/Object;" (.ref em) ∧ Exa Z h x1 "java/lang/String") ∨ (n = 2 ∧ Exa Z h g "java/util/ImmutableCollections$List12" ∧ Fld Z h g "java/util/ImmutableCollections$List12" "e0" "Ljava/lang/Object;" (.ref x1) ∧ Fld Z h g "java/util/ImmutableCollections$List12" "e1" "Ljava/lang/Object;" (.ref x2) ∧ Exa Z h x1 "java/lang/String" ∧ Exa Z h x2 "java/lang/String")
theorem own_IL.ext {Z : State} {h h' : Heap} {el em g x1 x2 : Addr} {n : Int32} (A : own_IL Z h el em g n x1 x2) (E : Ext h h') : own_IL Z h' el em g n x1 x2 := by
  rcases A with A | ⟨q, s1, s2, s3, s4⟩ | ⟨q, s1, s2, s3, s4, s5⟩
  · exact Or.inl A
  · exact Or.inr (Or.inl ⟨q, s1.ext E, s2.ext E, s3.ext E, s4.ext E⟩)
  · exact Or.inr (Or.inr ⟨q, s1.ext E, s2.ext E, s3.ext E, s4.ext E, s5.ext E⟩)
theorem own_IL.keep {Z : State} {h h' : Heap} {el em g x1 x2 : Addr} {n : Int32} {ws : List Addr} (A : own_IL Z h el em g n x1 x2) (K : Keep h h' ws) (hg : g ∉ ws) : own_IL Z h' el em g n x1 x2 := by
  rcases A with A | ⟨q, s1, s2, s3, s4⟩ | ⟨q, s1, s2, s3, s4, s5⟩
  · exact Or.inl A
  · exact Or.inr (Or.inl ⟨q, s1.keep K, s2.keep K hg, s3.keep K hg, s4.keep K⟩)
  · exact Or.inr (Or.inr ⟨q, s1.keep K, s2.keep K hg, s3.keep K hg, s4.keep K, s5.keep K⟩)
theorem own_IL.other {Z : State} {h h' : Heap} {el em g x1 x2 a : Addr} {n : Int32} {sl : Nat} {v : Value} (A : own_IL Z h el em g n x1 x2) (W : Wr h h' a sl v) (hg : g ≠ a) : own_IL Z h' el em g n x1 x2 := A.keep (Keep.of_wr W) (ninS hg nin0)
theorem own_mod (p n : Int32) (hn : 0 < n.toInt) : 0 ≤ ((p &&& (2147483647 : Int32)) % n).toInt ∧ ((p &&& (2147483647 : Int32)) % n).toInt < n.toInt := by
  have e1 := c_mask p 2147483647 31 (by decide) (by decide)
  have e2 : 0 ≤ (p &&& (2147483647 : Int32)).toInt := by rw [e1]; exact Int.emod_nonneg _ (by decide)
  rw [Int32.toInt_mod, Int.tmod_eq_emod_of_nonneg e2]
  exact ⟨Int.emod_nonneg _ (by omega), Int.emod_lt_of_pos _ hn⟩
theorem own_mod3 (p : Int32) : ((p &&& (2147483647 : Int32)) % (3 : Int32)) = (0 : Int32) ∨ ((p &&& (2147483647 : Int32)) % (3 : Int32)) = (1 : Int32) ∨ ((p &&& (2147483647 : Int32)) % (3 : Int32)) = (2 : Int32) := by
  have h := own_mod p (3 : Int32) (by decide)
  generalize ((p &&& (2147483647 : Int32)) % (3 : Int32)) = i at h ⊢
  have hn : (3 : Int32).toInt = 3 := by decide
  have hk : i.toInt = 0 ∨ i.toInt = 1 ∨ i.toInt = 2 := by omega
  rcases hk with hk | hk | hk
  · exact Or.inl (Int32.toInt_inj.mp (hk.trans (by decide)))
  · exact Or.inr (Or.inl (Int32.toInt_inj.mp (hk.trans (by decide))))
  · exact Or.inr (Or.inr ((Int32.toInt_inj.mp (hk.trans (by decide)))))
theorem own_c255 (x : Int32) : ¬ (255 : Int32) < ((x &&& (255 : Int32)).toUInt32.toUInt16.toUInt32.toInt32) := by
  have e1 := c_mask x 255 8 (by decide) (by decide)
  have e2 := c_i2c (x &&& 255)
  have e4 : (255 : Int32).toInt = 255 := by decide
  have e5 : ((2 ^ 8 : Nat) : Int) = 256 := by decide
  rw [Int32.lt_iff_toInt_lt, e4]
  rw [e5] at e1
  omega
def own_QDr (Z : State) (ad : Addr) (h0 : Heap) (n0 : Nat) (v : Option Value) (h : Heap) (L : List Loc) : Prop := ∃ (l ed : Addr) (n : Int32) (x1 x2 : Addr), v = some (.ref l) ∧ Fr n0 L ∧ Keep h0 h [] ∧ own_AL Z h ad l ed n x1 x2 ∧ h0.size ≤ l ∧ (n = 0 ∨ h0.size ≤ ed)
theorem d1_0 : decode method_2_code 0 = .ok (.new 7, 3) := by decide +kernel
theorem d1_3 : decode method_2_code 3 = .ok (.dup, 1) := by decide +kernel
theorem d1_4 : decode method_2_code 4 = .ok (.invokespecial 9, 3) := by decide +kernel
theorem d1_7 : decode method_2_code 7 = .ok (.astore_n 1, 1) := by decide +kernel
theorem d1_8 : decode method_2_code 8 = .ok (.iload_n 0, 1) := by decide +kernel
theorem d1_9 : decode method_2_code 9 = .ok (.ldc 10, 2) := by decide +kernel
theorem d1_11 : decode method_2_code 11 = .ok (.iand, 1) := by decide +kernel
theorem d1_12 : decode method_2_code 12 = .ok (.iconst 3, 1) := by decide +kernel
theorem d1_13 : decode method_2_code 13 = .ok (.irem, 1) := by decide +kernel
theorem d1_14 : decode method_2_code 14 = .ok (.istore_n 2, 1) := by decide +kernel
theorem d1_15 : decode method_2_code 15 = .ok (.iload_n 2, 1) := by decide +kernel
theorem d1_16 : decode method_2_code 16 = .ok (.iconst 1, 1) := by decide +kernel
theorem d1_17 : decode method_2_code 17 = .ok (.if_icmp .lt 20, 3) := by decide +kernel
theorem d1_37 : decode method_2_code 37 = .ok (.iload_n 2, 1) := by decide +kernel
theorem d1_38 : decode method_2_code 38 = .ok (.iconst 2, 1) := by decide +kernel
theorem d1_39 : decode method_2_code 39 = .ok (.if_icmp .lt 20, 3) := by decide +kernel
theorem d1_59 : decode method_2_code 59 = .ok (.aload_n 1, 1) := by decide +kernel
theorem d1_60 : decode method_2_code 60 = .ok (.areturn, 1) := by decide +kernel
theorem d1_20 : decode method_2_code 20 = .ok (.aload_n 1, 1) := by decide +kernel
theorem d1_21 : decode method_2_code 21 = .ok (.iload_n 0, 1) := by decide +kernel
theorem d1_22 : decode method_2_code 22 = .ok (.bipush 8, 2) := by decide +kernel
theorem d1_24 : decode method_2_code 24 = .ok (.iushr, 1) := by decide +kernel
theorem d1_25 : decode method_2_code 25 = .ok (.sipush 255, 3) := by decide +kernel
theorem d1_28 : decode method_2_code 28 = .ok (.iand, 1) := by decide +kernel
theorem d1_29 : decode method_2_code 29 = .ok (.i2c, 1) := by decide +kernel
theorem d1_30 : decode method_2_code 30 = .ok (.invokestatic 11, 3) := by decide +kernel
theorem pd_8 : parseMethodDescriptor "(C)Ljava/lang/String;" = some ⟨[.char], some (.object "java/lang/String")⟩ := by decide +kernel
theorem d1_33 : decode method_2_code 33 = .ok (.invokevirtual 17, 3) := by decide +kernel
theorem pd_9 : parseMethodDescriptor "(Ljava/lang/Object;)Z" = some ⟨[(.object "java/lang/Object")], some .boolean⟩ := by decide +kernel
theorem d1_36 : decode method_2_code 36 = .ok (.pop, 1) := by decide +kernel
theorem d1_42 : decode method_2_code 42 = .ok (.aload_n 1, 1) := by decide +kernel
theorem d1_43 : decode method_2_code 43 = .ok (.iload_n 0, 1) := by decide +kernel
theorem d1_44 : decode method_2_code 44 = .ok (.bipush 16, 2) := by decide +kernel
theorem d1_46 : decode method_2_code 46 = .ok (.iushr, 1) := by decide +kernel
theorem d1_47 : decode method_2_code 47 = .ok (.sipush 255, 3) := by decide +kernel
theorem d1_50 : decode method_2_code 50 = .ok (.iand, 1) := by decide +kernel
theorem d1_51 : decode method_2_code 51 = .ok (.i2c, 1) := by decide +kernel
theorem d1_52 : decode method_2_code 52 = .ok (.invokestatic 11, 3) := by decide +kernel
theorem d1_55 : decode method_2_code 55 = .ok (.invokevirtual 17, 3) := by decide +kernel
theorem d1_58 : decode method_2_code 58 = .ok (.pop, 1) := by decide +kernel
theorem ef_1 (m : MethodId) (x0 : Int32) : entryFrame m #[(.int x0)] 3 = mkF m 0 #[.val (.int x0), .unset, .unset] [] := by first | (simp [entryFrame, mkF, argsToLocals, Value.category]; done) | rfl
theorem pn_1 : plainName "com/example/graftwork/graftwork/ElementDefinitionTypesPinLaw" = true := by first | (simp [plainName, overriddenIn]; done) | decide +kernel
theorem rmDr0 (l : Launch) (Z : State) (a0 : Array Value) (hw : HW a0 Z) (ws : List Jvm.Cond) (p0 : Int32) (ad : Addr) (kd : ClassId) (zc : Int32) (c1 c2 : Int32) (h0 : Heap) (n0 : Nat) (O0 : Old Z n0 h0) (S_DE : Sta Z Z.heap "java/util/ArrayList" "DEFAULTCAPACITY_EMPTY_ELEMENTDATA" "[Ljava/lang/Object;" (.ref ad)) (V_ad : Arv Z Z.heap ad kd (.object "java/lang/Object") (0 : Int32) [] .null) (S_CS : Sta Z Z.heap "java/lang/String" "COMPACT_STRINGS" "Z" (.int zc)) (hzc : ¬ zc = 0) (hn : ((p0 &&& (2147483647 : Int32)) % (3 : Int32)) = (0 : Int32)) (hc1 : ((((p0.toUInt32 >>> ((8 : Int32) &&& 31).toUInt32).toInt32) &&& (255 : Int32)).toUInt32.toUInt16.toUInt32.toInt32) = c1) (hc2 : ((((p0.toUInt32 >>> ((16 : Int32) &&& 31).toUInt32).toInt32) &&& (255 : Int32)).toUInt32.toUInt16.toUInt32.toInt32) = c2) (kc1 : ¬ (255 : Int32) < c1) (kc2 : ¬ (255 : Int32) < c2) :
    oM l Z mN12 method_2_code 3 (some (.object "java/util/ArrayList")) ws (rM 5 7 33 69) #[(.int p0)] h0 (own_QDr Z ad h0 n0) := by
  refine MetFree.of_bodySF (plainFor_of_name pn_1) hisR ?_
  intro p e s m args below meth c s₁ Bd hml0 hP hK
  obtain ⟨rfl, hZ, hh⟩ := hP
  have hx := Bd.exec
  have hby := Bd.bytes
  have hml : c.maxLocals = 3 := hml0
  have hown : s.vm.findClass "com/example/graftwork/graftwork/ElementDefinitionTypesPinLaw" = some m.cls := findClass_of_methodNamed Bd.named
  have X0 : Stand p l e (rM 5 7 33 69) s m #[(.int p0)] below meth c s₁ [] 0 0 := Stand.of_body Bd
  have e0 : s₁.heap = h0 := by rw [← hh, Bd.state]; rfl
  have N0 := Fr.nil n0
  have pre0 := fun t (k : oS p e below s₁ m 0 #[vI p0, .unset, .unset] [] t) => castTop (ef_1 m p0) k
  obtain ⟨T1, h1, X1, e1, E1, A1, D1, U1, st1⟩ := newO X0 hx hZ hown (oW hw 4 rfl) (oW hw 5 rfl) (oW hw 6 rfl) e0 (g := (mkF m 0 #[vI p0, .unset, .unset] [])) rfl (hb hby d1_0) (by decide) (by decide)
  obtain ⟨b1, g1⟩ : ∃ z, z = h0.size := ⟨_, rfl⟩
  rw [← g1] at A1 D1 U1 st1
  have Ut1 : Unt h1 b1 := U1
  have g_b1 : n0 ≤ b1 := Nat.le_trans (own_le O0) (Nat.le_of_eq g1.symm)
  have O1 := O0.ext E1
  have F_modCount_b1 : Fld Z h1 b1 "java/util/AbstractList" "modCount" "I" (.int 0) := D1 (Or.inl (oW hw 26 rfl)) (ty := .int) (by decide)
  have F_elementData_b1 : Fld Z h1 b1 "java/util/ArrayList" "elementData" "[Ljava/lang/Object;" .null := D1 (Or.inl (oW hw 29 rfl)) (ty := (.array (.object "java/lang/Object"))) (by decide)
  have F_size_b1 : Fld Z h1 b1 "java/util/ArrayList" "size" "I" (.int 0) := D1 (Or.inl (oW hw 63 rfl)) (ty := .int) (by decide)
  obtain ⟨_, _, ⟨T2, L2, k2, n2⟩, -, X2, ⟨Lc2, hQ2, l2, y2, z2⟩, st2⟩ := X1.specialBack hx (y := mN2) rfl hown (mvT hZ (oW hw 7 rfl)) (mvT hZ (oW hw 8 rfl)) (mvT hZ (oW hw 9 rfl)) (by decide) (backOf (W := 1) (rmA0 l Z a0 hw [] b1 ad kd h1 n0 O1 A1 F_modCount_b1 F_size_b1 F_elementData_b1 g_b1 S_DE V_ad) hZ (oW hw 9 rfl) (oW hw 6 rfl) (by decide) (by decide)) (g := (mkF m 4 #[vI p0, .unset, .unset] [(.ref b1), (.ref b1)])) rfl (by rw [hml]; rfl) (Steps.refl _) (a := b1) (argsL := []) (rest := [(.ref b1)]) (lenOf pd_0 rfl) rfl (by show 2 * 0 + _ ≤ _; exact Nat.le_of_eq rfl) (hb hby d1_4) (fun _ _ => ⟨rfl, e1, (by decide : 1 + 0 ≤ _), (by decide : 3 + 0 ≤ _)⟩)
  dsimp only [Pt.U, Pt.locs, Pt.cells, Pt.slots] at X2 l2 y2 z2 st2 hQ2
  subst l2 y2 z2
  obtain ⟨rfl, N2q, K2, Fm2, Fs2, Fe2⟩ := hQ2
  have N2 := Fr.app N0 N2q
  have O2 := O1.keep K2 (allS g_b1 all0)
  obtain ⟨fs, hr, hrun, hended, hW, hsame⟩ := X2.leave (v := some (.ref b1)) (fun h => by rw [Bd.returns] at h; cases h)
  refine ⟨_, _, pre0 _ ?_, hrun, hended, _, _, rfl, ?_, ⟨_, rfl⟩, hW, hsame.mono (by decide) (by decide)⟩
  · show oS p e below s₁ m 0 #[vI p0, .unset, .unset] [] _
    refine st1 _ ?_
    show oS p e below T1 m 3 #[vI p0, .unset, .unset] [(.ref b1)] _
    refine XS.dup X1.here hx rfl (hb hby d1_3) rfl rfl ?_
    show oS p e below T1 m 4 #[vI p0, .unset, .unset] [(.ref b1), (.ref b1)] _
    refine st2.trans ?_
    show oS p e below T2 m 7 #[vI p0, .unset, .unset] [(.ref b1)] _
    refine XS.astoreN X2.here hx rfl (hb hby d1_7) rfl rfl (l' := #[vI p0, vR b1, .unset]) rfl ?_
    show oS p e below T2 m 8 #[vI p0, vR b1, .unset] [] _
    refine XS.iloadN X2.here hx rfl (hb hby d1_8) rfl ?_
    show oS p e below T2 m 9 #[vI p0, vR b1, .unset] [(.int p0)] _
    refine X2.ldcInt hx hown (mvT hZ (oW hw 30 rfl)) (g := (mkF m 9 #[vI p0, vR b1, .unset] [(.int p0)])) rfl (hb hby d1_9) _ ?_
    show oS p e below T2 m 11 #[vI p0, vR b1, .unset] [(.int 2147483647), (.int p0)] _
    refine XS.iand X2.here hx rfl (hb hby d1_11) rfl ?_
    show oS p e below T2 m 12 #[vI p0, vR b1, .unset] [(.int (p0 &&& (2147483647 : Int32)))] _
    refine XS.iconst X2.here hx rfl (hb hby d1_12) ?_
    show oS p e below T2 m 13 #[vI p0, vR b1, .unset] [(.int 3), (.int (p0 &&& (2147483647 : Int32)))] _
    refine iremM X2 hx rfl (hb hby d1_13) rfl (by decide) ?_
    show oS p e below T2 m 14 #[vI p0, vR b1, .unset] [(.int ((p0 &&& (2147483647 : Int32)) % (3 : Int32)))] _
    rw [hn]
    show oS p e below T2 m 14 #[vI p0, vR b1, .unset] [(.int 0)] _
    refine XS.istoreN X2.here hx rfl (hb hby d1_14) rfl (l' := #[vI p0, vR b1, vI 0]) rfl ?_
    show oS p e below T2 m 15 #[vI p0, vR b1, vI 0] [] _
    refine XS.iloadN X2.here hx rfl (hb hby d1_15) rfl ?_
    refine XS.iconst X2.here hx rfl (hb hby d1_16) ?_
    refine XS.icmpYes X2.here hx rfl (pc0 := 17) (pc' := 37) rfl (hb hby d1_17) rfl (tlt (by decide : (0 : Int32) < (1 : Int32))).1 (by decide) (by decide) ?_
    show oS p e below T2 m 37 #[vI p0, vR b1, vI 0] [] _
    refine XS.iloadN X2.here hx rfl (hb hby d1_37) rfl ?_
    refine XS.iconst X2.here hx rfl (hb hby d1_38) ?_
    refine XS.icmpYes X2.here hx rfl (pc0 := 39) (pc' := 59) rfl (hb hby d1_39) rfl (tlt (by decide : (0 : Int32) < (2 : Int32))).1 (by decide) (by decide) ?_
    show oS p e below T2 m 59 #[vI p0, vR b1, vI 0] [] _
    refine XS.aloadN X2.here hx rfl (hb hby d1_59) rfl rfl ?_
    show Steps p.tables e below (T2.setTop (mkF m 60 #[vI p0, vR b1, vI 0] [(.ref b1)])) _
    jvm_step X2.here [X2.here.top, hx, (hb hby d1_60), X2.method', Bd.returns, Value.isRef, FieldType.isReference]
    first | (intro acts; rw [hr _ acts rfl rfl rfl]) | rw [hr _ _ rfl rfl rfl]
    exact Steps.refl _
  · show own_QDr Z ad h0 n0 _ T2.heap _
    exact ⟨b1, ad, (0 : Int32), b1, b1, rfl, N2, (((Keep.refl h0 []).ext E1).trans K2 (allS (Or.inr (Nat.le_of_eq g1.symm)) all0)), ⟨kd, _, (A1.keep K2), Fm2, Fs2, Fe2, (Nat.lt_of_lt_of_le V_ad.lt O2.2.1), Or.inl ⟨rfl, rfl⟩⟩, (Nat.le_of_eq g1.symm), Or.inl rfl⟩
theorem rmDr1 (l : Launch) (Z : State) (a0 : Array Value) (hw : HW a0 Z) (ws : List Jvm.Cond) (p0 : Int32) (ad : Addr) (kd : ClassId) (zc : Int32) (c1 c2 : Int32) (h0 : Heap) (n0 : Nat) (O0 : Old Z n0 h0) (S_DE : Sta Z Z.heap "java/util/ArrayList" "DEFAULTCAPACITY_EMPTY_ELEMENTDATA" "[Ljava/lang/Object;" (.ref ad)) (V_ad : Arv Z Z.heap ad kd (.object "java/lang/Object") (0 : Int32) [] .null) (S_CS : Sta Z Z.heap "java/lang/String" "COMPACT_STRINGS" "Z" (.int zc)) (hzc : ¬ zc = 0) (hn : ((p0 &&& (2147483647 : Int32)) % (3 : Int32)) = (1 : Int32)) (hc1 : ((((p0.toUInt32 >>> ((8 : Int32) &&& 31).toUInt32).toInt32) &&& (255 : Int32)).toUInt32.toUInt16.toUInt32.toInt32) = c1) (hc2 : ((((p0.toUInt32 >>> ((16 : Int32) &&& 31).toUInt32).toInt32) &&& (255 : Int32)).toUInt32.toUInt16.toUInt32.toInt32) = c2) (kc1 : ¬ (255 : Int32) < c1) (kc2 : ¬ (255 : Int32) < c2) :
    oM l Z mN12 method_2_code 3 (some (.object "java/util/ArrayList")) ws (rM 5 7 33 69) #[(.int p0)] h0 (own_QDr Z ad h0 n0) := by
  refine MetFree.of_bodySF (plainFor_of_name pn_1) hisR ?_
  intro p e s m args below meth c s₁ Bd hml0 hP hK
  obtain ⟨rfl, hZ, hh⟩ := hP
  have hx := Bd.exec
  have hby := Bd.bytes
  have hml : c.maxLocals = 3 := hml0
  have hown : s.vm.findClass "com/example/graftwork/graftwork/ElementDefinitionTypesPinLaw" = some m.cls := findClass_of_methodNamed Bd.named
  have X0 : Stand p l e (rM 5 7 33 69) s m #[(.int p0)] below meth c s₁ [] 0 0 := Stand.of_body Bd
  have e0 : s₁.heap = h0 := by rw [← hh, Bd.state]; rfl
  have N0 := Fr.nil n0
  have pre0 := fun t (k : oS p e below s₁ m 0 #[vI p0, .unset, .unset] [] t) => castTop (ef_1 m p0) k
  obtain ⟨T1, h1, X1, e1, E1, A1, D1, U1, st1⟩ := newO X0 hx hZ hown (oW hw 4 rfl) (oW hw 5 rfl) (oW hw 6 rfl) e0 (g := (mkF m 0 #[vI p0, .unset, .unset] [])) rfl (hb hby d1_0) (by decide) (by decide)
  obtain ⟨b1, g1⟩ : ∃ z, z = h0.size := ⟨_, rfl⟩
  rw [← g1] at A1 D1 U1 st1
  have Ut1 : Unt h1 b1 := U1
  have g_b1 : n0 ≤ b1 := Nat.le_trans (own_le O0) (Nat.le_of_eq g1.symm)
  have O1 := O0.ext E1
  have F_modCount_b1 : Fld Z h1 b1 "java/util/AbstractList" "modCount" "I" (.int 0) := D1 (Or.inl (oW hw 26 rfl)) (ty := .int) (by decide)
  have F_elementData_b1 : Fld Z h1 b1 "java/util/ArrayList" "elementData" "[Ljava/lang/Object;" .null := D1 (Or.inl (oW hw 29 rfl)) (ty := (.array (.object "java/lang/Object"))) (by decide)
  have F_size_b1 : Fld Z h1 b1 "java/util/ArrayList" "size" "I" (.int 0) := D1 (Or.inl (oW hw 63 rfl)) (ty := .int) (by decide)
  obtain ⟨_, _, ⟨T2, L2, k2, n2⟩, -, X2, ⟨Lc2, hQ2, l2, y2, z2⟩, st2⟩ := X1.specialBack hx (y := mN2) rfl hown (mvT hZ (oW hw 7 rfl)) (mvT hZ (oW hw 8 rfl)) (mvT hZ (oW hw 9 rfl)) (by decide) (backOf (W := 1) (rmA0 l Z a0 hw [] b1 ad kd h1 n0 O1 A1 F_modCount_b1 F_size_b1 F_elementData_b1 g_b1 S_DE V_ad) hZ (oW hw 9 rfl) (oW hw 6 rfl) (by decide) (by decide)) (g := (mkF m 4 #[vI p0, .unset, .unset] [(.ref b1), (.ref b1)])) rfl (by rw [hml]; rfl) (Steps.refl _) (a := b1) (argsL := []) (rest := [(.ref b1)]) (lenOf pd_0 rfl) rfl (by show 2 * 0 + _ ≤ _; exact Nat.le_of_eq rfl) (hb hby d1_4) (fun _ _ => ⟨rfl, e1, (by decide : 1 + 0 ≤ _), (by decide : 3 + 0 ≤ _)⟩)
  dsimp only [Pt.U, Pt.locs, Pt.cells, Pt.slots] at X2 l2 y2 z2 st2 hQ2
  subst l2 y2 z2
  obtain ⟨rfl, N2q, K2, Fm2, Fs2, Fe2⟩ := hQ2
  have N2 := Fr.app N0 N2q
  have O2 := O1.keep K2 (allS g_b1 all0)
  obtain ⟨_, _, ⟨T3, L3, k3, n3⟩, -, X3, ⟨Lc3, hQ3, l3, y3, z3⟩, st3⟩ := Jvm.LawKit.callS X2 hx (y := mN6) hown (mvT hZ (oW hw 31 rfl)) (mvT hZ (oW hw 32 rfl)) (mvT hZ (oW hw 33 rfl)) (mvT hZ (oW hw 34 rfl)) (by decide) (backOf (W := 1) (rmVo l Z a0 hw [] c1 zc T2.heap n0 O2 S_CS hzc kc1) hZ (oW hw 34 rfl) (oW hw 33 rfl) (by decide) (by decide)) (g := (mkF m 30 #[vI p0, vR b1, vI 1] [(.int c1), (.ref b1)])) rfl (by rw [hml]; rfl) (argsL := [(.int c1)]) (rest := [(.ref b1)]) (lenOf pd_8 rfl) rfl (by show 2 * 0 + _ ≤ _; exact Nat.le_of_eq rfl) (hb hby d1_30) (fun _ _ => ⟨rfl, rfl, (by decide : 1 + 2 ≤ _), (by decide : 3 + 5 ≤ _)⟩)
  dsimp only [Pt.U, Pt.locs, Pt.cells, Pt.slots] at X3 l3 y3 z3 st3 hQ3
  subst l3 y3 z3
  obtain ⟨b3, rfl, N3q, K3, Ex3, Sb3⟩ := hQ3
  have N3 := Fr.app N2 N3q
  have O3 := O2.keep K3 all0
  obtain ⟨cq4, kq4, q4a, q4b, q4c⟩ := isOf hZ rfl ((A1.keep K2).keep K3)
  obtain ⟨_, _, ⟨T4, L4, k4, n4⟩, -, X4, ⟨Lc4, hQ4, l4, y4, z4⟩, st4⟩ := X3.virtualBack hx (y := mN11) (z := mN11) hown (mvT hZ (oW hw 55 rfl)) (mvT hZ (oW hw 56 rfl)) (notFace_of_selects (args := #[]) (mvT hZ (oW hw 58 rfl))) (mvT hZ (oW hw 58 rfl)) (mvT hZ (oW hw 57 rfl)) (by decide) (backOf (W := 0) (rmE0 l Z a0 hw [] b1 b3 (0 : Int32) ad kd T3.heap n0 O3 ((A1.keep K2).keep K3) (Fm2.keep K3 nin0) (Fs2.keep K3 nin0) (Fe2.keep K3 nin0) g_b1 Ex3 S_DE V_ad) hZ (oW hw 59 rfl) (oW hw 6 rfl) (by decide) (by decide)) q4a q4c (g := (mkF m 33 #[vI p0, vR b1, vI 1] [(.ref b3), (.ref b1)])) rfl (by rw [hml]; rfl) (Steps.refl _) (argsL := [(.ref b3)]) (rest := []) (lenOf pd_9 rfl) rfl (by show 2 * 0 + _ ≤ _; exact Nat.le_of_eq rfl) (hb hby d1_33) (fun _ _ => ⟨rfl, rfl, (by decide : 3 + 1 ≤ _), (by decide : 8 + 10 ≤ _)⟩)
  dsimp only [Pt.U, Pt.locs, Pt.cells, Pt.slots] at X4 l4 y4 z4 st4 hQ4
  subst l4 y4 z4
  obtain ⟨b4, k94, rfl, N4q, K4, Fm4, Fs4, Fe4, Vb4, Eb4, Ov4, Sb4⟩ := hQ4
  have N4 := Fr.app N3 N4q
  have O4 := O3.keep K4 (allS g_b1 all0)
  obtain ⟨fs, hr, hrun, hended, hW, hsame⟩ := X4.leave (v := some (.ref b1)) (fun h => by rw [Bd.returns] at h; cases h)
  refine ⟨_, _, pre0 _ ?_, hrun, hended, _, _, rfl, ?_, ⟨_, rfl⟩, hW, hsame.mono (by decide) (by decide)⟩
  · show oS p e below s₁ m 0 #[vI p0, .unset, .unset] [] _
    refine st1 _ ?_
    show oS p e below T1 m 3 #[vI p0, .unset, .unset] [(.ref b1)] _
    refine XS.dup X1.here hx rfl (hb hby d1_3) rfl rfl ?_
    show oS p e below T1 m 4 #[vI p0, .unset, .unset] [(.ref b1), (.ref b1)] _
    refine st2.trans ?_
    show oS p e below T2 m 7 #[vI p0, .unset, .unset] [(.ref b1)] _
    refine XS.astoreN X2.here hx rfl (hb hby d1_7) rfl rfl (l' := #[vI p0, vR b1, .unset]) rfl ?_
    show oS p e below T2 m 8 #[vI p0, vR b1, .unset] [] _
    refine XS.iloadN X2.here hx rfl (hb hby d1_8) rfl ?_
    show oS p e below T2 m 9 #[vI p0, vR b1, .unset] [(.int p0)] _
    refine X2.ldcInt hx hown (mvT hZ (oW hw 30 rfl)) (g := (mkF m 9 #[vI p0, vR b1, .unset] [(.int p0)])) rfl (hb hby d1_9) _ ?_
    show oS p e below T2 m 11 #[vI p0, vR b1, .unset] [(.int 2147483647), (.int p0)] _
    refine XS.iand X2.here hx rfl (hb hby d1_11) rfl ?_
    show oS p e below T2 m 12 #[vI p0, vR b1, .unset] [(.int (p0 &&& (2147483647 : Int32)))] _
    refine XS.iconst X2.here hx rfl (hb hby d1_12) ?_
    show oS p e below T2 m 13 #[vI p0, vR b1, .unset] [(.int 3), (.int (p0 &&& (2147483647 : Int32)))] _
    refine iremM X2 hx rfl (hb hby d1_13) rfl (by decide) ?_
    show oS p e below T2 m 14 #[vI p0, vR b1, .unset] [(.int ((p0 &&& (2147483647 : Int32)) % (3 : Int32)))] _
    rw [hn]
    show oS p e below T2 m 14 #[vI p0, vR b1, .unset] [(.int 1)] _
    refine XS.istoreN X2.here hx rfl (hb hby d1_14) rfl (l' := #[vI p0, vR b1, vI 1]) rfl ?_
    show oS p e below T2 m 15 #[vI p0, vR b1, vI 1] [] _
    refine XS.iloadN X2.here hx rfl (hb hby d1_15) rfl ?_
    refine XS.iconst X2.here hx rfl (hb hby d1_16) ?_
    refine XS.icmpNo X2.here hx rfl (hb hby d1_17) rfl (flt (by decide : ¬ ((1 : Int32) < (1 : Int32)))).1 ?_
    show oS p e below T2 m 20 #[vI p0, vR b1, vI 1] [] _
    refine XS.aloadN X2.here hx rfl (hb hby d1_20) rfl rfl ?_
    refine XS.iloadN X2.here hx rfl (hb hby d1_21) rfl ?_
    refine XS.bipush X2.here hx rfl (hb hby d1_22) ?_
    show oS p e below T2 m 24 #[vI p0, vR b1, vI 1] [(.int 8), (.int p0), (.ref b1)] _
    refine XS.iushr X2.here hx rfl (hb hby d1_24) rfl ?_
    show oS p e below T2 m 25 #[vI p0, vR b1, vI 1] [(.int ((p0.toUInt32 >>> ((8 : Int32) &&& 31).toUInt32).toInt32)), (.ref b1)] _
    refine XS.sipush X2.here hx rfl (hb hby d1_25) ?_
    refine XS.iand X2.here hx rfl (hb hby d1_28) rfl ?_
    show oS p e below T2 m 29 #[vI p0, vR b1, vI 1] [(.int (((p0.toUInt32 >>> ((8 : Int32) &&& 31).toUInt32).toInt32) &&& (255 : Int32))), (.ref b1)] _
    refine XS.i2c X2.here hx rfl (hb hby d1_29) rfl ?_
    show oS p e below T2 m 30 #[vI p0, vR b1, vI 1] [(.int ((((p0.toUInt32 >>> ((8 : Int32) &&& 31).toUInt32).toInt32) &&& (255 : Int32)).toUInt32.toUInt16.toUInt32.toInt32)), (.ref b1)] _
    rw [hc1]
    show oS p e below T2 m 30 #[vI p0, vR b1, vI 1] [(.int c1), (.ref b1)] _
    refine st3 _ ?_
    show oS p e below T3 m 33 #[vI p0, vR b1, vI 1] [(.ref b3), (.ref b1)] _
    refine st4.trans ?_
    show oS p e below T4 m 36 #[vI p0, vR b1, vI 1] [(.int 1)] _
    refine XS.pop X4.here hx rfl (hb hby d1_36) rfl rfl ?_
    show oS p e below T4 m 37 #[vI p0, vR b1, vI 1] [] _
    refine XS.iloadN X4.here hx rfl (hb hby d1_37) rfl ?_
    refine XS.iconst X4.here hx rfl (hb hby d1_38) ?_
    refine XS.icmpYes X4.here hx rfl (pc0 := 39) (pc' := 59) rfl (hb hby d1_39) rfl (tlt (by decide : (1 : Int32) < (2 : Int32))).1 (by decide) (by decide) ?_
    show oS p e below T4 m 59 #[vI p0, vR b1, vI 1] [] _
    refine XS.aloadN X4.here hx rfl (hb hby d1_59) rfl rfl ?_
    show Steps p.tables e below (T4.setTop (mkF m 60 #[vI p0, vR b1, vI 1] [(.ref b1)])) _
    jvm_step X4.here [X4.here.top, hx, (hb hby d1_60), X4.method', Bd.returns, Value.isRef, FieldType.isReference]
    first | (intro acts; rw [hr _ acts rfl rfl rfl]) | rw [hr _ _ rfl rfl rfl]
    exact Steps.refl _
  · show own_QDr Z ad h0 n0 _ T4.heap _
    exact ⟨b1, b4, (1 : Int32), b3, b1, rfl, N4, (((((Keep.refl h0 []).ext E1).trans K2 (allS (Or.inr (Nat.le_of_eq g1.symm)) all0)).trans K3 all0).trans K4 (allS (Or.inr (Nat.le_of_eq g1.symm)) all0)), ⟨k94, _, (((A1.keep K2).keep K3).keep K4), Fm4, Fs4, Fe4, Vb4.lt, Or.inr (Or.inl ⟨rfl, Vb4, Eb4, Ov4, (Ex3.keep K4)⟩)⟩, (Nat.le_of_eq g1.symm), Or.inr (Nat.le_trans (Nat.le_trans (Nat.le_trans E1.1 K2.1) K3.1) Sb4)⟩
theorem rmDr2 (l : Launch) (Z : State) (a0 : Array Value) (hw : HW a0 Z) (ws : List Jvm.Cond) (p0 : Int32) (ad : Addr) (kd : ClassId) (zc : Int32) (c1 c2 : Int32) (h0 : Heap) (n0 : Nat) (O0 : Old Z n0 h0) (S_DE : Sta Z Z.heap "java/util/ArrayList" "DEFAULTCAPACITY_EMPTY_ELEMENTDATA" "[Ljava/lang/Object;" (.ref ad)) (V_ad : Arv Z Z.heap ad kd (.object "java/lang/Object") (0 : Int32) [] .null) (S_CS : Sta Z Z.heap "java/lang/String" "COMPACT_STRINGS" "Z" (.int zc)) (hzc : ¬ zc = 0) (hn : ((p0 &&& (2147483647 : Int32)) % (3 : Int32)) = (2 : Int32)) (hc1 : ((((p0.toUInt32 >>> ((8 : Int32) &&& 31).toUInt32).toInt32) &&& (255 : Int32)).toUInt32.toUInt16.toUInt32.toInt32) = c1) (hc2 : ((((p0.toUInt32 >>> ((16 : Int32) &&& 31).toUInt32).toInt32) &&& (255 : Int32)).toUInt32.toUInt16.toUInt32.toInt32) = c2) (kc1 : ¬ (255 : Int32) < c1) (kc2 : ¬ (255 : Int32) < c2) :
    oM l Z mN12 method_2_code 3 (some (.object "java/util/ArrayList")) ws (rM 5 7 33 69) #[(.int p0)] h0 (own_QDr Z ad h0 n0) := by
  refine MetFree.of_bodySF (plainFor_of_name pn_1) hisR ?_
  intro p e s m args below meth c s₁ Bd hml0 hP hK
  obtain ⟨rfl, hZ, hh⟩ := hP
  have hx := Bd.exec
  have hby := Bd.bytes
  have hml : c.maxLocals = 3 := hml0
  have hown : s.vm.findClass "com/example/graftwork/graftwork/ElementDefinitionTypesPinLaw" = some m.cls := findClass_of_methodNamed Bd.named
  have X0 : Stand p l e (rM 5 7 33 69) s m #[(.int p0)] below meth c s₁ [] 0 0 := Stand.of_body Bd
  have e0 : s₁.heap = h0 := by rw [← hh, Bd.state]; rfl
  have N0 := Fr.nil n0
  have pre0 := fun t (k : oS p e below s₁ m 0 #[vI p0, .unset, .unset] [] t) => castTop (ef_1 m p0) k
  obtain ⟨T1, h1, X1, e1, E1, A1, D1, U1, st1⟩ := newO X0 hx hZ hown (oW hw 4 rfl) (oW hw 5 rfl) (oW hw 6 rfl) e0 (g := (mkF m 0 #[vI p0, .unset, .unset] [])) rfl (hb hby d1_0) (by decide) (by decide)
  obtain ⟨b1, g1⟩ : ∃ z, z = h0.size := ⟨_, rfl⟩
  rw [← g1] at A1 D1 U1 st1
  have Ut1 : Unt h1 b1 := U1
  have g_b1 : n0 ≤ b1 := Nat.le_trans (own_le O0) (Nat.le_of_eq g1.symm)
  have O1 := O0.ext E1
  have F_modCount_b1 : Fld Z h1 b1 "java/util/AbstractList" "modCount" "I" (.int 0) := D1 (Or.inl (oW hw 26 rfl)) (ty := .int) (by decide)
  have F_elementData_b1 : Fld Z h1 b1 "java/util/ArrayList" "elementData" "[Ljava/lang/Object;" .null := D1 (Or.inl (oW hw 29 rfl)) (ty := (.array (.object "java/lang/Object"))) (by decide)
  have F_size_b1 : Fld Z h1 b1 "java/util/ArrayList" "size" "I" (.int 0) := D1 (Or.inl (oW hw 63 rfl)) (ty := .int) (by decide)
  obtain ⟨_, _, ⟨T2, L2, k2, n2⟩, -, X2, ⟨Lc2, hQ2, l2, y2, z2⟩, st2⟩ := X1.specialBack hx (y := mN2) rfl hown (mvT hZ (oW hw 7 rfl)) (mvT hZ (oW hw 8 rfl)) (mvT hZ (oW hw 9 rfl)) (by decide) (backOf (W := 1) (rmA0 l Z a0 hw [] b1 ad kd h1 n0 O1 A1 F_modCount_b1 F_size_b1 F_elementData_b1 g_b1 S_DE V_ad) hZ (oW hw 9 rfl) (oW hw 6 rfl) (by decide) (by decide)) (g := (mkF m 4 #[vI p0, .unset, .unset] [(.ref b1), (.ref b1)])) rfl (by rw [hml]; rfl) (Steps.refl _) (a := b1) (argsL := []) (rest := [(.ref b1)]) (lenOf pd_0 rfl) rfl (by show 2 * 0 + _ ≤ _; exact Nat.le_of_eq rfl) (hb hby d1_4) (fun _ _ => ⟨rfl, e1, (by decide : 1 + 0 ≤ _), (by decide : 3 + 0 ≤ _)⟩)
  dsimp only [Pt.U, Pt.locs, Pt.cells, Pt.slots] at X2 l2 y2 z2 st2 hQ2
  subst l2 y2 z2
  obtain ⟨rfl, N2q, K2, Fm2, Fs2, Fe2⟩ := hQ2
  have N2 := Fr.app N0 N2q
  have O2 := O1.keep K2 (allS g_b1 all0)
  obtain ⟨_, _, ⟨T3, L3, k3, n3⟩, -, X3, ⟨Lc3, hQ3, l3, y3, z3⟩, st3⟩ := Jvm.LawKit.callS X2 hx (y := mN6) hown (mvT hZ (oW hw 31 rfl)) (mvT hZ (oW hw 32 rfl)) (mvT hZ (oW hw 33 rfl)) (mvT hZ (oW hw 34 rfl)) (by decide) (backOf (W := 1) (rmVo l Z a0 hw [] c1 zc T2.heap n0 O2 S_CS hzc kc1) hZ (oW hw 34 rfl) (oW hw 33 rfl) (by decide) (by decide)) (g := (mkF m 30 #[vI p0, vR b1, vI 2] [(.int c1), (.ref b1)])) rfl (by rw [hml]; rfl) (argsL := [(.int c1)]) (rest := [(.ref b1)]) (lenOf pd_8 rfl) rfl (by show 2 * 0 + _ ≤ _; exact Nat.le_of_eq rfl) (hb hby d1_30) (fun _ _ => ⟨rfl, rfl, (by decide : 1 + 2 ≤ _), (by decide : 3 + 5 ≤ _)⟩)
  dsimp only [Pt.U, Pt.locs, Pt.cells, Pt.slots] at X3 l3 y3 z3 st3 hQ3
  subst l3 y3 z3
  obtain ⟨b3, rfl, N3q, K3, Ex3, Sb3⟩ := hQ3
  have N3 := Fr.app N2 N3q
  have O3 := O2.keep K3 all0
  obtain ⟨cq4, kq4, q4a, q4b, q4c⟩ := isOf hZ rfl ((A1.keep K2).keep K3)
  obtain ⟨_, _, ⟨T4, L4, k4, n4⟩, -, X4, ⟨Lc4, hQ4, l4, y4, z4⟩, st4⟩ := X3.virtualBack hx (y := mN11) (z := mN11) hown (mvT hZ (oW hw 55 rfl)) (mvT hZ (oW hw 56 rfl)) (notFace_of_selects (args := #[]) (mvT hZ (oW hw 58 rfl))) (mvT hZ (oW hw 58 rfl)) (mvT hZ (oW hw 57 rfl)) (by decide) (backOf (W := 0) (rmE0 l Z a0 hw [] b1 b3 (0 : Int32) ad kd T3.heap n0 O3 ((A1.keep K2).keep K3) (Fm2.keep K3 nin0) (Fs2.keep K3 nin0) (Fe2.keep K3 nin0) g_b1 Ex3 S_DE V_ad) hZ (oW hw 59 rfl) (oW hw 6 rfl) (by decide) (by decide)) q4a q4c (g := (mkF m 33 #[vI p0, vR b1, vI 2] [(.ref b3), (.ref b1)])) rfl (by rw [hml]; rfl) (Steps.refl _) (argsL := [(.ref b3)]) (rest := []) (lenOf pd_9 rfl) rfl (by show 2 * 0 + _ ≤ _; exact Nat.le_of_eq rfl) (hb hby d1_33) (fun _ _ => ⟨rfl, rfl, (by decide : 3 + 1 ≤ _), (by decide : 8 + 10 ≤ _)⟩)
  dsimp only [Pt.U, Pt.locs, Pt.cells, Pt.slots] at X4 l4 y4 z4 st4 hQ4
  subst l4 y4 z4
  obtain ⟨b4, k94, rfl, N4q, K4, Fm4, Fs4, Fe4, Vb4, Eb4, Ov4, Sb4⟩ := hQ4
  have N4 := Fr.app N3 N4q
  have O4 := O3.keep K4 (allS g_b1 all0)
  obtain ⟨_, _, ⟨T5, L5, k5, n5⟩, -, X5, ⟨Lc5, hQ5, l5, y5, z5⟩, st5⟩ := Jvm.LawKit.callS X4 hx (y := mN6) hown (mvT hZ (oW hw 31 rfl)) (mvT hZ (oW hw 32 rfl)) (mvT hZ (oW hw 33 rfl)) (mvT hZ (oW hw 34 rfl)) (by decide) (backOf (W := 1) (rmVo l Z a0 hw [] c2 zc T4.heap n0 O4 S_CS hzc kc2) hZ (oW hw 34 rfl) (oW hw 33 rfl) (by decide) (by decide)) (g := (mkF m 52 #[vI p0, vR b1, vI 2] [(.int c2), (.ref b1)])) rfl (by rw [hml]; rfl) (argsL := [(.int c2)]) (rest := [(.ref b1)]) (lenOf pd_8 rfl) rfl (by show 2 * 0 + _ ≤ _; exact Nat.le_of_eq rfl) (hb hby d1_52) (fun _ _ => ⟨rfl, rfl, (by decide : 4 + 2 ≤ _), (by decide : 18 + 5 ≤ _)⟩)
  dsimp only [Pt.U, Pt.locs, Pt.cells, Pt.slots] at X5 l5 y5 z5 st5 hQ5
  subst l5 y5 z5
  obtain ⟨b5, rfl, N5q, K5, Ex5, Sb5⟩ := hQ5
  have N5 := Fr.app N4 N5q
  have O5 := O4.keep K5 all0
  obtain ⟨cq6, kq6, q6a, q6b, q6c⟩ := isOf hZ rfl ((((A1.keep K2).keep K3).keep K4).keep K5)
  obtain ⟨_, _, ⟨T6, L6, k6, n6⟩, -, X6, ⟨Lc6, hQ6, l6, y6, z6⟩, st6⟩ := X5.virtualBack hx (y := mN11) (z := mN11) hown (mvT hZ (oW hw 55 rfl)) (mvT hZ (oW hw 56 rfl)) (notFace_of_selects (args := #[]) (mvT hZ (oW hw 58 rfl))) (mvT hZ (oW hw 58 rfl)) (mvT hZ (oW hw 57 rfl)) (by decide) (backOf (W := 0) (rmE1 l Z a0 hw [] b1 b5 ((0 : Int32) + (1 : Int32)) b4 b3 k94 T5.heap n0 O5 ((((A1.keep K2).keep K3).keep K4).keep K5) (Fm4.keep K5 nin0) (Fs4.keep K5 nin0) (Fe4.keep K5 nin0) g_b1 (Nat.le_trans (own_le O3) Sb4) Ex5 (Vb4.keep K5 nin0) Ov4) hZ (oW hw 59 rfl) (oW hw 6 rfl) (by decide) (by decide)) q6a q6c (g := (mkF m 55 #[vI p0, vR b1, vI 2] [(.ref b5), (.ref b1)])) rfl (by rw [hml]; rfl) (Steps.refl _) (argsL := [(.ref b5)]) (rest := []) (lenOf pd_9 rfl) rfl (by show 2 * 0 + _ ≤ _; exact Nat.le_of_eq rfl) (hb hby d1_55) (fun _ _ => ⟨rfl, rfl, (by decide : 6 + 1 ≤ _), (by decide : 23 + 10 ≤ _)⟩)
  dsimp only [Pt.U, Pt.locs, Pt.cells, Pt.slots] at X6 l6 y6 z6 st6 hQ6
  subst l6 y6 z6
  obtain ⟨rfl, N6q, K6, Fm6, Fs6, Fe6, Va6⟩ := hQ6
  have N6 := Fr.app N5 N6q
  have O6 := O5.keep K6 (allS g_b1 (allS (Nat.le_trans (own_le O3) Sb4) all0))
  obtain ⟨fs, hr, hrun, hended, hW, hsame⟩ := X6.leave (v := some (.ref b1)) (fun h => by rw [Bd.returns] at h; cases h)
  refine ⟨_, _, pre0 _ ?_, hrun, hended, _, _, rfl, ?_, ⟨_, rfl⟩, hW, hsame.mono (by decide) (by decide)⟩
  · show oS p e below s₁ m 0 #[vI p0, .unset, .unset] [] _
    refine st1 _ ?_
    show oS p e below T1 m 3 #[vI p0, .unset, .unset] [(.ref b1)] _
    refine XS.dup X1.here hx rfl (hb hby d1_3) rfl rfl ?_
    show oS p e below T1 m 4 #[vI p0, .unset, .unset] [(.ref b1), (.ref b1)] _
    refine st2.trans ?_
    show oS p e below T2 m 7 #[vI p0, .unset, .unset] [(.ref b1)] _
    refine XS.astoreN X2.here hx rfl (hb hby d1_7) rfl rfl (l' := #[vI p0, vR b1, .unset]) rfl ?_
    show oS p e below T2 m 8 #[vI p0, vR b1, .unset] [] _
    refine XS.iloadN X2.here hx rfl (hb hby d1_8) rfl ?_
    show oS p e below T2 m 9 #[vI p0, vR b1, .unset] [(.int p0)] _
    refine X2.ldcInt hx hown (mvT hZ (oW hw 30 rfl)) (g := (mkF m 9 #[vI p0, vR b1, .unset] [(.int p0)])) rfl (hb hby d1_9) _ ?_
    show oS p e below T2 m 11 #[vI p0, vR b1, .unset] [(.int 2147483647), (.int p0)] _
    refine XS.iand X2.here hx rfl (hb hby d1_11) rfl ?_
    show oS p e below T2 m 12 #[vI p0, vR b1, .unset] [(.int (p0 &&& (2147483647 : Int32)))] _
    refine XS.iconst X2.here hx rfl (hb hby d1_12) ?_
    show oS p e below T2 m 13 #[vI p0, vR b1, .unset] [(.int 3), (.int (p0 &&& (2147483647 : Int32)))] _
    refine iremM X2 hx rfl (hb hby d1_13) rfl (by decide) ?_
    show oS p e below T2 m 14 #[vI p0, vR b1, .unset] [(.int ((p0 &&& (2147483647 : Int32)) % (3 : Int32)))] _
    rw [hn]
    show oS p e below T2 m 14 #[vI p0, vR b1, .unset] [(.int 2)] _
    refine XS.istoreN X2.here hx rfl (hb hby d1_14) rfl (l' := #[vI p0, vR b1, vI 2]) rfl ?_
    show oS p e below T2 m 15 #[vI p0, vR b1, vI 2] [] _
    refine XS.iloadN X2.here hx rfl (hb hby d1_15) rfl ?_
    refine XS.iconst X2.here hx rfl (hb hby d1_16) ?_
    refine XS.icmpNo X2.here hx rfl (hb hby d1_17) rfl (flt (by decide : ¬ ((2 : Int32) < (1 : Int32)))).1 ?_
    show oS p e below T2 m 20 #[vI p0, vR b1, vI 2] [] _
    refine XS.aloadN X2.here hx rfl (hb hby d1_20) rfl rfl ?_
    refine XS.iloadN X2.here hx rfl (hb hby d1_21) rfl ?_
    refine XS.bipush X2.here hx rfl (hb hby d1_22) ?_
    show oS p e below T2 m 24 #[vI p0, vR b1, vI 2] [(.int 8), (.int p0), (.ref b1)] _
    refine XS.iushr X2.here hx rfl (hb hby d1_24) rfl ?_
    show oS p e below T2 m 25 #[vI p0, vR b1, vI 2] [(.int ((p0.toUInt32 >>> ((8 : Int32) &&& 31).toUInt32).toInt32)), (.ref b1)] _
    refine XS.sipush X2.here hx rfl (hb hby d1_25) ?_
    refine XS.iand X2.here hx rfl (hb hby d1_28) rfl ?_
    show oS p e below T2 m 29 #[vI p0, vR b1, vI 2] [(.int (((p0.toUInt32 >>> ((8 : Int32) &&& 31).toUInt32).toInt32) &&& (255 : Int32))), (.ref b1)] _
    refine XS.i2c X2.here hx rfl (hb hby d1_29) rfl ?_
    show oS p e below T2 m 30 #[vI p0, vR b1, vI 2] [(.int ((((p0.toUInt32 >>> ((8 : Int32) &&& 31).toUInt32).toInt32) &&& (255 : Int32)).toUInt32.toUInt16.toUInt32.toInt32)), (.ref b1)] _
    rw [hc1]
    show oS p e below T2 m 30 #[vI p0, vR b1, vI 2] [(.int c1), (.ref b1)] _
    refine st3 _ ?_
    show oS p e below T3 m 33 #[vI p0, vR b1, vI 2] [(.ref b3), (.ref b1)] _
    refine st4.trans ?_
    show oS p e below T4 m 36 #[vI p0, vR b1, vI 2] [(.int 1)] _
    refine XS.pop X4.here hx rfl (hb hby d1_36) rfl rfl ?_
    show oS p e below T4 m 37 #[vI p0, vR b1, vI 2] [] _
    refine XS.iloadN X4.here hx rfl (hb hby d1_37) rfl ?_
    refine XS.iconst X4.here hx rfl (hb hby d1_38) ?_
    refine XS.icmpNo X4.here hx rfl (hb hby d1_39) rfl (flt (by decide : ¬ ((2 : Int32) < (2 : Int32)))).1 ?_
    show oS p e below T4 m 42 #[vI p0, vR b1, vI 2] [] _
    refine XS.aloadN X4.here hx rfl (hb hby d1_42) rfl rfl ?_
    refine XS.iloadN X4.here hx rfl (hb hby d1_43) rfl ?_
    refine XS.bipush X4.here hx rfl (hb hby d1_44) ?_
    show oS p e below T4 m 46 #[vI p0, vR b1, vI 2] [(.int 16), (.int p0), (.ref b1)] _
    refine XS.iushr X4.here hx rfl (hb hby d1_46) rfl ?_
    show oS p e below T4 m 47 #[vI p0, vR b1, vI 2] [(.int ((p0.toUInt32 >>> ((16 : Int32) &&& 31).toUInt32).toInt32)), (.ref b1)] _
    refine XS.sipush X4.here hx rfl (hb hby d1_47) ?_
    refine XS.iand X4.here hx rfl (hb hby d1_50) rfl ?_
    show oS p e below T4 m 51 #[vI p0, vR b1, vI 2] [(.int (((p0.toUInt32 >>> ((16 : Int32) &&& 31).toUInt32).toInt32) &&& (255 : Int32))), (.ref b1)] _
    refine XS.i2c X4.here hx rfl (hb hby d1_51) rfl ?_
    show oS p e below T4 m 52 #[vI p0, vR b1, vI 2] [(.int ((((p0.toUInt32 >>> ((16 : Int32) &&& 31).toUInt32).toInt32) &&& (255 : Int32)).toUInt32.toUInt16.toUInt32.toInt32)), (.ref b1)] _
    rw [hc2]
    show oS p e below T4 m 52 #[vI p0, vR b1, vI 2] [(.int c2), (.ref b1)] _
    refine st5 _ ?_
    show oS p e below T5 m 55 #[vI p0, vR b1, vI 2] [(.ref b5), (.ref b1)] _
    refine st6.trans ?_
    show oS p e below T6 m 58 #[vI p0, vR b1, vI 2] [(.int 1)] _
    refine XS.pop X6.here hx rfl (hb hby d1_58) rfl rfl ?_
    show oS p e below T6 m 59 #[vI p0, vR b1, vI 2] [] _
    refine XS.aloadN X6.here hx rfl (hb hby d1_59) rfl rfl ?_
    show Steps p.tables e below (T6.setTop (mkF m 60 #[vI p0, vR b1, vI 2] [(.ref b1)])) _
    jvm_step X6.here [X6.here.top, hx, (hb hby d1_60), X6.method', Bd.returns, Value.isRef, FieldType.isReference]
    first | (intro acts; rw [hr _ acts rfl rfl rfl]) | rw [hr _ _ rfl rfl rfl]
    exact Steps.refl _
  · show own_QDr Z ad h0 n0 _ T6.heap _
    exact ⟨b1, b4, (2 : Int32), b3, b5, rfl, N6, (((((((Keep.refl h0 []).ext E1).trans K2 (allS (Or.inr (Nat.le_of_eq g1.symm)) all0)).trans K3 all0).trans K4 (allS (Or.inr (Nat.le_of_eq g1.symm)) all0)).trans K5 all0).trans K6 (allS (Or.inr (Nat.le_of_eq g1.symm)) (allS (Or.inr (Nat.le_trans (Nat.le_trans (Nat.le_trans E1.1 K2.1) K3.1) Sb4)) all0))), ⟨k94, _, (((((A1.keep K2).keep K3).keep K4).keep K5).keep K6), Fm6, Fs6, Fe6, Va6.lt, Or.inr (Or.inr ⟨rfl, Va6, ((Eb4.keep K5).keep K6), Ov4, (((Ex3.keep K4).keep K5).keep K6), (Ex5.keep K6)⟩)⟩, (Nat.le_of_eq g1.symm), Or.inr (Nat.le_trans (Nat.le_trans (Nat.le_trans E1.1 K2.1) K3.1) Sb4)⟩
theorem rmDr (l : Launch) (Z : State) (a0 : Array Value) (hw : HW a0 Z) (ws : List Jvm.Cond) (p0 : Int32) (ad : Addr) (kd : ClassId) (zc : Int32) (h0 : Heap) (n0 : Nat) (O0 : Old Z n0 h0) (S_DE : Sta Z Z.heap "java/util/ArrayList" "DEFAULTCAPACITY_EMPTY_ELEMENTDATA" "[Ljava/lang/Object;" (.ref ad)) (V_ad : Arv Z Z.heap ad kd (.object "java/lang/Object") (0 : Int32) [] .null) (S_CS : Sta Z Z.heap "java/lang/String" "COMPACT_STRINGS" "Z" (.int zc)) (hzc : ¬ zc = 0) : MetFree l mN12 (head1 (Jvm.Cond.code mN12 method_2_code 3 (some (.object "java/util/ArrayList")) :: ws) (rM 5 7 33 69)) (fun a U => a = #[(.int p0)] ∧ Z.Warmed39 U.vm ∧ U.heap = h0) (fun _ _ _ _ _ => True) (fun _ U o U' => ∃ v L, o = .returned v ∧ own_QDr Z ad h0 n0 v U'.heap L ∧ FrameEnd U o U' L (rM 5 7 33 69).cells (rM 5 7 33 69).slots) := by
  rcases own_mod3 p0 with hn | hn | hn
  · exact rmDr0 l Z a0 hw ws p0 ad kd zc _ _ h0 n0 O0 S_DE V_ad S_CS hzc hn rfl rfl (own_c255 _) (own_c255 _)
  · exact rmDr1 l Z a0 hw ws p0 ad kd zc _ _ h0 n0 O0 S_DE V_ad S_CS hzc hn rfl rfl (own_c255 _) (own_c255 _)
  · exact rmDr2 l Z a0 hw ws p0 ad kd zc _ _ h0 n0 O0 S_DE V_ad S_CS hzc hn rfl rfl (own_c255 _) (own_c255 _)
theorem d15_0 : decode jdk_38_method_8_code 0 = .ok (.aload_n 0, 1) := by decide +kernel
theorem d15_1 : decode jdk_38_method_8_code 1 = .ok (.getfield 48, 3) := by decide +kernel
theorem d15_4 : decode jdk_38_method_8_code 4 = .ok (.ireturn, 1) := by decide +kernel
theorem ef_15 (m : MethodId) (x0 : Addr) : entryFrame m #[(.ref x0)] 1 = mkF m 0 #[.val (.ref x0)] [] := by first | (simp [entryFrame, mkF, argsToLocals, Value.category]; done) | rfl
theorem pn_15 : plainName "java/util/ArrayList" = true := by first | (simp [plainName, overriddenIn]; done) | decide +kernel
theorem rmSz (l : Launch) (Z : State) (a0 : Array Value) (hw : HW a0 Z) (ws : List Jvm.Cond) (o0 : Addr) (sz : Int32) (h0 : Heap) (n0 : Nat) (O0 : Old Z n0 h0) (F_size_o0 : Fld Z h0 o0 "java/util/ArrayList" "size" "I" (.int sz)) :
    oM l Z mN13 jdk_38_method_8_code 1 (some .int) ws (rM 0 0 0 0) #[(.ref o0)] h0 (own_Q (.int sz) h0 n0) := by
  refine MetFree.of_bodySF (plainFor_of_name pn_15) hisR ?_
  intro p e s m args below meth c s₁ Bd hml0 hP hK
  obtain ⟨rfl, hZ, hh⟩ := hP
  have hx := Bd.exec
  have hby := Bd.bytes
  have hml : c.maxLocals = 1 := hml0
  have hown : s.vm.findClass "java/util/ArrayList" = some m.cls := findClass_of_methodNamed Bd.named
  have X0 : Stand p l e (rM 0 0 0 0) s m #[(.ref o0)] below meth c s₁ [] 0 0 := Stand.of_body Bd
  have e0 : s₁.heap = h0 := by rw [← hh, Bd.state]; rfl
  have N0 := Fr.nil n0
  have pre0 := fun t (k : oS p e below s₁ m 0 #[vR o0] [] t) => castTop (ef_15 m o0) k
  obtain ⟨T1, X1, e1, st1⟩ := getF X0 hx hZ hown (host := "") (Or.inl (oW hw 62 rfl)) Via.refl e0 F_size_o0 (g := (mkF m 1 #[vR o0] [(.ref o0)])) rfl rfl (hb hby d15_1)
  obtain ⟨fs, hr, hrun, hended, hW, hsame⟩ := X1.leave (v := some (.int sz)) (fun h => by rw [Bd.returns] at h; cases h)
  refine ⟨_, _, pre0 _ ?_, hrun, hended, _, _, rfl, ?_, ⟨_, rfl⟩, hW, hsame.mono (by decide) (by decide)⟩
  · show oS p e below s₁ m 0 #[vR o0] [] _
    refine XS.aloadN X0.here hx rfl (hb hby d15_0) rfl rfl ?_
    show oS p e below s₁ m 1 #[vR o0] [(.ref o0)] _
    refine st1 _ ?_
    show oS p e below T1 m 4 #[vR o0] [(.int sz)] _
    exact retI X1 hx Bd.returns (hb hby d15_4) hr
  · show own_Q (.int sz) h0 n0 _ T1.heap _
    rw [e1]
    exact ⟨rfl, N0, rfl⟩
theorem d40_0 : decode jdk_38_method_9_code 0 = .ok (.aload_n 0, 1) := by decide +kernel
theorem d40_1 : decode jdk_38_method_9_code 1 = .ok (.getfield 48, 3) := by decide +kernel
theorem d40_4 : decode jdk_38_method_9_code 4 = .ok (.ifCond .ne 7, 3) := by decide +kernel
theorem d40_7 : decode jdk_38_method_9_code 7 = .ok (.iconst 1, 1) := by decide +kernel
theorem d40_8 : decode jdk_38_method_9_code 8 = .ok (.goto 4, 3) := by decide +kernel
theorem d40_12 : decode jdk_38_method_9_code 12 = .ok (.ireturn, 1) := by decide +kernel
theorem ef_40 (m : MethodId) (x0 : Addr) : entryFrame m #[(.ref x0)] 1 = mkF m 0 #[.val (.ref x0)] [] := by first | (simp [entryFrame, mkF, argsToLocals, Value.category]; done) | rfl
theorem pn_40 : plainName "java/util/ArrayList" = true := by first | (simp [plainName, overriddenIn]; done) | decide +kernel
theorem rmIE0 (l : Launch) (Z : State) (a0 : Array Value) (hw : HW a0 Z) (ws : List Jvm.Cond) (o0 : Addr) (h0 : Heap) (n0 : Nat) (O0 : Old Z n0 h0) (F_size_o0 : Fld Z h0 o0 "java/util/ArrayList" "size" "I" (.int 0)) :
    oM l Z mN14 jdk_38_method_9_code 1 (some .boolean) ws (rM 0 0 0 0) #[(.ref o0)] h0 (own_Q (.int 1) h0 n0) := by
  refine MetFree.of_bodySF (plainFor_of_name pn_40) hisR ?_
  intro p e s m args below meth c s₁ Bd hml0 hP hK
  obtain ⟨rfl, hZ, hh⟩ := hP
  have hx := Bd.exec
  have hby := Bd.bytes
  have hml : c.maxLocals = 1 := hml0
  have hown : s.vm.findClass "java/util/ArrayList" = some m.cls := findClass_of_methodNamed Bd.named
  have X0 : Stand p l e (rM 0 0 0 0) s m #[(.ref o0)] below meth c s₁ [] 0 0 := Stand.of_body Bd
  have e0 : s₁.heap = h0 := by rw [← hh, Bd.state]; rfl
  have N0 := Fr.nil n0
  have pre0 := fun t (k : oS p e below s₁ m 0 #[vR o0] [] t) => castTop (ef_40 m o0) k
  obtain ⟨T1, X1, e1, st1⟩ := getF X0 hx hZ hown (host := "") (Or.inl (oW hw 62 rfl)) Via.refl e0 F_size_o0 (g := (mkF m 1 #[vR o0] [(.ref o0)])) rfl rfl (hb hby d40_1)
  obtain ⟨fs, hr, hrun, hended, hW, hsame⟩ := X1.leave (v := some (.int 1)) (fun h => by rw [Bd.returns] at h; cases h)
  refine ⟨_, _, pre0 _ ?_, hrun, hended, _, _, rfl, ?_, ⟨_, rfl⟩, hW, hsame.mono (by decide) (by decide)⟩
  · show oS p e below s₁ m 0 #[vR o0] [] _
    refine XS.aloadN X0.here hx rfl (hb hby d40_0) rfl rfl ?_
    show oS p e below s₁ m 1 #[vR o0] [(.ref o0)] _
    refine st1 _ ?_
    show oS p e below T1 m 4 #[vR o0] [(.int 0)] _
    refine XS.ifNo X1.here hx rfl (hb hby d40_4) rfl ((if0 _ _).trans (teq (by decide : (0 : Int32) = (0 : Int32))).2) ?_
    show oS p e below T1 m 7 #[vR o0] [] _
    refine XS.iconst X1.here hx rfl (hb hby d40_7) ?_
    refine XS.goto X1.here hx rfl (pc0 := 8) (pc' := 12) rfl (hb hby d40_8) (by decide) (by decide) ?_
    show oS p e below T1 m 12 #[vR o0] [(.int 1)] _
    exact retN X1 hx (t := .boolean) Bd.returns (by simp) (hb hby d40_12) hr
  · show own_Q (.int 1) h0 n0 _ T1.heap _
    rw [e1]
    exact ⟨rfl, N0, rfl⟩
theorem d40_11 : decode jdk_38_method_9_code 11 = .ok (.iconst 0, 1) := by decide +kernel
theorem rmIE1 (l : Launch) (Z : State) (a0 : Array Value) (hw : HW a0 Z) (ws : List Jvm.Cond) (o0 : Addr) (sz : Int32) (h0 : Heap) (n0 : Nat) (O0 : Old Z n0 h0) (F_size_o0 : Fld Z h0 o0 "java/util/ArrayList" "size" "I" (.int sz)) (hsz : ¬ (sz = (0 : Int32))) :
    oM l Z mN14 jdk_38_method_9_code 1 (some .boolean) ws (rM 0 0 0 0) #[(.ref o0)] h0 (own_Q (.int 0) h0 n0) := by
  refine MetFree.of_bodySF (plainFor_of_name pn_40) hisR ?_
  intro p e s m args below meth c s₁ Bd hml0 hP hK
  obtain ⟨rfl, hZ, hh⟩ := hP
  have hx := Bd.exec
  have hby := Bd.bytes
  have hml : c.maxLocals = 1 := hml0
  have hown : s.vm.findClass "java/util/ArrayList" = some m.cls := findClass_of_methodNamed Bd.named
  have X0 : Stand p l e (rM 0 0 0 0) s m #[(.ref o0)] below meth c s₁ [] 0 0 := Stand.of_body Bd
  have e0 : s₁.heap = h0 := by rw [← hh, Bd.state]; rfl
  have N0 := Fr.nil n0
  have pre0 := fun t (k : oS p e below s₁ m 0 #[vR o0] [] t) => castTop (ef_40 m o0) k
  obtain ⟨T1, X1, e1, st1⟩ := getF X0 hx hZ hown (host := "") (Or.inl (oW hw 62 rfl)) Via.refl e0 F_size_o0 (g := (mkF m 1 #[vR o0] [(.ref o0)])) rfl rfl (hb hby d40_1)
  obtain ⟨fs, hr, hrun, hended, hW, hsame⟩ := X1.leave (v := some (.int 0)) (fun h => by rw [Bd.returns] at h; cases h)
  refine ⟨_, _, pre0 _ ?_, hrun, hended, _, _, rfl, ?_, ⟨_, rfl⟩, hW, hsame.mono (by decide) (by decide)⟩
  · show oS p e below s₁ m 0 #[vR o0] [] _
    refine XS.aloadN X0.here hx rfl (hb hby d40_0) rfl rfl ?_
    show oS p e below s₁ m 1 #[vR o0] [(.ref o0)] _
    refine st1 _ ?_
    show oS p e below T1 m 4 #[vR o0] [(.int sz)] _
    refine XS.ifYes X1.here hx rfl (pc0 := 4) (pc' := 11) rfl (hb hby d40_4) rfl ((if0 _ _).trans (feq hsz).2) (by decide) (by decide) ?_
    show oS p e below T1 m 11 #[vR o0] [] _
    refine XS.iconst X1.here hx rfl (hb hby d40_11) ?_
    show oS p e below T1 m 12 #[vR o0] [(.int 0)] _
    exact retN X1 hx (t := .boolean) Bd.returns (by simp) (hb hby d40_12) hr
  · show own_Q (.int 0) h0 n0 _ T1.heap _
    rw [e1]
    exact ⟨rfl, N0, rfl⟩
theorem d41_0 : decode jdk_40_method_36_code 0 = .ok (.getstatic 90, 3) := by decide +kernel
theorem d41_3 : decode jdk_40_method_36_code 3 = .ok (.areturn, 1) := by decide +kernel
theorem ef_41 (m : MethodId)  : entryFrame m #[] 0 = mkF m 0 #[] [] := by first | (simp [entryFrame, mkF, argsToLocals, Value.category]; done) | rfl
theorem pn_41 : plainName "java/util/List" = true := by first | (simp [plainName, overriddenIn]; done) | decide +kernel
theorem rmOf0 (l : Launch) (Z : State) (a0 : Array Value) (hw : HW a0 Z) (ws : List Jvm.Cond) (el : Addr) (h0 : Heap) (n0 : Nat) (O0 : Old Z n0 h0) (S_EMPTY_LIST : Sta Z Z.heap "java/util/ImmutableCollections" "EMPTY_LIST" "Ljava/util/ImmutableCollections$ListN;" (.ref el)) :
    oM l Z mN15 jdk_40_method_36_code 0 (some (.object "java/util/List")) ws (rM 0 0 0 0) #[] h0 (own_Q (.ref el) h0 n0) := by
  refine MetFree.of_bodySF (plainFor_of_name pn_41) hisR ?_
  intro p e s m args below meth c s₁ Bd hml0 hP hK
  obtain ⟨rfl, hZ, hh⟩ := hP
  have hx := Bd.exec
  have hby := Bd.bytes
  have hml : c.maxLocals = 0 := hml0
  have hown : s.vm.findClass "java/util/List" = some m.cls := findClass_of_methodNamed Bd.named
  have X0 : Stand p l e (rM 0 0 0 0) s m #[] below meth c s₁ [] 0 0 := Stand.of_body Bd
  have e0 : s₁.heap = h0 := by rw [← hh, Bd.state]; rfl
  have N0 := Fr.nil n0
  have pre0 := fun t (k : oS p e below s₁ m 0 #[] [] t) => castTop (ef_41 m ) k
  obtain ⟨T1, X1, e1, st1⟩ := getS2 X0 hx hZ hown (host := "") (Or.inl (oW hw 252 rfl)) Via.refl e0 (S_EMPTY_LIST.ext O0.2) (g := (mkF m 0 #[] [])) rfl (hb hby d41_0)
  obtain ⟨fs, hr, hrun, hended, hW, hsame⟩ := X1.leave (v := some (.ref el)) (fun h => by rw [Bd.returns] at h; cases h)
  refine ⟨_, _, pre0 _ ?_, hrun, hended, _, _, rfl, ?_, ⟨_, rfl⟩, hW, hsame.mono (by decide) (by decide)⟩
  · show oS p e below s₁ m 0 #[] [] _
    refine st1 _ ?_
    show Steps p.tables e below (T1.setTop (mkF m 3 #[] [(.ref el)])) _
    jvm_step X1.here [X1.here.top, hx, (hb hby d41_3), X1.method', Bd.returns, Value.isRef, FieldType.isReference]
    first | (intro acts; rw [hr _ acts rfl rfl rfl]) | rw [hr _ _ rfl rfl rfl]
    exact Steps.refl _
  · show own_Q (.ref el) h0 n0 _ T1.heap _
    rw [e1]
    exact ⟨rfl, N0, rfl⟩
theorem d27_0 : decode jdk_29_method_69_code 0 = .ok (.iload_n 0, 1) := by decide +kernel
theorem d27_1 : decode jdk_29_method_69_code 1 = .ok (.iload_n 1, 1) := by decide +kernel
theorem d27_2 : decode jdk_29_method_69_code 2 = .ok (.if_icmp .gt 7, 3) := by decide +kernel
theorem d27_5 : decode jdk_29_method_69_code 5 = .ok (.iload_n 0, 1) := by decide +kernel
theorem d27_6 : decode jdk_29_method_69_code 6 = .ok (.goto 4, 3) := by decide +kernel
theorem d27_10 : decode jdk_29_method_69_code 10 = .ok (.ireturn, 1) := by decide +kernel
theorem ef_27 (m : MethodId) (x0 : Int32) (x1 : Int32) : entryFrame m #[(.int x0), (.int x1)] 2 = mkF m 0 #[.val (.int x0), .val (.int x1)] [] := by first | (simp [entryFrame, mkF, argsToLocals, Value.category]; done) | rfl
theorem rmMinS (l : Launch) (Z : State) (a0 : Array Value) (hw : HW a0 Z) (ws : List Jvm.Cond) (p0 : Int32) (h0 : Heap) (n0 : Nat) (O0 : Old Z n0 h0) :
    oM l Z mN16 jdk_29_method_69_code 2 (some .int) ws (rM 0 0 0 0) #[(.int p0), (.int p0)] h0 (own_Q (.int p0) h0 n0) := by
  refine MetFree.of_bodySF (Jvm.Free.JP.mathPlain rfl (by decide +kernel)) hisR ?_
  intro p e s m args below meth c s₁ Bd hml0 hP hK
  obtain ⟨rfl, hZ, hh⟩ := hP
  have hx := Bd.exec
  have hby := Bd.bytes
  have hml : c.maxLocals = 2 := hml0
  have hown : s.vm.findClass "java/lang/Math" = some m.cls := findClass_of_methodNamed Bd.named
  have X0 : Stand p l e (rM 0 0 0 0) s m #[(.int p0), (.int p0)] below meth c s₁ [] 0 0 := Stand.of_body Bd
  have e0 : s₁.heap = h0 := by rw [← hh, Bd.state]; rfl
  have N0 := Fr.nil n0
  have pre0 := fun t (k : oS p e below s₁ m 0 #[vI p0, vI p0] [] t) => castTop (ef_27 m p0 p0) k
  obtain ⟨fs, hr, hrun, hended, hW, hsame⟩ := X0.leave (v := some (.int p0)) (fun h => by rw [Bd.returns] at h; cases h)
  refine ⟨_, _, pre0 _ ?_, hrun, hended, _, _, rfl, ?_, ⟨_, rfl⟩, hW, hsame.mono (by decide) (by decide)⟩
  · show oS p e below s₁ m 0 #[vI p0, vI p0] [] _
    refine XS.iloadN X0.here hx rfl (hb hby d27_0) rfl ?_
    refine XS.iloadN X0.here hx rfl (hb hby d27_1) rfl ?_
    refine XS.icmpNo X0.here hx rfl (hb hby d27_2) rfl (flt Int32.lt_irrefl).2.2.1 ?_
    show oS p e below s₁ m 5 #[vI p0, vI p0] [] _
    refine XS.iloadN X0.here hx rfl (hb hby d27_5) rfl ?_
    refine XS.goto X0.here hx rfl (pc0 := 6) (pc' := 10) rfl (hb hby d27_6) (by decide) (by decide) ?_
    show oS p e below s₁ m 10 #[vI p0, vI p0] [(.int p0)] _
    exact retI X0 hx Bd.returns (hb hby d27_10) hr
  · show own_Q (.int p0) h0 n0 _ s₁.heap _
    rw [e0]
    exact ⟨rfl, N0, rfl⟩
theorem d27_9 : decode jdk_29_method_69_code 9 = .ok (.iload_n 1, 1) := by decide +kernel
theorem rmMinG (l : Launch) (Z : State) (a0 : Array Value) (hw : HW a0 Z) (ws : List Jvm.Cond) (p0 : Int32) (p1 : Int32) (h0 : Heap) (n0 : Nat) (O0 : Old Z n0 h0) (hgt : p1 < p0) :
    oM l Z mN16 jdk_29_method_69_code 2 (some .int) ws (rM 0 0 0 0) #[(.int p0), (.int p1)] h0 (own_Q (.int p1) h0 n0) := by
  refine MetFree.of_bodySF (Jvm.Free.JP.mathPlain rfl (by decide +kernel)) hisR ?_
  intro p e s m args below meth c s₁ Bd hml0 hP hK
  obtain ⟨rfl, hZ, hh⟩ := hP
  have hx := Bd.exec
  have hby := Bd.bytes
  have hml : c.maxLocals = 2 := hml0
  have hown : s.vm.findClass "java/lang/Math" = some m.cls := findClass_of_methodNamed Bd.named
  have X0 : Stand p l e (rM 0 0 0 0) s m #[(.int p0), (.int p1)] below meth c s₁ [] 0 0 := Stand.of_body Bd
  have e0 : s₁.heap = h0 := by rw [← hh, Bd.state]; rfl
  have N0 := Fr.nil n0
  have pre0 := fun t (k : oS p e below s₁ m 0 #[vI p0, vI p1] [] t) => castTop (ef_27 m p0 p1) k
  obtain ⟨fs, hr, hrun, hended, hW, hsame⟩ := X0.leave (v := some (.int p1)) (fun h => by rw [Bd.returns] at h; cases h)
  refine ⟨_, _, pre0 _ ?_, hrun, hended, _, _, rfl, ?_, ⟨_, rfl⟩, hW, hsame.mono (by decide) (by decide)⟩
  · show oS p e below s₁ m 0 #[vI p0, vI p1] [] _
    refine XS.iloadN X0.here hx rfl (hb hby d27_0) rfl ?_
    refine XS.iloadN X0.here hx rfl (hb hby d27_1) rfl ?_
    refine XS.icmpYes X0.here hx rfl (pc0 := 2) (pc' := 9) rfl (hb hby d27_2) rfl (tlt hgt).2.2.1 (by decide) (by decide) ?_
    show oS p e below s₁ m 9 #[vI p0, vI p1] [] _
    refine XS.iloadN X0.here hx rfl (hb hby d27_9) rfl ?_
    show oS p e below s₁ m 10 #[vI p0, vI p1] [(.int p1)] _
    exact retI X0 hx Bd.returns (hb hby d27_10) hr
  · show own_Q (.int p1) h0 n0 _ s₁.heap _
    rw [e0]
    exact ⟨rfl, N0, rfl⟩
def own_QCo (Z : State) (n : Int32) (vs : List Value) (h0 : Heap) (n0 : Nat) (v : Option Value) (h : Heap) (L : List Loc) : Prop := ∃ (b : Addr) (k : ClassId), v = some (.ref b) ∧ Fr n0 L ∧ Keep h0 h [] ∧ Arv Z h b k (.object "java/lang/Object") n vs .null ∧ h0.size ≤ b
theorem d45_0 : decode jdk_65_method_120_code 0 = .ok (.aload_n 2, 1) := by decide +kernel
theorem d45_1 : decode jdk_65_method_120_code 1 = .ok (.ldc 110, 2) := by decide +kernel
theorem d45_3 : decode jdk_65_method_120_code 3 = .ok (.if_acmp .ne 10, 3) := by decide +kernel
theorem d45_6 : decode jdk_65_method_120_code 6 = .ok (.iload_n 1, 1) := by decide +kernel
theorem d45_7 : decode jdk_65_method_120_code 7 = .ok (.anewarray 2, 3) := by decide +kernel
theorem d45_10 : decode jdk_65_method_120_code 10 = .ok (.goto 14, 3) := by decide +kernel
theorem d45_24 : decode jdk_65_method_120_code 24 = .ok (.astore_n 3, 1) := by decide +kernel
theorem d45_25 : decode jdk_65_method_120_code 25 = .ok (.aload_n 0, 1) := by decide +kernel
theorem d45_26 : decode jdk_65_method_120_code 26 = .ok (.iconst 0, 1) := by decide +kernel
theorem d45_27 : decode jdk_65_method_120_code 27 = .ok (.aload_n 3, 1) := by decide +kernel
theorem d45_28 : decode jdk_65_method_120_code 28 = .ok (.iconst 0, 1) := by decide +kernel
theorem d45_29 : decode jdk_65_method_120_code 29 = .ok (.aload_n 0, 1) := by decide +kernel
theorem d45_30 : decode jdk_65_method_120_code 30 = .ok (.arraylength, 1) := by decide +kernel
theorem d45_31 : decode jdk_65_method_120_code 31 = .ok (.iload_n 1, 1) := by decide +kernel
theorem d45_32 : decode jdk_65_method_120_code 32 = .ok (.invokestatic 304, 3) := by decide +kernel
theorem d45_35 : decode jdk_65_method_120_code 35 = .ok (.invokestatic 150, 3) := by decide +kernel
theorem d45_38 : decode jdk_65_method_120_code 38 = .ok (.aload_n 3, 1) := by decide +kernel
theorem d45_39 : decode jdk_65_method_120_code 39 = .ok (.areturn, 1) := by decide +kernel
theorem ef_45 (m : MethodId) (x0 : Addr) (x1 : Int32) (x2 : Addr) : entryFrame m #[(.ref x0), (.int x1), (.ref x2)] 4 = mkF m 0 #[.val (.ref x0), .val (.int x1), .val (.ref x2), .unset] [] := by first | (simp [entryFrame, mkF, argsToLocals, Value.category]; done) | rfl
theorem pn_45 : plainName "java/util/Arrays" = true := by first | (simp [plainName, overriddenIn]; done) | decide +kernel
theorem rmC3_1 (l : Launch) (Z : State) (a0 : Array Value) (hw : HW a0 Z) (ws : List Jvm.Cond) (ed : Addr) (mr : Addr) (x1 : Addr) (ka : ClassId) (h0 : Heap) (n0 : Nat) (O0 : Old Z n0 h0) (V_ed : Arv Z h0 ed ka (.object "java/lang/Object") (10 : Int32) [(.ref x1), .null, .null, .null, .null, .null, .null, .null, .null, .null] .null) (hov : Ovr Z ka "java/lang/Object") (E_x1 : Exa Z h0 x1 "java/lang/String") (hmr : own_Mir Z "[Ljava/lang/Object;" mr) :
    oM l Z mN17 jdk_65_method_120_code 4 (some (.array (.object "java/lang/Object"))) ws (rM 1 1 1 40) #[(.ref ed), (.int 1), (.ref mr)] h0 (own_QCo Z (1 : Int32) [(.ref x1)] h0 n0) := by
  refine MetFree.of_bodySF (plainFor_of_name pn_45) hisR ?_
  intro p e s m args below meth c s₁ Bd hml0 hP hK
  obtain ⟨rfl, hZ, hh⟩ := hP
  have hx := Bd.exec
  have hby := Bd.bytes
  have hml : c.maxLocals = 4 := hml0
  have hown : s.vm.findClass "java/util/Arrays" = some m.cls := findClass_of_methodNamed Bd.named
  have X0 : Stand p l e (rM 1 1 1 40) s m #[(.ref ed), (.int 1), (.ref mr)] below meth c s₁ [] 0 0 := Stand.of_body Bd
  have e0 : s₁.heap = h0 := by rw [← hh, Bd.state]; rfl
  have N0 := Fr.nil n0
  have pre0 := fun t (k : oS p e below s₁ m 0 #[vR ed, vI 1, vR mr, .unset] [] t) => castTop (ef_45 m ed (1 : Int32) mr) k
  obtain ⟨vm1, X1, st1⟩ := X0.ldcMirror hx hown (mv hZ (oW hw 283 rfl)) (own_mirEv hZ hmr) (g := (mkF m 1 #[vR ed, vI 1, vR mr, .unset] [(.ref mr)])) rfl (hb hby d45_1)
  obtain ⟨T2, h2, k2, X2, e2, E2, A2, Ex2, Ov2, st2⟩ := newRE X1 hx hZ hown (oW hw 284 rfl) (oW hw 84 rfl) e0 (g := (mkF m 7 #[vR ed, vI 1, vR mr, .unset] [(.int 1)])) rfl (hb hby d45_7) rfl (by decide) (cap := 1) (by decide) (by decide) (by decide) (by decide) (ad := "[Ljava/lang/Object;") (by decide)
  obtain ⟨b2, g2⟩ : ∃ z, z = h0.size := ⟨_, rfl⟩
  rw [← g2] at A2 Ex2 st2
  have g_b2 : n0 ≤ b2 := Nat.le_trans (own_le O0) (Nat.le_of_eq g2.symm)
  have O2 := O0.ext E2
  have V_b2 : Arv Z h2 b2 k2 (.object "java/lang/Object") (1 : Int32) [.null] .null := (Arv.new A2 (by decide)).pad (pad_rep [] .null 1)
  obtain ⟨cl3, Ar3, qa3, Sz3, Ng3, Hs3, Ft3⟩ := (V_ed.ext E2)
  have V3o : Arv Z h2 ed ka (.object "java/lang/Object") (10 : Int32) [(.ref x1), .null, .null, .null, .null, .null, .null, .null, .null, .null] .null := ⟨cl3, Ar3, qa3, Sz3, Ng3, Hs3, Ft3⟩
  obtain ⟨_, _, ⟨T4, L4, k4, n4⟩, -, X4, ⟨Lc4, hQ4, l4, y4, z4⟩, st4⟩ := Jvm.LawKit.callS X2 hx (y := mN16) hown (mvT hZ (oW hw 201 rfl)) (mvT hZ (oW hw 167 rfl)) (mvT hZ (oW hw 81 rfl)) (mvT hZ (oW hw 168 rfl)) (by decide) (backOf (W := 4) (rmMinG l Z a0 hw [] (10 : Int32) (1 : Int32)  h2 n0 O2 (by decide)) hZ (oW hw 168 rfl) (oW hw 81 rfl) (by decide) (by decide)) (g := (mkF m 32 #[vR ed, vI 1, vR mr, vR b2] [(.int 1), (.int 10), (.int 0), (.ref b2), (.int 0), (.ref ed)])) rfl (by rw [hml]; rfl) (argsL := [(.int 10), (.int 1)]) (rest := [(.int 0), (.ref b2), (.int 0), (.ref ed)]) (lenOf pd_4 rfl) rfl (by show 2 * 0 + _ ≤ _; exact Nat.le_of_eq rfl) (hb hby d45_32) (fun _ _ => ⟨rfl, e2, (by decide : 1 + 0 ≤ _), (by decide : 1 + 0 ≤ _)⟩)
  dsimp only [Pt.U, Pt.locs, Pt.cells, Pt.slots] at X4 l4 y4 z4 st4 hQ4
  subst l4 y4 z4
  obtain ⟨rfl, N4q, e4⟩ := hQ4
  have N4 := Fr.app N0 N4q
  have Vq5 := V_b2
  obtain ⟨clq5, Arq5, qaq5, -⟩ := Vq5
  obtain ⟨T5, h5, L5, X5, e5, N5, K5, Va5, st5⟩ := cpA X4 hx hZ hown (oW hw 202 rfl) (oW hw 205 rfl) (oW hw 203 rfl) (oW hw 204 rfl) e4 (sp := (0 : Int32)) (dp := (0 : Int32)) (nn := (1 : Int32)) (us := [(.ref x1)]) V3o V_b2 (Or.inr ⟨rfl, rfl, ⟨Sto.ofV Arq5 qaq5 Ov2 (Ins.of_exa (E_x1.ext E2) (oW hw 85 rfl)), trivial⟩⟩) (by decide) (by decide) (by decide) (by decide) (by decide) rfl (by decide) N4 g_b2 (g := (mkF m 35 #[vR ed, vI 1, vR mr, vR b2] [(.int 1), (.int 0), (.ref b2), (.int 0), (.ref ed)])) rfl (by rw [hml]; rfl) rfl (hb hby d45_35) (by decide) (W := 0) (by show 2 * 0 + _ ≤ _; exact Nat.le_of_eq rfl) (by decide)
  have O5 := O2.keep K5 (allS g_b2 all0)
  have Vc5 : Arv Z h5 b2 k2 (.object "java/lang/Object") (1 : Int32) [(.ref x1)] .null := Va5
  obtain ⟨fs, hr, hrun, hended, hW, hsame⟩ := X5.leave (v := some (.ref b2)) (fun h => by rw [Bd.returns] at h; cases h)
  refine ⟨_, _, pre0 _ ?_, hrun, hended, _, _, rfl, ?_, ⟨_, rfl⟩, hW, hsame.mono (by decide) (by decide)⟩
  · show oS p e below s₁ m 0 #[vR ed, vI 1, vR mr, .unset] [] _
    refine XS.aloadN X0.here hx rfl (hb hby d45_0) rfl rfl ?_
    show oS p e below s₁ m 1 #[vR ed, vI 1, vR mr, .unset] [(.ref mr)] _
    refine st1 _ ?_
    show Steps p.tables e below ((s₁.setVm vm1).setTop (mkF m 3 #[vR ed, vI 1, vR mr, .unset] [(.ref mr), (.ref mr)])) _
    refine Jvm.RoadKit.acmp (g := (mkF m 3 #[vR ed, vI 1, vR mr, .unset] [(.ref mr), (.ref mr)])) X1 hx rfl rfl rfl (pc0 := 3) (pc' := 6) (same := true) rfl (hb hby d45_3) rfl (decide_eq_true rfl) (by decide) (by decide) ?_
    show Steps p.tables e below ((s₁.setVm vm1).setTop (mkF m 6 #[vR ed, vI 1, vR mr, .unset] [])) _
    refine XS.iloadN X1.here hx rfl (hb hby d45_6) rfl ?_
    show Steps p.tables e below ((s₁.setVm vm1).setTop (mkF m 7 #[vR ed, vI 1, vR mr, .unset] [(.int 1)])) _
    refine st2 _ ?_
    show oS p e below T2 m 10 #[vR ed, vI 1, vR mr, .unset] [(.ref b2)] _
    refine XS.goto X2.here hx rfl (pc0 := 10) (pc' := 24) rfl (hb hby d45_10) (by decide) (by decide) ?_
    show oS p e below T2 m 24 #[vR ed, vI 1, vR mr, .unset] [(.ref b2)] _
    refine XS.astoreN X2.here hx rfl (hb hby d45_24) rfl rfl (l' := #[vR ed, vI 1, vR mr, vR b2]) rfl ?_
    show oS p e below T2 m 25 #[vR ed, vI 1, vR mr, vR b2] [] _
    refine XS.aloadN X2.here hx rfl (hb hby d45_25) rfl rfl ?_
    refine XS.iconst X2.here hx rfl (hb hby d45_26) ?_
    refine XS.aloadN X2.here hx rfl (hb hby d45_27) rfl rfl ?_
    show oS p e below T2 m 28 #[vR ed, vI 1, vR mr, vR b2] [(.ref b2), (.int 0), (.ref ed)] _
    refine XS.iconst X2.here hx rfl (hb hby d45_28) ?_
    refine XS.aloadN X2.here hx rfl (hb hby d45_29) rfl rfl ?_
    show oS p e below T2 m 30 #[vR ed, vI 1, vR mr, vR b2] [(.ref ed), (.int 0), (.ref b2), (.int 0), (.ref ed)] _
    refine X2.arraylength hx (by rw [e2]; exact Ar3.1) (State.isArrayOf_alike hZ.alike Ar3.2.1) (g := (mkF m 30 #[vR ed, vI 1, vR mr, vR b2] [(.ref ed), (.int 0), (.ref b2), (.int 0), (.ref ed)])) rfl rfl (hb hby d45_30) _ ?_
    rw [len_of Sz3 Ng3]
    show oS p e below T2 m 31 #[vR ed, vI 1, vR mr, vR b2] [(.int 10), (.int 0), (.ref b2), (.int 0), (.ref ed)] _
    refine XS.iloadN X2.here hx rfl (hb hby d45_31) rfl ?_
    show oS p e below T2 m 32 #[vR ed, vI 1, vR mr, vR b2] [(.int 1), (.int 10), (.int 0), (.ref b2), (.int 0), (.ref ed)] _
    refine st4 _ ?_
    show oS p e below T4 m 35 #[vR ed, vI 1, vR mr, vR b2] [(.int 1), (.int 0), (.ref b2), (.int 0), (.ref ed)] _
    refine st5 _ ?_
    show oS p e below T5 m 38 #[vR ed, vI 1, vR mr, vR b2] [] _
    refine XS.aloadN X5.here hx rfl (hb hby d45_38) rfl rfl ?_
    show Steps p.tables e below (T5.setTop (mkF m 39 #[vR ed, vI 1, vR mr, vR b2] [(.ref b2)])) _
    jvm_step X5.here [X5.here.top, hx, (hb hby d45_39), X5.method', Bd.returns, Value.isRef, FieldType.isReference]
    first | (intro acts; rw [hr _ acts rfl rfl rfl]) | rw [hr _ _ rfl rfl rfl]
    exact Steps.refl _
  · show own_QCo Z (1 : Int32) [(.ref x1)] h0 n0 _ T5.heap _
    rw [e5]
    exact ⟨b2, k2, rfl, N5, (((Keep.refl h0 []).ext E2).trans K5 (allS (Or.inr (Nat.le_of_eq g2.symm)) all0)), Vc5, (Nat.le_of_eq g2.symm)⟩
theorem d44_0 : decode jdk_65_method_119_code 0 = .ok (.aload_n 0, 1) := by decide +kernel
theorem d44_1 : decode jdk_65_method_119_code 1 = .ok (.iload_n 1, 1) := by decide +kernel
theorem d44_2 : decode jdk_65_method_119_code 2 = .ok (.aload_n 0, 1) := by decide +kernel
theorem d44_3 : decode jdk_65_method_119_code 3 = .ok (.invokevirtual 86, 3) := by decide +kernel
theorem d44_6 : decode jdk_65_method_119_code 6 = .ok (.invokestatic 300, 3) := by decide +kernel
theorem pd_10 : parseMethodDescriptor "([Ljava/lang/Object;ILjava/lang/Class;)[Ljava/lang/Object;" = some ⟨[(.array (.object "java/lang/Object")), .int, (.object "java/lang/Class")], some (.array (.object "java/lang/Object"))⟩ := by decide +kernel
theorem d44_9 : decode jdk_65_method_119_code 9 = .ok (.areturn, 1) := by decide +kernel
theorem ef_44 (m : MethodId) (x0 : Addr) (x1 : Int32) : entryFrame m #[(.ref x0), (.int x1)] 2 = mkF m 0 #[.val (.ref x0), .val (.int x1)] [] := by first | (simp [entryFrame, mkF, argsToLocals, Value.category]; done) | rfl
theorem pn_44 : plainName "java/util/Arrays" = true := by first | (simp [plainName, overriddenIn]; done) | decide +kernel
theorem rmC2_1 (l : Launch) (Z : State) (a0 : Array Value) (hw : HW a0 Z) (ws : List Jvm.Cond) (ed : Addr) (x1 : Addr) (ka : ClassId) (mr : Addr) (h0 : Heap) (n0 : Nat) (O0 : Old Z n0 h0) (V_ed : Arv Z h0 ed ka (.object "java/lang/Object") (10 : Int32) [(.ref x1), .null, .null, .null, .null, .null, .null, .null, .null, .null] .null) (hov : Ovr Z ka "java/lang/Object") (E_x1 : Exa Z h0 x1 "java/lang/String") (E_ed : Exa Z h0 ed "[Ljava/lang/Object;") (hmr : own_Mir Z "[Ljava/lang/Object;" mr) :
    oM l Z mN18 jdk_65_method_119_code 2 (some (.array (.object "java/lang/Object"))) ws (rM 2 1 1 55) #[(.ref ed), (.int 1)] h0 (own_QCo Z (1 : Int32) [(.ref x1)] h0 n0) := by
  refine MetFree.of_bodySF (plainFor_of_name pn_44) hisR ?_
  intro p e s m args below meth c s₁ Bd hml0 hP hK
  obtain ⟨rfl, hZ, hh⟩ := hP
  have hx := Bd.exec
  have hby := Bd.bytes
  have hml : c.maxLocals = 2 := hml0
  have hown : s.vm.findClass "java/util/Arrays" = some m.cls := findClass_of_methodNamed Bd.named
  have X0 : Stand p l e (rM 2 1 1 55) s m #[(.ref ed), (.int 1)] below meth c s₁ [] 0 0 := Stand.of_body Bd
  have e0 : s₁.heap = h0 := by rw [← hh, Bd.state]; rfl
  have N0 := Fr.nil n0
  have pre0 := fun t (k : oS p e below s₁ m 0 #[vR ed, vI 1] [] t) => castTop (ef_44 m ed (1 : Int32)) k
  obtain ⟨T1, X1, e1, st1⟩ := own_gcls X0 hx hZ hown (oW hw 274 rfl) (oW hw 275 rfl) (oW hw 238 rfl) (oW hw 277 rfl) (oW hw 276 rfl) (oW hw 278 rfl) e0 E_ed hmr (g := (mkF m 3 #[vR ed, vI 1] [(.ref ed), (.int 1), (.ref ed)])) rfl (by rw [hml]; rfl) rfl (hb hby d44_3) (by decide) (W := 2) (by show 2 * 0 + _ ≤ _; exact Nat.le_of_eq rfl) (by decide)
  obtain ⟨_, _, ⟨T2, L2, k2, n2⟩, -, X2, ⟨Lc2, hQ2, l2, y2, z2⟩, st2⟩ := Jvm.LawKit.callS X1 hx (y := mN17) hown (mvT hZ (oW hw 280 rfl)) (mvT hZ (oW hw 281 rfl)) (mvT hZ (oW hw 193 rfl)) (mvT hZ (oW hw 282 rfl)) (by decide) (backOf (W := 0) (rmC3_1 l Z a0 hw [] ed mr x1 ka h0 n0 O0 V_ed hov E_x1 hmr) hZ (oW hw 282 rfl) (oW hw 193 rfl) (by decide) (by decide)) (g := (mkF m 6 #[vR ed, vI 1] [(.ref mr), (.int 1), (.ref ed)])) rfl (by rw [hml]; rfl) (argsL := [(.ref ed), (.int 1), (.ref mr)]) (rest := []) (lenOf pd_10 rfl) rfl (by show 2 * 0 + _ ≤ _; exact Nat.le_of_eq rfl) (hb hby d44_6) (fun _ _ => ⟨rfl, e1, (by decide : 0 + 1 ≤ _), (by decide : 0 + 1 ≤ _)⟩)
  dsimp only [Pt.U, Pt.locs, Pt.cells, Pt.slots] at X2 l2 y2 z2 st2 hQ2
  subst l2 y2 z2
  obtain ⟨b2, k92, rfl, N2q, K2, Vb2, Sb2⟩ := hQ2
  have N2 := Fr.app N0 N2q
  have O2 := O0.keep K2 all0
  obtain ⟨fs, hr, hrun, hended, hW, hsame⟩ := X2.leave (v := some (.ref b2)) (fun h => by rw [Bd.returns] at h; cases h)
  refine ⟨_, _, pre0 _ ?_, hrun, hended, _, _, rfl, ?_, ⟨_, rfl⟩, hW, hsame.mono (by decide) (by decide)⟩
  · show oS p e below s₁ m 0 #[vR ed, vI 1] [] _
    refine XS.aloadN X0.here hx rfl (hb hby d44_0) rfl rfl ?_
    refine XS.iloadN X0.here hx rfl (hb hby d44_1) rfl ?_
    refine XS.aloadN X0.here hx rfl (hb hby d44_2) rfl rfl ?_
    show oS p e below s₁ m 3 #[vR ed, vI 1] [(.ref ed), (.int 1), (.ref ed)] _
    refine st1 _ ?_
    show oS p e below T1 m 6 #[vR ed, vI 1] [(.ref mr), (.int 1), (.ref ed)] _
    refine st2 _ ?_
    show Steps p.tables e below (T2.setTop (mkF m 9 #[vR ed, vI 1] [(.ref b2)])) _
    jvm_step X2.here [X2.here.top, hx, (hb hby d44_9), X2.method', Bd.returns, Value.isRef, FieldType.isReference]
    first | (intro acts; rw [hr _ acts rfl rfl rfl]) | rw [hr _ _ rfl rfl rfl]
    exact Steps.refl _
  · show own_QCo Z (1 : Int32) [(.ref x1)] h0 n0 _ T2.heap _
    exact ⟨b2, k92, rfl, N2, ((Keep.refl h0 []).trans K2 all0), Vb2, Sb2⟩
theorem d43_0 : decode jdk_38_method_16_code 0 = .ok (.aload_n 0, 1) := by decide +kernel
theorem d43_1 : decode jdk_38_method_16_code 1 = .ok (.getfield 9, 3) := by decide +kernel
theorem d43_4 : decode jdk_38_method_16_code 4 = .ok (.aload_n 0, 1) := by decide +kernel
theorem d43_5 : decode jdk_38_method_16_code 5 = .ok (.getfield 48, 3) := by decide +kernel
theorem d43_8 : decode jdk_38_method_16_code 8 = .ok (.invokestatic 66, 3) := by decide +kernel
theorem pd_11 : parseMethodDescriptor "([Ljava/lang/Object;I)[Ljava/lang/Object;" = some ⟨[(.array (.object "java/lang/Object")), .int], some (.array (.object "java/lang/Object"))⟩ := by decide +kernel
theorem d43_11 : decode jdk_38_method_16_code 11 = .ok (.areturn, 1) := by decide +kernel
theorem ef_43 (m : MethodId) (x0 : Addr) : entryFrame m #[(.ref x0)] 1 = mkF m 0 #[.val (.ref x0)] [] := by first | (simp [entryFrame, mkF, argsToLocals, Value.category]; done) | rfl
theorem pn_43 : plainName "java/util/ArrayList" = true := by first | (simp [plainName, overriddenIn]; done) | decide +kernel
theorem rmTA1 (l : Launch) (Z : State) (a0 : Array Value) (hw : HW a0 Z) (ws : List Jvm.Cond) (o0 : Addr) (ed : Addr) (x1 : Addr) (ka : ClassId) (mr : Addr) (h0 : Heap) (n0 : Nat) (O0 : Old Z n0 h0) (F_size_o0 : Fld Z h0 o0 "java/util/ArrayList" "size" "I" (.int 1)) (F_elementData_o0 : Fld Z h0 o0 "java/util/ArrayList" "elementData" "[Ljava/lang/Object;" (.ref ed)) (V_ed : Arv Z h0 ed ka (.object "java/lang/Object") (10 : Int32) [(.ref x1), .null, .null, .null, .null, .null, .null, .null, .null, .null] .null) (hov : Ovr Z ka "java/lang/Object") (E_x1 : Exa Z h0 x1 "java/lang/String") (E_ed : Exa Z h0 ed "[Ljava/lang/Object;") (hmr : own_Mir Z "[Ljava/lang/Object;" mr) :
    oM l Z mN19 jdk_38_method_16_code 1 (some (.array (.object "java/lang/Object"))) ws (rM 3 1 1 68) #[(.ref o0)] h0 (own_QCo Z (1 : Int32) [(.ref x1)] h0 n0) := by
  refine MetFree.of_bodySF (plainFor_of_name pn_43) hisR ?_
  intro p e s m args below meth c s₁ Bd hml0 hP hK
  obtain ⟨rfl, hZ, hh⟩ := hP
  have hx := Bd.exec
  have hby := Bd.bytes
  have hml : c.maxLocals = 1 := hml0
  have hown : s.vm.findClass "java/util/ArrayList" = some m.cls := findClass_of_methodNamed Bd.named
  have X0 : Stand p l e (rM 3 1 1 68) s m #[(.ref o0)] below meth c s₁ [] 0 0 := Stand.of_body Bd
  have e0 : s₁.heap = h0 := by rw [← hh, Bd.state]; rfl
  have N0 := Fr.nil n0
  have pre0 := fun t (k : oS p e below s₁ m 0 #[vR o0] [] t) => castTop (ef_43 m o0) k
  obtain ⟨T1, X1, e1, st1⟩ := getF X0 hx hZ hown (host := "") (Or.inl (oW hw 28 rfl)) Via.refl e0 F_elementData_o0 (g := (mkF m 1 #[vR o0] [(.ref o0)])) rfl rfl (hb hby d43_1)
  obtain ⟨T2, X2, e2, st2⟩ := getF X1 hx hZ hown (host := "") (Or.inl (oW hw 62 rfl)) Via.refl e1 F_size_o0 (g := (mkF m 5 #[vR o0] [(.ref o0), (.ref ed)])) rfl rfl (hb hby d43_5)
  obtain ⟨_, _, ⟨T3, L3, k3, n3⟩, -, X3, ⟨Lc3, hQ3, l3, y3, z3⟩, st3⟩ := Jvm.LawKit.callS X2 hx (y := mN18) hown (mvT hZ (oW hw 271 rfl)) (mvT hZ (oW hw 272 rfl)) (mvT hZ (oW hw 193 rfl)) (mvT hZ (oW hw 273 rfl)) (by decide) (backOf (W := 0) (rmC2_1 l Z a0 hw [] ed x1 ka mr h0 n0 O0 V_ed hov E_x1 E_ed hmr) hZ (oW hw 273 rfl) (oW hw 193 rfl) (by decide) (by decide)) (g := (mkF m 8 #[vR o0] [(.int 1), (.ref ed)])) rfl (by rw [hml]; rfl) (argsL := [(.ref ed), (.int 1)]) (rest := []) (lenOf pd_11 rfl) rfl (by show 2 * 0 + _ ≤ _; exact Nat.le_of_eq rfl) (hb hby d43_8) (fun _ _ => ⟨rfl, e2, (by decide : 0 + 1 ≤ _), (by decide : 0 + 1 ≤ _)⟩)
  dsimp only [Pt.U, Pt.locs, Pt.cells, Pt.slots] at X3 l3 y3 z3 st3 hQ3
  subst l3 y3 z3
  obtain ⟨b3, k93, rfl, N3q, K3, Vb3, Sb3⟩ := hQ3
  have N3 := Fr.app N0 N3q
  have O3 := O0.keep K3 all0
  obtain ⟨fs, hr, hrun, hended, hW, hsame⟩ := X3.leave (v := some (.ref b3)) (fun h => by rw [Bd.returns] at h; cases h)
  refine ⟨_, _, pre0 _ ?_, hrun, hended, _, _, rfl, ?_, ⟨_, rfl⟩, hW, hsame.mono (by decide) (by decide)⟩
  · show oS p e below s₁ m 0 #[vR o0] [] _
    refine XS.aloadN X0.here hx rfl (hb hby d43_0) rfl rfl ?_
    show oS p e below s₁ m 1 #[vR o0] [(.ref o0)] _
    refine st1 _ ?_
    show oS p e below T1 m 4 #[vR o0] [(.ref ed)] _
    refine XS.aloadN X1.here hx rfl (hb hby d43_4) rfl rfl ?_
    show oS p e below T1 m 5 #[vR o0] [(.ref o0), (.ref ed)] _
    refine st2 _ ?_
    show oS p e below T2 m 8 #[vR o0] [(.int 1), (.ref ed)] _
    refine st3 _ ?_
    show Steps p.tables e below (T3.setTop (mkF m 11 #[vR o0] [(.ref b3)])) _
    jvm_step X3.here [X3.here.top, hx, (hb hby d43_11), X3.method', Bd.returns, Value.isRef, FieldType.isReference]
    first | (intro acts; rw [hr _ acts rfl rfl rfl]) | rw [hr _ _ rfl rfl rfl]
    exact Steps.refl _
  · show own_QCo Z (1 : Int32) [(.ref x1)] h0 n0 _ T3.heap _
    exact ⟨b3, k93, rfl, N3, ((Keep.refl h0 []).trans K3 all0), Vb3, Sb3⟩
theorem rmC3_2 (l : Launch) (Z : State) (a0 : Array Value) (hw : HW a0 Z) (ws : List Jvm.Cond) (ed : Addr) (mr : Addr) (x1 : Addr) (x2 : Addr) (ka : ClassId) (h0 : Heap) (n0 : Nat) (O0 : Old Z n0 h0) (V_ed : Arv Z h0 ed ka (.object "java/lang/Object") (10 : Int32) [(.ref x1), (.ref x2), .null, .null, .null, .null, .null, .null, .null, .null] .null) (hov : Ovr Z ka "java/lang/Object") (E_x1 : Exa Z h0 x1 "java/lang/String") (E_x2 : Exa Z h0 x2 "java/lang/String") (hmr : own_Mir Z "[Ljava/lang/Object;" mr) :
    oM l Z mN17 jdk_65_method_120_code 4 (some (.array (.object "java/lang/Object"))) ws (rM 1 1 2 40) #[(.ref ed), (.int 2), (.ref mr)] h0 (own_QCo Z (2 : Int32) [(.ref x1), (.ref x2)] h0 n0) := by
  refine MetFree.of_bodySF (plainFor_of_name pn_45) hisR ?_
  intro p e s m args below meth c s₁ Bd hml0 hP hK
  obtain ⟨rfl, hZ, hh⟩ := hP
  have hx := Bd.exec
  have hby := Bd.bytes
  have hml : c.maxLocals = 4 := hml0
  have hown : s.vm.findClass "java/util/Arrays" = some m.cls := findClass_of_methodNamed Bd.named
  have X0 : Stand p l e (rM 1 1 2 40) s m #[(.ref ed), (.int 2), (.ref mr)] below meth c s₁ [] 0 0 := Stand.of_body Bd
  have e0 : s₁.heap = h0 := by rw [← hh, Bd.state]; rfl
  have N0 := Fr.nil n0
  have pre0 := fun t (k : oS p e below s₁ m 0 #[vR ed, vI 2, vR mr, .unset] [] t) => castTop (ef_45 m ed (2 : Int32) mr) k
  obtain ⟨vm1, X1, st1⟩ := X0.ldcMirror hx hown (mv hZ (oW hw 283 rfl)) (own_mirEv hZ hmr) (g := (mkF m 1 #[vR ed, vI 2, vR mr, .unset] [(.ref mr)])) rfl (hb hby d45_1)
  obtain ⟨T2, h2, k2, X2, e2, E2, A2, Ex2, Ov2, st2⟩ := newRE X1 hx hZ hown (oW hw 284 rfl) (oW hw 84 rfl) e0 (g := (mkF m 7 #[vR ed, vI 2, vR mr, .unset] [(.int 2)])) rfl (hb hby d45_7) rfl (by decide) (cap := 2) (by decide) (by decide) (by decide) (by decide) (ad := "[Ljava/lang/Object;") (by decide)
  obtain ⟨b2, g2⟩ : ∃ z, z = h0.size := ⟨_, rfl⟩
  rw [← g2] at A2 Ex2 st2
  have g_b2 : n0 ≤ b2 := Nat.le_trans (own_le O0) (Nat.le_of_eq g2.symm)
  have O2 := O0.ext E2
  have V_b2 : Arv Z h2 b2 k2 (.object "java/lang/Object") (2 : Int32) [.null, .null] .null := (Arv.new A2 (by decide)).pad (pad_rep [] .null 2)
  obtain ⟨cl3, Ar3, qa3, Sz3, Ng3, Hs3, Ft3⟩ := (V_ed.ext E2)
  have V3o : Arv Z h2 ed ka (.object "java/lang/Object") (10 : Int32) [(.ref x1), (.ref x2), .null, .null, .null, .null, .null, .null, .null, .null] .null := ⟨cl3, Ar3, qa3, Sz3, Ng3, Hs3, Ft3⟩
  obtain ⟨_, _, ⟨T4, L4, k4, n4⟩, -, X4, ⟨Lc4, hQ4, l4, y4, z4⟩, st4⟩ := Jvm.LawKit.callS X2 hx (y := mN16) hown (mvT hZ (oW hw 201 rfl)) (mvT hZ (oW hw 167 rfl)) (mvT hZ (oW hw 81 rfl)) (mvT hZ (oW hw 168 rfl)) (by decide) (backOf (W := 4) (rmMinG l Z a0 hw [] (10 : Int32) (2 : Int32)  h2 n0 O2 (by decide)) hZ (oW hw 168 rfl) (oW hw 81 rfl) (by decide) (by decide)) (g := (mkF m 32 #[vR ed, vI 2, vR mr, vR b2] [(.int 2), (.int 10), (.int 0), (.ref b2), (.int 0), (.ref ed)])) rfl (by rw [hml]; rfl) (argsL := [(.int 10), (.int 2)]) (rest := [(.int 0), (.ref b2), (.int 0), (.ref ed)]) (lenOf pd_4 rfl) rfl (by show 2 * 0 + _ ≤ _; exact Nat.le_of_eq rfl) (hb hby d45_32) (fun _ _ => ⟨rfl, e2, (by decide : 1 + 0 ≤ _), (by decide : 2 + 0 ≤ _)⟩)
  dsimp only [Pt.U, Pt.locs, Pt.cells, Pt.slots] at X4 l4 y4 z4 st4 hQ4
  subst l4 y4 z4
  obtain ⟨rfl, N4q, e4⟩ := hQ4
  have N4 := Fr.app N0 N4q
  have Vq5 := V_b2
  obtain ⟨clq5, Arq5, qaq5, -⟩ := Vq5
  obtain ⟨T5, h5, L5, X5, e5, N5, K5, Va5, st5⟩ := cpA X4 hx hZ hown (oW hw 202 rfl) (oW hw 205 rfl) (oW hw 203 rfl) (oW hw 204 rfl) e4 (sp := (0 : Int32)) (dp := (0 : Int32)) (nn := (2 : Int32)) (us := [(.ref x1), (.ref x2)]) V3o V_b2 (Or.inr ⟨rfl, rfl, ⟨Sto.ofV Arq5 qaq5 Ov2 (Ins.of_exa (E_x1.ext E2) (oW hw 85 rfl)), Sto.ofV Arq5 qaq5 Ov2 (Ins.of_exa (E_x2.ext E2) (oW hw 85 rfl)), trivial⟩⟩) (by decide) (by decide) (by decide) (by decide) (by decide) rfl (by decide) N4 g_b2 (g := (mkF m 35 #[vR ed, vI 2, vR mr, vR b2] [(.int 2), (.int 0), (.ref b2), (.int 0), (.ref ed)])) rfl (by rw [hml]; rfl) rfl (hb hby d45_35) (by decide) (W := 0) (by show 2 * 0 + _ ≤ _; exact Nat.le_of_eq rfl) (by decide)
  have O5 := O2.keep K5 (allS g_b2 all0)
  have Vc5 : Arv Z h5 b2 k2 (.object "java/lang/Object") (2 : Int32) [(.ref x1), (.ref x2)] .null := Va5
  obtain ⟨fs, hr, hrun, hended, hW, hsame⟩ := X5.leave (v := some (.ref b2)) (fun h => by rw [Bd.returns] at h; cases h)
  refine ⟨_, _, pre0 _ ?_, hrun, hended, _, _, rfl, ?_, ⟨_, rfl⟩, hW, hsame.mono (by decide) (by decide)⟩
  · show oS p e below s₁ m 0 #[vR ed, vI 2, vR mr, .unset] [] _
    refine XS.aloadN X0.here hx rfl (hb hby d45_0) rfl rfl ?_
    show oS p e below s₁ m 1 #[vR ed, vI 2, vR mr, .unset] [(.ref mr)] _
    refine st1 _ ?_
    show Steps p.tables e below ((s₁.setVm vm1).setTop (mkF m 3 #[vR ed, vI 2, vR mr, .unset] [(.ref mr), (.ref mr)])) _
    refine Jvm.RoadKit.acmp (g := (mkF m 3 #[vR ed, vI 2, vR mr, .unset] [(.ref mr), (.ref mr)])) X1 hx rfl rfl rfl (pc0 := 3) (pc' := 6) (same := true) rfl (hb hby d45_3) rfl (decide_eq_true rfl) (by decide) (by decide) ?_
    show Steps p.tables e below ((s₁.setVm vm1).setTop (mkF m 6 #[vR ed, vI 2, vR mr, .unset] [])) _
    refine XS.iloadN X1.here hx rfl (hb hby d45_6) rfl ?_
    show Steps p.tables e below ((s₁.setVm vm1).setTop (mkF m 7 #[vR ed, vI 2, vR mr, .unset] [(.int 2)])) _
    refine st2 _ ?_
    show oS p e below T2 m 10 #[vR ed, vI 2, vR mr, .unset] [(.ref b2)] _
    refine XS.goto X2.here hx rfl (pc0 := 10) (pc' := 24) rfl (hb hby d45_10) (by decide) (by decide) ?_
    show oS p e below T2 m 24 #[vR ed, vI 2, vR mr, .unset] [(.ref b2)] _
    refine XS.astoreN X2.here hx rfl (hb hby d45_24) rfl rfl (l' := #[vR ed, vI 2, vR mr, vR b2]) rfl ?_
    show oS p e below T2 m 25 #[vR ed, vI 2, vR mr, vR b2] [] _
    refine XS.aloadN X2.here hx rfl (hb hby d45_25) rfl rfl ?_
    refine XS.iconst X2.here hx rfl (hb hby d45_26) ?_
    refine XS.aloadN X2.here hx rfl (hb hby d45_27) rfl rfl ?_
    show oS p e below T2 m 28 #[vR ed, vI 2, vR mr, vR b2] [(.ref b2), (.int 0), (.ref ed)] _
    refine XS.iconst X2.here hx rfl (hb hby d45_28) ?_
    refine XS.aloadN X2.here hx rfl (hb hby d45_29) rfl rfl ?_
    show oS p e below T2 m 30 #[vR ed, vI 2, vR mr, vR b2] [(.ref ed), (.int 0), (.ref b2), (.int 0), (.ref ed)] _
    refine X2.arraylength hx (by rw [e2]; exact Ar3.1) (State.isArrayOf_alike hZ.alike Ar3.2.1) (g := (mkF m 30 #[vR ed, vI 2, vR mr, vR b2] [(.ref ed), (.int 0), (.ref b2), (.int 0), (.ref ed)])) rfl rfl (hb hby d45_30) _ ?_
    rw [len_of Sz3 Ng3]
    show oS p e below T2 m 31 #[vR ed, vI 2, vR mr, vR b2] [(.int 10), (.int 0), (.ref b2), (.int 0), (.ref ed)] _
    refine XS.iloadN X2.here hx rfl (hb hby d45_31) rfl ?_
    show oS p e below T2 m 32 #[vR ed, vI 2, vR mr, vR b2] [(.int 2), (.int 10), (.int 0), (.ref b2), (.int 0), (.ref ed)] _
    refine st4 _ ?_
    show oS p e below T4 m 35 #[vR ed, vI 2, vR mr, vR b2] [(.int 2), (.int 0), (.ref b2), (.int 0), (.ref ed)] _
    refine st5 _ ?_
    show oS p e below T5 m 38 #[vR ed, vI 2, vR mr, vR b2] [] _
    refine XS.aloadN X5.here hx rfl (hb hby d45_38) rfl rfl ?_
    show Steps p.tables e below (T5.setTop (mkF m 39 #[vR ed, vI 2, vR mr, vR b2] [(.ref b2)])) _
    jvm_step X5.here [X5.here.top, hx, (hb hby d45_39), X5.method', Bd.returns, Value.isRef, FieldType.isReference]
    first | (intro acts; rw [hr _ acts rfl rfl rfl]) | rw [hr _ _ rfl rfl rfl]
    exact Steps.refl _
  · show own_QCo Z (2 : Int32) [(.ref x1), (.ref x2)] h0 n0 _ T5.heap _
    rw [e5]
    exact ⟨b2, k2, rfl, N5, (((Keep.refl h0 []).ext E2).trans K5 (allS (Or.inr (Nat.le_of_eq g2.symm)) all0)), Vc5, (Nat.le_of_eq g2.symm)⟩
theorem rmC2_2 (l : Launch) (Z : State) (a0 : Array Value) (hw : HW a0 Z) (ws : List Jvm.Cond) (ed : Addr) (x1 : Addr) (x2 : Addr) (ka : ClassId) (mr : Addr) (h0 : Heap) (n0 : Nat) (O0 : Old Z n0 h0) (V_ed : Arv Z h0 ed ka (.object "java/lang/Object") (10 : Int32) [(.ref x1), (.ref x2), .null, .null, .null, .null, .null, .null, .null, .null] .null) (hov : Ovr Z ka "java/lang/Object") (E_x1 : Exa Z h0 x1 "java/lang/String") (E_x2 : Exa Z h0 x2 "java/lang/String") (E_ed : Exa Z h0 ed "[Ljava/lang/Object;") (hmr : own_Mir Z "[Ljava/lang/Object;" mr) :
    oM l Z mN18 jdk_65_method_119_code 2 (some (.array (.object "java/lang/Object"))) ws (rM 2 1 2 55) #[(.ref ed), (.int 2)] h0 (own_QCo Z (2 : Int32) [(.ref x1), (.ref x2)] h0 n0) := by
  refine MetFree.of_bodySF (plainFor_of_name pn_44) hisR ?_
  intro p e s m args below meth c s₁ Bd hml0 hP hK
  obtain ⟨rfl, hZ, hh⟩ := hP
  have hx := Bd.exec
  have hby := Bd.bytes
  have hml : c.maxLocals = 2 := hml0
  have hown : s.vm.findClass "java/util/Arrays" = some m.cls := findClass_of_methodNamed Bd.named
  have X0 : Stand p l e (rM 2 1 2 55) s m #[(.ref ed), (.int 2)] below meth c s₁ [] 0 0 := Stand.of_body Bd
  have e0 : s₁.heap = h0 := by rw [← hh, Bd.state]; rfl
  have N0 := Fr.nil n0
  have pre0 := fun t (k : oS p e below s₁ m 0 #[vR ed, vI 2] [] t) => castTop (ef_44 m ed (2 : Int32)) k
  obtain ⟨T1, X1, e1, st1⟩ := own_gcls X0 hx hZ hown (oW hw 274 rfl) (oW hw 275 rfl) (oW hw 238 rfl) (oW hw 277 rfl) (oW hw 276 rfl) (oW hw 278 rfl) e0 E_ed hmr (g := (mkF m 3 #[vR ed, vI 2] [(.ref ed), (.int 2), (.ref ed)])) rfl (by rw [hml]; rfl) rfl (hb hby d44_3) (by decide) (W := 2) (by show 2 * 0 + _ ≤ _; exact Nat.le_of_eq rfl) (by decide)
  obtain ⟨_, _, ⟨T2, L2, k2, n2⟩, -, X2, ⟨Lc2, hQ2, l2, y2, z2⟩, st2⟩ := Jvm.LawKit.callS X1 hx (y := mN17) hown (mvT hZ (oW hw 280 rfl)) (mvT hZ (oW hw 281 rfl)) (mvT hZ (oW hw 193 rfl)) (mvT hZ (oW hw 282 rfl)) (by decide) (backOf (W := 0) (rmC3_2 l Z a0 hw [] ed mr x1 x2 ka h0 n0 O0 V_ed hov E_x1 E_x2 hmr) hZ (oW hw 282 rfl) (oW hw 193 rfl) (by decide) (by decide)) (g := (mkF m 6 #[vR ed, vI 2] [(.ref mr), (.int 2), (.ref ed)])) rfl (by rw [hml]; rfl) (argsL := [(.ref ed), (.int 2), (.ref mr)]) (rest := []) (lenOf pd_10 rfl) rfl (by show 2 * 0 + _ ≤ _; exact Nat.le_of_eq rfl) (hb hby d44_6) (fun _ _ => ⟨rfl, e1, (by decide : 0 + 1 ≤ _), (by decide : 0 + 2 ≤ _)⟩)
  dsimp only [Pt.U, Pt.locs, Pt.cells, Pt.slots] at X2 l2 y2 z2 st2 hQ2
  subst l2 y2 z2
  obtain ⟨b2, k92, rfl, N2q, K2, Vb2, Sb2⟩ := hQ2
  have N2 := Fr.app N0 N2q
  have O2 := O0.keep K2 all0
  obtain ⟨fs, hr, hrun, hended, hW, hsame⟩ := X2.leave (v := some (.ref b2)) (fun h => by rw [Bd.returns] at h; cases h)
  refine ⟨_, _, pre0 _ ?_, hrun, hended, _, _, rfl, ?_, ⟨_, rfl⟩, hW, hsame.mono (by decide) (by decide)⟩
  · show oS p e below s₁ m 0 #[vR ed, vI 2] [] _
    refine XS.aloadN X0.here hx rfl (hb hby d44_0) rfl rfl ?_
    refine XS.iloadN X0.here hx rfl (hb hby d44_1) rfl ?_
    refine XS.aloadN X0.here hx rfl (hb hby d44_2) rfl rfl ?_
    show oS p e below s₁ m 3 #[vR ed, vI 2] [(.ref ed), (.int 2), (.ref ed)] _
    refine st1 _ ?_
    show oS p e below T1 m 6 #[vR ed, vI 2] [(.ref mr), (.int 2), (.ref ed)] _
    refine st2 _ ?_
    show Steps p.tables e below (T2.setTop (mkF m 9 #[vR ed, vI 2] [(.ref b2)])) _
    jvm_step X2.here [X2.here.top, hx, (hb hby d44_9), X2.method', Bd.returns, Value.isRef, FieldType.isReference]
    first | (intro acts; rw [hr _ acts rfl rfl rfl]) | rw [hr _ _ rfl rfl rfl]
    exact Steps.refl _
  · show own_QCo Z (2 : Int32) [(.ref x1), (.ref x2)] h0 n0 _ T2.heap _
    exact ⟨b2, k92, rfl, N2, ((Keep.refl h0 []).trans K2 all0), Vb2, Sb2⟩
theorem rmTA2 (l : Launch) (Z : State) (a0 : Array Value) (hw : HW a0 Z) (ws : List Jvm.Cond) (o0 : Addr) (ed : Addr) (x1 : Addr) (x2 : Addr) (ka : ClassId) (mr : Addr) (h0 : Heap) (n0 : Nat) (O0 : Old Z n0 h0) (F_size_o0 : Fld Z h0 o0 "java/util/ArrayList" "size" "I" (.int 2)) (F_elementData_o0 : Fld Z h0 o0 "java/util/ArrayList" "elementData" "[Ljava/lang/Object;" (.ref ed)) (V_ed : Arv Z h0 ed ka (.object "java/lang/Object") (10 : Int32) [(.ref x1), (.ref x2), .null, .null, .null, .null, .null, .null, .null, .null] .null) (hov : Ovr Z ka "java/lang/Object") (E_x1 : Exa Z h0 x1 "java/lang/String") (E_x2 : Exa Z h0 x2 "java/lang/String") (E_ed : Exa Z h0 ed "[Ljava/lang/Object;") (hmr : own_Mir Z "[Ljava/lang/Object;" mr) :
    oM l Z mN19 jdk_38_method_16_code 1 (some (.array (.object "java/lang/Object"))) ws (rM 3 1 2 68) #[(.ref o0)] h0 (own_QCo Z (2 : Int32) [(.ref x1), (.ref x2)] h0 n0) := by
  refine MetFree.of_bodySF (plainFor_of_name pn_43) hisR ?_
  intro p e s m args below meth c s₁ Bd hml0 hP hK
  obtain ⟨rfl, hZ, hh⟩ := hP
  have hx := Bd.exec
  have hby := Bd.bytes
  have hml : c.maxLocals = 1 := hml0
  have hown : s.vm.findClass "java/util/ArrayList" = some m.cls := findClass_of_methodNamed Bd.named
  have X0 : Stand p l e (rM 3 1 2 68) s m #[(.ref o0)] below meth c s₁ [] 0 0 := Stand.of_body Bd
  have e0 : s₁.heap = h0 := by rw [← hh, Bd.state]; rfl
  have N0 := Fr.nil n0
  have pre0 := fun t (k : oS p e below s₁ m 0 #[vR o0] [] t) => castTop (ef_43 m o0) k
  obtain ⟨T1, X1, e1, st1⟩ := getF X0 hx hZ hown (host := "") (Or.inl (oW hw 28 rfl)) Via.refl e0 F_elementData_o0 (g := (mkF m 1 #[vR o0] [(.ref o0)])) rfl rfl (hb hby d43_1)
  obtain ⟨T2, X2, e2, st2⟩ := getF X1 hx hZ hown (host := "") (Or.inl (oW hw 62 rfl)) Via.refl e1 F_size_o0 (g := (mkF m 5 #[vR o0] [(.ref o0), (.ref ed)])) rfl rfl (hb hby d43_5)
  obtain ⟨_, _, ⟨T3, L3, k3, n3⟩, -, X3, ⟨Lc3, hQ3, l3, y3, z3⟩, st3⟩ := Jvm.LawKit.callS X2 hx (y := mN18) hown (mvT hZ (oW hw 271 rfl)) (mvT hZ (oW hw 272 rfl)) (mvT hZ (oW hw 193 rfl)) (mvT hZ (oW hw 273 rfl)) (by decide) (backOf (W := 0) (rmC2_2 l Z a0 hw [] ed x1 x2 ka mr h0 n0 O0 V_ed hov E_x1 E_x2 E_ed hmr) hZ (oW hw 273 rfl) (oW hw 193 rfl) (by decide) (by decide)) (g := (mkF m 8 #[vR o0] [(.int 2), (.ref ed)])) rfl (by rw [hml]; rfl) (argsL := [(.ref ed), (.int 2)]) (rest := []) (lenOf pd_11 rfl) rfl (by show 2 * 0 + _ ≤ _; exact Nat.le_of_eq rfl) (hb hby d43_8) (fun _ _ => ⟨rfl, e2, (by decide : 0 + 1 ≤ _), (by decide : 0 + 2 ≤ _)⟩)
  dsimp only [Pt.U, Pt.locs, Pt.cells, Pt.slots] at X3 l3 y3 z3 st3 hQ3
  subst l3 y3 z3
  obtain ⟨b3, k93, rfl, N3q, K3, Vb3, Sb3⟩ := hQ3
  have N3 := Fr.app N0 N3q
  have O3 := O0.keep K3 all0
  obtain ⟨fs, hr, hrun, hended, hW, hsame⟩ := X3.leave (v := some (.ref b3)) (fun h => by rw [Bd.returns] at h; cases h)
  refine ⟨_, _, pre0 _ ?_, hrun, hended, _, _, rfl, ?_, ⟨_, rfl⟩, hW, hsame.mono (by decide) (by decide)⟩
  · show oS p e below s₁ m 0 #[vR o0] [] _
    refine XS.aloadN X0.here hx rfl (hb hby d43_0) rfl rfl ?_
    show oS p e below s₁ m 1 #[vR o0] [(.ref o0)] _
    refine st1 _ ?_
    show oS p e below T1 m 4 #[vR o0] [(.ref ed)] _
    refine XS.aloadN X1.here hx rfl (hb hby d43_4) rfl rfl ?_
    show oS p e below T1 m 5 #[vR o0] [(.ref o0), (.ref ed)] _
    refine st2 _ ?_
    show oS p e below T2 m 8 #[vR o0] [(.int 2), (.ref ed)] _
    refine st3 _ ?_
    show Steps p.tables e below (T3.setTop (mkF m 11 #[vR o0] [(.ref b3)])) _
    jvm_step X3.here [X3.here.top, hx, (hb hby d43_11), X3.method', Bd.returns, Value.isRef, FieldType.isReference]
    first | (intro acts; rw [hr _ acts rfl rfl rfl]) | rw [hr _ _ rfl rfl rfl]
    exact Steps.refl _
  · show own_QCo Z (2 : Int32) [(.ref x1), (.ref x2)] h0 n0 _ T3.heap _
    exact ⟨b3, k93, rfl, N3, ((Keep.refl h0 []).trans K3 all0), Vb3, Sb3⟩
theorem d49_0 : decode jdk_47_method_1_code 0 = .ok (.aload_n 0, 1) := by decide +kernel
theorem d49_1 : decode jdk_47_method_1_code 1 = .ok (.invokespecial 1, 3) := by decide +kernel
theorem d49_4 : decode jdk_47_method_1_code 4 = .ok (.return_, 1) := by decide +kernel
theorem ef_49 (m : MethodId) (x0 : Addr) : entryFrame m #[(.ref x0)] 1 = mkF m 0 #[.val (.ref x0)] [] := by first | (simp [entryFrame, mkF, argsToLocals, Value.category]; done) | rfl
theorem pn_49 : plainName "java/util/ImmutableCollections$AbstractImmutableCollection" = true := by first | (simp [plainName, overriddenIn]; done) | decide +kernel
theorem rmAIC (l : Launch) (Z : State) (a0 : Array Value) (hw : HW a0 Z) (ws : List Jvm.Cond) (o0 : Addr) (h0 : Heap) (n0 : Nat) (O0 : Old Z n0 h0) :
    oM l Z mN20 jdk_47_method_1_code 1 none ws (rM 2 0 0 24) #[(.ref o0)] h0 (own_Qn h0 n0) := by
  refine MetFree.of_bodySF (plainFor_of_name pn_49) hisR ?_
  intro p e s m args below meth c s₁ Bd hml0 hP hK
  obtain ⟨rfl, hZ, hh⟩ := hP
  have hx := Bd.exec
  have hby := Bd.bytes
  have hml : c.maxLocals = 1 := hml0
  have hown : s.vm.findClass "java/util/ImmutableCollections$AbstractImmutableCollection" = some m.cls := findClass_of_methodNamed Bd.named
  have X0 : Stand p l e (rM 2 0 0 24) s m #[(.ref o0)] below meth c s₁ [] 0 0 := Stand.of_body Bd
  have e0 : s₁.heap = h0 := by rw [← hh, Bd.state]; rfl
  have N0 := Fr.nil n0
  have pre0 := fun t (k : oS p e below s₁ m 0 #[vR o0] [] t) => castTop (ef_49 m o0) k
  obtain ⟨_, _, ⟨T1, L1, k1, n1⟩, -, X1, ⟨Lc1, hQ1, l1, y1, z1⟩, st1⟩ := X0.specialBack hx (y := mN0) rfl hown (mvT hZ (oW hw 307 rfl)) (mvT hZ (oW hw 17 rfl)) (mvT hZ (oW hw 21 rfl)) (by decide) (backOf (W := 0) (rmAC l Z a0 hw [] o0  h0 n0 O0 ) hZ (oW hw 21 rfl) (oW hw 20 rfl) (by decide) (by decide)) (g := (mkF m 1 #[vR o0] [(.ref o0)])) rfl (by rw [hml]; rfl) (Steps.refl _) (a := o0) (argsL := []) (rest := []) (lenOf pd_0 rfl) rfl (by show 2 * 0 + _ ≤ _; exact Nat.le_of_eq rfl) (hb hby d49_1) (fun _ _ => ⟨rfl, e0, (by decide : 0 + 0 ≤ _), (by decide : 0 + 0 ≤ _)⟩)
  dsimp only [Pt.U, Pt.locs, Pt.cells, Pt.slots] at X1 l1 y1 z1 st1 hQ1
  subst l1 y1 z1
  obtain ⟨rfl, N1q, e1⟩ := hQ1
  have N1 := Fr.app N0 N1q
  obtain ⟨fs, hr, hrun, hended, hW, hsame⟩ := X1.leave (v := none) (fun _ => rfl)
  refine ⟨_, _, pre0 _ ?_, hrun, hended, _, _, rfl, ?_, ⟨_, rfl⟩, hW, hsame.mono (by decide) (by decide)⟩
  · show oS p e below s₁ m 0 #[vR o0] [] _
    refine XS.aloadN X0.here hx rfl (hb hby d49_0) rfl rfl ?_
    show oS p e below s₁ m 1 #[vR o0] [(.ref o0)] _
    refine st1.trans ?_
    show oS p e below T1 m 4 #[vR o0] [] _
    exact X1.returnOut hx Bd.returns (hb hby d49_4) hr
  · show own_Qn h0 n0 _ T1.heap _
    rw [e1]
    exact ⟨rfl, N1, rfl⟩
theorem d48_0 : decode jdk_46_method_1_code 0 = .ok (.aload_n 0, 1) := by decide +kernel
theorem d48_1 : decode jdk_46_method_1_code 1 = .ok (.invokespecial 1, 3) := by decide +kernel
theorem d48_4 : decode jdk_46_method_1_code 4 = .ok (.return_, 1) := by decide +kernel
theorem ef_48 (m : MethodId) (x0 : Addr) : entryFrame m #[(.ref x0)] 1 = mkF m 0 #[.val (.ref x0)] [] := by first | (simp [entryFrame, mkF, argsToLocals, Value.category]; done) | rfl
theorem pn_48 : plainName "java/util/ImmutableCollections$AbstractImmutableList" = true := by first | (simp [plainName, overriddenIn]; done) | decide +kernel
theorem rmAIL (l : Launch) (Z : State) (a0 : Array Value) (hw : HW a0 Z) (ws : List Jvm.Cond) (o0 : Addr) (h0 : Heap) (n0 : Nat) (O0 : Old Z n0 h0) :
    oM l Z mN21 jdk_46_method_1_code 1 none ws (rM 3 0 0 36) #[(.ref o0)] h0 (own_Qn h0 n0) := by
  refine MetFree.of_bodySF (plainFor_of_name pn_48) hisR ?_
  intro p e s m args below meth c s₁ Bd hml0 hP hK
  obtain ⟨rfl, hZ, hh⟩ := hP
  have hx := Bd.exec
  have hby := Bd.bytes
  have hml : c.maxLocals = 1 := hml0
  have hown : s.vm.findClass "java/util/ImmutableCollections$AbstractImmutableList" = some m.cls := findClass_of_methodNamed Bd.named
  have X0 : Stand p l e (rM 3 0 0 36) s m #[(.ref o0)] below meth c s₁ [] 0 0 := Stand.of_body Bd
  have e0 : s₁.heap = h0 := by rw [← hh, Bd.state]; rfl
  have N0 := Fr.nil n0
  have pre0 := fun t (k : oS p e below s₁ m 0 #[vR o0] [] t) => castTop (ef_48 m o0) k
  obtain ⟨_, _, ⟨T1, L1, k1, n1⟩, -, X1, ⟨Lc1, hQ1, l1, y1, z1⟩, st1⟩ := X0.specialBack hx (y := mN20) rfl hown (mvT hZ (oW hw 301 rfl)) (mvT hZ (oW hw 302 rfl)) (mvT hZ (oW hw 306 rfl)) (by decide) (backOf (W := 0) (rmAIC l Z a0 hw [] o0  h0 n0 O0 ) hZ (oW hw 306 rfl) (oW hw 305 rfl) (by decide) (by decide)) (g := (mkF m 1 #[vR o0] [(.ref o0)])) rfl (by rw [hml]; rfl) (Steps.refl _) (a := o0) (argsL := []) (rest := []) (lenOf pd_0 rfl) rfl (by show 2 * 0 + _ ≤ _; exact Nat.le_of_eq rfl) (hb hby d48_1) (fun _ _ => ⟨rfl, e0, (by decide : 0 + 0 ≤ _), (by decide : 0 + 0 ≤ _)⟩)
  dsimp only [Pt.U, Pt.locs, Pt.cells, Pt.slots] at X1 l1 y1 z1 st1 hQ1
  subst l1 y1 z1
  obtain ⟨rfl, N1q, e1⟩ := hQ1
  have N1 := Fr.app N0 N1q
  obtain ⟨fs, hr, hrun, hended, hW, hsame⟩ := X1.leave (v := none) (fun _ => rfl)
  refine ⟨_, _, pre0 _ ?_, hrun, hended, _, _, rfl, ?_, ⟨_, rfl⟩, hW, hsame.mono (by decide) (by decide)⟩
  · show oS p e below s₁ m 0 #[vR o0] [] _
    refine XS.aloadN X0.here hx rfl (hb hby d48_0) rfl rfl ?_
    show oS p e below s₁ m 1 #[vR o0] [(.ref o0)] _
    refine st1.trans ?_
    show oS p e below T1 m 4 #[vR o0] [] _
    exact X1.returnOut hx Bd.returns (hb hby d48_4) hr
  · show own_Qn h0 n0 _ T1.heap _
    rw [e1]
    exact ⟨rfl, N1, rfl⟩
theorem d50_0 : decode jdk_31_method_10_code 0 = .ok (.aload_n 0, 1) := by decide +kernel
theorem d50_1 : decode jdk_31_method_10_code 1 = .ok (.ifnonnull 11, 3) := by decide +kernel
theorem d50_12 : decode jdk_31_method_10_code 12 = .ok (.aload_n 0, 1) := by decide +kernel
theorem d50_13 : decode jdk_31_method_10_code 13 = .ok (.areturn, 1) := by decide +kernel
theorem ef_50 (m : MethodId) (x0 : Addr) : entryFrame m #[(.ref x0)] 1 = mkF m 0 #[.val (.ref x0)] [] := by first | (simp [entryFrame, mkF, argsToLocals, Value.category]; done) | rfl
theorem pn_50 : plainName "java/util/Objects" = true := by first | (simp [plainName, overriddenIn]; done) | decide +kernel
theorem rmRN (l : Launch) (Z : State) (a0 : Array Value) (hw : HW a0 Z) (ws : List Jvm.Cond) (o0 : Addr) (h0 : Heap) (n0 : Nat) (O0 : Old Z n0 h0) :
    oM l Z mN22 jdk_31_method_10_code 1 (some (.object "java/lang/Object")) ws (rM 0 0 0 0) #[(.ref o0)] h0 (own_Q (.ref o0) h0 n0) := by
  refine MetFree.of_bodySF (plainFor_of_name pn_50) hisR ?_
  intro p e s m args below meth c s₁ Bd hml0 hP hK
  obtain ⟨rfl, hZ, hh⟩ := hP
  have hx := Bd.exec
  have hby := Bd.bytes
  have hml : c.maxLocals = 1 := hml0
  have hown : s.vm.findClass "java/util/Objects" = some m.cls := findClass_of_methodNamed Bd.named
  have X0 : Stand p l e (rM 0 0 0 0) s m #[(.ref o0)] below meth c s₁ [] 0 0 := Stand.of_body Bd
  have e0 : s₁.heap = h0 := by rw [← hh, Bd.state]; rfl
  have N0 := Fr.nil n0
  have pre0 := fun t (k : oS p e below s₁ m 0 #[vR o0] [] t) => castTop (ef_50 m o0) k
  obtain ⟨fs, hr, hrun, hended, hW, hsame⟩ := X0.leave (v := some (.ref o0)) (fun h => by rw [Bd.returns] at h; cases h)
  refine ⟨_, _, pre0 _ ?_, hrun, hended, _, _, rfl, ?_, ⟨_, rfl⟩, hW, hsame.mono (by decide) (by decide)⟩
  · show oS p e below s₁ m 0 #[vR o0] [] _
    refine XS.aloadN X0.here hx rfl (hb hby d50_0) rfl rfl ?_
    refine XS.ifnonnullYes X0.here hx rfl (pc0 := 1) (pc' := 12) rfl (hb hby d50_1) rfl (by decide) (by decide) ?_
    show oS p e below s₁ m 12 #[vR o0] [] _
    refine XS.aloadN X0.here hx rfl (hb hby d50_12) rfl rfl ?_
    show Steps p.tables e below (s₁.setTop (mkF m 13 #[vR o0] [(.ref o0)])) _
    jvm_step X0.here [X0.here.top, hx, (hb hby d50_13), X0.method', Bd.returns, Value.isRef, FieldType.isReference]
    first | (intro acts; rw [hr _ acts rfl rfl rfl]) | rw [hr _ _ rfl rfl rfl]
    exact Steps.refl _
  · show own_Q (.ref o0) h0 n0 _ s₁.heap _
    rw [e0]
    exact ⟨rfl, N0, rfl⟩
def own_QL (Z : State) (o x y : Addr) (h0 : Heap) (n0 : Nat) (v : Option Value) (h : Heap) (L : List Loc) : Prop := v = none ∧ Fr n0 L ∧ Keep h0 h [o] ∧ Fld Z h o "java/util/ImmutableCollections$List12" "e0" "Ljava/lang/Object;" (.ref x) ∧ Fld Z h o "java/util/ImmutableCollections$List12" "e1" "Ljava/lang/Object;" (.ref y)
theorem d62_0 : decode jdk_44_method_1_code 0 = .ok (.aload_n 0, 1) := by decide +kernel
theorem d62_1 : decode jdk_44_method_1_code 1 = .ok (.invokespecial 1, 3) := by decide +kernel
theorem d62_4 : decode jdk_44_method_1_code 4 = .ok (.aload_n 0, 1) := by decide +kernel
theorem d62_5 : decode jdk_44_method_1_code 5 = .ok (.aload_n 1, 1) := by decide +kernel
theorem d62_6 : decode jdk_44_method_1_code 6 = .ok (.invokestatic 7, 3) := by decide +kernel
theorem pd_12 : parseMethodDescriptor "(Ljava/lang/Object;)Ljava/lang/Object;" = some ⟨[(.object "java/lang/Object")], some (.object "java/lang/Object")⟩ := by decide +kernel
theorem d62_9 : decode jdk_44_method_1_code 9 = .ok (.putfield 13, 3) := by decide +kernel
theorem d62_12 : decode jdk_44_method_1_code 12 = .ok (.aload_n 0, 1) := by decide +kernel
theorem d62_13 : decode jdk_44_method_1_code 13 = .ok (.getstatic 19, 3) := by decide +kernel
theorem d62_16 : decode jdk_44_method_1_code 16 = .ok (.putfield 24, 3) := by decide +kernel
theorem d62_19 : decode jdk_44_method_1_code 19 = .ok (.return_, 1) := by decide +kernel
theorem ef_62 (m : MethodId) (x0 : Addr) (x1 : Addr) : entryFrame m #[(.ref x0), (.ref x1)] 2 = mkF m 0 #[.val (.ref x0), .val (.ref x1)] [] := by first | (simp [entryFrame, mkF, argsToLocals, Value.category]; done) | rfl
theorem pn_62 : plainName "java/util/ImmutableCollections$List12" = true := by first | (simp [plainName, overriddenIn]; done) | decide +kernel
theorem rmL1 (l : Launch) (Z : State) (a0 : Array Value) (hw : HW a0 Z) (ws : List Jvm.Cond) (o0 : Addr) (o1 : Addr) (em : Addr) (h0 : Heap) (n0 : Nat) (O0 : Old Z n0 h0) (E_o0 : Exa Z h0 o0 "java/util/ImmutableCollections$List12") (F_e0_o0 : Fld Z h0 o0 "java/util/ImmutableCollections$List12" "e0" "Ljava/lang/Object;" .null) (F_e1_o0 : Fld Z h0 o0 "java/util/ImmutableCollections$List12" "e1" "Ljava/lang/Object;" .null) (g_o0 : n0 ≤ o0) (S_EMPTY : Sta Z Z.heap "java/util/ImmutableCollections" "EMPTY" "Ljava/lang/Object;" (.ref em)) :
    oM l Z mN23 jdk_44_method_1_code 2 none ws (rM 4 0 0 48) #[(.ref o0), (.ref o1)] h0 (own_QL Z o0 o1 em h0 n0) := by
  refine MetFree.of_bodySF (plainFor_of_name pn_62) hisR ?_
  intro p e s m args below meth c s₁ Bd hml0 hP hK
  obtain ⟨rfl, hZ, hh⟩ := hP
  have hx := Bd.exec
  have hby := Bd.bytes
  have hml : c.maxLocals = 2 := hml0
  have hown : s.vm.findClass "java/util/ImmutableCollections$List12" = some m.cls := findClass_of_methodNamed Bd.named
  have hnm := (name_of_methodNamed Bd.named Bd.method).1
  have X0 : Stand p l e (rM 4 0 0 48) s m #[(.ref o0), (.ref o1)] below meth c s₁ [] 0 0 := Stand.of_body Bd
  have e0 : s₁.heap = h0 := by rw [← hh, Bd.state]; rfl
  have N0 := Fr.nil n0
  have pre0 := fun t (k : oS p e below s₁ m 0 #[vR o0, vR o1] [] t) => castTop (ef_62 m o0 o1) k
  obtain ⟨_, _, ⟨T1, L1, k1, n1⟩, -, X1, ⟨Lc1, hQ1, l1, y1, z1⟩, st1⟩ := X0.specialBack hx (y := mN21) rfl hown (mvT hZ (oW hw 295 rfl)) (mvT hZ (oW hw 296 rfl)) (mvT hZ (oW hw 300 rfl)) (by decide) (backOf (W := 0) (rmAIL l Z a0 hw [] o0  h0 n0 O0 ) hZ (oW hw 300 rfl) (oW hw 299 rfl) (by decide) (by decide)) (g := (mkF m 1 #[vR o0, vR o1] [(.ref o0)])) rfl (by rw [hml]; rfl) (Steps.refl _) (a := o0) (argsL := []) (rest := []) (lenOf pd_0 rfl) rfl (by show 2 * 0 + _ ≤ _; exact Nat.le_of_eq rfl) (hb hby d62_1) (fun _ _ => ⟨rfl, e0, (by decide : 0 + 0 ≤ _), (by decide : 0 + 0 ≤ _)⟩)
  dsimp only [Pt.U, Pt.locs, Pt.cells, Pt.slots] at X1 l1 y1 z1 st1 hQ1
  subst l1 y1 z1
  obtain ⟨rfl, N1q, e1⟩ := hQ1
  have N1 := Fr.app N0 N1q
  obtain ⟨_, _, ⟨T2, L2, k2, n2⟩, -, X2, ⟨Lc2, hQ2, l2, y2, z2⟩, st2⟩ := Jvm.LawKit.callS X1 hx (y := mN22) hown (mvT hZ (oW hw 309 rfl)) (mvT hZ (oW hw 310 rfl)) (mvT hZ (oW hw 311 rfl)) (mvT hZ (oW hw 312 rfl)) (by decide) (backOf (W := 1) (rmRN l Z a0 hw [] o1  h0 n0 O0 ) hZ (oW hw 312 rfl) (oW hw 311 rfl) (by decide) (by decide)) (g := (mkF m 6 #[vR o0, vR o1] [(.ref o1), (.ref o0)])) rfl (by rw [hml]; rfl) (argsL := [(.ref o1)]) (rest := [(.ref o0)]) (lenOf pd_12 rfl) rfl (by show 2 * 0 + _ ≤ _; exact Nat.le_of_eq rfl) (hb hby d62_6) (fun _ _ => ⟨rfl, e1, (by decide : 0 + 0 ≤ _), (by decide : 0 + 0 ≤ _)⟩)
  dsimp only [Pt.U, Pt.locs, Pt.cells, Pt.slots] at X2 l2 y2 z2 st2 hQ2
  subst l2 y2 z2
  obtain ⟨rfl, N2q, e2⟩ := hQ2
  have N2 := Fr.app N1 N2q
  obtain ⟨T3, h3, X3, e3, W3, st3⟩ := putF X2 hx hZ hown (host := "") (Or.inl (oW hw 313 rfl)) Via.refl e2 F_e0_o0 E_o0 (Or.inr ⟨(oW hw 314 rfl), rfl, hnm⟩) (oW hw 289 rfl) (ty := (.object "java/lang/Object")) (by decide) rfl rfl (g := (mkF m 9 #[vR o0, vR o1] [(.ref o1), (.ref o0)])) rfl rfl (hb hby d62_9)
  have O3 := O0.wr W3 g_o0
  have Fw3 := F_e0_o0.same W3
  have N3 := Fr.snoc X3 N2 g_o0
  obtain ⟨T4, X4, e4, st4⟩ := getS2 X3 hx hZ hown (Or.inr (oW hw 351 rfl)) Via.refl e3 (S_EMPTY.ext O3.2) (g := (mkF m 13 #[vR o0, vR o1] [(.ref o0)])) rfl (hb hby d62_13)
  have f_o0_1_e1 := (F_e1_o0.other W3 (Or.inr (slot_ne (Or.inr (oW hw 316 rfl)) (Or.inr (oW hw 314 rfl)) (by decide) (t := (.object "java/lang/Object")) (t' := (.object "java/lang/Object")) (by decide) (by decide))))
  obtain ⟨T5, h5, X5, e5, W5, st5⟩ := putF X4 hx hZ hown (host := "") (Or.inl (oW hw 315 rfl)) Via.refl e4 f_o0_1_e1 (E_o0.wr W3) (Or.inr ⟨(oW hw 316 rfl), rfl, hnm⟩) (oW hw 289 rfl) (ty := (.object "java/lang/Object")) (by decide) rfl rfl (g := (mkF m 16 #[vR o0, vR o1] [(.ref em), (.ref o0)])) rfl rfl (hb hby d62_16)
  have O5 := O3.wr W5 g_o0
  have Fw5 := f_o0_1_e1.same W5
  have N5 := Fr.snoc X5 N3 g_o0
  have f_o0_2_e0 := (Fw3.other W5 (Or.inr (slot_ne (Or.inr (oW hw 314 rfl)) (Or.inr (oW hw 316 rfl)) (by decide) (t := (.object "java/lang/Object")) (t' := (.object "java/lang/Object")) (by decide) (by decide))))
  obtain ⟨fs, hr, hrun, hended, hW, hsame⟩ := X5.leave (v := none) (fun _ => rfl)
  refine ⟨_, _, pre0 _ ?_, hrun, hended, _, _, rfl, ?_, ⟨_, rfl⟩, hW, hsame.mono (by decide) (by decide)⟩
  · show oS p e below s₁ m 0 #[vR o0, vR o1] [] _
    refine XS.aloadN X0.here hx rfl (hb hby d62_0) rfl rfl ?_
    show oS p e below s₁ m 1 #[vR o0, vR o1] [(.ref o0)] _
    refine st1.trans ?_
    show oS p e below T1 m 4 #[vR o0, vR o1] [] _
    refine XS.aloadN X1.here hx rfl (hb hby d62_4) rfl rfl ?_
    refine XS.aloadN X1.here hx rfl (hb hby d62_5) rfl rfl ?_
    show oS p e below T1 m 6 #[vR o0, vR o1] [(.ref o1), (.ref o0)] _
    refine st2 _ ?_
    show oS p e below T2 m 9 #[vR o0, vR o1] [(.ref o1), (.ref o0)] _
    refine st3 _ ?_
    show oS p e below T3 m 12 #[vR o0, vR o1] [] _
    refine XS.aloadN X3.here hx rfl (hb hby d62_12) rfl rfl ?_
    show oS p e below T3 m 13 #[vR o0, vR o1] [(.ref o0)] _
    refine st4 _ ?_
    show oS p e below T4 m 16 #[vR o0, vR o1] [(.ref em), (.ref o0)] _
    refine st5 _ ?_
    show oS p e below T5 m 19 #[vR o0, vR o1] [] _
    exact X5.returnOut hx Bd.returns (hb hby d62_19) hr
  · show own_QL Z o0 o1 em h0 n0 _ T5.heap _
    rw [e5]
    exact ⟨rfl, N5, (((Keep.refl h0 [o0]).wr W3 (Or.inl (List.mem_of_getElem? (i := 0) rfl))).wr W5 (Or.inl (List.mem_of_getElem? (i := 0) rfl))), f_o0_2_e0, Fw5⟩
theorem d47_0 : decode jdk_44_method_2_code 0 = .ok (.aload_n 0, 1) := by decide +kernel
theorem d47_1 : decode jdk_44_method_2_code 1 = .ok (.invokespecial 1, 3) := by decide +kernel
theorem d47_4 : decode jdk_44_method_2_code 4 = .ok (.aload_n 0, 1) := by decide +kernel
theorem d47_5 : decode jdk_44_method_2_code 5 = .ok (.aload_n 1, 1) := by decide +kernel
theorem d47_6 : decode jdk_44_method_2_code 6 = .ok (.invokestatic 7, 3) := by decide +kernel
theorem d47_9 : decode jdk_44_method_2_code 9 = .ok (.putfield 13, 3) := by decide +kernel
theorem d47_12 : decode jdk_44_method_2_code 12 = .ok (.aload_n 0, 1) := by decide +kernel
theorem d47_13 : decode jdk_44_method_2_code 13 = .ok (.aload_n 2, 1) := by decide +kernel
theorem d47_14 : decode jdk_44_method_2_code 14 = .ok (.invokestatic 7, 3) := by decide +kernel
theorem d47_17 : decode jdk_44_method_2_code 17 = .ok (.putfield 24, 3) := by decide +kernel
theorem d47_20 : decode jdk_44_method_2_code 20 = .ok (.return_, 1) := by decide +kernel
theorem ef_47 (m : MethodId) (x0 : Addr) (x1 : Addr) (x2 : Addr) : entryFrame m #[(.ref x0), (.ref x1), (.ref x2)] 3 = mkF m 0 #[.val (.ref x0), .val (.ref x1), .val (.ref x2)] [] := by first | (simp [entryFrame, mkF, argsToLocals, Value.category]; done) | rfl
theorem pn_47 : plainName "java/util/ImmutableCollections$List12" = true := by first | (simp [plainName, overriddenIn]; done) | decide +kernel
theorem rmL2 (l : Launch) (Z : State) (a0 : Array Value) (hw : HW a0 Z) (ws : List Jvm.Cond) (o0 : Addr) (o1 : Addr) (o2 : Addr) (h0 : Heap) (n0 : Nat) (O0 : Old Z n0 h0) (E_o0 : Exa Z h0 o0 "java/util/ImmutableCollections$List12") (F_e0_o0 : Fld Z h0 o0 "java/util/ImmutableCollections$List12" "e0" "Ljava/lang/Object;" .null) (F_e1_o0 : Fld Z h0 o0 "java/util/ImmutableCollections$List12" "e1" "Ljava/lang/Object;" .null) (g_o0 : n0 ≤ o0) :
    oM l Z mN24 jdk_44_method_2_code 3 none ws (rM 4 0 0 48) #[(.ref o0), (.ref o1), (.ref o2)] h0 (own_QL Z o0 o1 o2 h0 n0) := by
  refine MetFree.of_bodySF (plainFor_of_name pn_47) hisR ?_
  intro p e s m args below meth c s₁ Bd hml0 hP hK
  obtain ⟨rfl, hZ, hh⟩ := hP
  have hx := Bd.exec
  have hby := Bd.bytes
  have hml : c.maxLocals = 3 := hml0
  have hown : s.vm.findClass "java/util/ImmutableCollections$List12" = some m.cls := findClass_of_methodNamed Bd.named
  have hnm := (name_of_methodNamed Bd.named Bd.method).1
  have X0 : Stand p l e (rM 4 0 0 48) s m #[(.ref o0), (.ref o1), (.ref o2)] below meth c s₁ [] 0 0 := Stand.of_body Bd
  have e0 : s₁.heap = h0 := by rw [← hh, Bd.state]; rfl
  have N0 := Fr.nil n0
  have pre0 := fun t (k : oS p e below s₁ m 0 #[vR o0, vR o1, vR o2] [] t) => castTop (ef_47 m o0 o1 o2) k
  obtain ⟨_, _, ⟨T1, L1, k1, n1⟩, -, X1, ⟨Lc1, hQ1, l1, y1, z1⟩, st1⟩ := X0.specialBack hx (y := mN21) rfl hown (mvT hZ (oW hw 295 rfl)) (mvT hZ (oW hw 296 rfl)) (mvT hZ (oW hw 300 rfl)) (by decide) (backOf (W := 0) (rmAIL l Z a0 hw [] o0  h0 n0 O0 ) hZ (oW hw 300 rfl) (oW hw 299 rfl) (by decide) (by decide)) (g := (mkF m 1 #[vR o0, vR o1, vR o2] [(.ref o0)])) rfl (by rw [hml]; rfl) (Steps.refl _) (a := o0) (argsL := []) (rest := []) (lenOf pd_0 rfl) rfl (by show 2 * 0 + _ ≤ _; exact Nat.le_of_eq rfl) (hb hby d47_1) (fun _ _ => ⟨rfl, e0, (by decide : 0 + 0 ≤ _), (by decide : 0 + 0 ≤ _)⟩)
  dsimp only [Pt.U, Pt.locs, Pt.cells, Pt.slots] at X1 l1 y1 z1 st1 hQ1
  subst l1 y1 z1
  obtain ⟨rfl, N1q, e1⟩ := hQ1
  have N1 := Fr.app N0 N1q
  obtain ⟨_, _, ⟨T2, L2, k2, n2⟩, -, X2, ⟨Lc2, hQ2, l2, y2, z2⟩, st2⟩ := Jvm.LawKit.callS X1 hx (y := mN22) hown (mvT hZ (oW hw 309 rfl)) (mvT hZ (oW hw 310 rfl)) (mvT hZ (oW hw 311 rfl)) (mvT hZ (oW hw 312 rfl)) (by decide) (backOf (W := 1) (rmRN l Z a0 hw [] o1  h0 n0 O0 ) hZ (oW hw 312 rfl) (oW hw 311 rfl) (by decide) (by decide)) (g := (mkF m 6 #[vR o0, vR o1, vR o2] [(.ref o1), (.ref o0)])) rfl (by rw [hml]; rfl) (argsL := [(.ref o1)]) (rest := [(.ref o0)]) (lenOf pd_12 rfl) rfl (by show 2 * 0 + _ ≤ _; exact Nat.le_of_eq rfl) (hb hby d47_6) (fun _ _ => ⟨rfl, e1, (by decide : 0 + 0 ≤ _), (by decide : 0 + 0 ≤ _)⟩)
  dsimp only [Pt.U, Pt.locs, Pt.cells, Pt.slots] at X2 l2 y2 z2 st2 hQ2
  subst l2 y2 z2
  obtain ⟨rfl, N2q, e2⟩ := hQ2
  have N2 := Fr.app N1 N2q
  obtain ⟨T3, h3, X3, e3, W3, st3⟩ := putF X2 hx hZ hown (host := "") (Or.inl (oW hw 313 rfl)) Via.refl e2 F_e0_o0 E_o0 (Or.inr ⟨(oW hw 314 rfl), rfl, hnm⟩) (oW hw 289 rfl) (ty := (.object "java/lang/Object")) (by decide) rfl rfl (g := (mkF m 9 #[vR o0, vR o1, vR o2] [(.ref o1), (.ref o0)])) rfl rfl (hb hby d47_9)
  have O3 := O0.wr W3 g_o0
  have Fw3 := F_e0_o0.same W3
  have N3 := Fr.snoc X3 N2 g_o0
  obtain ⟨_, _, ⟨T4, L4, k4, n4⟩, -, X4, ⟨Lc4, hQ4, l4, y4, z4⟩, st4⟩ := Jvm.LawKit.callS X3 hx (y := mN22) hown (mvT hZ (oW hw 309 rfl)) (mvT hZ (oW hw 310 rfl)) (mvT hZ (oW hw 311 rfl)) (mvT hZ (oW hw 312 rfl)) (by decide) (backOf (W := 1) (rmRN l Z a0 hw [] o2  h3 n0 O3 ) hZ (oW hw 312 rfl) (oW hw 311 rfl) (by decide) (by decide)) (g := (mkF m 14 #[vR o0, vR o1, vR o2] [(.ref o2), (.ref o0)])) rfl (by rw [hml]; rfl) (argsL := [(.ref o2)]) (rest := [(.ref o0)]) (lenOf pd_12 rfl) rfl (by show 2 * 0 + _ ≤ _; exact Nat.le_of_eq rfl) (hb hby d47_14) (fun _ _ => ⟨rfl, e3, (by decide : 0 + 0 ≤ _), (by decide : 0 + 0 ≤ _)⟩)
  dsimp only [Pt.U, Pt.locs, Pt.cells, Pt.slots] at X4 l4 y4 z4 st4 hQ4
  subst l4 y4 z4
  obtain ⟨rfl, N4q, e4⟩ := hQ4
  have N4 := Fr.app N3 N4q
  have f_o0_1_e1 := (F_e1_o0.other W3 (Or.inr (slot_ne (Or.inr (oW hw 316 rfl)) (Or.inr (oW hw 314 rfl)) (by decide) (t := (.object "java/lang/Object")) (t' := (.object "java/lang/Object")) (by decide) (by decide))))
  obtain ⟨T5, h5, X5, e5, W5, st5⟩ := putF X4 hx hZ hown (host := "") (Or.inl (oW hw 315 rfl)) Via.refl e4 f_o0_1_e1 (E_o0.wr W3) (Or.inr ⟨(oW hw 316 rfl), rfl, hnm⟩) (oW hw 289 rfl) (ty := (.object "java/lang/Object")) (by decide) rfl rfl (g := (mkF m 17 #[vR o0, vR o1, vR o2] [(.ref o2), (.ref o0)])) rfl rfl (hb hby d47_17)
  have O5 := O3.wr W5 g_o0
  have Fw5 := f_o0_1_e1.same W5
  have N5 := Fr.snoc X5 N4 g_o0
  have f_o0_2_e0 := (Fw3.other W5 (Or.inr (slot_ne (Or.inr (oW hw 314 rfl)) (Or.inr (oW hw 316 rfl)) (by decide) (t := (.object "java/lang/Object")) (t' := (.object "java/lang/Object")) (by decide) (by decide))))
  obtain ⟨fs, hr, hrun, hended, hW, hsame⟩ := X5.leave (v := none) (fun _ => rfl)
  refine ⟨_, _, pre0 _ ?_, hrun, hended, _, _, rfl, ?_, ⟨_, rfl⟩, hW, hsame.mono (by decide) (by decide)⟩
  · show oS p e below s₁ m 0 #[vR o0, vR o1, vR o2] [] _
    refine XS.aloadN X0.here hx rfl (hb hby d47_0) rfl rfl ?_
    show oS p e below s₁ m 1 #[vR o0, vR o1, vR o2] [(.ref o0)] _
    refine st1.trans ?_
    show oS p e below T1 m 4 #[vR o0, vR o1, vR o2] [] _
    refine XS.aloadN X1.here hx rfl (hb hby d47_4) rfl rfl ?_
    refine XS.aloadN X1.here hx rfl (hb hby d47_5) rfl rfl ?_
    show oS p e below T1 m 6 #[vR o0, vR o1, vR o2] [(.ref o1), (.ref o0)] _
    refine st2 _ ?_
    show oS p e below T2 m 9 #[vR o0, vR o1, vR o2] [(.ref o1), (.ref o0)] _
    refine st3 _ ?_
    show oS p e below T3 m 12 #[vR o0, vR o1, vR o2] [] _
    refine XS.aloadN X3.here hx rfl (hb hby d47_12) rfl rfl ?_
    refine XS.aloadN X3.here hx rfl (hb hby d47_13) rfl rfl ?_
    show oS p e below T3 m 14 #[vR o0, vR o1, vR o2] [(.ref o2), (.ref o0)] _
    refine st4 _ ?_
    show oS p e below T4 m 17 #[vR o0, vR o1, vR o2] [(.ref o2), (.ref o0)] _
    refine st5 _ ?_
    show oS p e below T5 m 20 #[vR o0, vR o1, vR o2] [] _
    exact X5.returnOut hx Bd.returns (hb hby d47_20) hr
  · show own_QL Z o0 o1 o2 h0 n0 _ T5.heap _
    rw [e5]
    exact ⟨rfl, N5, (((Keep.refl h0 [o0]).wr W3 (Or.inl (List.mem_of_getElem? (i := 0) rfl))).wr W5 (Or.inl (List.mem_of_getElem? (i := 0) rfl))), f_o0_2_e0, Fw5⟩
def own_QCp (Z : State) (el em : Addr) (n : Int32) (x1 x2 : Addr) (h0 : Heap) (n0 : Nat) (v : Option Value) (h : Heap) (L : List Loc) : Prop := ∃ g : Addr, v = some (.ref g) ∧ Fr n0 L ∧ Keep h0 h [] ∧ own_IL Z h el em g n x1 x2
theorem d46_0 : decode jdk_40_method_47_code 0 = .ok (.aload_n 0, 1) := by decide +kernel
theorem d46_1 : decode jdk_40_method_47_code 1 = .ok (.arraylength, 1) := by decide +kernel
theorem d46_2 : decode jdk_40_method_47_code 2 = .ok (.tableswitch 57 0 2 #[26, 32, 43], 26) := by decide +kernel
theorem d46_34 : decode jdk_40_method_47_code 34 = .ok (.new 96, 3) := by decide +kernel
theorem d46_37 : decode jdk_40_method_47_code 37 = .ok (.dup, 1) := by decide +kernel
theorem d46_38 : decode jdk_40_method_47_code 38 = .ok (.aload_n 0, 1) := by decide +kernel
theorem d46_39 : decode jdk_40_method_47_code 39 = .ok (.iconst 0, 1) := by decide +kernel
theorem d46_40 : decode jdk_40_method_47_code 40 = .ok (.aaload, 1) := by decide +kernel
theorem d46_41 : decode jdk_40_method_47_code 41 = .ok (.invokespecial 98, 3) := by decide +kernel
theorem pd_13 : parseMethodDescriptor "(Ljava/lang/Object;)V" = some ⟨[(.object "java/lang/Object")], none⟩ := by decide +kernel
theorem d46_44 : decode jdk_40_method_47_code 44 = .ok (.areturn, 1) := by decide +kernel
theorem ef_46 (m : MethodId) (x0 : Addr) : entryFrame m #[(.ref x0)] 2 = mkF m 0 #[.val (.ref x0), .unset] [] := by first | (simp [entryFrame, mkF, argsToLocals, Value.category]; done) | rfl
theorem pn_46 : plainName "java/util/List" = true := by first | (simp [plainName, overriddenIn]; done) | decide +kernel
theorem rmOf1 (l : Launch) (Z : State) (a0 : Array Value) (hw : HW a0 Z) (ws : List Jvm.Cond) (o0 : Addr) (el em x1 x2 : Addr) (ka : ClassId) (h0 : Heap) (n0 : Nat) (O0 : Old Z n0 h0) (E_x1 : Exa Z h0 x1 "java/lang/String") (S_EMPTY : Sta Z Z.heap "java/util/ImmutableCollections" "EMPTY" "Ljava/lang/Object;" (.ref em)) (V_o0 : Arv Z h0 o0 ka (.object "java/lang/Object") (1 : Int32) [(.ref x1)] .null) :
    oM l Z mN25 jdk_40_method_47_code 2 (some (.object "java/util/List")) ws (rM 5 1 2 62) #[(.ref o0)] h0 (own_QCp Z el em (1 : Int32) x1 x2 h0 n0) := by
  refine MetFree.of_bodySF (plainFor_of_name pn_46) hisR ?_
  intro p e s m args below meth c s₁ Bd hml0 hP hK
  obtain ⟨rfl, hZ, hh⟩ := hP
  have hx := Bd.exec
  have hby := Bd.bytes
  have hml : c.maxLocals = 2 := hml0
  have hown : s.vm.findClass "java/util/List" = some m.cls := findClass_of_methodNamed Bd.named
  have X0 : Stand p l e (rM 5 1 2 62) s m #[(.ref o0)] below meth c s₁ [] 0 0 := Stand.of_body Bd
  have e0 : s₁.heap = h0 := by rw [← hh, Bd.state]; rfl
  have N0 := Fr.nil n0
  have pre0 := fun t (k : oS p e below s₁ m 0 #[vR o0, .unset] [] t) => castTop (ef_46 m o0) k
  obtain ⟨cl1, Ar1, qa1, Sz1, Ng1, Hs1, Ft1⟩ := V_o0
  have V1o : Arv Z h0 o0 ka (.object "java/lang/Object") (1 : Int32) [(.ref x1)] .null := ⟨cl1, Ar1, qa1, Sz1, Ng1, Hs1, Ft1⟩
  obtain ⟨T2, h2, X2, e2, E2, A2, D2, U2, st2⟩ := newO X0 hx hZ hown (oW hw 288 rfl) (oW hw 289 rfl) (oW hw 290 rfl) e0 (g := (mkF m 34 #[vR o0, .unset] [])) rfl (hb hby d46_34) (by decide) (by decide)
  obtain ⟨b2, g2⟩ : ∃ z, z = h0.size := ⟨_, rfl⟩
  rw [← g2] at A2 D2 U2 st2
  have Ut2 : Unt h2 b2 := U2
  have g_b2 : n0 ≤ b2 := Nat.le_trans (own_le O0) (Nat.le_of_eq g2.symm)
  have O2 := O0.ext E2
  have F_e0_b2 : Fld Z h2 b2 "java/util/ImmutableCollections$List12" "e0" "Ljava/lang/Object;" .null := D2 (Or.inr (oW hw 314 rfl)) (ty := (.object "java/lang/Object")) (by decide)
  have F_e1_b2 : Fld Z h2 b2 "java/util/ImmutableCollections$List12" "e1" "Ljava/lang/Object;" .null := D2 (Or.inr (oW hw 316 rfl)) (ty := (.object "java/lang/Object")) (by decide)
  obtain ⟨cl3, Ar3, qa3, Sz3, Ng3, Hs3, Ft3⟩ := (V1o.ext E2)
  have hin3 := (inb_of (j := (0 : Int32)) Sz3 ⟨by decide, by decide⟩)
  have hat3 := Hs3.at (v := (.ref x1)) hin3 rfl
  have V3o : Arv Z h2 o0 ka (.object "java/lang/Object") (1 : Int32) [(.ref x1)] .null := ⟨cl3, Ar3, qa3, Sz3, Ng3, Hs3, Ft3⟩
  obtain ⟨_, _, ⟨T4, L4, k4, n4⟩, -, X4, ⟨Lc4, hQ4, l4, y4, z4⟩, st4⟩ := X2.specialBack hx (y := mN23) rfl hown (mvT hZ (oW hw 383 rfl)) (mvT hZ (oW hw 384 rfl)) (mvT hZ (oW hw 385 rfl)) (by decide) (backOf (W := 1) (rmL1 l Z a0 hw [] b2 x1 em h2 n0 O2 A2 F_e0_b2 F_e1_b2 g_b2 S_EMPTY) hZ (oW hw 385 rfl) (oW hw 290 rfl) (by decide) (by decide)) (g := (mkF m 41 #[vR o0, .unset] [(.ref x1), (.ref b2), (.ref b2)])) rfl (by rw [hml]; rfl) (Steps.refl _) (a := b2) (argsL := [(.ref x1)]) (rest := [(.ref b2)]) (lenOf pd_13 rfl) rfl (by show 2 * 0 + _ ≤ _; exact Nat.le_of_eq rfl) (hb hby d46_41) (fun _ _ => ⟨rfl, e2, (by decide : 1 + 0 ≤ _), (by decide : 2 + 0 ≤ _)⟩)
  dsimp only [Pt.U, Pt.locs, Pt.cells, Pt.slots] at X4 l4 y4 z4 st4 hQ4
  subst l4 y4 z4
  obtain ⟨rfl, N4q, K4, Fx4, Fy4⟩ := hQ4
  have N4 := Fr.app N0 N4q
  have O4 := O2.keep K4 (allS g_b2 all0)
  obtain ⟨fs, hr, hrun, hended, hW, hsame⟩ := X4.leave (v := some (.ref b2)) (fun h => by rw [Bd.returns] at h; cases h)
  refine ⟨_, _, pre0 _ ?_, hrun, hended, _, _, rfl, ?_, ⟨_, rfl⟩, hW, hsame.mono (by decide) (by decide)⟩
  · show oS p e below s₁ m 0 #[vR o0, .unset] [] _
    refine XS.aloadN X0.here hx rfl (hb hby d46_0) rfl rfl ?_
    show oS p e below s₁ m 1 #[vR o0, .unset] [(.ref o0)] _
    refine X0.arraylength hx (by rw [e0]; exact Ar1.1) (State.isArrayOf_alike hZ.alike Ar1.2.1) (g := (mkF m 1 #[vR o0, .unset] [(.ref o0)])) rfl rfl (hb hby d46_1) _ ?_
    rw [len_of Sz1 Ng1]
    show oS p e below s₁ m 2 #[vR o0, .unset] [(.int 1)] _
    refine XS.tswIn X0.here hx rfl (pc0 := 2) (pc' := 34) rfl (hb hby d46_2) rfl (by decide) rfl (by decide) (by decide) ?_
    show oS p e below s₁ m 34 #[vR o0, .unset] [] _
    refine st2 _ ?_
    show oS p e below T2 m 37 #[vR o0, .unset] [(.ref b2)] _
    refine XS.dup X2.here hx rfl (hb hby d46_37) rfl rfl ?_
    refine XS.aloadN X2.here hx rfl (hb hby d46_38) rfl rfl ?_
    refine XS.iconst X2.here hx rfl (hb hby d46_39) ?_
    show oS p e below T2 m 40 #[vR o0, .unset] [(.int 0), (.ref o0), (.ref b2), (.ref b2)] _
    refine X2.aaload hx (j := (0 : Int32)) (v := (.ref x1)) (by rw [e2]; exact Ar3.1) (State.isArrayOf_alike hZ.alike Ar3.2.1) rfl Ar3.2.2 hin3 hat3 (g := (mkF m 40 #[vR o0, .unset] [(.int 0), (.ref o0), (.ref b2), (.ref b2)])) rfl rfl (hb hby d46_40) _ ?_
    show oS p e below T2 m 41 #[vR o0, .unset] [(.ref x1), (.ref b2), (.ref b2)] _
    refine st4.trans ?_
    show Steps p.tables e below (T4.setTop (mkF m 44 #[vR o0, .unset] [(.ref b2)])) _
    jvm_step X4.here [X4.here.top, hx, (hb hby d46_44), X4.method', Bd.returns, Value.isRef, FieldType.isReference]
    first | (intro acts; rw [hr _ acts rfl rfl rfl]) | rw [hr _ _ rfl rfl rfl]
    exact Steps.refl _
  · show own_QCp Z el em (1 : Int32) x1 x2 h0 n0 _ T4.heap _
    exact ⟨b2, rfl, N4, (((Keep.refl h0 []).ext E2).trans K4 (allS (Or.inr (Nat.le_of_eq g2.symm)) all0)), Or.inr (Or.inl ⟨rfl, (A2.keep K4), Fx4, Fy4, ((E_x1.ext E2).keep K4)⟩)⟩
theorem d46_45 : decode jdk_40_method_47_code 45 = .ok (.new 96, 3) := by decide +kernel
theorem d46_48 : decode jdk_40_method_47_code 48 = .ok (.dup, 1) := by decide +kernel
theorem d46_49 : decode jdk_40_method_47_code 49 = .ok (.aload_n 0, 1) := by decide +kernel
theorem d46_50 : decode jdk_40_method_47_code 50 = .ok (.iconst 0, 1) := by decide +kernel
theorem d46_51 : decode jdk_40_method_47_code 51 = .ok (.aaload, 1) := by decide +kernel
theorem d46_52 : decode jdk_40_method_47_code 52 = .ok (.aload_n 0, 1) := by decide +kernel
theorem d46_53 : decode jdk_40_method_47_code 53 = .ok (.iconst 1, 1) := by decide +kernel
theorem d46_54 : decode jdk_40_method_47_code 54 = .ok (.aaload, 1) := by decide +kernel
theorem d46_55 : decode jdk_40_method_47_code 55 = .ok (.invokespecial 100, 3) := by decide +kernel
theorem pd_14 : parseMethodDescriptor "(Ljava/lang/Object;Ljava/lang/Object;)V" = some ⟨[(.object "java/lang/Object"), (.object "java/lang/Object")], none⟩ := by decide +kernel
theorem d46_58 : decode jdk_40_method_47_code 58 = .ok (.areturn, 1) := by decide +kernel
theorem rmOf2 (l : Launch) (Z : State) (a0 : Array Value) (hw : HW a0 Z) (ws : List Jvm.Cond) (o0 : Addr) (el em x1 x2 : Addr) (ka : ClassId) (h0 : Heap) (n0 : Nat) (O0 : Old Z n0 h0) (E_x1 : Exa Z h0 x1 "java/lang/String") (E_x2 : Exa Z h0 x2 "java/lang/String") (S_EMPTY : Sta Z Z.heap "java/util/ImmutableCollections" "EMPTY" "Ljava/lang/Object;" (.ref em)) (V_o0 : Arv Z h0 o0 ka (.object "java/lang/Object") (2 : Int32) [(.ref x1), (.ref x2)] .null) :
    oM l Z mN25 jdk_40_method_47_code 2 (some (.object "java/util/List")) ws (rM 5 1 2 63) #[(.ref o0)] h0 (own_QCp Z el em (2 : Int32) x1 x2 h0 n0) := by
  refine MetFree.of_bodySF (plainFor_of_name pn_46) hisR ?_
  intro p e s m args below meth c s₁ Bd hml0 hP hK
  obtain ⟨rfl, hZ, hh⟩ := hP
  have hx := Bd.exec
  have hby := Bd.bytes
  have hml : c.maxLocals = 2 := hml0
  have hown : s.vm.findClass "java/util/List" = some m.cls := findClass_of_methodNamed Bd.named
  have X0 : Stand p l e (rM 5 1 2 63) s m #[(.ref o0)] below meth c s₁ [] 0 0 := Stand.of_body Bd
  have e0 : s₁.heap = h0 := by rw [← hh, Bd.state]; rfl
  have N0 := Fr.nil n0
  have pre0 := fun t (k : oS p e below s₁ m 0 #[vR o0, .unset] [] t) => castTop (ef_46 m o0) k
  obtain ⟨cl1, Ar1, qa1, Sz1, Ng1, Hs1, Ft1⟩ := V_o0
  have V1o : Arv Z h0 o0 ka (.object "java/lang/Object") (2 : Int32) [(.ref x1), (.ref x2)] .null := ⟨cl1, Ar1, qa1, Sz1, Ng1, Hs1, Ft1⟩
  obtain ⟨T2, h2, X2, e2, E2, A2, D2, U2, st2⟩ := newO X0 hx hZ hown (oW hw 288 rfl) (oW hw 289 rfl) (oW hw 290 rfl) e0 (g := (mkF m 45 #[vR o0, .unset] [])) rfl (hb hby d46_45) (by decide) (by decide)
  obtain ⟨b2, g2⟩ : ∃ z, z = h0.size := ⟨_, rfl⟩
  rw [← g2] at A2 D2 U2 st2
  have Ut2 : Unt h2 b2 := U2
  have g_b2 : n0 ≤ b2 := Nat.le_trans (own_le O0) (Nat.le_of_eq g2.symm)
  have O2 := O0.ext E2
  have F_e0_b2 : Fld Z h2 b2 "java/util/ImmutableCollections$List12" "e0" "Ljava/lang/Object;" .null := D2 (Or.inr (oW hw 314 rfl)) (ty := (.object "java/lang/Object")) (by decide)
  have F_e1_b2 : Fld Z h2 b2 "java/util/ImmutableCollections$List12" "e1" "Ljava/lang/Object;" .null := D2 (Or.inr (oW hw 316 rfl)) (ty := (.object "java/lang/Object")) (by decide)
  obtain ⟨cl3, Ar3, qa3, Sz3, Ng3, Hs3, Ft3⟩ := (V1o.ext E2)
  have hin3 := (inb_of (j := (0 : Int32)) Sz3 ⟨by decide, by decide⟩)
  have hat3 := Hs3.at (v := (.ref x1)) hin3 rfl
  have V3o : Arv Z h2 o0 ka (.object "java/lang/Object") (2 : Int32) [(.ref x1), (.ref x2)] .null := ⟨cl3, Ar3, qa3, Sz3, Ng3, Hs3, Ft3⟩
  obtain ⟨cl4, Ar4, qa4, Sz4, Ng4, Hs4, Ft4⟩ := V3o
  have hin4 := (inb_of (j := (1 : Int32)) Sz4 ⟨by decide, by decide⟩)
  have hat4 := Hs4.at (v := (.ref x2)) hin4 rfl
  have V4o : Arv Z h2 o0 ka (.object "java/lang/Object") (2 : Int32) [(.ref x1), (.ref x2)] .null := ⟨cl4, Ar4, qa4, Sz4, Ng4, Hs4, Ft4⟩
  obtain ⟨_, _, ⟨T5, L5, k5, n5⟩, -, X5, ⟨Lc5, hQ5, l5, y5, z5⟩, st5⟩ := X2.specialBack hx (y := mN24) rfl hown (mvT hZ (oW hw 291 rfl)) (mvT hZ (oW hw 292 rfl)) (mvT hZ (oW hw 294 rfl)) (by decide) (backOf (W := 1) (rmL2 l Z a0 hw [] b2 x1 x2  h2 n0 O2 A2 F_e0_b2 F_e1_b2 g_b2) hZ (oW hw 294 rfl) (oW hw 290 rfl) (by decide) (by decide)) (g := (mkF m 55 #[vR o0, .unset] [(.ref x2), (.ref x1), (.ref b2), (.ref b2)])) rfl (by rw [hml]; rfl) (Steps.refl _) (a := b2) (argsL := [(.ref x1), (.ref x2)]) (rest := [(.ref b2)]) (lenOf pd_14 rfl) rfl (by show 2 * 0 + _ ≤ _; exact Nat.le_of_eq rfl) (hb hby d46_55) (fun _ _ => ⟨rfl, e2, (by decide : 1 + 0 ≤ _), (by decide : 2 + 0 ≤ _)⟩)
  dsimp only [Pt.U, Pt.locs, Pt.cells, Pt.slots] at X5 l5 y5 z5 st5 hQ5
  subst l5 y5 z5
  obtain ⟨rfl, N5q, K5, Fx5, Fy5⟩ := hQ5
  have N5 := Fr.app N0 N5q
  have O5 := O2.keep K5 (allS g_b2 all0)
  obtain ⟨fs, hr, hrun, hended, hW, hsame⟩ := X5.leave (v := some (.ref b2)) (fun h => by rw [Bd.returns] at h; cases h)
  refine ⟨_, _, pre0 _ ?_, hrun, hended, _, _, rfl, ?_, ⟨_, rfl⟩, hW, hsame.mono (by decide) (by decide)⟩
  · show oS p e below s₁ m 0 #[vR o0, .unset] [] _
    refine XS.aloadN X0.here hx rfl (hb hby d46_0) rfl rfl ?_
    show oS p e below s₁ m 1 #[vR o0, .unset] [(.ref o0)] _
    refine X0.arraylength hx (by rw [e0]; exact Ar1.1) (State.isArrayOf_alike hZ.alike Ar1.2.1) (g := (mkF m 1 #[vR o0, .unset] [(.ref o0)])) rfl rfl (hb hby d46_1) _ ?_
    rw [len_of Sz1 Ng1]
    show oS p e below s₁ m 2 #[vR o0, .unset] [(.int 2)] _
    refine XS.tswIn X0.here hx rfl (pc0 := 2) (pc' := 45) rfl (hb hby d46_2) rfl (by decide) rfl (by decide) (by decide) ?_
    show oS p e below s₁ m 45 #[vR o0, .unset] [] _
    refine st2 _ ?_
    show oS p e below T2 m 48 #[vR o0, .unset] [(.ref b2)] _
    refine XS.dup X2.here hx rfl (hb hby d46_48) rfl rfl ?_
    refine XS.aloadN X2.here hx rfl (hb hby d46_49) rfl rfl ?_
    refine XS.iconst X2.here hx rfl (hb hby d46_50) ?_
    show oS p e below T2 m 51 #[vR o0, .unset] [(.int 0), (.ref o0), (.ref b2), (.ref b2)] _
    refine X2.aaload hx (j := (0 : Int32)) (v := (.ref x1)) (by rw [e2]; exact Ar3.1) (State.isArrayOf_alike hZ.alike Ar3.2.1) rfl Ar3.2.2 hin3 hat3 (g := (mkF m 51 #[vR o0, .unset] [(.int 0), (.ref o0), (.ref b2), (.ref b2)])) rfl rfl (hb hby d46_51) _ ?_
    show oS p e below T2 m 52 #[vR o0, .unset] [(.ref x1), (.ref b2), (.ref b2)] _
    refine XS.aloadN X2.here hx rfl (hb hby d46_52) rfl rfl ?_
    refine XS.iconst X2.here hx rfl (hb hby d46_53) ?_
    show oS p e below T2 m 54 #[vR o0, .unset] [(.int 1), (.ref o0), (.ref x1), (.ref b2), (.ref b2)] _
    refine X2.aaload hx (j := (1 : Int32)) (v := (.ref x2)) (by rw [e2]; exact Ar4.1) (State.isArrayOf_alike hZ.alike Ar4.2.1) rfl Ar4.2.2 hin4 hat4 (g := (mkF m 54 #[vR o0, .unset] [(.int 1), (.ref o0), (.ref x1), (.ref b2), (.ref b2)])) rfl rfl (hb hby d46_54) _ ?_
    show oS p e below T2 m 55 #[vR o0, .unset] [(.ref x2), (.ref x1), (.ref b2), (.ref b2)] _
    refine st5.trans ?_
    show Steps p.tables e below (T5.setTop (mkF m 58 #[vR o0, .unset] [(.ref b2)])) _
    jvm_step X5.here [X5.here.top, hx, (hb hby d46_58), X5.method', Bd.returns, Value.isRef, FieldType.isReference]
    first | (intro acts; rw [hr _ acts rfl rfl rfl]) | rw [hr _ _ rfl rfl rfl]
    exact Steps.refl _
  · show own_QCp Z el em (2 : Int32) x1 x2 h0 n0 _ T5.heap _
    exact ⟨b2, rfl, N5, (((Keep.refl h0 []).ext E2).trans K5 (allS (Or.inr (Nat.le_of_eq g2.symm)) all0)), Or.inr (Or.inr ⟨rfl, (A2.keep K5), Fx5, Fy5, ((E_x1.ext E2).keep K5), ((E_x2.ext E2).keep K5)⟩)⟩
theorem own_selK {Z : State} {a0 : Array Value} {C : String} {x y : MethodName} (w : (Jvm.Cond.selects C x y).before a0 Z = true) : ∃ t k, Z.vm.findClass y.cls = some t ∧ Z.vm.classes[t]? = some k ∧ k.isInterface = false := by
  obtain ⟨c, r, m, -, -, q3, -, mk, q4, q5⟩ := Cond.selects_spec w
  exact ⟨m.cls, mk, findClass_of_methodNamed q3, q4, q5⟩
theorem own_NSr {Z : State} {a0 : Array Value} {O K : String} (w : (Jvm.Cond.noSuperclass O).before a0 Z = true) (hk : ∃ t k, Z.vm.findClass K = some t ∧ Z.vm.classes[t]? = some k ∧ k.isInterface = false) (hn : O ≠ K) : NS Z O K := by
  obtain ⟨c, k, h1, h2, h3, -, -⟩ := Cond.noSuperclass_spec w
  obtain ⟨t, k', g1, -⟩ := hk
  have ne := ids_ne h1 g1 hn
  refine ⟨c, t, h1, g1, fun fuel => ?_⟩
  cases fuel with
  | zero => rfl
  | succ f => simp [Vm.isSubclassAux, ne, h2, h3]
theorem own_NSno {Z : State} {a0 : Array Value} {C S K : String} (w : (Jvm.Cond.superclass C S).before a0 Z = true) (hk : ∃ t k, Z.vm.findClass K = some t ∧ Z.vm.classes[t]? = some k ∧ k.isInterface = false) (n : NS Z C K) (hn : C ≠ K) : ∃ c t, Z.vm.findClass C = some c ∧ Z.vm.findClass K = some t ∧ Z.vm.assignable c t = false := by
  obtain ⟨c, t, h0, g0, n3⟩ := n
  obtain ⟨p, k, kp, h1, h2, h3, h4, h5, -, h7⟩ := Cond.superclass_spec h0 w
  obtain ⟨t', k', g1, g2, g7⟩ := hk
  cases g0.symm.trans g1
  have ne := ids_ne h0 g0 hn
  refine ⟨c, t, h0, g0, ?_⟩
  show Z.vm.assignableAux (255 + 1) c t = false
  cases hkd : k'.kind <;> simp [Vm.assignableAux, ne, h2, g2, h5, hkd, g7, Vm.isSubclass, n3]
theorem d39_0 : decode jdk_56_method_3_code 0 = .ok (.aload_n 0, 1) := by decide +kernel
theorem d39_1 : decode jdk_56_method_3_code 1 = .ok (.instanceof 10, 3) := by decide +kernel
theorem d39_4 : decode jdk_56_method_3_code 4 = .ok (.ifCond .ne 22, 3) := by decide +kernel
theorem d39_7 : decode jdk_56_method_3_code 7 = .ok (.aload_n 0, 1) := by decide +kernel
theorem d39_8 : decode jdk_56_method_3_code 8 = .ok (.instanceof 12, 3) := by decide +kernel
theorem d39_11 : decode jdk_56_method_3_code 11 = .ok (.ifCond .eq 20, 3) := by decide +kernel
theorem d39_31 : decode jdk_56_method_3_code 31 = .ok (.aload_n 0, 1) := by decide +kernel
theorem d39_32 : decode jdk_56_method_3_code 32 = .ok (.invokeinterface 20 1, 5) := by decide +kernel
theorem pd_15 : parseMethodDescriptor "()Z" = some ⟨[], some .boolean⟩ := by decide +kernel
theorem d39_37 : decode jdk_56_method_3_code 37 = .ok (.ifCond .eq 7, 3) := by decide +kernel
theorem d39_40 : decode jdk_56_method_3_code 40 = .ok (.invokestatic 26, 3) := by decide +kernel
theorem pd_16 : parseMethodDescriptor "()Ljava/util/List;" = some ⟨[], some (.object "java/util/List")⟩ := by decide +kernel
theorem d39_43 : decode jdk_56_method_3_code 43 = .ok (.areturn, 1) := by decide +kernel
theorem d39_44 : decode jdk_56_method_3_code 44 = .ok (.aload_n 0, 1) := by decide +kernel
theorem d39_45 : decode jdk_56_method_3_code 45 = .ok (.invokeinterface 30 1, 5) := by decide +kernel
theorem d39_50 : decode jdk_56_method_3_code 50 = .ok (.invokestatic 34, 3) := by decide +kernel
theorem pd_17 : parseMethodDescriptor "([Ljava/lang/Object;)Ljava/util/List;" = some ⟨[(.array (.object "java/lang/Object"))], some (.object "java/util/List")⟩ := by decide +kernel
theorem d39_53 : decode jdk_56_method_3_code 53 = .ok (.areturn, 1) := by decide +kernel
theorem ef_39 (m : MethodId) (x0 : Addr) : entryFrame m #[(.ref x0)] 2 = mkF m 0 #[.val (.ref x0), .unset] [] := by first | (simp [entryFrame, mkF, argsToLocals, Value.category]; done) | rfl
theorem pn_39 : plainName "java/util/ImmutableCollections" = true := by first | (simp [plainName, overriddenIn]; done) | decide +kernel
theorem rmLC0 (l : Launch) (Z : State) (a0 : Array Value) (hw : HW a0 Z) (ws : List Jvm.Cond) (o0 : Addr) (el em x1 x2 : Addr) (ed mr : Addr) (ka : ClassId) (h0 : Heap) (n0 : Nat) (O0 : Old Z n0 h0) (S_EMPTY_LIST : Sta Z Z.heap "java/util/ImmutableCollections" "EMPTY_LIST" "Ljava/util/ImmutableCollections$ListN;" (.ref el)) (S_EMPTY : Sta Z Z.heap "java/util/ImmutableCollections" "EMPTY" "Ljava/lang/Object;" (.ref em)) (E_o0 : Exa Z h0 o0 "java/util/ArrayList") (F_size_o0 : Fld Z h0 o0 "java/util/ArrayList" "size" "I" (.int 0)) :
    oM l Z mN26 jdk_56_method_3_code 2 (some (.object "java/util/List")) ws (rM 6 2 4 80) #[(.ref o0)] h0 (own_QCp Z el em (0 : Int32) x1 x2 h0 n0) := by
  refine MetFree.of_bodySF (plainFor_of_name pn_39) hisR ?_
  intro p e s m args below meth c s₁ Bd hml0 hP hK
  obtain ⟨rfl, hZ, hh⟩ := hP
  have hx := Bd.exec
  have hby := Bd.bytes
  have hml : c.maxLocals = 2 := hml0
  have hown : s.vm.findClass "java/util/ImmutableCollections" = some m.cls := findClass_of_methodNamed Bd.named
  have X0 : Stand p l e (rM 6 2 4 80) s m #[(.ref o0)] below meth c s₁ [] 0 0 := Stand.of_body Bd
  have e0 : s₁.heap = h0 := by rw [← hh, Bd.state]; rfl
  have N0 := Fr.nil n0
  have pre0 := fun t (k : oS p e below s₁ m 0 #[vR o0, .unset] [] t) => castTop (ef_39 m o0) k
  obtain ⟨T1, X1, e1, st1⟩ := instNo X0 hx hZ hown (oW hw 234 rfl) e0 E_o0 (own_NSno (oW hw 235 rfl) (own_selK (y := mN27) (oW hw 345 rfl)) (NS.step (oW hw 235 rfl) (NS.step (oW hw 236 rfl) (NS.step (oW hw 237 rfl) (own_NSr (K := "java/util/ImmutableCollections$List12") (oW hw 238 rfl) (own_selK (y := mN27) (oW hw 345 rfl)) (by decide)) (by decide)) (by decide)) (by decide)) (by decide)) (g := (mkF m 1 #[vR o0, .unset] [(.ref o0)])) rfl rfl (hb hby d39_1)
  obtain ⟨T2, X2, e2, st2⟩ := instNo X1 hx hZ hown (oW hw 239 rfl) e1 E_o0 (own_NSno (oW hw 235 rfl) (own_selK (y := mN28) (oW hw 330 rfl)) (NS.step (oW hw 235 rfl) (NS.step (oW hw 236 rfl) (NS.step (oW hw 237 rfl) (own_NSr (K := "java/util/ImmutableCollections$ListN") (oW hw 238 rfl) (own_selK (y := mN28) (oW hw 330 rfl)) (by decide)) (by decide)) (by decide)) (by decide)) (by decide)) (g := (mkF m 8 #[vR o0, .unset] [(.ref o0)])) rfl rfl (hb hby d39_8)
  obtain ⟨cq3, kq3, q3a, q3b, q3c⟩ := isOf hZ e2 E_o0
  obtain ⟨_, _, ⟨T3, L3, k3, n3⟩, -, X3, ⟨Lc3, hQ3, l3, y3, z3⟩, st3⟩ := X2.interfaceBack hx (xi := mN29) (y := mN14) hown (mvT hZ (oW hw 240 rfl)) (mvT hZ (oW hw 241 rfl)) (mvT hZ (oW hw 242 rfl)) (mvT hZ (oW hw 243 rfl)) (mvT hZ (oW hw 244 rfl)) (mvT hZ (oW hw 245 rfl)) (mvT hZ (oW hw 246 rfl)) (mvT hZ (oW hw 247 rfl)) (by decide) (backOf (W := 0) (rmIE0 l Z a0 hw [] o0  h0 n0 O0 F_size_o0) hZ (oW hw 248 rfl) (oW hw 6 rfl) (by decide) (by decide)) q3a q3b q3c (g := (mkF m 32 #[vR o0, .unset] [(.ref o0)])) rfl (by rw [hml]; rfl) (Steps.refl _) (argsL := []) (rest := []) (lenOf pd_15 rfl) rfl (by show 2 * 0 + _ ≤ _; exact Nat.le_of_eq rfl) (hb hby d39_32) (fun _ _ => ⟨rfl, e2, (by decide : 0 + 0 ≤ _), (by decide : 0 + 0 ≤ _)⟩)
  dsimp only [Pt.U, Pt.locs, Pt.cells, Pt.slots] at X3 l3 y3 z3 st3 hQ3
  subst l3 y3 z3
  obtain ⟨rfl, N3q, e3⟩ := hQ3
  have N3 := Fr.app N0 N3q
  obtain ⟨_, _, ⟨T4, L4, k4, n4⟩, -, X4, ⟨Lc4, hQ4, l4, y4, z4⟩, st4⟩ := Jvm.LawKit.callS X3 hx (y := mN15) hown (mvT hZ (oW hw 249 rfl)) (mvT hZ (oW hw 250 rfl)) (mvT hZ (oW hw 228 rfl)) (mvT hZ (oW hw 251 rfl)) (by decide) (backOf (W := 0) (rmOf0 l Z a0 hw []  el h0 n0 O0 S_EMPTY_LIST) hZ (oW hw 251 rfl) (oW hw 228 rfl) (by decide) (by decide)) (g := (mkF m 40 #[vR o0, .unset] [])) rfl (by rw [hml]; rfl) (argsL := []) (rest := []) (lenOf pd_16 rfl) rfl (by show 2 * 0 + _ ≤ _; exact Nat.le_of_eq rfl) (hb hby d39_40) (fun _ _ => ⟨rfl, e3, (by decide : 0 + 0 ≤ _), (by decide : 0 + 0 ≤ _)⟩)
  dsimp only [Pt.U, Pt.locs, Pt.cells, Pt.slots] at X4 l4 y4 z4 st4 hQ4
  subst l4 y4 z4
  obtain ⟨rfl, N4q, e4⟩ := hQ4
  have N4 := Fr.app N3 N4q
  obtain ⟨fs, hr, hrun, hended, hW, hsame⟩ := X4.leave (v := some (.ref el)) (fun h => by rw [Bd.returns] at h; cases h)
  refine ⟨_, _, pre0 _ ?_, hrun, hended, _, _, rfl, ?_, ⟨_, rfl⟩, hW, hsame.mono (by decide) (by decide)⟩
  · show oS p e below s₁ m 0 #[vR o0, .unset] [] _
    refine XS.aloadN X0.here hx rfl (hb hby d39_0) rfl rfl ?_
    show oS p e below s₁ m 1 #[vR o0, .unset] [(.ref o0)] _
    refine st1 _ ?_
    show oS p e below T1 m 4 #[vR o0, .unset] [(.int 0)] _
    refine XS.ifNo X1.here hx rfl (hb hby d39_4) rfl ((if0 _ _).trans (teq (by decide : (0 : Int32) = (0 : Int32))).2) ?_
    show oS p e below T1 m 7 #[vR o0, .unset] [] _
    refine XS.aloadN X1.here hx rfl (hb hby d39_7) rfl rfl ?_
    show oS p e below T1 m 8 #[vR o0, .unset] [(.ref o0)] _
    refine st2 _ ?_
    show oS p e below T2 m 11 #[vR o0, .unset] [(.int 0)] _
    refine XS.ifYes X2.here hx rfl (pc0 := 11) (pc' := 31) rfl (hb hby d39_11) rfl ((if0 _ _).trans (teq (by decide : (0 : Int32) = (0 : Int32))).1) (by decide) (by decide) ?_
    show oS p e below T2 m 31 #[vR o0, .unset] [] _
    refine XS.aloadN X2.here hx rfl (hb hby d39_31) rfl rfl ?_
    show oS p e below T2 m 32 #[vR o0, .unset] [(.ref o0)] _
    refine st3.trans ?_
    show oS p e below T3 m 37 #[vR o0, .unset] [(.int 1)] _
    refine XS.ifNo X3.here hx rfl (hb hby d39_37) rfl ((if0 _ _).trans (feq (by decide : ¬ ((1 : Int32) = (0 : Int32)))).1) ?_
    show oS p e below T3 m 40 #[vR o0, .unset] [] _
    refine st4 _ ?_
    show Steps p.tables e below (T4.setTop (mkF m 43 #[vR o0, .unset] [(.ref el)])) _
    jvm_step X4.here [X4.here.top, hx, (hb hby d39_43), X4.method', Bd.returns, Value.isRef, FieldType.isReference]
    first | (intro acts; rw [hr _ acts rfl rfl rfl]) | rw [hr _ _ rfl rfl rfl]
    exact Steps.refl _
  · show own_QCp Z el em (0 : Int32) x1 x2 h0 n0 _ T4.heap _
    rw [e4]
    exact ⟨el, rfl, N4, (Keep.refl h0 []), Or.inl ⟨rfl, rfl⟩⟩
theorem rmLC1 (l : Launch) (Z : State) (a0 : Array Value) (hw : HW a0 Z) (ws : List Jvm.Cond) (o0 : Addr) (el em x1 x2 : Addr) (ed mr : Addr) (ka : ClassId) (h0 : Heap) (n0 : Nat) (O0 : Old Z n0 h0) (S_EMPTY_LIST : Sta Z Z.heap "java/util/ImmutableCollections" "EMPTY_LIST" "Ljava/util/ImmutableCollections$ListN;" (.ref el)) (S_EMPTY : Sta Z Z.heap "java/util/ImmutableCollections" "EMPTY" "Ljava/lang/Object;" (.ref em)) (E_o0 : Exa Z h0 o0 "java/util/ArrayList") (F_size_o0 : Fld Z h0 o0 "java/util/ArrayList" "size" "I" (.int 1)) (F_elementData_o0 : Fld Z h0 o0 "java/util/ArrayList" "elementData" "[Ljava/lang/Object;" (.ref ed)) (V_ed : Arv Z h0 ed ka (.object "java/lang/Object") (10 : Int32) [(.ref x1), .null, .null, .null, .null, .null, .null, .null, .null, .null] .null) (hov : Ovr Z ka "java/lang/Object") (E_x1 : Exa Z h0 x1 "java/lang/String") (E_ed : Exa Z h0 ed "[Ljava/lang/Object;") (hmr : own_Mir Z "[Ljava/lang/Object;" mr) :
    oM l Z mN26 jdk_56_method_3_code 2 (some (.object "java/util/List")) ws (rM 6 2 4 80) #[(.ref o0)] h0 (own_QCp Z el em (1 : Int32) x1 x2 h0 n0) := by
  refine MetFree.of_bodySF (plainFor_of_name pn_39) hisR ?_
  intro p e s m args below meth c s₁ Bd hml0 hP hK
  obtain ⟨rfl, hZ, hh⟩ := hP
  have hx := Bd.exec
  have hby := Bd.bytes
  have hml : c.maxLocals = 2 := hml0
  have hown : s.vm.findClass "java/util/ImmutableCollections" = some m.cls := findClass_of_methodNamed Bd.named
  have X0 : Stand p l e (rM 6 2 4 80) s m #[(.ref o0)] below meth c s₁ [] 0 0 := Stand.of_body Bd
  have e0 : s₁.heap = h0 := by rw [← hh, Bd.state]; rfl
  have N0 := Fr.nil n0
  have pre0 := fun t (k : oS p e below s₁ m 0 #[vR o0, .unset] [] t) => castTop (ef_39 m o0) k
  obtain ⟨T1, X1, e1, st1⟩ := instNo X0 hx hZ hown (oW hw 234 rfl) e0 E_o0 (own_NSno (oW hw 235 rfl) (own_selK (y := mN27) (oW hw 345 rfl)) (NS.step (oW hw 235 rfl) (NS.step (oW hw 236 rfl) (NS.step (oW hw 237 rfl) (own_NSr (K := "java/util/ImmutableCollections$List12") (oW hw 238 rfl) (own_selK (y := mN27) (oW hw 345 rfl)) (by decide)) (by decide)) (by decide)) (by decide)) (by decide)) (g := (mkF m 1 #[vR o0, .unset] [(.ref o0)])) rfl rfl (hb hby d39_1)
  obtain ⟨T2, X2, e2, st2⟩ := instNo X1 hx hZ hown (oW hw 239 rfl) e1 E_o0 (own_NSno (oW hw 235 rfl) (own_selK (y := mN28) (oW hw 330 rfl)) (NS.step (oW hw 235 rfl) (NS.step (oW hw 236 rfl) (NS.step (oW hw 237 rfl) (own_NSr (K := "java/util/ImmutableCollections$ListN") (oW hw 238 rfl) (own_selK (y := mN28) (oW hw 330 rfl)) (by decide)) (by decide)) (by decide)) (by decide)) (by decide)) (g := (mkF m 8 #[vR o0, .unset] [(.ref o0)])) rfl rfl (hb hby d39_8)
  obtain ⟨cq3, kq3, q3a, q3b, q3c⟩ := isOf hZ e2 E_o0
  obtain ⟨_, _, ⟨T3, L3, k3, n3⟩, -, X3, ⟨Lc3, hQ3, l3, y3, z3⟩, st3⟩ := X2.interfaceBack hx (xi := mN29) (y := mN14) hown (mvT hZ (oW hw 240 rfl)) (mvT hZ (oW hw 241 rfl)) (mvT hZ (oW hw 242 rfl)) (mvT hZ (oW hw 243 rfl)) (mvT hZ (oW hw 244 rfl)) (mvT hZ (oW hw 245 rfl)) (mvT hZ (oW hw 246 rfl)) (mvT hZ (oW hw 247 rfl)) (by decide) (backOf (W := 0) (rmIE1 l Z a0 hw [] o0 (1 : Int32) h0 n0 O0 F_size_o0 (by decide)) hZ (oW hw 248 rfl) (oW hw 6 rfl) (by decide) (by decide)) q3a q3b q3c (g := (mkF m 32 #[vR o0, .unset] [(.ref o0)])) rfl (by rw [hml]; rfl) (Steps.refl _) (argsL := []) (rest := []) (lenOf pd_15 rfl) rfl (by show 2 * 0 + _ ≤ _; exact Nat.le_of_eq rfl) (hb hby d39_32) (fun _ _ => ⟨rfl, e2, (by decide : 0 + 0 ≤ _), (by decide : 0 + 0 ≤ _)⟩)
  dsimp only [Pt.U, Pt.locs, Pt.cells, Pt.slots] at X3 l3 y3 z3 st3 hQ3
  subst l3 y3 z3
  obtain ⟨rfl, N3q, e3⟩ := hQ3
  have N3 := Fr.app N0 N3q
  obtain ⟨cq4, kq4, q4a, q4b, q4c⟩ := isOf hZ e3 E_o0
  obtain ⟨_, _, ⟨T4, L4, k4, n4⟩, -, X4, ⟨Lc4, hQ4, l4, y4, z4⟩, st4⟩ := X3.interfaceBack hx (xi := mN30) (y := mN19) hown (mvT hZ (oW hw 263 rfl)) (mvT hZ (oW hw 264 rfl)) (mvT hZ (oW hw 265 rfl)) (mvT hZ (oW hw 266 rfl)) (mvT hZ (oW hw 267 rfl)) (mvT hZ (oW hw 268 rfl)) (mvT hZ (oW hw 269 rfl)) (mvT hZ (oW hw 247 rfl)) (by decide) (backOf (W := 0) (rmTA1 l Z a0 hw [] o0 ed x1 ka mr h0 n0 O0 F_size_o0 F_elementData_o0 V_ed hov E_x1 E_ed hmr) hZ (oW hw 270 rfl) (oW hw 6 rfl) (by decide) (by decide)) q4a q4b q4c (g := (mkF m 45 #[vR o0, .unset] [(.ref o0)])) rfl (by rw [hml]; rfl) (Steps.refl _) (argsL := []) (rest := []) (lenOf pd_6 rfl) rfl (by show 2 * 0 + _ ≤ _; exact Nat.le_of_eq rfl) (hb hby d39_45) (fun _ _ => ⟨rfl, e3, (by decide : 0 + 1 ≤ _), (by decide : 0 + 1 ≤ _)⟩)
  dsimp only [Pt.U, Pt.locs, Pt.cells, Pt.slots] at X4 l4 y4 z4 st4 hQ4
  subst l4 y4 z4
  obtain ⟨b4, k94, rfl, N4q, K4, Vb4, Sb4⟩ := hQ4
  have N4 := Fr.app N3 N4q
  have O4 := O0.keep K4 all0
  obtain ⟨_, _, ⟨T5, L5, k5, n5⟩, -, X5, ⟨Lc5, hQ5, l5, y5, z5⟩, st5⟩ := Jvm.LawKit.callS X4 hx (y := mN25) hown (mvT hZ (oW hw 285 rfl)) (mvT hZ (oW hw 286 rfl)) (mvT hZ (oW hw 228 rfl)) (mvT hZ (oW hw 287 rfl)) (by decide) (backOf (W := 0) (rmOf1 l Z a0 hw [] b4 el em x1 x2 k94 T4.heap n0 O4 (E_x1.keep K4) S_EMPTY Vb4) hZ (oW hw 287 rfl) (oW hw 228 rfl) (by decide) (by decide)) (g := (mkF m 50 #[vR o0, .unset] [(.ref b4)])) rfl (by rw [hml]; rfl) (argsL := [(.ref b4)]) (rest := []) (lenOf pd_17 rfl) rfl (by show 2 * 0 + _ ≤ _; exact Nat.le_of_eq rfl) (hb hby d39_50) (fun _ _ => ⟨rfl, rfl, (by decide : 1 + 1 ≤ _), (by decide : 1 + 2 ≤ _)⟩)
  dsimp only [Pt.U, Pt.locs, Pt.cells, Pt.slots] at X5 l5 y5 z5 st5 hQ5
  subst l5 y5 z5
  obtain ⟨b5, rfl, N5q, K5, Il5⟩ := hQ5
  have N5 := Fr.app N4 N5q
  have O5 := O4.keep K5 all0
  obtain ⟨fs, hr, hrun, hended, hW, hsame⟩ := X5.leave (v := some (.ref b5)) (fun h => by rw [Bd.returns] at h; cases h)
  refine ⟨_, _, pre0 _ ?_, hrun, hended, _, _, rfl, ?_, ⟨_, rfl⟩, hW, hsame.mono (by decide) (by decide)⟩
  · show oS p e below s₁ m 0 #[vR o0, .unset] [] _
    refine XS.aloadN X0.here hx rfl (hb hby d39_0) rfl rfl ?_
    show oS p e below s₁ m 1 #[vR o0, .unset] [(.ref o0)] _
    refine st1 _ ?_
    show oS p e below T1 m 4 #[vR o0, .unset] [(.int 0)] _
    refine XS.ifNo X1.here hx rfl (hb hby d39_4) rfl ((if0 _ _).trans (teq (by decide : (0 : Int32) = (0 : Int32))).2) ?_
    show oS p e below T1 m 7 #[vR o0, .unset] [] _
    refine XS.aloadN X1.here hx rfl (hb hby d39_7) rfl rfl ?_
    show oS p e below T1 m 8 #[vR o0, .unset] [(.ref o0)] _
    refine st2 _ ?_
    show oS p e below T2 m 11 #[vR o0, .unset] [(.int 0)] _
    refine XS.ifYes X2.here hx rfl (pc0 := 11) (pc' := 31) rfl (hb hby d39_11) rfl ((if0 _ _).trans (teq (by decide : (0 : Int32) = (0 : Int32))).1) (by decide) (by decide) ?_
    show oS p e below T2 m 31 #[vR o0, .unset] [] _
    refine XS.aloadN X2.here hx rfl (hb hby d39_31) rfl rfl ?_
    show oS p e below T2 m 32 #[vR o0, .unset] [(.ref o0)] _
    refine st3.trans ?_
    show oS p e below T3 m 37 #[vR o0, .unset] [(.int 0)] _
    refine XS.ifYes X3.here hx rfl (pc0 := 37) (pc' := 44) rfl (hb hby d39_37) rfl ((if0 _ _).trans (teq (by decide : (0 : Int32) = (0 : Int32))).1) (by decide) (by decide) ?_
    show oS p e below T3 m 44 #[vR o0, .unset] [] _
    refine XS.aloadN X3.here hx rfl (hb hby d39_44) rfl rfl ?_
    show oS p e below T3 m 45 #[vR o0, .unset] [(.ref o0)] _
    refine st4.trans ?_
    show oS p e below T4 m 50 #[vR o0, .unset] [(.ref b4)] _
    refine st5 _ ?_
    show Steps p.tables e below (T5.setTop (mkF m 53 #[vR o0, .unset] [(.ref b5)])) _
    jvm_step X5.here [X5.here.top, hx, (hb hby d39_53), X5.method', Bd.returns, Value.isRef, FieldType.isReference]
    first | (intro acts; rw [hr _ acts rfl rfl rfl]) | rw [hr _ _ rfl rfl rfl]
    exact Steps.refl _
  · show own_QCp Z el em (1 : Int32) x1 x2 h0 n0 _ T5.heap _
    exact ⟨b5, rfl, N5, (((Keep.refl h0 []).trans K4 all0).trans K5 all0), Il5⟩
theorem rmLC2 (l : Launch) (Z : State) (a0 : Array Value) (hw : HW a0 Z) (ws : List Jvm.Cond) (o0 : Addr) (el em x1 x2 : Addr) (ed mr : Addr) (ka : ClassId) (h0 : Heap) (n0 : Nat) (O0 : Old Z n0 h0) (S_EMPTY_LIST : Sta Z Z.heap "java/util/ImmutableCollections" "EMPTY_LIST" "Ljava/util/ImmutableCollections$ListN;" (.ref el)) (S_EMPTY : Sta Z Z.heap "java/util/ImmutableCollections" "EMPTY" "Ljava/lang/Object;" (.ref em)) (E_o0 : Exa Z h0 o0 "java/util/ArrayList") (F_size_o0 : Fld Z h0 o0 "java/util/ArrayList" "size" "I" (.int 2)) (F_elementData_o0 : Fld Z h0 o0 "java/util/ArrayList" "elementData" "[Ljava/lang/Object;" (.ref ed)) (V_ed : Arv Z h0 ed ka (.object "java/lang/Object") (10 : Int32) [(.ref x1), (.ref x2), .null, .null, .null, .null, .null, .null, .null, .null] .null) (hov : Ovr Z ka "java/lang/Object") (E_x1 : Exa Z h0 x1 "java/lang/String") (E_x2 : Exa Z h0 x2 "java/lang/String") (E_ed : Exa Z h0 ed "[Ljava/lang/Object;") (hmr : own_Mir Z "[Ljava/lang/Object;" mr) :
    oM l Z mN26 jdk_56_method_3_code 2 (some (.object "java/util/List")) ws (rM 6 2 4 80) #[(.ref o0)] h0 (own_QCp Z el em (2 : Int32) x1 x2 h0 n0) := by
  refine MetFree.of_bodySF (plainFor_of_name pn_39) hisR ?_
  intro p e s m args below meth c s₁ Bd hml0 hP hK
  obtain ⟨rfl, hZ, hh⟩ := hP
  have hx := Bd.exec
  have hby := Bd.bytes
  have hml : c.maxLocals = 2 := hml0
  have hown : s.vm.findClass "java/util/ImmutableCollections" = some m.cls := findClass_of_methodNamed Bd.named
  have X0 : Stand p l e (rM 6 2 4 80) s m #[(.ref o0)] below meth c s₁ [] 0 0 := Stand.of_body Bd
  have e0 : s₁.heap = h0 := by rw [← hh, Bd.state]; rfl
  have N0 := Fr.nil n0
  have pre0 := fun t (k : oS p e below s₁ m 0 #[vR o0, .unset] [] t) => castTop (ef_39 m o0) k
  obtain ⟨T1, X1, e1, st1⟩ := instNo X0 hx hZ hown (oW hw 234 rfl) e0 E_o0 (own_NSno (oW hw 235 rfl) (own_selK (y := mN27) (oW hw 345 rfl)) (NS.step (oW hw 235 rfl) (NS.step (oW hw 236 rfl) (NS.step (oW hw 237 rfl) (own_NSr (K := "java/util/ImmutableCollections$List12") (oW hw 238 rfl) (own_selK (y := mN27) (oW hw 345 rfl)) (by decide)) (by decide)) (by decide)) (by decide)) (by decide)) (g := (mkF m 1 #[vR o0, .unset] [(.ref o0)])) rfl rfl (hb hby d39_1)
  obtain ⟨T2, X2, e2, st2⟩ := instNo X1 hx hZ hown (oW hw 239 rfl) e1 E_o0 (own_NSno (oW hw 235 rfl) (own_selK (y := mN28) (oW hw 330 rfl)) (NS.step (oW hw 235 rfl) (NS.step (oW hw 236 rfl) (NS.step (oW hw 237 rfl) (own_NSr (K := "java/util/ImmutableCollections$ListN") (oW hw 238 rfl) (own_selK (y := mN28) (oW hw 330 rfl)) (by decide)) (by decide)) (by decide)) (by decide)) (by decide)) (g := (mkF m 8 #[vR o0, .unset] [(.ref o0)])) rfl rfl (hb hby d39_8)
  obtain ⟨cq3, kq3, q3a, q3b, q3c⟩ := isOf hZ e2 E_o0
  obtain ⟨_, _, ⟨T3, L3, k3, n3⟩, -, X3, ⟨Lc3, hQ3, l3, y3, z3⟩, st3⟩ := X2.interfaceBack hx (xi := mN29) (y := mN14) hown (mvT hZ (oW hw 240 rfl)) (mvT hZ (oW hw 241 rfl)) (mvT hZ (oW hw 242 rfl)) (mvT hZ (oW hw 243 rfl)) (mvT hZ (oW hw 244 rfl)) (mvT hZ (oW hw 245 rfl)) (mvT hZ (oW hw 246 rfl)) (mvT hZ (oW hw 247 rfl)) (by decide) (backOf (W := 0) (rmIE1 l Z a0 hw [] o0 (2 : Int32) h0 n0 O0 F_size_o0 (by decide)) hZ (oW hw 248 rfl) (oW hw 6 rfl) (by decide) (by decide)) q3a q3b q3c (g := (mkF m 32 #[vR o0, .unset] [(.ref o0)])) rfl (by rw [hml]; rfl) (Steps.refl _) (argsL := []) (rest := []) (lenOf pd_15 rfl) rfl (by show 2 * 0 + _ ≤ _; exact Nat.le_of_eq rfl) (hb hby d39_32) (fun _ _ => ⟨rfl, e2, (by decide : 0 + 0 ≤ _), (by decide : 0 + 0 ≤ _)⟩)
  dsimp only [Pt.U, Pt.locs, Pt.cells, Pt.slots] at X3 l3 y3 z3 st3 hQ3
  subst l3 y3 z3
  obtain ⟨rfl, N3q, e3⟩ := hQ3
  have N3 := Fr.app N0 N3q
  obtain ⟨cq4, kq4, q4a, q4b, q4c⟩ := isOf hZ e3 E_o0
  obtain ⟨_, _, ⟨T4, L4, k4, n4⟩, -, X4, ⟨Lc4, hQ4, l4, y4, z4⟩, st4⟩ := X3.interfaceBack hx (xi := mN30) (y := mN19) hown (mvT hZ (oW hw 263 rfl)) (mvT hZ (oW hw 264 rfl)) (mvT hZ (oW hw 265 rfl)) (mvT hZ (oW hw 266 rfl)) (mvT hZ (oW hw 267 rfl)) (mvT hZ (oW hw 268 rfl)) (mvT hZ (oW hw 269 rfl)) (mvT hZ (oW hw 247 rfl)) (by decide) (backOf (W := 0) (rmTA2 l Z a0 hw [] o0 ed x1 x2 ka mr h0 n0 O0 F_size_o0 F_elementData_o0 V_ed hov E_x1 E_x2 E_ed hmr) hZ (oW hw 270 rfl) (oW hw 6 rfl) (by decide) (by decide)) q4a q4b q4c (g := (mkF m 45 #[vR o0, .unset] [(.ref o0)])) rfl (by rw [hml]; rfl) (Steps.refl _) (argsL := []) (rest := []) (lenOf pd_6 rfl) rfl (by show 2 * 0 + _ ≤ _; exact Nat.le_of_eq rfl) (hb hby d39_45) (fun _ _ => ⟨rfl, e3, (by decide : 0 + 1 ≤ _), (by decide : 0 + 2 ≤ _)⟩)
  dsimp only [Pt.U, Pt.locs, Pt.cells, Pt.slots] at X4 l4 y4 z4 st4 hQ4
  subst l4 y4 z4
  obtain ⟨b4, k94, rfl, N4q, K4, Vb4, Sb4⟩ := hQ4
  have N4 := Fr.app N3 N4q
  have O4 := O0.keep K4 all0
  obtain ⟨_, _, ⟨T5, L5, k5, n5⟩, -, X5, ⟨Lc5, hQ5, l5, y5, z5⟩, st5⟩ := Jvm.LawKit.callS X4 hx (y := mN25) hown (mvT hZ (oW hw 285 rfl)) (mvT hZ (oW hw 286 rfl)) (mvT hZ (oW hw 228 rfl)) (mvT hZ (oW hw 287 rfl)) (by decide) (backOf (W := 0) (rmOf2 l Z a0 hw [] b4 el em x1 x2 k94 T4.heap n0 O4 (E_x1.keep K4) (E_x2.keep K4) S_EMPTY Vb4) hZ (oW hw 287 rfl) (oW hw 228 rfl) (by decide) (by decide)) (g := (mkF m 50 #[vR o0, .unset] [(.ref b4)])) rfl (by rw [hml]; rfl) (argsL := [(.ref b4)]) (rest := []) (lenOf pd_17 rfl) rfl (by show 2 * 0 + _ ≤ _; exact Nat.le_of_eq rfl) (hb hby d39_50) (fun _ _ => ⟨rfl, rfl, (by decide : 1 + 1 ≤ _), (by decide : 2 + 2 ≤ _)⟩)
  dsimp only [Pt.U, Pt.locs, Pt.cells, Pt.slots] at X5 l5 y5 z5 st5 hQ5
  subst l5 y5 z5
  obtain ⟨b5, rfl, N5q, K5, Il5⟩ := hQ5
  have N5 := Fr.app N4 N5q
  have O5 := O4.keep K5 all0
  obtain ⟨fs, hr, hrun, hended, hW, hsame⟩ := X5.leave (v := some (.ref b5)) (fun h => by rw [Bd.returns] at h; cases h)
  refine ⟨_, _, pre0 _ ?_, hrun, hended, _, _, rfl, ?_, ⟨_, rfl⟩, hW, hsame.mono (by decide) (by decide)⟩
  · show oS p e below s₁ m 0 #[vR o0, .unset] [] _
    refine XS.aloadN X0.here hx rfl (hb hby d39_0) rfl rfl ?_
    show oS p e below s₁ m 1 #[vR o0, .unset] [(.ref o0)] _
    refine st1 _ ?_
    show oS p e below T1 m 4 #[vR o0, .unset] [(.int 0)] _
    refine XS.ifNo X1.here hx rfl (hb hby d39_4) rfl ((if0 _ _).trans (teq (by decide : (0 : Int32) = (0 : Int32))).2) ?_
    show oS p e below T1 m 7 #[vR o0, .unset] [] _
    refine XS.aloadN X1.here hx rfl (hb hby d39_7) rfl rfl ?_
    show oS p e below T1 m 8 #[vR o0, .unset] [(.ref o0)] _
    refine st2 _ ?_
    show oS p e below T2 m 11 #[vR o0, .unset] [(.int 0)] _
    refine XS.ifYes X2.here hx rfl (pc0 := 11) (pc' := 31) rfl (hb hby d39_11) rfl ((if0 _ _).trans (teq (by decide : (0 : Int32) = (0 : Int32))).1) (by decide) (by decide) ?_
    show oS p e below T2 m 31 #[vR o0, .unset] [] _
    refine XS.aloadN X2.here hx rfl (hb hby d39_31) rfl rfl ?_
    show oS p e below T2 m 32 #[vR o0, .unset] [(.ref o0)] _
    refine st3.trans ?_
    show oS p e below T3 m 37 #[vR o0, .unset] [(.int 0)] _
    refine XS.ifYes X3.here hx rfl (pc0 := 37) (pc' := 44) rfl (hb hby d39_37) rfl ((if0 _ _).trans (teq (by decide : (0 : Int32) = (0 : Int32))).1) (by decide) (by decide) ?_
    show oS p e below T3 m 44 #[vR o0, .unset] [] _
    refine XS.aloadN X3.here hx rfl (hb hby d39_44) rfl rfl ?_
    show oS p e below T3 m 45 #[vR o0, .unset] [(.ref o0)] _
    refine st4.trans ?_
    show oS p e below T4 m 50 #[vR o0, .unset] [(.ref b4)] _
    refine st5 _ ?_
    show Steps p.tables e below (T5.setTop (mkF m 53 #[vR o0, .unset] [(.ref b5)])) _
    jvm_step X5.here [X5.here.top, hx, (hb hby d39_53), X5.method', Bd.returns, Value.isRef, FieldType.isReference]
    first | (intro acts; rw [hr _ acts rfl rfl rfl]) | rw [hr _ _ rfl rfl rfl]
    exact Steps.refl _
  · show own_QCp Z el em (2 : Int32) x1 x2 h0 n0 _ T5.heap _
    exact ⟨b5, rfl, N5, (((Keep.refl h0 []).trans K4 all0).trans K5 all0), Il5⟩
theorem rmLC (l : Launch) (Z : State) (a0 : Array Value) (hw : HW a0 Z) (ws : List Jvm.Cond) (o0 ad ed el em mr x1 x2 : Addr) (n : Int32) (h0 : Heap) (n0 : Nat) (O0 : Old Z n0 h0) (S_EMPTY_LIST : Sta Z Z.heap "java/util/ImmutableCollections" "EMPTY_LIST" "Ljava/util/ImmutableCollections$ListN;" (.ref el)) (S_EMPTY : Sta Z Z.heap "java/util/ImmutableCollections" "EMPTY" "Ljava/lang/Object;" (.ref em)) (hmr : own_Mir Z "[Ljava/lang/Object;" mr) (hal : own_AL Z h0 ad o0 ed n x1 x2) : MetFree l mN26 (head1 (Jvm.Cond.code mN26 jdk_56_method_3_code 2 (some (.object "java/util/List")) :: ws) (rM 6 2 4 80)) (fun a U => a = #[(.ref o0)] ∧ Z.Warmed39 U.vm ∧ U.heap = h0) (fun _ _ _ _ _ => True) (fun _ U o U' => ∃ v L, o = .returned v ∧ own_QCp Z el em n x1 x2 h0 n0 v U'.heap L ∧ FrameEnd U o U' L (rM 6 2 4 80).cells (rM 6 2 4 80).slots) := by
  obtain ⟨k, mc, a1, a2, a3, a4, a5, s⟩ := hal
  rcases s with ⟨rfl, -⟩ | ⟨rfl, s1, s2, s3, s4⟩ | ⟨rfl, s1, s2, s3, s4, s5⟩
  · exact rmLC0 l Z a0 hw ws o0 el em x1 x2 ed mr k h0 n0 O0 S_EMPTY_LIST S_EMPTY a1 a3
  · exact rmLC1 l Z a0 hw ws o0 el em x1 x2 ed mr k h0 n0 O0 S_EMPTY_LIST S_EMPTY a1 a3 a4 s1 s3 s4 s2 hmr
  · exact rmLC2 l Z a0 hw ws o0 el em x1 x2 ed mr k h0 n0 O0 S_EMPTY_LIST S_EMPTY a1 a3 a4 s1 s3 s4 s5 s2 hmr
theorem d38_0 : decode jdk_40_method_48_code 0 = .ok (.aload_n 0, 1) := by decide +kernel
theorem d38_1 : decode jdk_40_method_48_code 1 = .ok (.invokestatic 112, 3) := by decide +kernel
theorem pd_18 : parseMethodDescriptor "(Ljava/util/Collection;)Ljava/util/List;" = some ⟨[(.object "java/util/Collection")], some (.object "java/util/List")⟩ := by decide +kernel
theorem d38_4 : decode jdk_40_method_48_code 4 = .ok (.areturn, 1) := by decide +kernel
theorem ef_38 (m : MethodId) (x0 : Addr) : entryFrame m #[(.ref x0)] 1 = mkF m 0 #[.val (.ref x0)] [] := by first | (simp [entryFrame, mkF, argsToLocals, Value.category]; done) | rfl
theorem pn_38 : plainName "java/util/List" = true := by first | (simp [plainName, overriddenIn]; done) | decide +kernel
theorem rmCp (l : Launch) (Z : State) (a0 : Array Value) (hw : HW a0 Z) (ws : List Jvm.Cond) (o0 : Addr) (ad ed el em mr x1 x2 : Addr) (n : Int32) (h0 : Heap) (n0 : Nat) (O0 : Old Z n0 h0) (S_EMPTY_LIST : Sta Z Z.heap "java/util/ImmutableCollections" "EMPTY_LIST" "Ljava/util/ImmutableCollections$ListN;" (.ref el)) (S_EMPTY : Sta Z Z.heap "java/util/ImmutableCollections" "EMPTY" "Ljava/lang/Object;" (.ref em)) (hmr : own_Mir Z "[Ljava/lang/Object;" mr) (hal : own_AL Z h0 ad o0 ed n x1 x2) :
    oM l Z mN31 jdk_40_method_48_code 1 (some (.object "java/util/List")) ws (rM 7 2 4 93) #[(.ref o0)] h0 (own_QCp Z el em n x1 x2 h0 n0) := by
  refine MetFree.of_bodySF (plainFor_of_name pn_38) hisR ?_
  intro p e s m args below meth c s₁ Bd hml0 hP hK
  obtain ⟨rfl, hZ, hh⟩ := hP
  have hx := Bd.exec
  have hby := Bd.bytes
  have hml : c.maxLocals = 1 := hml0
  have hown : s.vm.findClass "java/util/List" = some m.cls := findClass_of_methodNamed Bd.named
  have X0 : Stand p l e (rM 7 2 4 93) s m #[(.ref o0)] below meth c s₁ [] 0 0 := Stand.of_body Bd
  have e0 : s₁.heap = h0 := by rw [← hh, Bd.state]; rfl
  have N0 := Fr.nil n0
  have pre0 := fun t (k : oS p e below s₁ m 0 #[vR o0] [] t) => castTop (ef_38 m o0) k
  obtain ⟨_, _, ⟨T1, L1, k1, n1⟩, -, X1, ⟨Lc1, hQ1, l1, y1, z1⟩, st1⟩ := Jvm.LawKit.callS X0 hx (y := mN26) hown (mvT hZ (oW hw 230 rfl)) (mvT hZ (oW hw 231 rfl)) (mvT hZ (oW hw 232 rfl)) (mvT hZ (oW hw 233 rfl)) (by decide) (backOf (W := 0) (rmLC l Z a0 hw [] o0 ad ed el em mr x1 x2 n h0 n0 O0 S_EMPTY_LIST S_EMPTY hmr hal) hZ (oW hw 233 rfl) (oW hw 232 rfl) (by decide) (by decide)) (g := (mkF m 1 #[vR o0] [(.ref o0)])) rfl (by rw [hml]; rfl) (argsL := [(.ref o0)]) (rest := []) (lenOf pd_18 rfl) rfl (by show 2 * 0 + _ ≤ _; exact Nat.le_of_eq rfl) (hb hby d38_1) (fun _ _ => ⟨rfl, e0, (by decide : 0 + 2 ≤ _), (by decide : 0 + 4 ≤ _)⟩)
  dsimp only [Pt.U, Pt.locs, Pt.cells, Pt.slots] at X1 l1 y1 z1 st1 hQ1
  subst l1 y1 z1
  obtain ⟨b1, rfl, N1q, K1, Il1⟩ := hQ1
  have N1 := Fr.app N0 N1q
  have O1 := O0.keep K1 all0
  obtain ⟨fs, hr, hrun, hended, hW, hsame⟩ := X1.leave (v := some (.ref b1)) (fun h => by rw [Bd.returns] at h; cases h)
  refine ⟨_, _, pre0 _ ?_, hrun, hended, _, _, rfl, ?_, ⟨_, rfl⟩, hW, hsame.mono (by decide) (by decide)⟩
  · show oS p e below s₁ m 0 #[vR o0] [] _
    refine XS.aloadN X0.here hx rfl (hb hby d38_0) rfl rfl ?_
    show oS p e below s₁ m 1 #[vR o0] [(.ref o0)] _
    refine st1 _ ?_
    show Steps p.tables e below (T1.setTop (mkF m 4 #[vR o0] [(.ref b1)])) _
    jvm_step X1.here [X1.here.top, hx, (hb hby d38_4), X1.method', Bd.returns, Value.isRef, FieldType.isReference]
    first | (intro acts; rw [hr _ acts rfl rfl rfl]) | rw [hr _ _ rfl rfl rfl]
    exact Steps.refl _
  · show own_QCp Z el em n x1 x2 h0 n0 _ T1.heap _
    exact ⟨b1, rfl, N1, ((Keep.refl h0 []).trans K1 all0), Il1⟩
theorem d19_0 : decode jdk_71_method_1_code 0 = .ok (.aload_n 0, 1) := by decide +kernel
theorem d19_1 : decode jdk_71_method_1_code 1 = .ok (.invokespecial 1, 3) := by decide +kernel
theorem d19_4 : decode jdk_71_method_1_code 4 = .ok (.return_, 1) := by decide +kernel
theorem ef_19 (m : MethodId) (x0 : Addr) : entryFrame m #[(.ref x0)] 1 = mkF m 0 #[.val (.ref x0)] [] := by first | (simp [entryFrame, mkF, argsToLocals, Value.category]; done) | rfl
theorem pn_19 : plainName "java/util/AbstractMap" = true := by first | (simp [plainName, overriddenIn]; done) | decide +kernel
theorem rmAM (l : Launch) (Z : State) (a0 : Array Value) (hw : HW a0 Z) (ws : List Jvm.Cond) (o0 : Addr) (h0 : Heap) (n0 : Nat) (O0 : Old Z n0 h0) :
    oM l Z mN32 jdk_71_method_1_code 1 none ws (rM 1 0 0 12) #[(.ref o0)] h0 (own_Qn h0 n0) := by
  refine MetFree.of_bodySF (plainFor_of_name pn_19) hisR ?_
  intro p e s m args below meth c s₁ Bd hml0 hP hK
  obtain ⟨rfl, hZ, hh⟩ := hP
  have hx := Bd.exec
  have hby := Bd.bytes
  have hml : c.maxLocals = 1 := hml0
  have hown : s.vm.findClass "java/util/AbstractMap" = some m.cls := findClass_of_methodNamed Bd.named
  have X0 : Stand p l e (rM 1 0 0 12) s m #[(.ref o0)] below meth c s₁ [] 0 0 := Stand.of_body Bd
  have e0 : s₁.heap = h0 := by rw [← hh, Bd.state]; rfl
  have N0 := Fr.nil n0
  have pre0 := fun t (k : oS p e below s₁ m 0 #[vR o0] [] t) => castTop (ef_19 m o0) k
  obtain ⟨T1, X1, e1, st1⟩ := initO X0 hx hZ hown (oW hw 119 rfl) (oW hw 23 rfl) (oW hw 24 rfl) e0 (g := (mkF m 1 #[vR o0] [(.ref o0)])) rfl (by rw [hml]; rfl) rfl (hb hby d19_1) (by decide) (W := 0) (by show 2 * 0 + _ ≤ _; exact Nat.le_of_eq rfl) (by decide)
  obtain ⟨fs, hr, hrun, hended, hW, hsame⟩ := X1.leave (v := none) (fun _ => rfl)
  refine ⟨_, _, pre0 _ ?_, hrun, hended, _, _, rfl, ?_, ⟨_, rfl⟩, hW, hsame.mono (by decide) (by decide)⟩
  · show oS p e below s₁ m 0 #[vR o0] [] _
    refine XS.aloadN X0.here hx rfl (hb hby d19_0) rfl rfl ?_
    show oS p e below s₁ m 1 #[vR o0] [(.ref o0)] _
    refine st1 _ ?_
    show oS p e below T1 m 4 #[vR o0] [] _
    exact X1.returnOut hx Bd.returns (hb hby d19_4) hr
  · show own_Qn h0 n0 _ T1.heap _
    rw [e1]
    exact ⟨rfl, N0, rfl⟩
def own_QHM (Z : State) (o : Addr) (h0 : Heap) (n0 : Nat) (v : Option Value) (h : Heap) (L : List Loc) : Prop := v = none ∧ Fr n0 L ∧ Keep h0 h [o] ∧ Fld Z h o "java/util/LinkedHashMap" "putMode" "I" (.int 0) ∧ Fld Z h o "java/util/LinkedHashMap" "accessOrder" "Z" (.int 0)
theorem d18_0 : decode jdk_69_method_7_code 0 = .ok (.aload_n 0, 1) := by decide +kernel
theorem d18_1 : decode jdk_69_method_7_code 1 = .ok (.invokespecial 43, 3) := by decide +kernel
theorem d18_4 : decode jdk_69_method_7_code 4 = .ok (.aload_n 0, 1) := by decide +kernel
theorem d18_5 : decode jdk_69_method_7_code 5 = .ok (.ldc 92, 2) := by decide +kernel
theorem d18_7 : decode jdk_69_method_7_code 7 = .ok (.putfield 81, 3) := by decide +kernel
theorem d18_10 : decode jdk_69_method_7_code 10 = .ok (.return_, 1) := by decide +kernel
theorem ef_18 (m : MethodId) (x0 : Addr) : entryFrame m #[(.ref x0)] 1 = mkF m 0 #[.val (.ref x0)] [] := by first | (simp [entryFrame, mkF, argsToLocals, Value.category]; done) | rfl
theorem pn_18 : plainName "java/util/HashMap" = true := by first | (simp [plainName, overriddenIn]; done) | decide +kernel
theorem rmHM (l : Launch) (Z : State) (a0 : Array Value) (hw : HW a0 Z) (ws : List Jvm.Cond) (o0 : Addr) (h0 : Heap) (n0 : Nat) (O0 : Old Z n0 h0) (E_o0 : Exa Z h0 o0 "java/util/LinkedHashMap") (F_loadFactor_o0 : Fld Z h0 o0 "java/util/HashMap" "loadFactor" "F" (.float (0 : UInt32))) (F_putMode_o0 : Fld Z h0 o0 "java/util/LinkedHashMap" "putMode" "I" (.int 0)) (F_accessOrder_o0 : Fld Z h0 o0 "java/util/LinkedHashMap" "accessOrder" "Z" (.int 0)) (g_o0 : n0 ≤ o0) :
    oM l Z mN33 jdk_69_method_7_code 1 none ws (rM 2 0 0 24) #[(.ref o0)] h0 (own_QHM Z o0 h0 n0) := by
  refine MetFree.of_bodySF (plainFor_of_name pn_18) hisR ?_
  intro p e s m args below meth c s₁ Bd hml0 hP hK
  obtain ⟨rfl, hZ, hh⟩ := hP
  have hx := Bd.exec
  have hby := Bd.bytes
  have hml : c.maxLocals = 1 := hml0
  have hown : s.vm.findClass "java/util/HashMap" = some m.cls := findClass_of_methodNamed Bd.named
  have hnm := (name_of_methodNamed Bd.named Bd.method).1
  have X0 : Stand p l e (rM 2 0 0 24) s m #[(.ref o0)] below meth c s₁ [] 0 0 := Stand.of_body Bd
  have e0 : s₁.heap = h0 := by rw [← hh, Bd.state]; rfl
  have N0 := Fr.nil n0
  have pre0 := fun t (k : oS p e below s₁ m 0 #[vR o0] [] t) => castTop (ef_18 m o0) k
  obtain ⟨_, _, ⟨T1, L1, k1, n1⟩, -, X1, ⟨Lc1, hQ1, l1, y1, z1⟩, st1⟩ := X0.specialBack hx (y := mN32) rfl hown (mvT hZ (oW hw 113 rfl)) (mvT hZ (oW hw 114 rfl)) (mvT hZ (oW hw 118 rfl)) (by decide) (backOf (W := 0) (rmAM l Z a0 hw [] o0  h0 n0 O0 ) hZ (oW hw 118 rfl) (oW hw 117 rfl) (by decide) (by decide)) (g := (mkF m 1 #[vR o0] [(.ref o0)])) rfl (by rw [hml]; rfl) (Steps.refl _) (a := o0) (argsL := []) (rest := []) (lenOf pd_0 rfl) rfl (by show 2 * 0 + _ ≤ _; exact Nat.le_of_eq rfl) (hb hby d18_1) (fun _ _ => ⟨rfl, e0, (by decide : 0 + 0 ≤ _), (by decide : 0 + 0 ≤ _)⟩)
  dsimp only [Pt.U, Pt.locs, Pt.cells, Pt.slots] at X1 l1 y1 z1 st1 hQ1
  subst l1 y1 z1
  obtain ⟨rfl, N1q, e1⟩ := hQ1
  have N1 := Fr.app N0 N1q
  obtain ⟨T2, h2, X2, e2, W2, st2⟩ := putF X1 hx hZ hown (host := "") (Or.inl (oW hw 121 rfl)) Via.refl e1 F_loadFactor_o0 E_o0 (Or.inr ⟨(oW hw 122 rfl), rfl, hnm⟩) (oW hw 102 rfl) (ty := .float) (by decide) rfl rfl (g := (mkF m 7 #[vR o0] [(.float (1061158912 : UInt32)), (.ref o0)])) rfl rfl (hb hby d18_7)
  have O2 := O0.wr W2 g_o0
  have Fw2 := F_loadFactor_o0.same W2
  have N2 := Fr.snoc X2 N1 g_o0
  have f_o0_1_putMode := (F_putMode_o0.other W2 (Or.inr (slot_ne (Or.inl (oW hw 124 rfl)) (Or.inr (oW hw 122 rfl)) (by decide) (t := .int) (t' := .float) (by decide) (by decide))))
  have f_o0_1_accessOrder := (F_accessOrder_o0.other W2 (Or.inr (slot_ne (Or.inr (oW hw 126 rfl)) (Or.inr (oW hw 122 rfl)) (by decide) (t := .boolean) (t' := .float) (by decide) (by decide))))
  obtain ⟨fs, hr, hrun, hended, hW, hsame⟩ := X2.leave (v := none) (fun _ => rfl)
  refine ⟨_, _, pre0 _ ?_, hrun, hended, _, _, rfl, ?_, ⟨_, rfl⟩, hW, hsame.mono (by decide) (by decide)⟩
  · show oS p e below s₁ m 0 #[vR o0] [] _
    refine XS.aloadN X0.here hx rfl (hb hby d18_0) rfl rfl ?_
    show oS p e below s₁ m 1 #[vR o0] [(.ref o0)] _
    refine st1.trans ?_
    show oS p e below T1 m 4 #[vR o0] [] _
    refine XS.aloadN X1.here hx rfl (hb hby d18_4) rfl rfl ?_
    show oS p e below T1 m 5 #[vR o0] [(.ref o0)] _
    refine X1.ldcFloatC hx hown (mvT hZ (oW hw 120 rfl)) (g := (mkF m 5 #[vR o0] [(.ref o0)])) rfl (hb hby d18_5) _ ?_
    show oS p e below T1 m 7 #[vR o0] [(.float (1061158912 : UInt32)), (.ref o0)] _
    refine st2 _ ?_
    show oS p e below T2 m 10 #[vR o0] [] _
    exact X2.returnOut hx Bd.returns (hb hby d18_10) hr
  · show own_QHM Z o0 h0 n0 _ T2.heap _
    rw [e2]
    exact ⟨rfl, N2, ((Keep.refl h0 [o0]).wr W2 (Or.inl (List.mem_of_getElem? (i := 0) rfl))), f_o0_1_putMode, f_o0_1_accessOrder⟩
theorem d17_0 : decode jdk_94_method_16_code 0 = .ok (.aload_n 0, 1) := by decide +kernel
theorem d17_1 : decode jdk_94_method_16_code 1 = .ok (.invokespecial 87, 3) := by decide +kernel
theorem d17_4 : decode jdk_94_method_16_code 4 = .ok (.aload_n 0, 1) := by decide +kernel
theorem d17_5 : decode jdk_94_method_16_code 5 = .ok (.iconst 0, 1) := by decide +kernel
theorem d17_6 : decode jdk_94_method_16_code 6 = .ok (.putfield 1, 3) := by decide +kernel
theorem d17_9 : decode jdk_94_method_16_code 9 = .ok (.aload_n 0, 1) := by decide +kernel
theorem d17_10 : decode jdk_94_method_16_code 10 = .ok (.iconst 0, 1) := by decide +kernel
theorem d17_11 : decode jdk_94_method_16_code 11 = .ok (.putfield 64, 3) := by decide +kernel
theorem d17_14 : decode jdk_94_method_16_code 14 = .ok (.return_, 1) := by decide +kernel
theorem ef_17 (m : MethodId) (x0 : Addr) : entryFrame m #[(.ref x0)] 1 = mkF m 0 #[.val (.ref x0)] [] := by first | (simp [entryFrame, mkF, argsToLocals, Value.category]; done) | rfl
theorem pn_17 : plainName "java/util/LinkedHashMap" = true := by first | (simp [plainName, overriddenIn]; done) | decide +kernel
theorem rmLHM (l : Launch) (Z : State) (a0 : Array Value) (hw : HW a0 Z) (ws : List Jvm.Cond) (o0 : Addr) (h0 : Heap) (n0 : Nat) (O0 : Old Z n0 h0) (E_o0 : Exa Z h0 o0 "java/util/LinkedHashMap") (F_loadFactor_o0 : Fld Z h0 o0 "java/util/HashMap" "loadFactor" "F" (.float (0 : UInt32))) (F_putMode_o0 : Fld Z h0 o0 "java/util/LinkedHashMap" "putMode" "I" (.int 0)) (F_accessOrder_o0 : Fld Z h0 o0 "java/util/LinkedHashMap" "accessOrder" "Z" (.int 0)) (g_o0 : n0 ≤ o0) :
    oM l Z mN34 jdk_94_method_16_code 1 none ws (rM 3 0 0 36) #[(.ref o0)] h0 (own_QK o0 h0 n0) := by
  refine MetFree.of_bodySF (plainFor_of_name pn_17) hisR ?_
  intro p e s m args below meth c s₁ Bd hml0 hP hK
  obtain ⟨rfl, hZ, hh⟩ := hP
  have hx := Bd.exec
  have hby := Bd.bytes
  have hml : c.maxLocals = 1 := hml0
  have hown : s.vm.findClass "java/util/LinkedHashMap" = some m.cls := findClass_of_methodNamed Bd.named
  have hnm := (name_of_methodNamed Bd.named Bd.method).1
  have X0 : Stand p l e (rM 3 0 0 36) s m #[(.ref o0)] below meth c s₁ [] 0 0 := Stand.of_body Bd
  have e0 : s₁.heap = h0 := by rw [← hh, Bd.state]; rfl
  have N0 := Fr.nil n0
  have pre0 := fun t (k : oS p e below s₁ m 0 #[vR o0] [] t) => castTop (ef_17 m o0) k
  obtain ⟨_, _, ⟨T1, L1, k1, n1⟩, -, X1, ⟨Lc1, hQ1, l1, y1, z1⟩, st1⟩ := X0.specialBack hx (y := mN33) rfl hown (mvT hZ (oW hw 107 rfl)) (mvT hZ (oW hw 108 rfl)) (mvT hZ (oW hw 112 rfl)) (by decide) (backOf (W := 0) (rmHM l Z a0 hw [] o0  h0 n0 O0 E_o0 F_loadFactor_o0 F_putMode_o0 F_accessOrder_o0 g_o0) hZ (oW hw 112 rfl) (oW hw 111 rfl) (by decide) (by decide)) (g := (mkF m 1 #[vR o0] [(.ref o0)])) rfl (by rw [hml]; rfl) (Steps.refl _) (a := o0) (argsL := []) (rest := []) (lenOf pd_0 rfl) rfl (by show 2 * 0 + _ ≤ _; exact Nat.le_of_eq rfl) (hb hby d17_1) (fun _ _ => ⟨rfl, e0, (by decide : 0 + 0 ≤ _), (by decide : 0 + 0 ≤ _)⟩)
  dsimp only [Pt.U, Pt.locs, Pt.cells, Pt.slots] at X1 l1 y1 z1 st1 hQ1
  subst l1 y1 z1
  obtain ⟨rfl, N1q, K1, Fp1, Fa1⟩ := hQ1
  have N1 := Fr.app N0 N1q
  have O1 := O0.keep K1 (allS g_o0 all0)
  obtain ⟨T2, h2, X2, e2, W2, st2⟩ := putF X1 hx hZ hown (host := "") (Or.inl (oW hw 123 rfl)) Via.refl rfl Fp1 (E_o0.keep K1) (Or.inl (oW hw 124 rfl)) (oW hw 102 rfl) (ty := .int) (by decide) rfl rfl (g := (mkF m 6 #[vR o0] [(.int 0), (.ref o0)])) rfl rfl (hb hby d17_6)
  have O2 := O1.wr W2 g_o0
  have Fw2 := Fp1.same W2
  have N2 := Fr.snoc X2 N1 g_o0
  have f_o0_2_accessOrder := (Fa1.other W2 (Or.inr (slot_ne (Or.inr (oW hw 126 rfl)) (Or.inl (oW hw 124 rfl)) (by decide) (t := .boolean) (t' := .int) (by decide) (by decide))))
  obtain ⟨T3, h3, X3, e3, W3, st3⟩ := putFN X2 hx hZ hown (oW hw 125 rfl) Via.refl e2 f_o0_2_accessOrder ((E_o0.keep K1).wr W2) (Or.inr ⟨(oW hw 126 rfl), rfl, hnm⟩) (oW hw 102 rfl) (ty := .boolean) (v' := (.int 0)) (by decide) rfl (by decide) (g := (mkF m 11 #[vR o0] [(.int 0), (.ref o0)])) rfl rfl (hb hby d17_11)
  have O3 := O2.wr W3 g_o0
  have Fw3 := f_o0_2_accessOrder.same W3
  have N3 := Fr.snoc X3 N2 g_o0
  obtain ⟨fs, hr, hrun, hended, hW, hsame⟩ := X3.leave (v := none) (fun _ => rfl)
  refine ⟨_, _, pre0 _ ?_, hrun, hended, _, _, rfl, ?_, ⟨_, rfl⟩, hW, hsame.mono (by decide) (by decide)⟩
  · show oS p e below s₁ m 0 #[vR o0] [] _
    refine XS.aloadN X0.here hx rfl (hb hby d17_0) rfl rfl ?_
    show oS p e below s₁ m 1 #[vR o0] [(.ref o0)] _
    refine st1.trans ?_
    show oS p e below T1 m 4 #[vR o0] [] _
    refine XS.aloadN X1.here hx rfl (hb hby d17_4) rfl rfl ?_
    refine XS.iconst X1.here hx rfl (hb hby d17_5) ?_
    show oS p e below T1 m 6 #[vR o0] [(.int 0), (.ref o0)] _
    refine st2 _ ?_
    show oS p e below T2 m 9 #[vR o0] [] _
    refine XS.aloadN X2.here hx rfl (hb hby d17_9) rfl rfl ?_
    refine XS.iconst X2.here hx rfl (hb hby d17_10) ?_
    show oS p e below T2 m 11 #[vR o0] [(.int 0), (.ref o0)] _
    refine st3 _ ?_
    show oS p e below T3 m 14 #[vR o0] [] _
    exact X3.returnOut hx Bd.returns (hb hby d17_14) hr
  · show own_QK o0 h0 n0 _ T3.heap _
    rw [e3]
    exact ⟨rfl, N3, ((((Keep.refl h0 [o0]).trans K1 (allS (Or.inl (List.mem_of_getElem? (i := 0) rfl)) all0)).wr W2 (Or.inl (List.mem_of_getElem? (i := 0) rfl))).wr W3 (Or.inl (List.mem_of_getElem? (i := 0) rfl)))⟩
theorem own_shr0 (x : Int32) : (x >>> ((0 : Int32) &&& 31)) = x := by
  have e : ((0 : Int32) &&& 31) = 0 := by decide
  rw [e]
  simp
theorem d24_0 : decode jdk_42_method_154_code 0 = .ok (.getstatic 38, 3) := by decide +kernel
theorem d24_3 : decode jdk_42_method_154_code 3 = .ok (.ifCond .eq 14, 3) := by decide +kernel
theorem d24_6 : decode jdk_42_method_154_code 6 = .ok (.aload_n 0, 1) := by decide +kernel
theorem d24_7 : decode jdk_42_method_154_code 7 = .ok (.getfield 15, 3) := by decide +kernel
theorem d24_10 : decode jdk_42_method_154_code 10 = .ok (.ifCond .ne 7, 3) := by decide +kernel
theorem d24_13 : decode jdk_42_method_154_code 13 = .ok (.iconst 1, 1) := by decide +kernel
theorem d24_14 : decode jdk_42_method_154_code 14 = .ok (.goto 4, 3) := by decide +kernel
theorem d24_18 : decode jdk_42_method_154_code 18 = .ok (.ireturn, 1) := by decide +kernel
theorem ef_24 (m : MethodId) (x0 : Addr) : entryFrame m #[(.ref x0)] 1 = mkF m 0 #[.val (.ref x0)] [] := by first | (simp [entryFrame, mkF, argsToLocals, Value.category]; done) | rfl
theorem pn_24 : plainName "java/lang/String" = true := by first | (simp [plainName, overriddenIn]; done) | decide +kernel
theorem rmLa (l : Launch) (Z : State) (a0 : Array Value) (hw : HW a0 Z) (ws : List Jvm.Cond) (o0 : Addr) (zc : Int32) (h0 : Heap) (n0 : Nat) (O0 : Old Z n0 h0) (S_CS : Sta Z Z.heap "java/lang/String" "COMPACT_STRINGS" "Z" (.int zc)) (hzc : ¬ zc = 0) (F_coder_o0 : Fld Z h0 o0 "java/lang/String" "coder" "B" (.int 0)) :
    oM l Z mN35 jdk_42_method_154_code 1 (some .boolean) ws (rM 0 0 0 0) #[(.ref o0)] h0 (own_Q (.int 1) h0 n0) := by
  refine MetFree.of_bodySF (plainFor_of_name pn_24) hisR ?_
  intro p e s m args below meth c s₁ Bd hml0 hP hK
  obtain ⟨rfl, hZ, hh⟩ := hP
  have hx := Bd.exec
  have hby := Bd.bytes
  have hml : c.maxLocals = 1 := hml0
  have hown : s.vm.findClass "java/lang/String" = some m.cls := findClass_of_methodNamed Bd.named
  have X0 : Stand p l e (rM 0 0 0 0) s m #[(.ref o0)] below meth c s₁ [] 0 0 := Stand.of_body Bd
  have e0 : s₁.heap = h0 := by rw [← hh, Bd.state]; rfl
  have N0 := Fr.nil n0
  have pre0 := fun t (k : oS p e below s₁ m 0 #[vR o0] [] t) => castTop (ef_24 m o0) k
  obtain ⟨T1, X1, e1, st1⟩ := getS2 X0 hx hZ hown (host := "") (Or.inl (oW hw 35 rfl)) Via.refl e0 (S_CS.ext O0.2) (g := (mkF m 0 #[vR o0] [])) rfl (hb hby d24_0)
  obtain ⟨T2, X2, e2, st2⟩ := getF X1 hx hZ hown (host := "") (Or.inl (oW hw 53 rfl)) Via.refl e1 F_coder_o0 (g := (mkF m 7 #[vR o0] [(.ref o0)])) rfl rfl (hb hby d24_7)
  obtain ⟨fs, hr, hrun, hended, hW, hsame⟩ := X2.leave (v := some (.int 1)) (fun h => by rw [Bd.returns] at h; cases h)
  refine ⟨_, _, pre0 _ ?_, hrun, hended, _, _, rfl, ?_, ⟨_, rfl⟩, hW, hsame.mono (by decide) (by decide)⟩
  · show oS p e below s₁ m 0 #[vR o0] [] _
    refine st1 _ ?_
    show oS p e below T1 m 3 #[vR o0] [(.int zc)] _
    refine XS.ifNo X1.here hx rfl (hb hby d24_3) rfl ((if0 _ _).trans (feq hzc).1) ?_
    show oS p e below T1 m 6 #[vR o0] [] _
    refine XS.aloadN X1.here hx rfl (hb hby d24_6) rfl rfl ?_
    show oS p e below T1 m 7 #[vR o0] [(.ref o0)] _
    refine st2 _ ?_
    show oS p e below T2 m 10 #[vR o0] [(.int 0)] _
    refine XS.ifNo X2.here hx rfl (hb hby d24_10) rfl ((if0 _ _).trans (teq (by decide : (0 : Int32) = (0 : Int32))).2) ?_
    show oS p e below T2 m 13 #[vR o0] [] _
    refine XS.iconst X2.here hx rfl (hb hby d24_13) ?_
    refine XS.goto X2.here hx rfl (pc0 := 14) (pc' := 18) rfl (hb hby d24_14) (by decide) (by decide) ?_
    show oS p e below T2 m 18 #[vR o0] [(.int 1)] _
    exact retN X2 hx (t := .boolean) Bd.returns (by simp) (hb hby d24_18) hr
  · show own_Q (.int 1) h0 n0 _ T2.heap _
    rw [e2]
    exact ⟨rfl, N0, rfl⟩
theorem d22_0 : decode jdk_42_method_152_code 0 = .ok (.getstatic 38, 3) := by decide +kernel
theorem d22_3 : decode jdk_42_method_152_code 3 = .ok (.ifCond .eq 10, 3) := by decide +kernel
theorem d22_6 : decode jdk_42_method_152_code 6 = .ok (.aload_n 0, 1) := by decide +kernel
theorem d22_7 : decode jdk_42_method_152_code 7 = .ok (.getfield 15, 3) := by decide +kernel
theorem d22_10 : decode jdk_42_method_152_code 10 = .ok (.goto 4, 3) := by decide +kernel
theorem d22_14 : decode jdk_42_method_152_code 14 = .ok (.ireturn, 1) := by decide +kernel
theorem ef_22 (m : MethodId) (x0 : Addr) : entryFrame m #[(.ref x0)] 1 = mkF m 0 #[.val (.ref x0)] [] := by first | (simp [entryFrame, mkF, argsToLocals, Value.category]; done) | rfl
theorem pn_22 : plainName "java/lang/String" = true := by first | (simp [plainName, overriddenIn]; done) | decide +kernel
theorem rmCo (l : Launch) (Z : State) (a0 : Array Value) (hw : HW a0 Z) (ws : List Jvm.Cond) (o0 : Addr) (zc : Int32) (h0 : Heap) (n0 : Nat) (O0 : Old Z n0 h0) (S_CS : Sta Z Z.heap "java/lang/String" "COMPACT_STRINGS" "Z" (.int zc)) (hzc : ¬ zc = 0) (F_coder_o0 : Fld Z h0 o0 "java/lang/String" "coder" "B" (.int 0)) :
    oM l Z mN36 jdk_42_method_152_code 1 (some .byte) ws (rM 0 0 0 0) #[(.ref o0)] h0 (own_Q (.int 0) h0 n0) := by
  refine MetFree.of_bodySF (plainFor_of_name pn_22) hisR ?_
  intro p e s m args below meth c s₁ Bd hml0 hP hK
  obtain ⟨rfl, hZ, hh⟩ := hP
  have hx := Bd.exec
  have hby := Bd.bytes
  have hml : c.maxLocals = 1 := hml0
  have hown : s.vm.findClass "java/lang/String" = some m.cls := findClass_of_methodNamed Bd.named
  have X0 : Stand p l e (rM 0 0 0 0) s m #[(.ref o0)] below meth c s₁ [] 0 0 := Stand.of_body Bd
  have e0 : s₁.heap = h0 := by rw [← hh, Bd.state]; rfl
  have N0 := Fr.nil n0
  have pre0 := fun t (k : oS p e below s₁ m 0 #[vR o0] [] t) => castTop (ef_22 m o0) k
  obtain ⟨T1, X1, e1, st1⟩ := getS2 X0 hx hZ hown (host := "") (Or.inl (oW hw 35 rfl)) Via.refl e0 (S_CS.ext O0.2) (g := (mkF m 0 #[vR o0] [])) rfl (hb hby d22_0)
  obtain ⟨T2, X2, e2, st2⟩ := getF X1 hx hZ hown (host := "") (Or.inl (oW hw 53 rfl)) Via.refl e1 F_coder_o0 (g := (mkF m 7 #[vR o0] [(.ref o0)])) rfl rfl (hb hby d22_7)
  obtain ⟨fs, hr, hrun, hended, hW, hsame⟩ := X2.leave (v := some (.int 0)) (fun h => by rw [Bd.returns] at h; cases h)
  refine ⟨_, _, pre0 _ ?_, hrun, hended, _, _, rfl, ?_, ⟨_, rfl⟩, hW, hsame.mono (by decide) (by decide)⟩
  · show oS p e below s₁ m 0 #[vR o0] [] _
    refine st1 _ ?_
    show oS p e below T1 m 3 #[vR o0] [(.int zc)] _
    refine XS.ifNo X1.here hx rfl (hb hby d22_3) rfl ((if0 _ _).trans (feq hzc).1) ?_
    show oS p e below T1 m 6 #[vR o0] [] _
    refine XS.aloadN X1.here hx rfl (hb hby d22_6) rfl rfl ?_
    show oS p e below T1 m 7 #[vR o0] [(.ref o0)] _
    refine st2 _ ?_
    show oS p e below T2 m 10 #[vR o0] [(.int 0)] _
    refine XS.goto X2.here hx rfl (pc0 := 10) (pc' := 14) rfl (hb hby d22_10) (by decide) (by decide) ?_
    show oS p e below T2 m 14 #[vR o0] [(.int 0)] _
    exact retN X2 hx (t := .byte) Bd.returns (by simp) (hb hby d22_14) hr
  · show own_Q (.int 0) h0 n0 _ T2.heap _
    rw [e2]
    exact ⟨rfl, N0, rfl⟩
theorem d21_0 : decode jdk_42_method_54_code 0 = .ok (.aload_n 0, 1) := by decide +kernel
theorem d21_1 : decode jdk_42_method_54_code 1 = .ok (.getfield 9, 3) := by decide +kernel
theorem d21_4 : decode jdk_42_method_54_code 4 = .ok (.arraylength, 1) := by decide +kernel
theorem d21_5 : decode jdk_42_method_54_code 5 = .ok (.aload_n 0, 1) := by decide +kernel
theorem d21_6 : decode jdk_42_method_54_code 6 = .ok (.invokevirtual 335, 3) := by decide +kernel
theorem pd_19 : parseMethodDescriptor "()B" = some ⟨[], some .byte⟩ := by decide +kernel
theorem d21_9 : decode jdk_42_method_54_code 9 = .ok (.ishr, 1) := by decide +kernel
theorem d21_10 : decode jdk_42_method_54_code 10 = .ok (.ireturn, 1) := by decide +kernel
theorem ef_21 (m : MethodId) (x0 : Addr) : entryFrame m #[(.ref x0)] 1 = mkF m 0 #[.val (.ref x0)] [] := by first | (simp [entryFrame, mkF, argsToLocals, Value.category]; done) | rfl
theorem pn_21 : plainName "java/lang/String" = true := by first | (simp [plainName, overriddenIn]; done) | decide +kernel
theorem rmLe (l : Launch) (Z : State) (a0 : Array Value) (hw : HW a0 Z) (ws : List Jvm.Cond) (o0 : Addr) (ln : Int32) (vsA : List Value) (tA : Addr) (kA : ClassId) (zc : Int32) (h0 : Heap) (n0 : Nat) (O0 : Old Z n0 h0) (E_o0 : Exa Z h0 o0 "java/lang/String") (F_value_o0 : Fld Z h0 o0 "java/lang/String" "value" "[B" (.ref tA)) (F_coder_o0 : Fld Z h0 o0 "java/lang/String" "coder" "B" (.int 0)) (V_tA : Arv Z h0 tA kA .byte ln vsA (.int 0)) (S_CS : Sta Z Z.heap "java/lang/String" "COMPACT_STRINGS" "Z" (.int zc)) (hzc : ¬ zc = 0) :
    oM l Z mN37 jdk_42_method_54_code 1 (some .int) ws (rM 1 0 0 13) #[(.ref o0)] h0 (own_Q (.int ln) h0 n0) := by
  refine MetFree.of_bodySF (plainFor_of_name pn_21) hisR ?_
  intro p e s m args below meth c s₁ Bd hml0 hP hK
  obtain ⟨rfl, hZ, hh⟩ := hP
  have hx := Bd.exec
  have hby := Bd.bytes
  have hml : c.maxLocals = 1 := hml0
  have hown : s.vm.findClass "java/lang/String" = some m.cls := findClass_of_methodNamed Bd.named
  have X0 : Stand p l e (rM 1 0 0 13) s m #[(.ref o0)] below meth c s₁ [] 0 0 := Stand.of_body Bd
  have e0 : s₁.heap = h0 := by rw [← hh, Bd.state]; rfl
  have N0 := Fr.nil n0
  have pre0 := fun t (k : oS p e below s₁ m 0 #[vR o0] [] t) => castTop (ef_21 m o0) k
  obtain ⟨T1, X1, e1, st1⟩ := getF X0 hx hZ hown (host := "") (Or.inl (oW hw 51 rfl)) Via.refl e0 F_value_o0 (g := (mkF m 1 #[vR o0] [(.ref o0)])) rfl rfl (hb hby d21_1)
  obtain ⟨cl2, Ar2, qa2, Sz2, Ng2, Hs2, Ft2⟩ := V_tA
  have V2o : Arv Z h0 tA kA .byte ln vsA (.int 0) := ⟨cl2, Ar2, qa2, Sz2, Ng2, Hs2, Ft2⟩
  obtain ⟨cq3, kq3, q3a, q3b, q3c⟩ := isOf hZ e1 E_o0
  obtain ⟨_, _, ⟨T3, L3, k3, n3⟩, -, X3, ⟨Lc3, hQ3, l3, y3, z3⟩, st3⟩ := X1.virtualBack hx (y := mN36) (z := mN36) hown (mvT hZ (oW hw 145 rfl)) (mvT hZ (oW hw 146 rfl)) (notFace_of_selects (args := #[]) (mvT hZ (oW hw 148 rfl))) (mvT hZ (oW hw 148 rfl)) (mvT hZ (oW hw 147 rfl)) (by decide) (backOf (W := 1) (rmCo l Z a0 hw [] o0 zc h0 n0 O0 S_CS hzc F_coder_o0) hZ (oW hw 149 rfl) (oW hw 33 rfl) (by decide) (by decide)) q3a q3c (g := (mkF m 6 #[vR o0] [(.ref o0), (.int ln)])) rfl (by rw [hml]; rfl) (Steps.refl _) (argsL := []) (rest := [(.int ln)]) (lenOf pd_19 rfl) rfl (by show 2 * 0 + _ ≤ _; exact Nat.le_of_eq rfl) (hb hby d21_6) (fun _ _ => ⟨rfl, e1, (by decide : 0 + 0 ≤ _), (by decide : 0 + 0 ≤ _)⟩)
  dsimp only [Pt.U, Pt.locs, Pt.cells, Pt.slots] at X3 l3 y3 z3 st3 hQ3
  subst l3 y3 z3
  obtain ⟨rfl, N3q, e3⟩ := hQ3
  have N3 := Fr.app N0 N3q
  obtain ⟨fs, hr, hrun, hended, hW, hsame⟩ := X3.leave (v := some (.int ln)) (fun h => by rw [Bd.returns] at h; cases h)
  refine ⟨_, _, pre0 _ ?_, hrun, hended, _, _, rfl, ?_, ⟨_, rfl⟩, hW, hsame.mono (by decide) (by decide)⟩
  · show oS p e below s₁ m 0 #[vR o0] [] _
    refine XS.aloadN X0.here hx rfl (hb hby d21_0) rfl rfl ?_
    show oS p e below s₁ m 1 #[vR o0] [(.ref o0)] _
    refine st1 _ ?_
    show oS p e below T1 m 4 #[vR o0] [(.ref tA)] _
    refine X1.arraylength hx (by rw [e1]; exact Ar2.1) (State.isArrayOf_alike hZ.alike Ar2.2.1) (g := (mkF m 4 #[vR o0] [(.ref tA)])) rfl rfl (hb hby d21_4) _ ?_
    rw [len_of Sz2 Ng2]
    show oS p e below T1 m 5 #[vR o0] [(.int ln)] _
    refine XS.aloadN X1.here hx rfl (hb hby d21_5) rfl rfl ?_
    show oS p e below T1 m 6 #[vR o0] [(.ref o0), (.int ln)] _
    refine st3.trans ?_
    show oS p e below T3 m 9 #[vR o0] [(.int 0), (.int ln)] _
    refine XS.ishr X3.here hx rfl (hb hby d21_9) rfl ?_
    show oS p e below T3 m 10 #[vR o0] [(.int (ln >>> ((0 : Int32) &&& 31)))] _
    rw [own_shr0]
    show oS p e below T3 m 10 #[vR o0] [(.int ln)] _
    exact retI X3 hx Bd.returns (hb hby d21_10) hr
  · show own_Q (.int ln) h0 n0 _ T3.heap _
    rw [e3]
    exact ⟨rfl, N3, rfl⟩
theorem d26_0 : decode jdk_43_method_4_code 0 = .ok (.iload_n 0, 1) := by decide +kernel
theorem d26_1 : decode jdk_43_method_4_code 1 = .ok (.ifCond .lt 14, 3) := by decide +kernel
theorem d26_4 : decode jdk_43_method_4_code 4 = .ok (.iload_n 0, 1) := by decide +kernel
theorem d26_5 : decode jdk_43_method_4_code 5 = .ok (.sipush 255, 3) := by decide +kernel
theorem d26_8 : decode jdk_43_method_4_code 8 = .ok (.if_icmp .gt 7, 3) := by decide +kernel
theorem d26_11 : decode jdk_43_method_4_code 11 = .ok (.iconst 1, 1) := by decide +kernel
theorem d26_12 : decode jdk_43_method_4_code 12 = .ok (.goto 4, 3) := by decide +kernel
theorem d26_16 : decode jdk_43_method_4_code 16 = .ok (.ireturn, 1) := by decide +kernel
theorem ef_26 (m : MethodId) (x0 : Int32) : entryFrame m #[(.int x0)] 1 = mkF m 0 #[.val (.int x0)] [] := by first | (simp [entryFrame, mkF, argsToLocals, Value.category]; done) | rfl
theorem pn_26 : plainName "java/lang/StringLatin1" = true := by first | (simp [plainName, overriddenIn]; done) | decide +kernel
theorem rmCEI (l : Launch) (Z : State) (a0 : Array Value) (hw : HW a0 Z) (ws : List Jvm.Cond)  (h0 : Heap) (n0 : Nat) (O0 : Old Z n0 h0) :
    oM l Z mN38 jdk_43_method_4_code 1 (some .boolean) ws (rM 0 0 0 0) #[(.int 46)] h0 (own_Q (.int 1) h0 n0) := by
  refine MetFree.of_bodySF (plainFor_of_name pn_26) hisR ?_
  intro p e s m args below meth c s₁ Bd hml0 hP hK
  obtain ⟨rfl, hZ, hh⟩ := hP
  have hx := Bd.exec
  have hby := Bd.bytes
  have hml : c.maxLocals = 1 := hml0
  have hown : s.vm.findClass "java/lang/StringLatin1" = some m.cls := findClass_of_methodNamed Bd.named
  have X0 : Stand p l e (rM 0 0 0 0) s m #[(.int 46)] below meth c s₁ [] 0 0 := Stand.of_body Bd
  have e0 : s₁.heap = h0 := by rw [← hh, Bd.state]; rfl
  have N0 := Fr.nil n0
  have pre0 := fun t (k : oS p e below s₁ m 0 #[vI 46] [] t) => castTop (ef_26 m (46 : Int32)) k
  obtain ⟨fs, hr, hrun, hended, hW, hsame⟩ := X0.leave (v := some (.int 1)) (fun h => by rw [Bd.returns] at h; cases h)
  refine ⟨_, _, pre0 _ ?_, hrun, hended, _, _, rfl, ?_, ⟨_, rfl⟩, hW, hsame.mono (by decide) (by decide)⟩
  · show oS p e below s₁ m 0 #[vI 46] [] _
    refine XS.iloadN X0.here hx rfl (hb hby d26_0) rfl ?_
    refine XS.ifNo X0.here hx rfl (hb hby d26_1) rfl ((if0 _ _).trans (flt (by decide : ¬ ((46 : Int32) < (0 : Int32)))).1) ?_
    show oS p e below s₁ m 4 #[vI 46] [] _
    refine XS.iloadN X0.here hx rfl (hb hby d26_4) rfl ?_
    refine XS.sipush X0.here hx rfl (hb hby d26_5) ?_
    refine XS.icmpNo X0.here hx rfl (hb hby d26_8) rfl (flt (by decide : ¬ ((255 : Int32) < (46 : Int32)))).2.2.1 ?_
    show oS p e below s₁ m 11 #[vI 46] [] _
    refine XS.iconst X0.here hx rfl (hb hby d26_11) ?_
    refine XS.goto X0.here hx rfl (pc0 := 12) (pc' := 16) rfl (hb hby d26_12) (by decide) (by decide) ?_
    show oS p e below s₁ m 16 #[vI 46] [(.int 1)] _
    exact retN X0 hx (t := .boolean) Bd.returns (by simp) (hb hby d26_16) hr
  · show own_Q (.int 1) h0 n0 _ s₁.heap _
    rw [e0]
    exact ⟨rfl, N0, rfl⟩
theorem d25_0 : decode jdk_43_method_27_code 0 = .ok (.iload_n 1, 1) := by decide +kernel
theorem d25_1 : decode jdk_43_method_27_code 1 = .ok (.invokestatic 88, 3) := by decide +kernel
theorem pd_20 : parseMethodDescriptor "(I)Z" = some ⟨[.int], some .boolean⟩ := by decide +kernel
theorem d25_4 : decode jdk_43_method_27_code 4 = .ok (.ifCond .ne 5, 3) := by decide +kernel
theorem d25_9 : decode jdk_43_method_27_code 9 = .ok (.iload_n 2, 1) := by decide +kernel
theorem d25_10 : decode jdk_43_method_27_code 10 = .ok (.aload_n 0, 1) := by decide +kernel
theorem d25_11 : decode jdk_43_method_27_code 11 = .ok (.arraylength, 1) := by decide +kernel
theorem d25_12 : decode jdk_43_method_27_code 12 = .ok (.iconst 1, 1) := by decide +kernel
theorem d25_13 : decode jdk_43_method_27_code 13 = .ok (.isub, 1) := by decide +kernel
theorem d25_14 : decode jdk_43_method_27_code 14 = .ok (.invokestatic 38, 3) := by decide +kernel
theorem d25_17 : decode jdk_43_method_27_code 17 = .ok (.istore_n 3, 1) := by decide +kernel
theorem d25_18 : decode jdk_43_method_27_code 18 = .ok (.iload_n 3, 1) := by decide +kernel
theorem d25_19 : decode jdk_43_method_27_code 19 = .ok (.ifCond .lt 19, 3) := by decide +kernel
theorem d25_22 : decode jdk_43_method_27_code 22 = .ok (.aload_n 0, 1) := by decide +kernel
theorem d25_23 : decode jdk_43_method_27_code 23 = .ok (.iload_n 3, 1) := by decide +kernel
theorem d25_24 : decode jdk_43_method_27_code 24 = .ok (.baload, 1) := by decide +kernel
theorem d25_25 : decode jdk_43_method_27_code 25 = .ok (.iload_n 1, 1) := by decide +kernel
theorem d25_26 : decode jdk_43_method_27_code 26 = .ok (.i2b, 1) := by decide +kernel
theorem d25_27 : decode jdk_43_method_27_code 27 = .ok (.if_icmp .ne 5, 3) := by decide +kernel
theorem d25_32 : decode jdk_43_method_27_code 32 = .ok (.iinc 3 (-1), 3) := by decide +kernel
theorem d25_35 : decode jdk_43_method_27_code 35 = .ok (.goto (-17), 3) := by decide +kernel
theorem d25_30 : decode jdk_43_method_27_code 30 = .ok (.iload_n 3, 1) := by decide +kernel
theorem d25_31 : decode jdk_43_method_27_code 31 = .ok (.ireturn, 1) := by decide +kernel
theorem ef_25 (m : MethodId) (x0 : Addr) (x1 : Int32) (x2 : Int32) : entryFrame m #[(.ref x0), (.int x1), (.int x2)] 4 = mkF m 0 #[.val (.ref x0), .val (.int x1), .val (.int x2), .unset] [] := by first | (simp [entryFrame, mkF, argsToLocals, Value.category]; done) | rfl
theorem pn_25 : plainName "java/lang/StringLatin1" = true := by first | (simp [plainName, overriddenIn]; done) | decide +kernel
theorem rmLL3 (l : Launch) (Z : State) (a0 : Array Value) (hw : HW a0 Z) (ws : List Jvm.Cond) (o0 : Addr) (qb : Int32) (kA : ClassId) (h0 : Heap) (n0 : Nat) (O0 : Old Z n0 h0) (hqb : ¬ (qb = ((46 : Int32).toInt8.toInt32))) (V_o0 : Arv Z h0 o0 kA .byte (3 : Int32) [(.int 82), (.int 46), (.int qb)] (.int 0)) :
    oM l Z mN39 jdk_43_method_27_code 4 (some .int) ws (rM 1 0 0 13) #[(.ref o0), (.int 46), (.int 2)] h0 (own_Q (.int 1) h0 n0) := by
  refine MetFree.of_bodySF (plainFor_of_name pn_25) hisR ?_
  intro p e s m args below meth c s₁ Bd hml0 hP hK
  obtain ⟨rfl, hZ, hh⟩ := hP
  have hx := Bd.exec
  have hby := Bd.bytes
  have hml : c.maxLocals = 4 := hml0
  have hown : s.vm.findClass "java/lang/StringLatin1" = some m.cls := findClass_of_methodNamed Bd.named
  have X0 : Stand p l e (rM 1 0 0 13) s m #[(.ref o0), (.int 46), (.int 2)] below meth c s₁ [] 0 0 := Stand.of_body Bd
  have e0 : s₁.heap = h0 := by rw [← hh, Bd.state]; rfl
  have N0 := Fr.nil n0
  have pre0 := fun t (k : oS p e below s₁ m 0 #[vR o0, vI 46, vI 2, .unset] [] t) => castTop (ef_25 m o0 (46 : Int32) (2 : Int32)) k
  obtain ⟨_, _, ⟨T1, L1, k1, n1⟩, -, X1, ⟨Lc1, hQ1, l1, y1, z1⟩, st1⟩ := Jvm.LawKit.callS X0 hx (y := mN38) hown (mvT hZ (oW hw 163 rfl)) (mvT hZ (oW hw 164 rfl)) (mvT hZ (oW hw 38 rfl)) (mvT hZ (oW hw 165 rfl)) (by decide) (backOf (W := 0) (rmCEI l Z a0 hw []   h0 n0 O0 ) hZ (oW hw 165 rfl) (oW hw 38 rfl) (by decide) (by decide)) (g := (mkF m 1 #[vR o0, vI 46, vI 2, .unset] [(.int 46)])) rfl (by rw [hml]; rfl) (argsL := [(.int 46)]) (rest := []) (lenOf pd_20 rfl) rfl (by show 2 * 0 + _ ≤ _; exact Nat.le_of_eq rfl) (hb hby d25_1) (fun _ _ => ⟨rfl, e0, (by decide : 0 + 0 ≤ _), (by decide : 0 + 0 ≤ _)⟩)
  dsimp only [Pt.U, Pt.locs, Pt.cells, Pt.slots] at X1 l1 y1 z1 st1 hQ1
  subst l1 y1 z1
  obtain ⟨rfl, N1q, e1⟩ := hQ1
  have N1 := Fr.app N0 N1q
  obtain ⟨cl2, Ar2, qa2, Sz2, Ng2, Hs2, Ft2⟩ := V_o0
  have V2o : Arv Z h0 o0 kA .byte (3 : Int32) [(.int 82), (.int 46), (.int qb)] (.int 0) := ⟨cl2, Ar2, qa2, Sz2, Ng2, Hs2, Ft2⟩
  obtain ⟨_, _, ⟨T3, L3, k3, n3⟩, -, X3, ⟨Lc3, hQ3, l3, y3, z3⟩, st3⟩ := Jvm.LawKit.callS X1 hx (y := mN16) hown (mvT hZ (oW hw 166 rfl)) (mvT hZ (oW hw 167 rfl)) (mvT hZ (oW hw 81 rfl)) (mvT hZ (oW hw 168 rfl)) (by decide) (backOf (W := 0) (rmMinS l Z a0 hw [] (2 : Int32)  h0 n0 O0 ) hZ (oW hw 168 rfl) (oW hw 81 rfl) (by decide) (by decide)) (g := (mkF m 14 #[vR o0, vI 46, vI 2, .unset] [(.int 2), (.int 2)])) rfl (by rw [hml]; rfl) (argsL := [(.int 2), (.int 2)]) (rest := []) (lenOf pd_4 rfl) rfl (by show 2 * 0 + _ ≤ _; exact Nat.le_of_eq rfl) (hb hby d25_14) (fun _ _ => ⟨rfl, e1, (by decide : 0 + 0 ≤ _), (by decide : 0 + 0 ≤ _)⟩)
  dsimp only [Pt.U, Pt.locs, Pt.cells, Pt.slots] at X3 l3 y3 z3 st3 hQ3
  subst l3 y3 z3
  obtain ⟨rfl, N3q, e3⟩ := hQ3
  have N3 := Fr.app N1 N3q
  obtain ⟨cl4, Ar4, qa4, Sz4, Ng4, Hs4, Ft4⟩ := V2o
  have hin4 := (inb_of (j := (2 : Int32)) Sz4 ⟨by decide, by decide⟩)
  have hat4 := Hs4.at (v := (.int qb)) hin4 rfl
  have V4o : Arv Z h0 o0 kA .byte (3 : Int32) [(.int 82), (.int 46), (.int qb)] (.int 0) := ⟨cl4, Ar4, qa4, Sz4, Ng4, Hs4, Ft4⟩
  obtain ⟨cl5, Ar5, qa5, Sz5, Ng5, Hs5, Ft5⟩ := V4o
  have hin5 := (inb_of (j := (1 : Int32)) Sz5 ⟨by decide, by decide⟩)
  have hat5 := Hs5.at (v := (.int 46)) hin5 rfl
  have V5o : Arv Z h0 o0 kA .byte (3 : Int32) [(.int 82), (.int 46), (.int qb)] (.int 0) := ⟨cl5, Ar5, qa5, Sz5, Ng5, Hs5, Ft5⟩
  obtain ⟨fs, hr, hrun, hended, hW, hsame⟩ := X3.leave (v := some (.int 1)) (fun h => by rw [Bd.returns] at h; cases h)
  refine ⟨_, _, pre0 _ ?_, hrun, hended, _, _, rfl, ?_, ⟨_, rfl⟩, hW, hsame.mono (by decide) (by decide)⟩
  · show oS p e below s₁ m 0 #[vR o0, vI 46, vI 2, .unset] [] _
    refine XS.iloadN X0.here hx rfl (hb hby d25_0) rfl ?_
    show oS p e below s₁ m 1 #[vR o0, vI 46, vI 2, .unset] [(.int 46)] _
    refine st1 _ ?_
    show oS p e below T1 m 4 #[vR o0, vI 46, vI 2, .unset] [(.int 1)] _
    refine XS.ifYes X1.here hx rfl (pc0 := 4) (pc' := 9) rfl (hb hby d25_4) rfl ((if0 _ _).trans (feq (by decide : ¬ ((1 : Int32) = (0 : Int32)))).2) (by decide) (by decide) ?_
    show oS p e below T1 m 9 #[vR o0, vI 46, vI 2, .unset] [] _
    refine XS.iloadN X1.here hx rfl (hb hby d25_9) rfl ?_
    refine XS.aloadN X1.here hx rfl (hb hby d25_10) rfl rfl ?_
    show oS p e below T1 m 11 #[vR o0, vI 46, vI 2, .unset] [(.ref o0), (.int 2)] _
    refine X1.arraylength hx (by rw [e1]; exact Ar2.1) (State.isArrayOf_alike hZ.alike Ar2.2.1) (g := (mkF m 11 #[vR o0, vI 46, vI 2, .unset] [(.ref o0), (.int 2)])) rfl rfl (hb hby d25_11) _ ?_
    rw [len_of Sz2 Ng2]
    show oS p e below T1 m 12 #[vR o0, vI 46, vI 2, .unset] [(.int 3), (.int 2)] _
    refine XS.iconst X1.here hx rfl (hb hby d25_12) ?_
    refine XS.isub X1.here hx rfl (hb hby d25_13) rfl ?_
    show oS p e below T1 m 14 #[vR o0, vI 46, vI 2, .unset] [(.int 2), (.int 2)] _
    refine st3 _ ?_
    show oS p e below T3 m 17 #[vR o0, vI 46, vI 2, .unset] [(.int 2)] _
    refine XS.istoreN X3.here hx rfl (hb hby d25_17) rfl (l' := #[vR o0, vI 46, vI 2, vI 2]) rfl ?_
    show oS p e below T3 m 18 #[vR o0, vI 46, vI 2, vI 2] [] _
    refine XS.iloadN X3.here hx rfl (hb hby d25_18) rfl ?_
    refine XS.ifNo X3.here hx rfl (hb hby d25_19) rfl ((if0 _ _).trans (flt (by decide : ¬ ((2 : Int32) < (0 : Int32)))).1) ?_
    show oS p e below T3 m 22 #[vR o0, vI 46, vI 2, vI 2] [] _
    refine XS.aloadN X3.here hx rfl (hb hby d25_22) rfl rfl ?_
    refine XS.iloadN X3.here hx rfl (hb hby d25_23) rfl ?_
    show oS p e below T3 m 24 #[vR o0, vI 46, vI 2, vI 2] [(.int 2), (.ref o0)] _
    refine X3.baloadBytes hx (j := (2 : Int32)) (v := (.int qb)) (by rw [e3]; exact Ar4.1) (State.isArrayOf_alike hZ.alike Ar4.2.1) Ar4.2.2 hin4 hat4 (g := (mkF m 24 #[vR o0, vI 46, vI 2, vI 2] [(.int 2), (.ref o0)])) rfl rfl (hb hby d25_24) _ ?_
    show oS p e below T3 m 25 #[vR o0, vI 46, vI 2, vI 2] [(.int qb)] _
    refine XS.iloadN X3.here hx rfl (hb hby d25_25) rfl ?_
    refine XS.i2b X3.here hx rfl (hb hby d25_26) rfl ?_
    show oS p e below T3 m 27 #[vR o0, vI 46, vI 2, vI 2] [(.int ((46 : Int32).toInt8.toInt32)), (.int qb)] _
    refine XS.icmpYes X3.here hx rfl (pc0 := 27) (pc' := 32) rfl (hb hby d25_27) rfl (feq hqb).2 (by decide) (by decide) ?_
    show oS p e below T3 m 32 #[vR o0, vI 46, vI 2, vI 2] [] _
    refine XS.iinc X3.here hx rfl (hb hby d25_32) rfl (l' := #[vR o0, vI 46, vI 2, vI 1]) rfl ?_
    show oS p e below T3 m 35 #[vR o0, vI 46, vI 2, vI 1] [] _
    refine XS.goto X3.here hx rfl (pc0 := 35) (pc' := 18) rfl (hb hby d25_35) (by decide) (by decide) ?_
    show oS p e below T3 m 18 #[vR o0, vI 46, vI 2, vI 1] [] _
    refine XS.iloadN X3.here hx rfl (hb hby d25_18) rfl ?_
    refine XS.ifNo X3.here hx rfl (hb hby d25_19) rfl ((if0 _ _).trans (flt (by decide : ¬ ((1 : Int32) < (0 : Int32)))).1) ?_
    show oS p e below T3 m 22 #[vR o0, vI 46, vI 2, vI 1] [] _
    refine XS.aloadN X3.here hx rfl (hb hby d25_22) rfl rfl ?_
    refine XS.iloadN X3.here hx rfl (hb hby d25_23) rfl ?_
    show oS p e below T3 m 24 #[vR o0, vI 46, vI 2, vI 1] [(.int 1), (.ref o0)] _
    refine X3.baloadBytes hx (j := (1 : Int32)) (v := (.int 46)) (by rw [e3]; exact Ar5.1) (State.isArrayOf_alike hZ.alike Ar5.2.1) Ar5.2.2 hin5 hat5 (g := (mkF m 24 #[vR o0, vI 46, vI 2, vI 1] [(.int 1), (.ref o0)])) rfl rfl (hb hby d25_24) _ ?_
    show oS p e below T3 m 25 #[vR o0, vI 46, vI 2, vI 1] [(.int 46)] _
    refine XS.iloadN X3.here hx rfl (hb hby d25_25) rfl ?_
    refine XS.i2b X3.here hx rfl (hb hby d25_26) rfl ?_
    show oS p e below T3 m 27 #[vR o0, vI 46, vI 2, vI 1] [(.int ((46 : Int32).toInt8.toInt32)), (.int 46)] _
    refine XS.icmpNo X3.here hx rfl (hb hby d25_27) rfl (teq (by decide)).2 ?_
    show oS p e below T3 m 30 #[vR o0, vI 46, vI 2, vI 1] [] _
    refine XS.iloadN X3.here hx rfl (hb hby d25_30) rfl ?_
    show oS p e below T3 m 31 #[vR o0, vI 46, vI 2, vI 1] [(.int 1)] _
    exact retI X3 hx Bd.returns (hb hby d25_31) hr
  · show own_Q (.int 1) h0 n0 _ T3.heap _
    rw [e3]
    exact ⟨rfl, N3, rfl⟩
theorem d23_0 : decode jdk_42_method_83_code 0 = .ok (.aload_n 0, 1) := by decide +kernel
theorem d23_1 : decode jdk_42_method_83_code 1 = .ok (.invokevirtual 492, 3) := by decide +kernel
theorem d23_4 : decode jdk_42_method_83_code 4 = .ok (.ifCond .eq 15, 3) := by decide +kernel
theorem d23_7 : decode jdk_42_method_83_code 7 = .ok (.aload_n 0, 1) := by decide +kernel
theorem d23_8 : decode jdk_42_method_83_code 8 = .ok (.getfield 9, 3) := by decide +kernel
theorem d23_11 : decode jdk_42_method_83_code 11 = .ok (.iload_n 1, 1) := by decide +kernel
theorem d23_12 : decode jdk_42_method_83_code 12 = .ok (.iload_n 2, 1) := by decide +kernel
theorem d23_13 : decode jdk_42_method_83_code 13 = .ok (.invokestatic 644, 3) := by decide +kernel
theorem pd_21 : parseMethodDescriptor "([BII)I" = some ⟨[(.array .byte), .int, .int], some .int⟩ := by decide +kernel
theorem d23_16 : decode jdk_42_method_83_code 16 = .ok (.goto 12, 3) := by decide +kernel
theorem d23_28 : decode jdk_42_method_83_code 28 = .ok (.ireturn, 1) := by decide +kernel
theorem ef_23 (m : MethodId) (x0 : Addr) (x1 : Int32) (x2 : Int32) : entryFrame m #[(.ref x0), (.int x1), (.int x2)] 3 = mkF m 0 #[.val (.ref x0), .val (.int x1), .val (.int x2)] [] := by first | (simp [entryFrame, mkF, argsToLocals, Value.category]; done) | rfl
theorem pn_23 : plainName "java/lang/String" = true := by first | (simp [plainName, overriddenIn]; done) | decide +kernel
theorem rmLI2_3 (l : Launch) (Z : State) (a0 : Array Value) (hw : HW a0 Z) (ws : List Jvm.Cond) (o0 : Addr) (qb : Int32) (tA : Addr) (kA : ClassId) (zc : Int32) (h0 : Heap) (n0 : Nat) (O0 : Old Z n0 h0) (hqb : ¬ (qb = ((46 : Int32).toInt8.toInt32))) (E_o0 : Exa Z h0 o0 "java/lang/String") (F_value_o0 : Fld Z h0 o0 "java/lang/String" "value" "[B" (.ref tA)) (F_coder_o0 : Fld Z h0 o0 "java/lang/String" "coder" "B" (.int 0)) (V_tA : Arv Z h0 tA kA .byte (3 : Int32) [(.int 82), (.int 46), (.int qb)] (.int 0)) (S_CS : Sta Z Z.heap "java/lang/String" "COMPACT_STRINGS" "Z" (.int zc)) (hzc : ¬ zc = 0) :
    oM l Z mN40 jdk_42_method_83_code 3 (some .int) ws (rM 2 0 0 28) #[(.ref o0), (.int 46), (.int 2)] h0 (own_Q (.int 1) h0 n0) := by
  refine MetFree.of_bodySF (plainFor_of_name pn_23) hisR ?_
  intro p e s m args below meth c s₁ Bd hml0 hP hK
  obtain ⟨rfl, hZ, hh⟩ := hP
  have hx := Bd.exec
  have hby := Bd.bytes
  have hml : c.maxLocals = 3 := hml0
  have hown : s.vm.findClass "java/lang/String" = some m.cls := findClass_of_methodNamed Bd.named
  have X0 : Stand p l e (rM 2 0 0 28) s m #[(.ref o0), (.int 46), (.int 2)] below meth c s₁ [] 0 0 := Stand.of_body Bd
  have e0 : s₁.heap = h0 := by rw [← hh, Bd.state]; rfl
  have N0 := Fr.nil n0
  have pre0 := fun t (k : oS p e below s₁ m 0 #[vR o0, vI 46, vI 2] [] t) => castTop (ef_23 m o0 (46 : Int32) (2 : Int32)) k
  obtain ⟨cq1, kq1, q1a, q1b, q1c⟩ := isOf hZ e0 E_o0
  obtain ⟨_, _, ⟨T1, L1, k1, n1⟩, -, X1, ⟨Lc1, hQ1, l1, y1, z1⟩, st1⟩ := X0.virtualBack hx (y := mN35) (z := mN35) hown (mvT hZ (oW hw 155 rfl)) (mvT hZ (oW hw 156 rfl)) (notFace_of_selects (args := #[]) (mvT hZ (oW hw 158 rfl))) (mvT hZ (oW hw 158 rfl)) (mvT hZ (oW hw 157 rfl)) (by decide) (backOf (W := 0) (rmLa l Z a0 hw [] o0 zc h0 n0 O0 S_CS hzc F_coder_o0) hZ (oW hw 159 rfl) (oW hw 33 rfl) (by decide) (by decide)) q1a q1c (g := (mkF m 1 #[vR o0, vI 46, vI 2] [(.ref o0)])) rfl (by rw [hml]; rfl) (Steps.refl _) (argsL := []) (rest := []) (lenOf pd_15 rfl) rfl (by show 2 * 0 + _ ≤ _; exact Nat.le_of_eq rfl) (hb hby d23_1) (fun _ _ => ⟨rfl, e0, (by decide : 0 + 0 ≤ _), (by decide : 0 + 0 ≤ _)⟩)
  dsimp only [Pt.U, Pt.locs, Pt.cells, Pt.slots] at X1 l1 y1 z1 st1 hQ1
  subst l1 y1 z1
  obtain ⟨rfl, N1q, e1⟩ := hQ1
  have N1 := Fr.app N0 N1q
  obtain ⟨T2, X2, e2, st2⟩ := getF X1 hx hZ hown (host := "") (Or.inl (oW hw 51 rfl)) Via.refl e1 F_value_o0 (g := (mkF m 8 #[vR o0, vI 46, vI 2] [(.ref o0)])) rfl rfl (hb hby d23_8)
  obtain ⟨_, _, ⟨T3, L3, k3, n3⟩, -, X3, ⟨Lc3, hQ3, l3, y3, z3⟩, st3⟩ := Jvm.LawKit.callS X2 hx (y := mN39) hown (mvT hZ (oW hw 160 rfl)) (mvT hZ (oW hw 161 rfl)) (mvT hZ (oW hw 38 rfl)) (mvT hZ (oW hw 162 rfl)) (by decide) (backOf (W := 0) (rmLL3 l Z a0 hw [] tA qb kA h0 n0 O0 hqb V_tA) hZ (oW hw 162 rfl) (oW hw 38 rfl) (by decide) (by decide)) (g := (mkF m 13 #[vR o0, vI 46, vI 2] [(.int 2), (.int 46), (.ref tA)])) rfl (by rw [hml]; rfl) (argsL := [(.ref tA), (.int 46), (.int 2)]) (rest := []) (lenOf pd_21 rfl) rfl (by show 2 * 0 + _ ≤ _; exact Nat.le_of_eq rfl) (hb hby d23_13) (fun _ _ => ⟨rfl, e2, (by decide : 0 + 0 ≤ _), (by decide : 0 + 0 ≤ _)⟩)
  dsimp only [Pt.U, Pt.locs, Pt.cells, Pt.slots] at X3 l3 y3 z3 st3 hQ3
  subst l3 y3 z3
  obtain ⟨rfl, N3q, e3⟩ := hQ3
  have N3 := Fr.app N1 N3q
  obtain ⟨fs, hr, hrun, hended, hW, hsame⟩ := X3.leave (v := some (.int 1)) (fun h => by rw [Bd.returns] at h; cases h)
  refine ⟨_, _, pre0 _ ?_, hrun, hended, _, _, rfl, ?_, ⟨_, rfl⟩, hW, hsame.mono (by decide) (by decide)⟩
  · show oS p e below s₁ m 0 #[vR o0, vI 46, vI 2] [] _
    refine XS.aloadN X0.here hx rfl (hb hby d23_0) rfl rfl ?_
    show oS p e below s₁ m 1 #[vR o0, vI 46, vI 2] [(.ref o0)] _
    refine st1.trans ?_
    show oS p e below T1 m 4 #[vR o0, vI 46, vI 2] [(.int 1)] _
    refine XS.ifNo X1.here hx rfl (hb hby d23_4) rfl ((if0 _ _).trans (feq (by decide : ¬ ((1 : Int32) = (0 : Int32)))).1) ?_
    show oS p e below T1 m 7 #[vR o0, vI 46, vI 2] [] _
    refine XS.aloadN X1.here hx rfl (hb hby d23_7) rfl rfl ?_
    show oS p e below T1 m 8 #[vR o0, vI 46, vI 2] [(.ref o0)] _
    refine st2 _ ?_
    show oS p e below T2 m 11 #[vR o0, vI 46, vI 2] [(.ref tA)] _
    refine XS.iloadN X2.here hx rfl (hb hby d23_11) rfl ?_
    refine XS.iloadN X2.here hx rfl (hb hby d23_12) rfl ?_
    show oS p e below T2 m 13 #[vR o0, vI 46, vI 2] [(.int 2), (.int 46), (.ref tA)] _
    refine st3 _ ?_
    show oS p e below T3 m 16 #[vR o0, vI 46, vI 2] [(.int 1)] _
    refine XS.goto X3.here hx rfl (pc0 := 16) (pc' := 28) rfl (hb hby d23_16) (by decide) (by decide) ?_
    show oS p e below T3 m 28 #[vR o0, vI 46, vI 2] [(.int 1)] _
    exact retI X3 hx Bd.returns (hb hby d23_28) hr
  · show own_Q (.int 1) h0 n0 _ T3.heap _
    rw [e3]
    exact ⟨rfl, N3, rfl⟩
theorem d20_0 : decode jdk_42_method_82_code 0 = .ok (.aload_n 0, 1) := by decide +kernel
theorem d20_1 : decode jdk_42_method_82_code 1 = .ok (.iload_n 1, 1) := by decide +kernel
theorem d20_2 : decode jdk_42_method_82_code 2 = .ok (.aload_n 0, 1) := by decide +kernel
theorem d20_3 : decode jdk_42_method_82_code 3 = .ok (.invokevirtual 505, 3) := by decide +kernel
theorem pd_22 : parseMethodDescriptor "()I" = some ⟨[], some .int⟩ := by decide +kernel
theorem d20_6 : decode jdk_42_method_82_code 6 = .ok (.iconst 1, 1) := by decide +kernel
theorem d20_7 : decode jdk_42_method_82_code 7 = .ok (.isub, 1) := by decide +kernel
theorem d20_8 : decode jdk_42_method_82_code 8 = .ok (.invokevirtual 641, 3) := by decide +kernel
theorem d20_11 : decode jdk_42_method_82_code 11 = .ok (.ireturn, 1) := by decide +kernel
theorem ef_20 (m : MethodId) (x0 : Addr) (x1 : Int32) : entryFrame m #[(.ref x0), (.int x1)] 2 = mkF m 0 #[.val (.ref x0), .val (.int x1)] [] := by first | (simp [entryFrame, mkF, argsToLocals, Value.category]; done) | rfl
theorem pn_20 : plainName "java/lang/String" = true := by first | (simp [plainName, overriddenIn]; done) | decide +kernel
theorem rmLI3 (l : Launch) (Z : State) (a0 : Array Value) (hw : HW a0 Z) (ws : List Jvm.Cond) (o0 : Addr) (qb : Int32) (tA : Addr) (kA : ClassId) (zc : Int32) (h0 : Heap) (n0 : Nat) (O0 : Old Z n0 h0) (hqb : ¬ (qb = ((46 : Int32).toInt8.toInt32))) (E_o0 : Exa Z h0 o0 "java/lang/String") (F_value_o0 : Fld Z h0 o0 "java/lang/String" "value" "[B" (.ref tA)) (F_coder_o0 : Fld Z h0 o0 "java/lang/String" "coder" "B" (.int 0)) (V_tA : Arv Z h0 tA kA .byte (3 : Int32) [(.int 82), (.int 46), (.int qb)] (.int 0)) (S_CS : Sta Z Z.heap "java/lang/String" "COMPACT_STRINGS" "Z" (.int zc)) (hzc : ¬ zc = 0) :
    oM l Z mN41 jdk_42_method_82_code 2 (some .int) ws (rM 3 0 0 42) #[(.ref o0), (.int 46)] h0 (own_Q (.int 1) h0 n0) := by
  refine MetFree.of_bodySF (plainFor_of_name pn_20) hisR ?_
  intro p e s m args below meth c s₁ Bd hml0 hP hK
  obtain ⟨rfl, hZ, hh⟩ := hP
  have hx := Bd.exec
  have hby := Bd.bytes
  have hml : c.maxLocals = 2 := hml0
  have hown : s.vm.findClass "java/lang/String" = some m.cls := findClass_of_methodNamed Bd.named
  have X0 : Stand p l e (rM 3 0 0 42) s m #[(.ref o0), (.int 46)] below meth c s₁ [] 0 0 := Stand.of_body Bd
  have e0 : s₁.heap = h0 := by rw [← hh, Bd.state]; rfl
  have N0 := Fr.nil n0
  have pre0 := fun t (k : oS p e below s₁ m 0 #[vR o0, vI 46] [] t) => castTop (ef_20 m o0 (46 : Int32)) k
  obtain ⟨cq1, kq1, q1a, q1b, q1c⟩ := isOf hZ e0 E_o0
  obtain ⟨_, _, ⟨T1, L1, k1, n1⟩, -, X1, ⟨Lc1, hQ1, l1, y1, z1⟩, st1⟩ := X0.virtualBack hx (y := mN37) (z := mN37) hown (mvT hZ (oW hw 140 rfl)) (mvT hZ (oW hw 141 rfl)) (notFace_of_selects (args := #[]) (mvT hZ (oW hw 143 rfl))) (mvT hZ (oW hw 143 rfl)) (mvT hZ (oW hw 142 rfl)) (by decide) (backOf (W := 2) (rmLe l Z a0 hw [] o0 (3 : Int32) _ tA kA zc h0 n0 O0 E_o0 F_value_o0 F_coder_o0 V_tA S_CS hzc) hZ (oW hw 144 rfl) (oW hw 33 rfl) (by decide) (by decide)) q1a q1c (g := (mkF m 3 #[vR o0, vI 46] [(.ref o0), (.int 46), (.ref o0)])) rfl (by rw [hml]; rfl) (Steps.refl _) (argsL := []) (rest := [(.int 46), (.ref o0)]) (lenOf pd_22 rfl) rfl (by show 2 * 0 + _ ≤ _; exact Nat.le_of_eq rfl) (hb hby d20_3) (fun _ _ => ⟨rfl, e0, (by decide : 0 + 0 ≤ _), (by decide : 0 + 0 ≤ _)⟩)
  dsimp only [Pt.U, Pt.locs, Pt.cells, Pt.slots] at X1 l1 y1 z1 st1 hQ1
  subst l1 y1 z1
  obtain ⟨rfl, N1q, e1⟩ := hQ1
  have N1 := Fr.app N0 N1q
  obtain ⟨cq2, kq2, q2a, q2b, q2c⟩ := isOf hZ e1 E_o0
  obtain ⟨_, _, ⟨T2, L2, k2, n2⟩, -, X2, ⟨Lc2, hQ2, l2, y2, z2⟩, st2⟩ := X1.virtualBack hx (y := mN40) (z := mN40) hown (mvT hZ (oW hw 150 rfl)) (mvT hZ (oW hw 151 rfl)) (notFace_of_selects (args := #[]) (mvT hZ (oW hw 153 rfl))) (mvT hZ (oW hw 153 rfl)) (mvT hZ (oW hw 152 rfl)) (by decide) (backOf (W := 0) (rmLI2_3 l Z a0 hw [] o0 qb tA kA zc h0 n0 O0 hqb E_o0 F_value_o0 F_coder_o0 V_tA S_CS hzc) hZ (oW hw 154 rfl) (oW hw 33 rfl) (by decide) (by decide)) q2a q2c (g := (mkF m 8 #[vR o0, vI 46] [(.int 2), (.int 46), (.ref o0)])) rfl (by rw [hml]; rfl) (Steps.refl _) (argsL := [(.int 46), (.int 2)]) (rest := []) (lenOf pd_4 rfl) rfl (by show 2 * 0 + _ ≤ _; exact Nat.le_of_eq rfl) (hb hby d20_8) (fun _ _ => ⟨rfl, e1, (by decide : 0 + 0 ≤ _), (by decide : 0 + 0 ≤ _)⟩)
  dsimp only [Pt.U, Pt.locs, Pt.cells, Pt.slots] at X2 l2 y2 z2 st2 hQ2
  subst l2 y2 z2
  obtain ⟨rfl, N2q, e2⟩ := hQ2
  have N2 := Fr.app N1 N2q
  obtain ⟨fs, hr, hrun, hended, hW, hsame⟩ := X2.leave (v := some (.int 1)) (fun h => by rw [Bd.returns] at h; cases h)
  refine ⟨_, _, pre0 _ ?_, hrun, hended, _, _, rfl, ?_, ⟨_, rfl⟩, hW, hsame.mono (by decide) (by decide)⟩
  · show oS p e below s₁ m 0 #[vR o0, vI 46] [] _
    refine XS.aloadN X0.here hx rfl (hb hby d20_0) rfl rfl ?_
    refine XS.iloadN X0.here hx rfl (hb hby d20_1) rfl ?_
    refine XS.aloadN X0.here hx rfl (hb hby d20_2) rfl rfl ?_
    show oS p e below s₁ m 3 #[vR o0, vI 46] [(.ref o0), (.int 46), (.ref o0)] _
    refine st1.trans ?_
    show oS p e below T1 m 6 #[vR o0, vI 46] [(.int 3), (.int 46), (.ref o0)] _
    refine XS.iconst X1.here hx rfl (hb hby d20_6) ?_
    refine XS.isub X1.here hx rfl (hb hby d20_7) rfl ?_
    show oS p e below T1 m 8 #[vR o0, vI 46] [(.int 2), (.int 46), (.ref o0)] _
    refine st2.trans ?_
    show oS p e below T2 m 11 #[vR o0, vI 46] [(.int 1)] _
    exact retI X2 hx Bd.returns (hb hby d20_11) hr
  · show own_Q (.int 1) h0 n0 _ T2.heap _
    rw [e2]
    exact ⟨rfl, N2, rfl⟩
theorem rmLL6 (l : Launch) (Z : State) (a0 : Array Value) (hw : HW a0 Z) (ws : List Jvm.Cond) (o0 : Addr) (kA : ClassId) (h0 : Heap) (n0 : Nat) (O0 : Old Z n0 h0) (V_o0 : Arv Z h0 o0 kA .byte (6 : Int32) [(.int 82), (.int 46), (.int 98), (.int 91), (.int 120), (.int 93)] (.int 0)) :
    oM l Z mN39 jdk_43_method_27_code 4 (some .int) ws (rM 1 0 0 13) #[(.ref o0), (.int 46), (.int 5)] h0 (own_Q (.int 1) h0 n0) := by
  refine MetFree.of_bodySF (plainFor_of_name pn_25) hisR ?_
  intro p e s m args below meth c s₁ Bd hml0 hP hK
  obtain ⟨rfl, hZ, hh⟩ := hP
  have hx := Bd.exec
  have hby := Bd.bytes
  have hml : c.maxLocals = 4 := hml0
  have hown : s.vm.findClass "java/lang/StringLatin1" = some m.cls := findClass_of_methodNamed Bd.named
  have X0 : Stand p l e (rM 1 0 0 13) s m #[(.ref o0), (.int 46), (.int 5)] below meth c s₁ [] 0 0 := Stand.of_body Bd
  have e0 : s₁.heap = h0 := by rw [← hh, Bd.state]; rfl
  have N0 := Fr.nil n0
  have pre0 := fun t (k : oS p e below s₁ m 0 #[vR o0, vI 46, vI 5, .unset] [] t) => castTop (ef_25 m o0 (46 : Int32) (5 : Int32)) k
  obtain ⟨_, _, ⟨T1, L1, k1, n1⟩, -, X1, ⟨Lc1, hQ1, l1, y1, z1⟩, st1⟩ := Jvm.LawKit.callS X0 hx (y := mN38) hown (mvT hZ (oW hw 163 rfl)) (mvT hZ (oW hw 164 rfl)) (mvT hZ (oW hw 38 rfl)) (mvT hZ (oW hw 165 rfl)) (by decide) (backOf (W := 0) (rmCEI l Z a0 hw []   h0 n0 O0 ) hZ (oW hw 165 rfl) (oW hw 38 rfl) (by decide) (by decide)) (g := (mkF m 1 #[vR o0, vI 46, vI 5, .unset] [(.int 46)])) rfl (by rw [hml]; rfl) (argsL := [(.int 46)]) (rest := []) (lenOf pd_20 rfl) rfl (by show 2 * 0 + _ ≤ _; exact Nat.le_of_eq rfl) (hb hby d25_1) (fun _ _ => ⟨rfl, e0, (by decide : 0 + 0 ≤ _), (by decide : 0 + 0 ≤ _)⟩)
  dsimp only [Pt.U, Pt.locs, Pt.cells, Pt.slots] at X1 l1 y1 z1 st1 hQ1
  subst l1 y1 z1
  obtain ⟨rfl, N1q, e1⟩ := hQ1
  have N1 := Fr.app N0 N1q
  obtain ⟨cl2, Ar2, qa2, Sz2, Ng2, Hs2, Ft2⟩ := V_o0
  have V2o : Arv Z h0 o0 kA .byte (6 : Int32) [(.int 82), (.int 46), (.int 98), (.int 91), (.int 120), (.int 93)] (.int 0) := ⟨cl2, Ar2, qa2, Sz2, Ng2, Hs2, Ft2⟩
  obtain ⟨_, _, ⟨T3, L3, k3, n3⟩, -, X3, ⟨Lc3, hQ3, l3, y3, z3⟩, st3⟩ := Jvm.LawKit.callS X1 hx (y := mN16) hown (mvT hZ (oW hw 166 rfl)) (mvT hZ (oW hw 167 rfl)) (mvT hZ (oW hw 81 rfl)) (mvT hZ (oW hw 168 rfl)) (by decide) (backOf (W := 0) (rmMinS l Z a0 hw [] (5 : Int32)  h0 n0 O0 ) hZ (oW hw 168 rfl) (oW hw 81 rfl) (by decide) (by decide)) (g := (mkF m 14 #[vR o0, vI 46, vI 5, .unset] [(.int 5), (.int 5)])) rfl (by rw [hml]; rfl) (argsL := [(.int 5), (.int 5)]) (rest := []) (lenOf pd_4 rfl) rfl (by show 2 * 0 + _ ≤ _; exact Nat.le_of_eq rfl) (hb hby d25_14) (fun _ _ => ⟨rfl, e1, (by decide : 0 + 0 ≤ _), (by decide : 0 + 0 ≤ _)⟩)
  dsimp only [Pt.U, Pt.locs, Pt.cells, Pt.slots] at X3 l3 y3 z3 st3 hQ3
  subst l3 y3 z3
  obtain ⟨rfl, N3q, e3⟩ := hQ3
  have N3 := Fr.app N1 N3q
  obtain ⟨cl4, Ar4, qa4, Sz4, Ng4, Hs4, Ft4⟩ := V2o
  have hin4 := (inb_of (j := (5 : Int32)) Sz4 ⟨by decide, by decide⟩)
  have hat4 := Hs4.at (v := (.int 93)) hin4 rfl
  have V4o : Arv Z h0 o0 kA .byte (6 : Int32) [(.int 82), (.int 46), (.int 98), (.int 91), (.int 120), (.int 93)] (.int 0) := ⟨cl4, Ar4, qa4, Sz4, Ng4, Hs4, Ft4⟩
  obtain ⟨cl5, Ar5, qa5, Sz5, Ng5, Hs5, Ft5⟩ := V4o
  have hin5 := (inb_of (j := (4 : Int32)) Sz5 ⟨by decide, by decide⟩)
  have hat5 := Hs5.at (v := (.int 120)) hin5 rfl
  have V5o : Arv Z h0 o0 kA .byte (6 : Int32) [(.int 82), (.int 46), (.int 98), (.int 91), (.int 120), (.int 93)] (.int 0) := ⟨cl5, Ar5, qa5, Sz5, Ng5, Hs5, Ft5⟩
  obtain ⟨cl6, Ar6, qa6, Sz6, Ng6, Hs6, Ft6⟩ := V5o
  have hin6 := (inb_of (j := (3 : Int32)) Sz6 ⟨by decide, by decide⟩)
  have hat6 := Hs6.at (v := (.int 91)) hin6 rfl
  have V6o : Arv Z h0 o0 kA .byte (6 : Int32) [(.int 82), (.int 46), (.int 98), (.int 91), (.int 120), (.int 93)] (.int 0) := ⟨cl6, Ar6, qa6, Sz6, Ng6, Hs6, Ft6⟩
  obtain ⟨cl7, Ar7, qa7, Sz7, Ng7, Hs7, Ft7⟩ := V6o
  have hin7 := (inb_of (j := (2 : Int32)) Sz7 ⟨by decide, by decide⟩)
  have hat7 := Hs7.at (v := (.int 98)) hin7 rfl
  have V7o : Arv Z h0 o0 kA .byte (6 : Int32) [(.int 82), (.int 46), (.int 98), (.int 91), (.int 120), (.int 93)] (.int 0) := ⟨cl7, Ar7, qa7, Sz7, Ng7, Hs7, Ft7⟩
  obtain ⟨cl8, Ar8, qa8, Sz8, Ng8, Hs8, Ft8⟩ := V7o
  have hin8 := (inb_of (j := (1 : Int32)) Sz8 ⟨by decide, by decide⟩)
  have hat8 := Hs8.at (v := (.int 46)) hin8 rfl
  have V8o : Arv Z h0 o0 kA .byte (6 : Int32) [(.int 82), (.int 46), (.int 98), (.int 91), (.int 120), (.int 93)] (.int 0) := ⟨cl8, Ar8, qa8, Sz8, Ng8, Hs8, Ft8⟩
  obtain ⟨fs, hr, hrun, hended, hW, hsame⟩ := X3.leave (v := some (.int 1)) (fun h => by rw [Bd.returns] at h; cases h)
  refine ⟨_, _, pre0 _ ?_, hrun, hended, _, _, rfl, ?_, ⟨_, rfl⟩, hW, hsame.mono (by decide) (by decide)⟩
  · show oS p e below s₁ m 0 #[vR o0, vI 46, vI 5, .unset] [] _
    refine XS.iloadN X0.here hx rfl (hb hby d25_0) rfl ?_
    show oS p e below s₁ m 1 #[vR o0, vI 46, vI 5, .unset] [(.int 46)] _
    refine st1 _ ?_
    show oS p e below T1 m 4 #[vR o0, vI 46, vI 5, .unset] [(.int 1)] _
    refine XS.ifYes X1.here hx rfl (pc0 := 4) (pc' := 9) rfl (hb hby d25_4) rfl ((if0 _ _).trans (feq (by decide : ¬ ((1 : Int32) = (0 : Int32)))).2) (by decide) (by decide) ?_
    show oS p e below T1 m 9 #[vR o0, vI 46, vI 5, .unset] [] _
    refine XS.iloadN X1.here hx rfl (hb hby d25_9) rfl ?_
    refine XS.aloadN X1.here hx rfl (hb hby d25_10) rfl rfl ?_
    show oS p e below T1 m 11 #[vR o0, vI 46, vI 5, .unset] [(.ref o0), (.int 5)] _
    refine X1.arraylength hx (by rw [e1]; exact Ar2.1) (State.isArrayOf_alike hZ.alike Ar2.2.1) (g := (mkF m 11 #[vR o0, vI 46, vI 5, .unset] [(.ref o0), (.int 5)])) rfl rfl (hb hby d25_11) _ ?_
    rw [len_of Sz2 Ng2]
    show oS p e below T1 m 12 #[vR o0, vI 46, vI 5, .unset] [(.int 6), (.int 5)] _
    refine XS.iconst X1.here hx rfl (hb hby d25_12) ?_
    refine XS.isub X1.here hx rfl (hb hby d25_13) rfl ?_
    show oS p e below T1 m 14 #[vR o0, vI 46, vI 5, .unset] [(.int 5), (.int 5)] _
    refine st3 _ ?_
    show oS p e below T3 m 17 #[vR o0, vI 46, vI 5, .unset] [(.int 5)] _
    refine XS.istoreN X3.here hx rfl (hb hby d25_17) rfl (l' := #[vR o0, vI 46, vI 5, vI 5]) rfl ?_
    show oS p e below T3 m 18 #[vR o0, vI 46, vI 5, vI 5] [] _
    refine XS.iloadN X3.here hx rfl (hb hby d25_18) rfl ?_
    refine XS.ifNo X3.here hx rfl (hb hby d25_19) rfl ((if0 _ _).trans (flt (by decide : ¬ ((5 : Int32) < (0 : Int32)))).1) ?_
    show oS p e below T3 m 22 #[vR o0, vI 46, vI 5, vI 5] [] _
    refine XS.aloadN X3.here hx rfl (hb hby d25_22) rfl rfl ?_
    refine XS.iloadN X3.here hx rfl (hb hby d25_23) rfl ?_
    show oS p e below T3 m 24 #[vR o0, vI 46, vI 5, vI 5] [(.int 5), (.ref o0)] _
    refine X3.baloadBytes hx (j := (5 : Int32)) (v := (.int 93)) (by rw [e3]; exact Ar4.1) (State.isArrayOf_alike hZ.alike Ar4.2.1) Ar4.2.2 hin4 hat4 (g := (mkF m 24 #[vR o0, vI 46, vI 5, vI 5] [(.int 5), (.ref o0)])) rfl rfl (hb hby d25_24) _ ?_
    show oS p e below T3 m 25 #[vR o0, vI 46, vI 5, vI 5] [(.int 93)] _
    refine XS.iloadN X3.here hx rfl (hb hby d25_25) rfl ?_
    refine XS.i2b X3.here hx rfl (hb hby d25_26) rfl ?_
    show oS p e below T3 m 27 #[vR o0, vI 46, vI 5, vI 5] [(.int ((46 : Int32).toInt8.toInt32)), (.int 93)] _
    refine XS.icmpYes X3.here hx rfl (pc0 := 27) (pc' := 32) rfl (hb hby d25_27) rfl (feq (by decide)).2 (by decide) (by decide) ?_
    show oS p e below T3 m 32 #[vR o0, vI 46, vI 5, vI 5] [] _
    refine XS.iinc X3.here hx rfl (hb hby d25_32) rfl (l' := #[vR o0, vI 46, vI 5, vI 4]) rfl ?_
    show oS p e below T3 m 35 #[vR o0, vI 46, vI 5, vI 4] [] _
    refine XS.goto X3.here hx rfl (pc0 := 35) (pc' := 18) rfl (hb hby d25_35) (by decide) (by decide) ?_
    show oS p e below T3 m 18 #[vR o0, vI 46, vI 5, vI 4] [] _
    refine XS.iloadN X3.here hx rfl (hb hby d25_18) rfl ?_
    refine XS.ifNo X3.here hx rfl (hb hby d25_19) rfl ((if0 _ _).trans (flt (by decide : ¬ ((4 : Int32) < (0 : Int32)))).1) ?_
    show oS p e below T3 m 22 #[vR o0, vI 46, vI 5, vI 4] [] _
    refine XS.aloadN X3.here hx rfl (hb hby d25_22) rfl rfl ?_
    refine XS.iloadN X3.here hx rfl (hb hby d25_23) rfl ?_
    show oS p e below T3 m 24 #[vR o0, vI 46, vI 5, vI 4] [(.int 4), (.ref o0)] _
    refine X3.baloadBytes hx (j := (4 : Int32)) (v := (.int 120)) (by rw [e3]; exact Ar5.1) (State.isArrayOf_alike hZ.alike Ar5.2.1) Ar5.2.2 hin5 hat5 (g := (mkF m 24 #[vR o0, vI 46, vI 5, vI 4] [(.int 4), (.ref o0)])) rfl rfl (hb hby d25_24) _ ?_
    show oS p e below T3 m 25 #[vR o0, vI 46, vI 5, vI 4] [(.int 120)] _
    refine XS.iloadN X3.here hx rfl (hb hby d25_25) rfl ?_
    refine XS.i2b X3.here hx rfl (hb hby d25_26) rfl ?_
    show oS p e below T3 m 27 #[vR o0, vI 46, vI 5, vI 4] [(.int ((46 : Int32).toInt8.toInt32)), (.int 120)] _
    refine XS.icmpYes X3.here hx rfl (pc0 := 27) (pc' := 32) rfl (hb hby d25_27) rfl (feq (by decide)).2 (by decide) (by decide) ?_
    show oS p e below T3 m 32 #[vR o0, vI 46, vI 5, vI 4] [] _
    refine XS.iinc X3.here hx rfl (hb hby d25_32) rfl (l' := #[vR o0, vI 46, vI 5, vI 3]) rfl ?_
    show oS p e below T3 m 35 #[vR o0, vI 46, vI 5, vI 3] [] _
    refine XS.goto X3.here hx rfl (pc0 := 35) (pc' := 18) rfl (hb hby d25_35) (by decide) (by decide) ?_
    show oS p e below T3 m 18 #[vR o0, vI 46, vI 5, vI 3] [] _
    refine XS.iloadN X3.here hx rfl (hb hby d25_18) rfl ?_
    refine XS.ifNo X3.here hx rfl (hb hby d25_19) rfl ((if0 _ _).trans (flt (by decide : ¬ ((3 : Int32) < (0 : Int32)))).1) ?_
    show oS p e below T3 m 22 #[vR o0, vI 46, vI 5, vI 3] [] _
    refine XS.aloadN X3.here hx rfl (hb hby d25_22) rfl rfl ?_
    refine XS.iloadN X3.here hx rfl (hb hby d25_23) rfl ?_
    show oS p e below T3 m 24 #[vR o0, vI 46, vI 5, vI 3] [(.int 3), (.ref o0)] _
    refine X3.baloadBytes hx (j := (3 : Int32)) (v := (.int 91)) (by rw [e3]; exact Ar6.1) (State.isArrayOf_alike hZ.alike Ar6.2.1) Ar6.2.2 hin6 hat6 (g := (mkF m 24 #[vR o0, vI 46, vI 5, vI 3] [(.int 3), (.ref o0)])) rfl rfl (hb hby d25_24) _ ?_
    show oS p e below T3 m 25 #[vR o0, vI 46, vI 5, vI 3] [(.int 91)] _
    refine XS.iloadN X3.here hx rfl (hb hby d25_25) rfl ?_
    refine XS.i2b X3.here hx rfl (hb hby d25_26) rfl ?_
    show oS p e below T3 m 27 #[vR o0, vI 46, vI 5, vI 3] [(.int ((46 : Int32).toInt8.toInt32)), (.int 91)] _
    refine XS.icmpYes X3.here hx rfl (pc0 := 27) (pc' := 32) rfl (hb hby d25_27) rfl (feq (by decide)).2 (by decide) (by decide) ?_
    show oS p e below T3 m 32 #[vR o0, vI 46, vI 5, vI 3] [] _
    refine XS.iinc X3.here hx rfl (hb hby d25_32) rfl (l' := #[vR o0, vI 46, vI 5, vI 2]) rfl ?_
    show oS p e below T3 m 35 #[vR o0, vI 46, vI 5, vI 2] [] _
    refine XS.goto X3.here hx rfl (pc0 := 35) (pc' := 18) rfl (hb hby d25_35) (by decide) (by decide) ?_
    show oS p e below T3 m 18 #[vR o0, vI 46, vI 5, vI 2] [] _
    refine XS.iloadN X3.here hx rfl (hb hby d25_18) rfl ?_
    refine XS.ifNo X3.here hx rfl (hb hby d25_19) rfl ((if0 _ _).trans (flt (by decide : ¬ ((2 : Int32) < (0 : Int32)))).1) ?_
    show oS p e below T3 m 22 #[vR o0, vI 46, vI 5, vI 2] [] _
    refine XS.aloadN X3.here hx rfl (hb hby d25_22) rfl rfl ?_
    refine XS.iloadN X3.here hx rfl (hb hby d25_23) rfl ?_
    show oS p e below T3 m 24 #[vR o0, vI 46, vI 5, vI 2] [(.int 2), (.ref o0)] _
    refine X3.baloadBytes hx (j := (2 : Int32)) (v := (.int 98)) (by rw [e3]; exact Ar7.1) (State.isArrayOf_alike hZ.alike Ar7.2.1) Ar7.2.2 hin7 hat7 (g := (mkF m 24 #[vR o0, vI 46, vI 5, vI 2] [(.int 2), (.ref o0)])) rfl rfl (hb hby d25_24) _ ?_
    show oS p e below T3 m 25 #[vR o0, vI 46, vI 5, vI 2] [(.int 98)] _
    refine XS.iloadN X3.here hx rfl (hb hby d25_25) rfl ?_
    refine XS.i2b X3.here hx rfl (hb hby d25_26) rfl ?_
    show oS p e below T3 m 27 #[vR o0, vI 46, vI 5, vI 2] [(.int ((46 : Int32).toInt8.toInt32)), (.int 98)] _
    refine XS.icmpYes X3.here hx rfl (pc0 := 27) (pc' := 32) rfl (hb hby d25_27) rfl (feq (by decide)).2 (by decide) (by decide) ?_
    show oS p e below T3 m 32 #[vR o0, vI 46, vI 5, vI 2] [] _
    refine XS.iinc X3.here hx rfl (hb hby d25_32) rfl (l' := #[vR o0, vI 46, vI 5, vI 1]) rfl ?_
    show oS p e below T3 m 35 #[vR o0, vI 46, vI 5, vI 1] [] _
    refine XS.goto X3.here hx rfl (pc0 := 35) (pc' := 18) rfl (hb hby d25_35) (by decide) (by decide) ?_
    show oS p e below T3 m 18 #[vR o0, vI 46, vI 5, vI 1] [] _
    refine XS.iloadN X3.here hx rfl (hb hby d25_18) rfl ?_
    refine XS.ifNo X3.here hx rfl (hb hby d25_19) rfl ((if0 _ _).trans (flt (by decide : ¬ ((1 : Int32) < (0 : Int32)))).1) ?_
    show oS p e below T3 m 22 #[vR o0, vI 46, vI 5, vI 1] [] _
    refine XS.aloadN X3.here hx rfl (hb hby d25_22) rfl rfl ?_
    refine XS.iloadN X3.here hx rfl (hb hby d25_23) rfl ?_
    show oS p e below T3 m 24 #[vR o0, vI 46, vI 5, vI 1] [(.int 1), (.ref o0)] _
    refine X3.baloadBytes hx (j := (1 : Int32)) (v := (.int 46)) (by rw [e3]; exact Ar8.1) (State.isArrayOf_alike hZ.alike Ar8.2.1) Ar8.2.2 hin8 hat8 (g := (mkF m 24 #[vR o0, vI 46, vI 5, vI 1] [(.int 1), (.ref o0)])) rfl rfl (hb hby d25_24) _ ?_
    show oS p e below T3 m 25 #[vR o0, vI 46, vI 5, vI 1] [(.int 46)] _
    refine XS.iloadN X3.here hx rfl (hb hby d25_25) rfl ?_
    refine XS.i2b X3.here hx rfl (hb hby d25_26) rfl ?_
    show oS p e below T3 m 27 #[vR o0, vI 46, vI 5, vI 1] [(.int ((46 : Int32).toInt8.toInt32)), (.int 46)] _
    refine XS.icmpNo X3.here hx rfl (hb hby d25_27) rfl (teq (by decide)).2 ?_
    show oS p e below T3 m 30 #[vR o0, vI 46, vI 5, vI 1] [] _
    refine XS.iloadN X3.here hx rfl (hb hby d25_30) rfl ?_
    show oS p e below T3 m 31 #[vR o0, vI 46, vI 5, vI 1] [(.int 1)] _
    exact retI X3 hx Bd.returns (hb hby d25_31) hr
  · show own_Q (.int 1) h0 n0 _ T3.heap _
    rw [e3]
    exact ⟨rfl, N3, rfl⟩
theorem rmLI2_6 (l : Launch) (Z : State) (a0 : Array Value) (hw : HW a0 Z) (ws : List Jvm.Cond) (o0 : Addr) (tA : Addr) (kA : ClassId) (zc : Int32) (h0 : Heap) (n0 : Nat) (O0 : Old Z n0 h0) (E_o0 : Exa Z h0 o0 "java/lang/String") (F_value_o0 : Fld Z h0 o0 "java/lang/String" "value" "[B" (.ref tA)) (F_coder_o0 : Fld Z h0 o0 "java/lang/String" "coder" "B" (.int 0)) (V_tA : Arv Z h0 tA kA .byte (6 : Int32) [(.int 82), (.int 46), (.int 98), (.int 91), (.int 120), (.int 93)] (.int 0)) (S_CS : Sta Z Z.heap "java/lang/String" "COMPACT_STRINGS" "Z" (.int zc)) (hzc : ¬ zc = 0) :
    oM l Z mN40 jdk_42_method_83_code 3 (some .int) ws (rM 2 0 0 28) #[(.ref o0), (.int 46), (.int 5)] h0 (own_Q (.int 1) h0 n0) := by
  refine MetFree.of_bodySF (plainFor_of_name pn_23) hisR ?_
  intro p e s m args below meth c s₁ Bd hml0 hP hK
  obtain ⟨rfl, hZ, hh⟩ := hP
  have hx := Bd.exec
  have hby := Bd.bytes
  have hml : c.maxLocals = 3 := hml0
  have hown : s.vm.findClass "java/lang/String" = some m.cls := findClass_of_methodNamed Bd.named
  have X0 : Stand p l e (rM 2 0 0 28) s m #[(.ref o0), (.int 46), (.int 5)] below meth c s₁ [] 0 0 := Stand.of_body Bd
  have e0 : s₁.heap = h0 := by rw [← hh, Bd.state]; rfl
  have N0 := Fr.nil n0
  have pre0 := fun t (k : oS p e below s₁ m 0 #[vR o0, vI 46, vI 5] [] t) => castTop (ef_23 m o0 (46 : Int32) (5 : Int32)) k
  obtain ⟨cq1, kq1, q1a, q1b, q1c⟩ := isOf hZ e0 E_o0
  obtain ⟨_, _, ⟨T1, L1, k1, n1⟩, -, X1, ⟨Lc1, hQ1, l1, y1, z1⟩, st1⟩ := X0.virtualBack hx (y := mN35) (z := mN35) hown (mvT hZ (oW hw 155 rfl)) (mvT hZ (oW hw 156 rfl)) (notFace_of_selects (args := #[]) (mvT hZ (oW hw 158 rfl))) (mvT hZ (oW hw 158 rfl)) (mvT hZ (oW hw 157 rfl)) (by decide) (backOf (W := 0) (rmLa l Z a0 hw [] o0 zc h0 n0 O0 S_CS hzc F_coder_o0) hZ (oW hw 159 rfl) (oW hw 33 rfl) (by decide) (by decide)) q1a q1c (g := (mkF m 1 #[vR o0, vI 46, vI 5] [(.ref o0)])) rfl (by rw [hml]; rfl) (Steps.refl _) (argsL := []) (rest := []) (lenOf pd_15 rfl) rfl (by show 2 * 0 + _ ≤ _; exact Nat.le_of_eq rfl) (hb hby d23_1) (fun _ _ => ⟨rfl, e0, (by decide : 0 + 0 ≤ _), (by decide : 0 + 0 ≤ _)⟩)
  dsimp only [Pt.U, Pt.locs, Pt.cells, Pt.slots] at X1 l1 y1 z1 st1 hQ1
  subst l1 y1 z1
  obtain ⟨rfl, N1q, e1⟩ := hQ1
  have N1 := Fr.app N0 N1q
  obtain ⟨T2, X2, e2, st2⟩ := getF X1 hx hZ hown (host := "") (Or.inl (oW hw 51 rfl)) Via.refl e1 F_value_o0 (g := (mkF m 8 #[vR o0, vI 46, vI 5] [(.ref o0)])) rfl rfl (hb hby d23_8)
  obtain ⟨_, _, ⟨T3, L3, k3, n3⟩, -, X3, ⟨Lc3, hQ3, l3, y3, z3⟩, st3⟩ := Jvm.LawKit.callS X2 hx (y := mN39) hown (mvT hZ (oW hw 160 rfl)) (mvT hZ (oW hw 161 rfl)) (mvT hZ (oW hw 38 rfl)) (mvT hZ (oW hw 162 rfl)) (by decide) (backOf (W := 0) (rmLL6 l Z a0 hw [] tA  kA h0 n0 O0  V_tA) hZ (oW hw 162 rfl) (oW hw 38 rfl) (by decide) (by decide)) (g := (mkF m 13 #[vR o0, vI 46, vI 5] [(.int 5), (.int 46), (.ref tA)])) rfl (by rw [hml]; rfl) (argsL := [(.ref tA), (.int 46), (.int 5)]) (rest := []) (lenOf pd_21 rfl) rfl (by show 2 * 0 + _ ≤ _; exact Nat.le_of_eq rfl) (hb hby d23_13) (fun _ _ => ⟨rfl, e2, (by decide : 0 + 0 ≤ _), (by decide : 0 + 0 ≤ _)⟩)
  dsimp only [Pt.U, Pt.locs, Pt.cells, Pt.slots] at X3 l3 y3 z3 st3 hQ3
  subst l3 y3 z3
  obtain ⟨rfl, N3q, e3⟩ := hQ3
  have N3 := Fr.app N1 N3q
  obtain ⟨fs, hr, hrun, hended, hW, hsame⟩ := X3.leave (v := some (.int 1)) (fun h => by rw [Bd.returns] at h; cases h)
  refine ⟨_, _, pre0 _ ?_, hrun, hended, _, _, rfl, ?_, ⟨_, rfl⟩, hW, hsame.mono (by decide) (by decide)⟩
  · show oS p e below s₁ m 0 #[vR o0, vI 46, vI 5] [] _
    refine XS.aloadN X0.here hx rfl (hb hby d23_0) rfl rfl ?_
    show oS p e below s₁ m 1 #[vR o0, vI 46, vI 5] [(.ref o0)] _
    refine st1.trans ?_
    show oS p e below T1 m 4 #[vR o0, vI 46, vI 5] [(.int 1)] _
    refine XS.ifNo X1.here hx rfl (hb hby d23_4) rfl ((if0 _ _).trans (feq (by decide : ¬ ((1 : Int32) = (0 : Int32)))).1) ?_
    show oS p e below T1 m 7 #[vR o0, vI 46, vI 5] [] _
    refine XS.aloadN X1.here hx rfl (hb hby d23_7) rfl rfl ?_
    show oS p e below T1 m 8 #[vR o0, vI 46, vI 5] [(.ref o0)] _
    refine st2 _ ?_
    show oS p e below T2 m 11 #[vR o0, vI 46, vI 5] [(.ref tA)] _
    refine XS.iloadN X2.here hx rfl (hb hby d23_11) rfl ?_
    refine XS.iloadN X2.here hx rfl (hb hby d23_12) rfl ?_
    show oS p e below T2 m 13 #[vR o0, vI 46, vI 5] [(.int 5), (.int 46), (.ref tA)] _
    refine st3 _ ?_
    show oS p e below T3 m 16 #[vR o0, vI 46, vI 5] [(.int 1)] _
    refine XS.goto X3.here hx rfl (pc0 := 16) (pc' := 28) rfl (hb hby d23_16) (by decide) (by decide) ?_
    show oS p e below T3 m 28 #[vR o0, vI 46, vI 5] [(.int 1)] _
    exact retI X3 hx Bd.returns (hb hby d23_28) hr
  · show own_Q (.int 1) h0 n0 _ T3.heap _
    rw [e3]
    exact ⟨rfl, N3, rfl⟩
theorem rmLI6 (l : Launch) (Z : State) (a0 : Array Value) (hw : HW a0 Z) (ws : List Jvm.Cond) (o0 : Addr) (tA : Addr) (kA : ClassId) (zc : Int32) (h0 : Heap) (n0 : Nat) (O0 : Old Z n0 h0) (E_o0 : Exa Z h0 o0 "java/lang/String") (F_value_o0 : Fld Z h0 o0 "java/lang/String" "value" "[B" (.ref tA)) (F_coder_o0 : Fld Z h0 o0 "java/lang/String" "coder" "B" (.int 0)) (V_tA : Arv Z h0 tA kA .byte (6 : Int32) [(.int 82), (.int 46), (.int 98), (.int 91), (.int 120), (.int 93)] (.int 0)) (S_CS : Sta Z Z.heap "java/lang/String" "COMPACT_STRINGS" "Z" (.int zc)) (hzc : ¬ zc = 0) :
    oM l Z mN41 jdk_42_method_82_code 2 (some .int) ws (rM 3 0 0 42) #[(.ref o0), (.int 46)] h0 (own_Q (.int 1) h0 n0) := by
  refine MetFree.of_bodySF (plainFor_of_name pn_20) hisR ?_
  intro p e s m args below meth c s₁ Bd hml0 hP hK
  obtain ⟨rfl, hZ, hh⟩ := hP
  have hx := Bd.exec
  have hby := Bd.bytes
  have hml : c.maxLocals = 2 := hml0
  have hown : s.vm.findClass "java/lang/String" = some m.cls := findClass_of_methodNamed Bd.named
  have X0 : Stand p l e (rM 3 0 0 42) s m #[(.ref o0), (.int 46)] below meth c s₁ [] 0 0 := Stand.of_body Bd
  have e0 : s₁.heap = h0 := by rw [← hh, Bd.state]; rfl
  have N0 := Fr.nil n0
  have pre0 := fun t (k : oS p e below s₁ m 0 #[vR o0, vI 46] [] t) => castTop (ef_20 m o0 (46 : Int32)) k
  obtain ⟨cq1, kq1, q1a, q1b, q1c⟩ := isOf hZ e0 E_o0
  obtain ⟨_, _, ⟨T1, L1, k1, n1⟩, -, X1, ⟨Lc1, hQ1, l1, y1, z1⟩, st1⟩ := X0.virtualBack hx (y := mN37) (z := mN37) hown (mvT hZ (oW hw 140 rfl)) (mvT hZ (oW hw 141 rfl)) (notFace_of_selects (args := #[]) (mvT hZ (oW hw 143 rfl))) (mvT hZ (oW hw 143 rfl)) (mvT hZ (oW hw 142 rfl)) (by decide) (backOf (W := 2) (rmLe l Z a0 hw [] o0 (6 : Int32) _ tA kA zc h0 n0 O0 E_o0 F_value_o0 F_coder_o0 V_tA S_CS hzc) hZ (oW hw 144 rfl) (oW hw 33 rfl) (by decide) (by decide)) q1a q1c (g := (mkF m 3 #[vR o0, vI 46] [(.ref o0), (.int 46), (.ref o0)])) rfl (by rw [hml]; rfl) (Steps.refl _) (argsL := []) (rest := [(.int 46), (.ref o0)]) (lenOf pd_22 rfl) rfl (by show 2 * 0 + _ ≤ _; exact Nat.le_of_eq rfl) (hb hby d20_3) (fun _ _ => ⟨rfl, e0, (by decide : 0 + 0 ≤ _), (by decide : 0 + 0 ≤ _)⟩)
  dsimp only [Pt.U, Pt.locs, Pt.cells, Pt.slots] at X1 l1 y1 z1 st1 hQ1
  subst l1 y1 z1
  obtain ⟨rfl, N1q, e1⟩ := hQ1
  have N1 := Fr.app N0 N1q
  obtain ⟨cq2, kq2, q2a, q2b, q2c⟩ := isOf hZ e1 E_o0
  obtain ⟨_, _, ⟨T2, L2, k2, n2⟩, -, X2, ⟨Lc2, hQ2, l2, y2, z2⟩, st2⟩ := X1.virtualBack hx (y := mN40) (z := mN40) hown (mvT hZ (oW hw 150 rfl)) (mvT hZ (oW hw 151 rfl)) (notFace_of_selects (args := #[]) (mvT hZ (oW hw 153 rfl))) (mvT hZ (oW hw 153 rfl)) (mvT hZ (oW hw 152 rfl)) (by decide) (backOf (W := 0) (rmLI2_6 l Z a0 hw [] o0  tA kA zc h0 n0 O0  E_o0 F_value_o0 F_coder_o0 V_tA S_CS hzc) hZ (oW hw 154 rfl) (oW hw 33 rfl) (by decide) (by decide)) q2a q2c (g := (mkF m 8 #[vR o0, vI 46] [(.int 5), (.int 46), (.ref o0)])) rfl (by rw [hml]; rfl) (Steps.refl _) (argsL := [(.int 46), (.int 5)]) (rest := []) (lenOf pd_4 rfl) rfl (by show 2 * 0 + _ ≤ _; exact Nat.le_of_eq rfl) (hb hby d20_8) (fun _ _ => ⟨rfl, e1, (by decide : 0 + 0 ≤ _), (by decide : 0 + 0 ≤ _)⟩)
  dsimp only [Pt.U, Pt.locs, Pt.cells, Pt.slots] at X2 l2 y2 z2 st2 hQ2
  subst l2 y2 z2
  obtain ⟨rfl, N2q, e2⟩ := hQ2
  have N2 := Fr.app N1 N2q
  obtain ⟨fs, hr, hrun, hended, hW, hsame⟩ := X2.leave (v := some (.int 1)) (fun h => by rw [Bd.returns] at h; cases h)
  refine ⟨_, _, pre0 _ ?_, hrun, hended, _, _, rfl, ?_, ⟨_, rfl⟩, hW, hsame.mono (by decide) (by decide)⟩
  · show oS p e below s₁ m 0 #[vR o0, vI 46] [] _
    refine XS.aloadN X0.here hx rfl (hb hby d20_0) rfl rfl ?_
    refine XS.iloadN X0.here hx rfl (hb hby d20_1) rfl ?_
    refine XS.aloadN X0.here hx rfl (hb hby d20_2) rfl rfl ?_
    show oS p e below s₁ m 3 #[vR o0, vI 46] [(.ref o0), (.int 46), (.ref o0)] _
    refine st1.trans ?_
    show oS p e below T1 m 6 #[vR o0, vI 46] [(.int 6), (.int 46), (.ref o0)] _
    refine XS.iconst X1.here hx rfl (hb hby d20_6) ?_
    refine XS.isub X1.here hx rfl (hb hby d20_7) rfl ?_
    show oS p e below T1 m 8 #[vR o0, vI 46] [(.int 5), (.int 46), (.ref o0)] _
    refine st2.trans ?_
    show oS p e below T2 m 11 #[vR o0, vI 46] [(.int 1)] _
    exact retI X2 hx Bd.returns (hb hby d20_11) hr
  · show own_Q (.int 1) h0 n0 _ T2.heap _
    rw [e2]
    exact ⟨rfl, N2, rfl⟩
theorem d31_0 : decode jdk_41_method_12_code 0 = .ok (.iload_n 0, 1) := by decide +kernel
theorem d31_1 : decode jdk_41_method_12_code 1 = .ok (.ifCond .lt 13, 3) := by decide +kernel
theorem d31_4 : decode jdk_41_method_12_code 4 = .ok (.iload_n 0, 1) := by decide +kernel
theorem d31_5 : decode jdk_41_method_12_code 5 = .ok (.iload_n 1, 1) := by decide +kernel
theorem d31_6 : decode jdk_41_method_12_code 6 = .ok (.if_icmp .gt 8, 3) := by decide +kernel
theorem d31_9 : decode jdk_41_method_12_code 9 = .ok (.iload_n 1, 1) := by decide +kernel
theorem d31_10 : decode jdk_41_method_12_code 10 = .ok (.iload_n 2, 1) := by decide +kernel
theorem d31_11 : decode jdk_41_method_12_code 11 = .ok (.if_icmp .le 11, 3) := by decide +kernel
theorem d31_22 : decode jdk_41_method_12_code 22 = .ok (.iload_n 0, 1) := by decide +kernel
theorem d31_23 : decode jdk_41_method_12_code 23 = .ok (.ireturn, 1) := by decide +kernel
theorem ef_31_vvvn (m : MethodId) (x0 : Int32) (x1 : Int32) (x2 : Int32) : entryFrame m #[(.int x0), (.int x1), (.int x2), .null] 4 = mkF m 0 #[.val (.int x0), .val (.int x1), .val (.int x2), .val .null] [] := by first | (simp [entryFrame, mkF, argsToLocals, Value.category]; done) | rfl
theorem pn_31 : plainName "jdk/internal/util/Preconditions" = true := by first | (simp [plainName, overriddenIn]; done) | decide +kernel
theorem rmFTN (l : Launch) (Z : State) (a0 : Array Value) (hw : HW a0 Z) (ws : List Jvm.Cond) (p0 : Int32) (p1 : Int32) (p2 : Int32) (h0 : Heap) (n0 : Nat) (O0 : Old Z n0 h0) (hb0 : ¬ p0 < (0 : Int32)) (hb1 : ¬ p1 < p0) (hb2 : ¬ p2 < p1) :
    oM l Z mN42 jdk_41_method_12_code 4 (some .int) ws (rM 0 0 0 0) #[(.int p0), (.int p1), (.int p2), .null] h0 (own_Q (.int p0) h0 n0) := by
  refine MetFree.of_bodySF (plainFor_of_name pn_31) hisR ?_
  intro p e s m args below meth c s₁ Bd hml0 hP hK
  obtain ⟨rfl, hZ, hh⟩ := hP
  have hx := Bd.exec
  have hby := Bd.bytes
  have hml : c.maxLocals = 4 := hml0
  have hown : s.vm.findClass "jdk/internal/util/Preconditions" = some m.cls := findClass_of_methodNamed Bd.named
  have X0 : Stand p l e (rM 0 0 0 0) s m #[(.int p0), (.int p1), (.int p2), .null] below meth c s₁ [] 0 0 := Stand.of_body Bd
  have e0 : s₁.heap = h0 := by rw [← hh, Bd.state]; rfl
  have N0 := Fr.nil n0
  have pre0 := fun t (k : oS p e below s₁ m 0 #[vI p0, vI p1, vI p2, .val .null] [] t) => castTop (ef_31_vvvn m p0 p1 p2) k
  obtain ⟨fs, hr, hrun, hended, hW, hsame⟩ := X0.leave (v := some (.int p0)) (fun h => by rw [Bd.returns] at h; cases h)
  refine ⟨_, _, pre0 _ ?_, hrun, hended, _, _, rfl, ?_, ⟨_, rfl⟩, hW, hsame.mono (by decide) (by decide)⟩
  · show oS p e below s₁ m 0 #[vI p0, vI p1, vI p2, .val .null] [] _
    refine XS.iloadN X0.here hx rfl (hb hby d31_0) rfl ?_
    refine XS.ifNo X0.here hx rfl (hb hby d31_1) rfl ((if0 _ _).trans (flt hb0).1) ?_
    show oS p e below s₁ m 4 #[vI p0, vI p1, vI p2, .val .null] [] _
    refine XS.iloadN X0.here hx rfl (hb hby d31_4) rfl ?_
    refine XS.iloadN X0.here hx rfl (hb hby d31_5) rfl ?_
    refine XS.icmpNo X0.here hx rfl (hb hby d31_6) rfl (flt hb1).2.2.1 ?_
    show oS p e below s₁ m 9 #[vI p0, vI p1, vI p2, .val .null] [] _
    refine XS.iloadN X0.here hx rfl (hb hby d31_9) rfl ?_
    refine XS.iloadN X0.here hx rfl (hb hby d31_10) rfl ?_
    refine XS.icmpYes X0.here hx rfl (pc0 := 11) (pc' := 22) rfl (hb hby d31_11) rfl (flt hb2).2.2.2 (by decide) (by decide) ?_
    show oS p e below s₁ m 22 #[vI p0, vI p1, vI p2, .val .null] [] _
    refine XS.iloadN X0.here hx rfl (hb hby d31_22) rfl ?_
    show oS p e below s₁ m 23 #[vI p0, vI p1, vI p2, .val .null] [(.int p0)] _
    exact retI X0 hx Bd.returns (hb hby d31_23) hr
  · show own_Q (.int p0) h0 n0 _ s₁.heap _
    rw [e0]
    exact ⟨rfl, N0, rfl⟩
theorem d30_0 : decode jdk_42_method_158_code 0 = .ok (.iload_n 0, 1) := by decide +kernel
theorem d30_1 : decode jdk_42_method_158_code 1 = .ok (.iload_n 1, 1) := by decide +kernel
theorem d30_2 : decode jdk_42_method_158_code 2 = .ok (.iload_n 2, 1) := by decide +kernel
theorem d30_3 : decode jdk_42_method_158_code 3 = .ok (.getstatic 1053, 3) := by decide +kernel
theorem d30_6 : decode jdk_42_method_158_code 6 = .ok (.invokestatic 1062, 3) := by decide +kernel
theorem pd_23 : parseMethodDescriptor "(IIILjava/util/function/BiFunction;)I" = some ⟨[.int, .int, .int, (.object "java/util/function/BiFunction")], some .int⟩ := by decide +kernel
theorem d30_9 : decode jdk_42_method_158_code 9 = .ok (.pop, 1) := by decide +kernel
theorem d30_10 : decode jdk_42_method_158_code 10 = .ok (.return_, 1) := by decide +kernel
theorem ef_30 (m : MethodId) (x0 : Int32) (x1 : Int32) (x2 : Int32) : entryFrame m #[(.int x0), (.int x1), (.int x2)] 3 = mkF m 0 #[.val (.int x0), .val (.int x1), .val (.int x2)] [] := by first | (simp [entryFrame, mkF, argsToLocals, Value.category]; done) | rfl
theorem pn_30 : plainName "java/lang/String" = true := by first | (simp [plainName, overriddenIn]; done) | decide +kernel
theorem rmCBN (l : Launch) (Z : State) (a0 : Array Value) (hw : HW a0 Z) (ws : List Jvm.Cond) (p0 : Int32) (p1 : Int32) (p2 : Int32) (h0 : Heap) (n0 : Nat) (O0 : Old Z n0 h0) (S_SIOOBE_FORMATTER : Sta Z Z.heap "jdk/internal/util/Preconditions" "SIOOBE_FORMATTER" "Ljava/util/function/BiFunction;" .null) (hb0 : ¬ p0 < (0 : Int32)) (hb1 : ¬ p1 < p0) (hb2 : ¬ p2 < p1) :
    oM l Z mN43 jdk_42_method_158_code 3 none ws (rM 1 0 0 15) #[(.int p0), (.int p1), (.int p2)] h0 (own_Qn h0 n0) := by
  refine MetFree.of_bodySF (plainFor_of_name pn_30) hisR ?_
  intro p e s m args below meth c s₁ Bd hml0 hP hK
  obtain ⟨rfl, hZ, hh⟩ := hP
  have hx := Bd.exec
  have hby := Bd.bytes
  have hml : c.maxLocals = 3 := hml0
  have hown : s.vm.findClass "java/lang/String" = some m.cls := findClass_of_methodNamed Bd.named
  have X0 : Stand p l e (rM 1 0 0 15) s m #[(.int p0), (.int p1), (.int p2)] below meth c s₁ [] 0 0 := Stand.of_body Bd
  have e0 : s₁.heap = h0 := by rw [← hh, Bd.state]; rfl
  have N0 := Fr.nil n0
  have pre0 := fun t (k : oS p e below s₁ m 0 #[vI p0, vI p1, vI p2] [] t) => castTop (ef_30 m p0 p1 p2) k
  obtain ⟨T1, X1, e1, st1⟩ := getS2 X0 hx hZ hown (host := "") (Or.inl (oW hw 182 rfl)) Via.refl e0 (S_SIOOBE_FORMATTER.ext O0.2) (g := (mkF m 3 #[vI p0, vI p1, vI p2] [(.int p2), (.int p1), (.int p0)])) rfl (hb hby d30_3)
  obtain ⟨_, _, ⟨T2, L2, k2, n2⟩, -, X2, ⟨Lc2, hQ2, l2, y2, z2⟩, st2⟩ := Jvm.LawKit.callS X1 hx (y := mN42) hown (mvT hZ (oW hw 184 rfl)) (mvT hZ (oW hw 185 rfl)) (mvT hZ (oW hw 183 rfl)) (mvT hZ (oW hw 186 rfl)) (by decide) (backOf (W := 0) (rmFTN l Z a0 hw [] p0 p1 p2  h0 n0 O0 hb0 hb1 hb2) hZ (oW hw 186 rfl) (oW hw 183 rfl) (by decide) (by decide)) (g := (mkF m 6 #[vI p0, vI p1, vI p2] [.null, (.int p2), (.int p1), (.int p0)])) rfl (by rw [hml]; rfl) (argsL := [(.int p0), (.int p1), (.int p2), .null]) (rest := []) (lenOf pd_23 rfl) rfl (by show 2 * 0 + _ ≤ _; exact Nat.le_of_eq rfl) (hb hby d30_6) (fun _ _ => ⟨rfl, e1, (by decide : 0 + 0 ≤ _), (by decide : 0 + 0 ≤ _)⟩)
  dsimp only [Pt.U, Pt.locs, Pt.cells, Pt.slots] at X2 l2 y2 z2 st2 hQ2
  subst l2 y2 z2
  obtain ⟨rfl, N2q, e2⟩ := hQ2
  have N2 := Fr.app N0 N2q
  obtain ⟨fs, hr, hrun, hended, hW, hsame⟩ := X2.leave (v := none) (fun _ => rfl)
  refine ⟨_, _, pre0 _ ?_, hrun, hended, _, _, rfl, ?_, ⟨_, rfl⟩, hW, hsame.mono (by decide) (by decide)⟩
  · show oS p e below s₁ m 0 #[vI p0, vI p1, vI p2] [] _
    refine XS.iloadN X0.here hx rfl (hb hby d30_0) rfl ?_
    refine XS.iloadN X0.here hx rfl (hb hby d30_1) rfl ?_
    refine XS.iloadN X0.here hx rfl (hb hby d30_2) rfl ?_
    show oS p e below s₁ m 3 #[vI p0, vI p1, vI p2] [(.int p2), (.int p1), (.int p0)] _
    refine st1 _ ?_
    show oS p e below T1 m 6 #[vI p0, vI p1, vI p2] [.null, (.int p2), (.int p1), (.int p0)] _
    refine st2 _ ?_
    show oS p e below T2 m 9 #[vI p0, vI p1, vI p2] [(.int p0)] _
    refine XS.pop X2.here hx rfl (hb hby d30_9) rfl rfl ?_
    show oS p e below T2 m 10 #[vI p0, vI p1, vI p2] [] _
    exact X2.returnOut hx Bd.returns (hb hby d30_10) hr
  · show own_Qn h0 n0 _ T2.heap _
    rw [e2]
    exact ⟨rfl, N2, rfl⟩
theorem ef_31 (m : MethodId) (x0 : Int32) (x1 : Int32) (x2 : Int32) (x3 : Addr) : entryFrame m #[(.int x0), (.int x1), (.int x2), (.ref x3)] 4 = mkF m 0 #[.val (.int x0), .val (.int x1), .val (.int x2), .val (.ref x3)] [] := by first | (simp [entryFrame, mkF, argsToLocals, Value.category]; done) | rfl
theorem rmFTR (l : Launch) (Z : State) (a0 : Array Value) (hw : HW a0 Z) (ws : List Jvm.Cond) (p0 : Int32) (p1 : Int32) (p2 : Int32) (fa : Addr) (h0 : Heap) (n0 : Nat) (O0 : Old Z n0 h0) (hb0 : ¬ p0 < (0 : Int32)) (hb1 : ¬ p1 < p0) (hb2 : ¬ p2 < p1) :
    oM l Z mN42 jdk_41_method_12_code 4 (some .int) ws (rM 0 0 0 0) #[(.int p0), (.int p1), (.int p2), (.ref fa)] h0 (own_Q (.int p0) h0 n0) := by
  refine MetFree.of_bodySF (plainFor_of_name pn_31) hisR ?_
  intro p e s m args below meth c s₁ Bd hml0 hP hK
  obtain ⟨rfl, hZ, hh⟩ := hP
  have hx := Bd.exec
  have hby := Bd.bytes
  have hml : c.maxLocals = 4 := hml0
  have hown : s.vm.findClass "jdk/internal/util/Preconditions" = some m.cls := findClass_of_methodNamed Bd.named
  have X0 : Stand p l e (rM 0 0 0 0) s m #[(.int p0), (.int p1), (.int p2), (.ref fa)] below meth c s₁ [] 0 0 := Stand.of_body Bd
  have e0 : s₁.heap = h0 := by rw [← hh, Bd.state]; rfl
  have N0 := Fr.nil n0
  have pre0 := fun t (k : oS p e below s₁ m 0 #[vI p0, vI p1, vI p2, vR fa] [] t) => castTop (ef_31 m p0 p1 p2 fa) k
  obtain ⟨fs, hr, hrun, hended, hW, hsame⟩ := X0.leave (v := some (.int p0)) (fun h => by rw [Bd.returns] at h; cases h)
  refine ⟨_, _, pre0 _ ?_, hrun, hended, _, _, rfl, ?_, ⟨_, rfl⟩, hW, hsame.mono (by decide) (by decide)⟩
  · show oS p e below s₁ m 0 #[vI p0, vI p1, vI p2, vR fa] [] _
    refine XS.iloadN X0.here hx rfl (hb hby d31_0) rfl ?_
    refine XS.ifNo X0.here hx rfl (hb hby d31_1) rfl ((if0 _ _).trans (flt hb0).1) ?_
    show oS p e below s₁ m 4 #[vI p0, vI p1, vI p2, vR fa] [] _
    refine XS.iloadN X0.here hx rfl (hb hby d31_4) rfl ?_
    refine XS.iloadN X0.here hx rfl (hb hby d31_5) rfl ?_
    refine XS.icmpNo X0.here hx rfl (hb hby d31_6) rfl (flt hb1).2.2.1 ?_
    show oS p e below s₁ m 9 #[vI p0, vI p1, vI p2, vR fa] [] _
    refine XS.iloadN X0.here hx rfl (hb hby d31_9) rfl ?_
    refine XS.iloadN X0.here hx rfl (hb hby d31_10) rfl ?_
    refine XS.icmpYes X0.here hx rfl (pc0 := 11) (pc' := 22) rfl (hb hby d31_11) rfl (flt hb2).2.2.2 (by decide) (by decide) ?_
    show oS p e below s₁ m 22 #[vI p0, vI p1, vI p2, vR fa] [] _
    refine XS.iloadN X0.here hx rfl (hb hby d31_22) rfl ?_
    show oS p e below s₁ m 23 #[vI p0, vI p1, vI p2, vR fa] [(.int p0)] _
    exact retI X0 hx Bd.returns (hb hby d31_23) hr
  · show own_Q (.int p0) h0 n0 _ s₁.heap _
    rw [e0]
    exact ⟨rfl, N0, rfl⟩
theorem rmCBR (l : Launch) (Z : State) (a0 : Array Value) (hw : HW a0 Z) (ws : List Jvm.Cond) (p0 : Int32) (p1 : Int32) (p2 : Int32) (fa : Addr) (h0 : Heap) (n0 : Nat) (O0 : Old Z n0 h0) (S_SIOOBE_FORMATTER : Sta Z Z.heap "jdk/internal/util/Preconditions" "SIOOBE_FORMATTER" "Ljava/util/function/BiFunction;" (.ref fa)) (hb0 : ¬ p0 < (0 : Int32)) (hb1 : ¬ p1 < p0) (hb2 : ¬ p2 < p1) :
    oM l Z mN43 jdk_42_method_158_code 3 none ws (rM 1 0 0 15) #[(.int p0), (.int p1), (.int p2)] h0 (own_Qn h0 n0) := by
  refine MetFree.of_bodySF (plainFor_of_name pn_30) hisR ?_
  intro p e s m args below meth c s₁ Bd hml0 hP hK
  obtain ⟨rfl, hZ, hh⟩ := hP
  have hx := Bd.exec
  have hby := Bd.bytes
  have hml : c.maxLocals = 3 := hml0
  have hown : s.vm.findClass "java/lang/String" = some m.cls := findClass_of_methodNamed Bd.named
  have X0 : Stand p l e (rM 1 0 0 15) s m #[(.int p0), (.int p1), (.int p2)] below meth c s₁ [] 0 0 := Stand.of_body Bd
  have e0 : s₁.heap = h0 := by rw [← hh, Bd.state]; rfl
  have N0 := Fr.nil n0
  have pre0 := fun t (k : oS p e below s₁ m 0 #[vI p0, vI p1, vI p2] [] t) => castTop (ef_30 m p0 p1 p2) k
  obtain ⟨T1, X1, e1, st1⟩ := getS2 X0 hx hZ hown (host := "") (Or.inl (oW hw 182 rfl)) Via.refl e0 (S_SIOOBE_FORMATTER.ext O0.2) (g := (mkF m 3 #[vI p0, vI p1, vI p2] [(.int p2), (.int p1), (.int p0)])) rfl (hb hby d30_3)
  obtain ⟨_, _, ⟨T2, L2, k2, n2⟩, -, X2, ⟨Lc2, hQ2, l2, y2, z2⟩, st2⟩ := Jvm.LawKit.callS X1 hx (y := mN42) hown (mvT hZ (oW hw 184 rfl)) (mvT hZ (oW hw 185 rfl)) (mvT hZ (oW hw 183 rfl)) (mvT hZ (oW hw 186 rfl)) (by decide) (backOf (W := 0) (rmFTR l Z a0 hw [] p0 p1 p2 fa  h0 n0 O0 hb0 hb1 hb2) hZ (oW hw 186 rfl) (oW hw 183 rfl) (by decide) (by decide)) (g := (mkF m 6 #[vI p0, vI p1, vI p2] [(.ref fa), (.int p2), (.int p1), (.int p0)])) rfl (by rw [hml]; rfl) (argsL := [(.int p0), (.int p1), (.int p2), (.ref fa)]) (rest := []) (lenOf pd_23 rfl) rfl (by show 2 * 0 + _ ≤ _; exact Nat.le_of_eq rfl) (hb hby d30_6) (fun _ _ => ⟨rfl, e1, (by decide : 0 + 0 ≤ _), (by decide : 0 + 0 ≤ _)⟩)
  dsimp only [Pt.U, Pt.locs, Pt.cells, Pt.slots] at X2 l2 y2 z2 st2 hQ2
  subst l2 y2 z2
  obtain ⟨rfl, N2q, e2⟩ := hQ2
  have N2 := Fr.app N0 N2q
  obtain ⟨fs, hr, hrun, hended, hW, hsame⟩ := X2.leave (v := none) (fun _ => rfl)
  refine ⟨_, _, pre0 _ ?_, hrun, hended, _, _, rfl, ?_, ⟨_, rfl⟩, hW, hsame.mono (by decide) (by decide)⟩
  · show oS p e below s₁ m 0 #[vI p0, vI p1, vI p2] [] _
    refine XS.iloadN X0.here hx rfl (hb hby d30_0) rfl ?_
    refine XS.iloadN X0.here hx rfl (hb hby d30_1) rfl ?_
    refine XS.iloadN X0.here hx rfl (hb hby d30_2) rfl ?_
    show oS p e below s₁ m 3 #[vI p0, vI p1, vI p2] [(.int p2), (.int p1), (.int p0)] _
    refine st1 _ ?_
    show oS p e below T1 m 6 #[vI p0, vI p1, vI p2] [(.ref fa), (.int p2), (.int p1), (.int p0)] _
    refine st2 _ ?_
    show oS p e below T2 m 9 #[vI p0, vI p1, vI p2] [(.int p0)] _
    refine XS.pop X2.here hx rfl (hb hby d30_9) rfl rfl ?_
    show oS p e below T2 m 10 #[vI p0, vI p1, vI p2] [] _
    exact X2.returnOut hx Bd.returns (hb hby d30_10) hr
  · show own_Qn h0 n0 _ T2.heap _
    rw [e2]
    exact ⟨rfl, N2, rfl⟩
theorem rmCB (l : Launch) (Z : State) (a0 : Array Value) (hw : HW a0 Z) (ws : List Jvm.Cond) (p0 p1 p2 : Int32) (fm : Value) (h0 : Heap) (n0 : Nat) (O0 : Old Z n0 h0) (S_FM : Sta Z Z.heap "jdk/internal/util/Preconditions" "SIOOBE_FORMATTER" "Ljava/util/function/BiFunction;" fm) (hfm : fm.isRef = true) (hb0 : ¬ p0 < (0 : Int32)) (hb1 : ¬ p1 < p0) (hb2 : ¬ p2 < p1) : MetFree l mN43 (head1 (Jvm.Cond.code mN43 jdk_42_method_158_code 3 none :: ws) (rM 1 0 0 15)) (fun a U => a = #[(.int p0), (.int p1), (.int p2)] ∧ Z.Warmed39 U.vm ∧ U.heap = h0) (fun _ _ _ _ _ => True) (fun _ U o U' => ∃ v L, o = .returned v ∧ own_Qn h0 n0 v U'.heap L ∧ FrameEnd U o U' L (rM 1 0 0 15).cells (rM 1 0 0 15).slots) := by
  rcases ref_cases hfm with rfl | ⟨fa, rfl⟩
  · exact rmCBN l Z a0 hw ws p0 p1 p2 h0 n0 O0 S_FM hb0 hb1 hb2
  · exact rmCBR l Z a0 hw ws p0 p1 p2 fa h0 n0 O0 S_FM hb0 hb1 hb2
theorem d35_0 : decode jdk_65_method_131_code 0 = .ok (.iload_n 1, 1) := by decide +kernel
theorem d35_1 : decode jdk_65_method_131_code 1 = .ok (.iload_n 0, 1) := by decide +kernel
theorem d35_2 : decode jdk_65_method_131_code 2 = .ok (.if_icmp .ge 35, 3) := by decide +kernel
theorem d35_37 : decode jdk_65_method_131_code 37 = .ok (.return_, 1) := by decide +kernel
theorem ef_35 (m : MethodId) (x0 : Int32) (x1 : Int32) : entryFrame m #[(.int x0), (.int x1)] 2 = mkF m 0 #[.val (.int x0), .val (.int x1)] [] := by first | (simp [entryFrame, mkF, argsToLocals, Value.category]; done) | rfl
theorem pn_35 : plainName "java/util/Arrays" = true := by first | (simp [plainName, overriddenIn]; done) | decide +kernel
theorem rmCL (l : Launch) (Z : State) (a0 : Array Value) (hw : HW a0 Z) (ws : List Jvm.Cond) (p0 : Int32) (p1 : Int32) (h0 : Heap) (n0 : Nat) (O0 : Old Z n0 h0) (hle : ¬ p1 < p0) :
    oM l Z mN44 jdk_65_method_131_code 2 none ws (rM 0 0 0 0) #[(.int p0), (.int p1)] h0 (own_Qn h0 n0) := by
  refine MetFree.of_bodySF (plainFor_of_name pn_35) hisR ?_
  intro p e s m args below meth c s₁ Bd hml0 hP hK
  obtain ⟨rfl, hZ, hh⟩ := hP
  have hx := Bd.exec
  have hby := Bd.bytes
  have hml : c.maxLocals = 2 := hml0
  have hown : s.vm.findClass "java/util/Arrays" = some m.cls := findClass_of_methodNamed Bd.named
  have X0 : Stand p l e (rM 0 0 0 0) s m #[(.int p0), (.int p1)] below meth c s₁ [] 0 0 := Stand.of_body Bd
  have e0 : s₁.heap = h0 := by rw [← hh, Bd.state]; rfl
  have N0 := Fr.nil n0
  have pre0 := fun t (k : oS p e below s₁ m 0 #[vI p0, vI p1] [] t) => castTop (ef_35 m p0 p1) k
  obtain ⟨fs, hr, hrun, hended, hW, hsame⟩ := X0.leave (v := none) (fun _ => rfl)
  refine ⟨_, _, pre0 _ ?_, hrun, hended, _, _, rfl, ?_, ⟨_, rfl⟩, hW, hsame.mono (by decide) (by decide)⟩
  · show oS p e below s₁ m 0 #[vI p0, vI p1] [] _
    refine XS.iloadN X0.here hx rfl (hb hby d35_0) rfl ?_
    refine XS.iloadN X0.here hx rfl (hb hby d35_1) rfl ?_
    refine XS.icmpYes X0.here hx rfl (pc0 := 2) (pc' := 37) rfl (hb hby d35_2) rfl (flt hle).2.1 (by decide) (by decide) ?_
    show oS p e below s₁ m 37 #[vI p0, vI p1] [] _
    exact X0.returnOut hx Bd.returns (hb hby d35_37) hr
  · show own_Qn h0 n0 _ s₁.heap _
    rw [e0]
    exact ⟨rfl, N0, rfl⟩
def own_QRa (Z : State) (n : Int32) (vs : List Value) (h0 : Heap) (n0 : Nat) (v : Option Value) (h : Heap) (L : List Loc) : Prop := ∃ (b : Addr) (k : ClassId), v = some (.ref b) ∧ Fr n0 L ∧ Keep h0 h [] ∧ Arv Z h b k .byte n vs (.int 0) ∧ h0.size ≤ b
def own_QNS (Z : State) (n : Int32) (vs : List Value) (h0 : Heap) (n0 : Nat) (v : Option Value) (h : Heap) (L : List Loc) : Prop := ∃ (x t : Addr) (k : ClassId), v = some (.ref x) ∧ Fr n0 L ∧ Keep h0 h [] ∧ Exa Z h x "java/lang/String" ∧ Fld Z h x "java/lang/String" "value" "[B" (.ref t) ∧ Fld Z h x "java/lang/String" "coder" "B" (.int 0) ∧ Arv Z h t k .byte n vs (.int 0)
theorem d34_0 : decode jdk_65_method_133_code 0 = .ok (.iload_n 1, 1) := by decide +kernel
theorem d34_1 : decode jdk_65_method_133_code 1 = .ok (.iload_n 2, 1) := by decide +kernel
theorem d34_2 : decode jdk_65_method_133_code 2 = .ok (.invokestatic 343, 3) := by decide +kernel
theorem pd_24 : parseMethodDescriptor "(II)V" = some ⟨[.int, .int], none⟩ := by decide +kernel
theorem d34_5 : decode jdk_65_method_133_code 5 = .ok (.iload_n 2, 1) := by decide +kernel
theorem d34_6 : decode jdk_65_method_133_code 6 = .ok (.iload_n 1, 1) := by decide +kernel
theorem d34_7 : decode jdk_65_method_133_code 7 = .ok (.isub, 1) := by decide +kernel
theorem d34_8 : decode jdk_65_method_133_code 8 = .ok (.istore_n 3, 1) := by decide +kernel
theorem d34_9 : decode jdk_65_method_133_code 9 = .ok (.iload_n 3, 1) := by decide +kernel
theorem d34_10 : decode jdk_65_method_133_code 10 = .ok (.newarray .byte, 2) := by decide +kernel
theorem d34_12 : decode jdk_65_method_133_code 12 = .ok (.astore 4, 2) := by decide +kernel
theorem d34_14 : decode jdk_65_method_133_code 14 = .ok (.aload_n 0, 1) := by decide +kernel
theorem d34_15 : decode jdk_65_method_133_code 15 = .ok (.iload_n 1, 1) := by decide +kernel
theorem d34_16 : decode jdk_65_method_133_code 16 = .ok (.aload 4, 2) := by decide +kernel
theorem d34_18 : decode jdk_65_method_133_code 18 = .ok (.iconst 0, 1) := by decide +kernel
theorem d34_19 : decode jdk_65_method_133_code 19 = .ok (.aload_n 0, 1) := by decide +kernel
theorem d34_20 : decode jdk_65_method_133_code 20 = .ok (.arraylength, 1) := by decide +kernel
theorem d34_21 : decode jdk_65_method_133_code 21 = .ok (.iload_n 1, 1) := by decide +kernel
theorem d34_22 : decode jdk_65_method_133_code 22 = .ok (.isub, 1) := by decide +kernel
theorem d34_23 : decode jdk_65_method_133_code 23 = .ok (.iload_n 3, 1) := by decide +kernel
theorem d34_24 : decode jdk_65_method_133_code 24 = .ok (.invokestatic 304, 3) := by decide +kernel
theorem d34_27 : decode jdk_65_method_133_code 27 = .ok (.invokestatic 150, 3) := by decide +kernel
theorem d34_30 : decode jdk_65_method_133_code 30 = .ok (.aload 4, 2) := by decide +kernel
theorem d34_32 : decode jdk_65_method_133_code 32 = .ok (.areturn, 1) := by decide +kernel
theorem ef_34 (m : MethodId) (x0 : Addr) (x1 : Int32) (x2 : Int32) : entryFrame m #[(.ref x0), (.int x1), (.int x2)] 5 = mkF m 0 #[.val (.ref x0), .val (.int x1), .val (.int x2), .unset, .unset] [] := by first | (simp [entryFrame, mkF, argsToLocals, Value.category]; done) | rfl
theorem pn_34 : plainName "java/util/Arrays" = true := by first | (simp [plainName, overriddenIn]; done) | decide +kernel
theorem rmRB3 (l : Launch) (Z : State) (a0 : Array Value) (hw : HW a0 Z) (ws : List Jvm.Cond) (o0 : Addr) (qb : Int32) (kA : ClassId) (h0 : Heap) (n0 : Nat) (O0 : Old Z n0 h0) (V_o0 : Arv Z h0 o0 kA .byte (3 : Int32) [(.int 82), (.int 46), (.int qb)] (.int 0)) :
    oM l Z mN45 jdk_65_method_133_code 5 (some (.array .byte)) ws (rM 1 1 1 40) #[(.ref o0), (.int 2), (.int 3)] h0 (own_QRa Z (1 : Int32) [(.int qb)] h0 n0) := by
  refine MetFree.of_bodySF (plainFor_of_name pn_34) hisR ?_
  intro p e s m args below meth c s₁ Bd hml0 hP hK
  obtain ⟨rfl, hZ, hh⟩ := hP
  have hx := Bd.exec
  have hby := Bd.bytes
  have hml : c.maxLocals = 5 := hml0
  have hown : s.vm.findClass "java/util/Arrays" = some m.cls := findClass_of_methodNamed Bd.named
  have X0 : Stand p l e (rM 1 1 1 40) s m #[(.ref o0), (.int 2), (.int 3)] below meth c s₁ [] 0 0 := Stand.of_body Bd
  have e0 : s₁.heap = h0 := by rw [← hh, Bd.state]; rfl
  have N0 := Fr.nil n0
  have pre0 := fun t (k : oS p e below s₁ m 0 #[vR o0, vI 2, vI 3, .unset, .unset] [] t) => castTop (ef_34 m o0 (2 : Int32) (3 : Int32)) k
  obtain ⟨_, _, ⟨T1, L1, k1, n1⟩, -, X1, ⟨Lc1, hQ1, l1, y1, z1⟩, st1⟩ := Jvm.LawKit.callS X0 hx (y := mN44) hown (mvT hZ (oW hw 198 rfl)) (mvT hZ (oW hw 199 rfl)) (mvT hZ (oW hw 193 rfl)) (mvT hZ (oW hw 200 rfl)) (by decide) (backOf (W := 0) (rmCL l Z a0 hw [] (2 : Int32) (3 : Int32)  h0 n0 O0 (by decide)) hZ (oW hw 200 rfl) (oW hw 193 rfl) (by decide) (by decide)) (g := (mkF m 2 #[vR o0, vI 2, vI 3, .unset, .unset] [(.int 3), (.int 2)])) rfl (by rw [hml]; rfl) (argsL := [(.int 2), (.int 3)]) (rest := []) (lenOf pd_24 rfl) rfl (by show 2 * 0 + _ ≤ _; exact Nat.le_of_eq rfl) (hb hby d34_2) (fun _ _ => ⟨rfl, e0, (by decide : 0 + 0 ≤ _), (by decide : 0 + 0 ≤ _)⟩)
  dsimp only [Pt.U, Pt.locs, Pt.cells, Pt.slots] at X1 l1 y1 z1 st1 hQ1
  subst l1 y1 z1
  obtain ⟨rfl, N1q, e1⟩ := hQ1
  have N1 := Fr.app N0 N1q
  obtain ⟨T2, h2, k2, X2, e2, E2, A2, st2⟩ := newP X1 hx hZ (oW hw 45 rfl) e1 (g := (mkF m 10 #[vR o0, vI 2, vI 3, vI 1, .unset] [(.int 1)])) rfl (hb hby d34_10) rfl (by decide) (cap := 1) (by decide) (by decide) (by decide) (by decide)
  obtain ⟨b2, g2⟩ : ∃ z, z = h0.size := ⟨_, rfl⟩
  rw [← g2] at A2 st2
  have g_b2 : n0 ≤ b2 := Nat.le_trans (own_le O0) (Nat.le_of_eq g2.symm)
  have O2 := O0.ext E2
  have V_b2 : Arv Z h2 b2 k2 .byte (1 : Int32) [(.int 0)] (.int 0) := (Arv.new A2 (by decide)).pad (pad_rep [] (.int 0) 1)
  obtain ⟨cl3, Ar3, qa3, Sz3, Ng3, Hs3, Ft3⟩ := (V_o0.ext E2)
  have V3o : Arv Z h2 o0 kA .byte (3 : Int32) [(.int 82), (.int 46), (.int qb)] (.int 0) := ⟨cl3, Ar3, qa3, Sz3, Ng3, Hs3, Ft3⟩
  obtain ⟨_, _, ⟨T4, L4, k4, n4⟩, -, X4, ⟨Lc4, hQ4, l4, y4, z4⟩, st4⟩ := Jvm.LawKit.callS X2 hx (y := mN16) hown (mvT hZ (oW hw 201 rfl)) (mvT hZ (oW hw 167 rfl)) (mvT hZ (oW hw 81 rfl)) (mvT hZ (oW hw 168 rfl)) (by decide) (backOf (W := 4) (rmMinS l Z a0 hw [] (1 : Int32)  h2 n0 O2 ) hZ (oW hw 168 rfl) (oW hw 81 rfl) (by decide) (by decide)) (g := (mkF m 24 #[vR o0, vI 2, vI 3, vI 1, vR b2] [(.int 1), (.int 1), (.int 0), (.ref b2), (.int 2), (.ref o0)])) rfl (by rw [hml]; rfl) (argsL := [(.int 1), (.int 1)]) (rest := [(.int 0), (.ref b2), (.int 2), (.ref o0)]) (lenOf pd_4 rfl) rfl (by show 2 * 0 + _ ≤ _; exact Nat.le_of_eq rfl) (hb hby d34_24) (fun _ _ => ⟨rfl, e2, (by decide : 1 + 0 ≤ _), (by decide : 1 + 0 ≤ _)⟩)
  dsimp only [Pt.U, Pt.locs, Pt.cells, Pt.slots] at X4 l4 y4 z4 st4 hQ4
  subst l4 y4 z4
  obtain ⟨rfl, N4q, e4⟩ := hQ4
  have N4 := Fr.app N1 N4q
  obtain ⟨T5, h5, L5, X5, e5, N5, K5, Va5, st5⟩ := cpA X4 hx hZ hown (oW hw 202 rfl) (oW hw 205 rfl) (oW hw 203 rfl) (oW hw 204 rfl) e4 (sp := (2 : Int32)) (dp := (0 : Int32)) (nn := (1 : Int32)) (us := [(.int qb)]) V3o V_b2 (Or.inl ⟨rfl, rfl⟩) (by decide) (by decide) (by decide) (by decide) (by decide) rfl (by decide) N4 g_b2 (g := (mkF m 27 #[vR o0, vI 2, vI 3, vI 1, vR b2] [(.int 1), (.int 0), (.ref b2), (.int 2), (.ref o0)])) rfl (by rw [hml]; rfl) rfl (hb hby d34_27) (by decide) (W := 0) (by show 2 * 0 + _ ≤ _; exact Nat.le_of_eq rfl) (by decide)
  have O5 := O2.keep K5 (allS g_b2 all0)
  have Vc5 : Arv Z h5 b2 k2 .byte (1 : Int32) [(.int qb)] (.int 0) := Va5
  obtain ⟨fs, hr, hrun, hended, hW, hsame⟩ := X5.leave (v := some (.ref b2)) (fun h => by rw [Bd.returns] at h; cases h)
  refine ⟨_, _, pre0 _ ?_, hrun, hended, _, _, rfl, ?_, ⟨_, rfl⟩, hW, hsame.mono (by decide) (by decide)⟩
  · show oS p e below s₁ m 0 #[vR o0, vI 2, vI 3, .unset, .unset] [] _
    refine XS.iloadN X0.here hx rfl (hb hby d34_0) rfl ?_
    refine XS.iloadN X0.here hx rfl (hb hby d34_1) rfl ?_
    show oS p e below s₁ m 2 #[vR o0, vI 2, vI 3, .unset, .unset] [(.int 3), (.int 2)] _
    refine st1 _ ?_
    show oS p e below T1 m 5 #[vR o0, vI 2, vI 3, .unset, .unset] [] _
    refine XS.iloadN X1.here hx rfl (hb hby d34_5) rfl ?_
    refine XS.iloadN X1.here hx rfl (hb hby d34_6) rfl ?_
    refine XS.isub X1.here hx rfl (hb hby d34_7) rfl ?_
    show oS p e below T1 m 8 #[vR o0, vI 2, vI 3, .unset, .unset] [(.int 1)] _
    refine XS.istoreN X1.here hx rfl (hb hby d34_8) rfl (l' := #[vR o0, vI 2, vI 3, vI 1, .unset]) rfl ?_
    show oS p e below T1 m 9 #[vR o0, vI 2, vI 3, vI 1, .unset] [] _
    refine XS.iloadN X1.here hx rfl (hb hby d34_9) rfl ?_
    show oS p e below T1 m 10 #[vR o0, vI 2, vI 3, vI 1, .unset] [(.int 1)] _
    refine st2 _ ?_
    show oS p e below T2 m 12 #[vR o0, vI 2, vI 3, vI 1, .unset] [(.ref b2)] _
    refine XS.astore X2.here hx rfl (hb hby d34_12) rfl rfl (l' := #[vR o0, vI 2, vI 3, vI 1, vR b2]) rfl ?_
    show oS p e below T2 m 14 #[vR o0, vI 2, vI 3, vI 1, vR b2] [] _
    refine XS.aloadN X2.here hx rfl (hb hby d34_14) rfl rfl ?_
    refine XS.iloadN X2.here hx rfl (hb hby d34_15) rfl ?_
    refine XS.aload X2.here hx rfl (hb hby d34_16) rfl rfl ?_
    show oS p e below T2 m 18 #[vR o0, vI 2, vI 3, vI 1, vR b2] [(.ref b2), (.int 2), (.ref o0)] _
    refine XS.iconst X2.here hx rfl (hb hby d34_18) ?_
    refine XS.aloadN X2.here hx rfl (hb hby d34_19) rfl rfl ?_
    show oS p e below T2 m 20 #[vR o0, vI 2, vI 3, vI 1, vR b2] [(.ref o0), (.int 0), (.ref b2), (.int 2), (.ref o0)] _
    refine X2.arraylength hx (by rw [e2]; exact Ar3.1) (State.isArrayOf_alike hZ.alike Ar3.2.1) (g := (mkF m 20 #[vR o0, vI 2, vI 3, vI 1, vR b2] [(.ref o0), (.int 0), (.ref b2), (.int 2), (.ref o0)])) rfl rfl (hb hby d34_20) _ ?_
    rw [len_of Sz3 Ng3]
    show oS p e below T2 m 21 #[vR o0, vI 2, vI 3, vI 1, vR b2] [(.int 3), (.int 0), (.ref b2), (.int 2), (.ref o0)] _
    refine XS.iloadN X2.here hx rfl (hb hby d34_21) rfl ?_
    refine XS.isub X2.here hx rfl (hb hby d34_22) rfl ?_
    show oS p e below T2 m 23 #[vR o0, vI 2, vI 3, vI 1, vR b2] [(.int 1), (.int 0), (.ref b2), (.int 2), (.ref o0)] _
    refine XS.iloadN X2.here hx rfl (hb hby d34_23) rfl ?_
    show oS p e below T2 m 24 #[vR o0, vI 2, vI 3, vI 1, vR b2] [(.int 1), (.int 1), (.int 0), (.ref b2), (.int 2), (.ref o0)] _
    refine st4 _ ?_
    show oS p e below T4 m 27 #[vR o0, vI 2, vI 3, vI 1, vR b2] [(.int 1), (.int 0), (.ref b2), (.int 2), (.ref o0)] _
    refine st5 _ ?_
    show oS p e below T5 m 30 #[vR o0, vI 2, vI 3, vI 1, vR b2] [] _
    refine XS.aload X5.here hx rfl (hb hby d34_30) rfl rfl ?_
    show Steps p.tables e below (T5.setTop (mkF m 32 #[vR o0, vI 2, vI 3, vI 1, vR b2] [(.ref b2)])) _
    jvm_step X5.here [X5.here.top, hx, (hb hby d34_32), X5.method', Bd.returns, Value.isRef, FieldType.isReference]
    first | (intro acts; rw [hr _ acts rfl rfl rfl]) | rw [hr _ _ rfl rfl rfl]
    exact Steps.refl _
  · show own_QRa Z (1 : Int32) [(.int qb)] h0 n0 _ T5.heap _
    rw [e5]
    exact ⟨b2, k2, rfl, N5, (((Keep.refl h0 []).ext E2).trans K5 (allS (Or.inr (Nat.le_of_eq g2.symm)) all0)), Vc5, (Nat.le_of_eq g2.symm)⟩
theorem d33_0 : decode jdk_65_method_132_code 0 = .ok (.iload_n 1, 1) := by decide +kernel
theorem d33_1 : decode jdk_65_method_132_code 1 = .ok (.ifCond .ne 9, 3) := by decide +kernel
theorem d33_10 : decode jdk_65_method_132_code 10 = .ok (.aload_n 0, 1) := by decide +kernel
theorem d33_11 : decode jdk_65_method_132_code 11 = .ok (.iload_n 1, 1) := by decide +kernel
theorem d33_12 : decode jdk_65_method_132_code 12 = .ok (.iload_n 2, 1) := by decide +kernel
theorem d33_13 : decode jdk_65_method_132_code 13 = .ok (.invokestatic 339, 3) := by decide +kernel
theorem pd_25 : parseMethodDescriptor "([BII)[B" = some ⟨[(.array .byte), .int, .int], some (.array .byte)⟩ := by decide +kernel
theorem d33_16 : decode jdk_65_method_132_code 16 = .ok (.areturn, 1) := by decide +kernel
theorem ef_33 (m : MethodId) (x0 : Addr) (x1 : Int32) (x2 : Int32) : entryFrame m #[(.ref x0), (.int x1), (.int x2)] 3 = mkF m 0 #[.val (.ref x0), .val (.int x1), .val (.int x2)] [] := by first | (simp [entryFrame, mkF, argsToLocals, Value.category]; done) | rfl
theorem pn_33 : plainName "java/util/Arrays" = true := by first | (simp [plainName, overriddenIn]; done) | decide +kernel
theorem rmRa3 (l : Launch) (Z : State) (a0 : Array Value) (hw : HW a0 Z) (ws : List Jvm.Cond) (o0 : Addr) (qb : Int32) (kA : ClassId) (h0 : Heap) (n0 : Nat) (O0 : Old Z n0 h0) (V_o0 : Arv Z h0 o0 kA .byte (3 : Int32) [(.int 82), (.int 46), (.int qb)] (.int 0)) :
    oM l Z mN46 jdk_65_method_132_code 3 (some (.array .byte)) ws (rM 2 1 1 56) #[(.ref o0), (.int 2), (.int 3)] h0 (own_QRa Z (1 : Int32) [(.int qb)] h0 n0) := by
  refine MetFree.of_bodySF (plainFor_of_name pn_33) hisR ?_
  intro p e s m args below meth c s₁ Bd hml0 hP hK
  obtain ⟨rfl, hZ, hh⟩ := hP
  have hx := Bd.exec
  have hby := Bd.bytes
  have hml : c.maxLocals = 3 := hml0
  have hown : s.vm.findClass "java/util/Arrays" = some m.cls := findClass_of_methodNamed Bd.named
  have X0 : Stand p l e (rM 2 1 1 56) s m #[(.ref o0), (.int 2), (.int 3)] below meth c s₁ [] 0 0 := Stand.of_body Bd
  have e0 : s₁.heap = h0 := by rw [← hh, Bd.state]; rfl
  have N0 := Fr.nil n0
  have pre0 := fun t (k : oS p e below s₁ m 0 #[vR o0, vI 2, vI 3] [] t) => castTop (ef_33 m o0 (2 : Int32) (3 : Int32)) k
  obtain ⟨_, _, ⟨T1, L1, k1, n1⟩, -, X1, ⟨Lc1, hQ1, l1, y1, z1⟩, st1⟩ := Jvm.LawKit.callS X0 hx (y := mN45) hown (mvT hZ (oW hw 195 rfl)) (mvT hZ (oW hw 196 rfl)) (mvT hZ (oW hw 193 rfl)) (mvT hZ (oW hw 197 rfl)) (by decide) (backOf (W := 0) (rmRB3 l Z a0 hw [] o0 qb kA h0 n0 O0 V_o0) hZ (oW hw 197 rfl) (oW hw 193 rfl) (by decide) (by decide)) (g := (mkF m 13 #[vR o0, vI 2, vI 3] [(.int 3), (.int 2), (.ref o0)])) rfl (by rw [hml]; rfl) (argsL := [(.ref o0), (.int 2), (.int 3)]) (rest := []) (lenOf pd_25 rfl) rfl (by show 2 * 0 + _ ≤ _; exact Nat.le_of_eq rfl) (hb hby d33_13) (fun _ _ => ⟨rfl, e0, (by decide : 0 + 1 ≤ _), (by decide : 0 + 1 ≤ _)⟩)
  dsimp only [Pt.U, Pt.locs, Pt.cells, Pt.slots] at X1 l1 y1 z1 st1 hQ1
  subst l1 y1 z1
  obtain ⟨b1, k91, rfl, N1q, K1, Vb1, Sb1⟩ := hQ1
  have N1 := Fr.app N0 N1q
  have O1 := O0.keep K1 all0
  obtain ⟨fs, hr, hrun, hended, hW, hsame⟩ := X1.leave (v := some (.ref b1)) (fun h => by rw [Bd.returns] at h; cases h)
  refine ⟨_, _, pre0 _ ?_, hrun, hended, _, _, rfl, ?_, ⟨_, rfl⟩, hW, hsame.mono (by decide) (by decide)⟩
  · show oS p e below s₁ m 0 #[vR o0, vI 2, vI 3] [] _
    refine XS.iloadN X0.here hx rfl (hb hby d33_0) rfl ?_
    refine XS.ifYes X0.here hx rfl (pc0 := 1) (pc' := 10) rfl (hb hby d33_1) rfl ((if0 _ _).trans (feq (by decide : ¬ ((2 : Int32) = (0 : Int32)))).2) (by decide) (by decide) ?_
    show oS p e below s₁ m 10 #[vR o0, vI 2, vI 3] [] _
    refine XS.aloadN X0.here hx rfl (hb hby d33_10) rfl rfl ?_
    refine XS.iloadN X0.here hx rfl (hb hby d33_11) rfl ?_
    refine XS.iloadN X0.here hx rfl (hb hby d33_12) rfl ?_
    show oS p e below s₁ m 13 #[vR o0, vI 2, vI 3] [(.int 3), (.int 2), (.ref o0)] _
    refine st1 _ ?_
    show Steps p.tables e below (T1.setTop (mkF m 16 #[vR o0, vI 2, vI 3] [(.ref b1)])) _
    jvm_step X1.here [X1.here.top, hx, (hb hby d33_16), X1.method', Bd.returns, Value.isRef, FieldType.isReference]
    first | (intro acts; rw [hr _ acts rfl rfl rfl]) | rw [hr _ _ rfl rfl rfl]
    exact Steps.refl _
  · show own_QRa Z (1 : Int32) [(.int qb)] h0 n0 _ T1.heap _
    exact ⟨b1, k91, rfl, N1, ((Keep.refl h0 []).trans K1 all0), Vb1, Sb1⟩
theorem d32_0 : decode jdk_43_method_47_code 0 = .ok (.iload_n 2, 1) := by decide +kernel
theorem d32_1 : decode jdk_43_method_47_code 1 = .ok (.ifCond .ne 6, 3) := by decide +kernel
theorem d32_7 : decode jdk_43_method_47_code 7 = .ok (.new 1, 3) := by decide +kernel
theorem d32_10 : decode jdk_43_method_47_code 10 = .ok (.dup, 1) := by decide +kernel
theorem d32_11 : decode jdk_43_method_47_code 11 = .ok (.aload_n 0, 1) := by decide +kernel
theorem d32_12 : decode jdk_43_method_47_code 12 = .ok (.iload_n 1, 1) := by decide +kernel
theorem d32_13 : decode jdk_43_method_47_code 13 = .ok (.iload_n 1, 1) := by decide +kernel
theorem d32_14 : decode jdk_43_method_47_code 14 = .ok (.iload_n 2, 1) := by decide +kernel
theorem d32_15 : decode jdk_43_method_47_code 15 = .ok (.iadd, 1) := by decide +kernel
theorem d32_16 : decode jdk_43_method_47_code 16 = .ok (.invokestatic 232, 3) := by decide +kernel
theorem d32_19 : decode jdk_43_method_47_code 19 = .ok (.iconst 0, 1) := by decide +kernel
theorem d32_20 : decode jdk_43_method_47_code 20 = .ok (.invokespecial 112, 3) := by decide +kernel
theorem d32_23 : decode jdk_43_method_47_code 23 = .ok (.areturn, 1) := by decide +kernel
theorem ef_32 (m : MethodId) (x0 : Addr) (x1 : Int32) (x2 : Int32) : entryFrame m #[(.ref x0), (.int x1), (.int x2)] 3 = mkF m 0 #[.val (.ref x0), .val (.int x1), .val (.int x2)] [] := by first | (simp [entryFrame, mkF, argsToLocals, Value.category]; done) | rfl
theorem pn_32 : plainName "java/lang/StringLatin1" = true := by first | (simp [plainName, overriddenIn]; done) | decide +kernel
theorem rmNS3 (l : Launch) (Z : State) (a0 : Array Value) (hw : HW a0 Z) (ws : List Jvm.Cond) (o0 : Addr) (qb : Int32) (kA : ClassId) (h0 : Heap) (n0 : Nat) (O0 : Old Z n0 h0) (V_o0 : Arv Z h0 o0 kA .byte (3 : Int32) [(.int 82), (.int 46), (.int qb)] (.int 0)) :
    oM l Z mN47 jdk_43_method_47_code 3 (some (.object "java/lang/String")) ws (rM 3 2 5 72) #[(.ref o0), (.int 2), (.int 1)] h0 (own_QNS Z (1 : Int32) [(.int qb)] h0 n0) := by
  refine MetFree.of_bodySF (plainFor_of_name pn_32) hisR ?_
  intro p e s m args below meth c s₁ Bd hml0 hP hK
  obtain ⟨rfl, hZ, hh⟩ := hP
  have hx := Bd.exec
  have hby := Bd.bytes
  have hml : c.maxLocals = 3 := hml0
  have hown : s.vm.findClass "java/lang/StringLatin1" = some m.cls := findClass_of_methodNamed Bd.named
  have X0 : Stand p l e (rM 3 2 5 72) s m #[(.ref o0), (.int 2), (.int 1)] below meth c s₁ [] 0 0 := Stand.of_body Bd
  have e0 : s₁.heap = h0 := by rw [← hh, Bd.state]; rfl
  have N0 := Fr.nil n0
  have pre0 := fun t (k : oS p e below s₁ m 0 #[vR o0, vI 2, vI 1] [] t) => castTop (ef_32 m o0 (2 : Int32) (1 : Int32)) k
  obtain ⟨T1, h1, X1, e1, E1, A1, D1, U1, st1⟩ := newO X0 hx hZ hown (oW hw 190 rfl) (oW hw 41 rfl) (oW hw 33 rfl) e0 (g := (mkF m 7 #[vR o0, vI 2, vI 1] [])) rfl (hb hby d32_7) (by decide) (by decide)
  obtain ⟨b1, g1⟩ : ∃ z, z = h0.size := ⟨_, rfl⟩
  rw [← g1] at A1 D1 U1 st1
  have Ut1 : Unt h1 b1 := U1
  have g_b1 : n0 ≤ b1 := Nat.le_trans (own_le O0) (Nat.le_of_eq g1.symm)
  have O1 := O0.ext E1
  have F_value_b1 : Fld Z h1 b1 "java/lang/String" "value" "[B" .null := D1 (Or.inr (oW hw 52 rfl)) (ty := (.array .byte)) (by decide)
  have F_coder_b1 : Fld Z h1 b1 "java/lang/String" "coder" "B" (.int 0) := D1 (Or.inr (oW hw 54 rfl)) (ty := .byte) (by decide)
  obtain ⟨_, _, ⟨T2, L2, k2, n2⟩, -, X2, ⟨Lc2, hQ2, l2, y2, z2⟩, st2⟩ := Jvm.LawKit.callS X1 hx (y := mN46) hown (mvT hZ (oW hw 191 rfl)) (mvT hZ (oW hw 192 rfl)) (mvT hZ (oW hw 193 rfl)) (mvT hZ (oW hw 194 rfl)) (by decide) (backOf (W := 2) (rmRa3 l Z a0 hw [] o0 qb kA h1 n0 O1 (V_o0.ext E1)) hZ (oW hw 194 rfl) (oW hw 193 rfl) (by decide) (by decide)) (g := (mkF m 16 #[vR o0, vI 2, vI 1] [(.int 3), (.int 2), (.ref o0), (.ref b1), (.ref b1)])) rfl (by rw [hml]; rfl) (argsL := [(.ref o0), (.int 2), (.int 3)]) (rest := [(.ref b1), (.ref b1)]) (lenOf pd_25 rfl) rfl (by show 2 * 0 + _ ≤ _; exact Nat.le_of_eq rfl) (hb hby d32_16) (fun _ _ => ⟨rfl, e1, (by decide : 1 + 1 ≤ _), (by decide : 4 + 1 ≤ _)⟩)
  dsimp only [Pt.U, Pt.locs, Pt.cells, Pt.slots] at X2 l2 y2 z2 st2 hQ2
  subst l2 y2 z2
  obtain ⟨b2, k92, rfl, N2q, K2, Vb2, Sb2⟩ := hQ2
  have N2 := Fr.app N0 N2q
  have O2 := O1.keep K2 all0
  obtain ⟨_, _, ⟨T3, L3, k3, n3⟩, -, X3, ⟨Lc3, hQ3, l3, y3, z3⟩, st3⟩ := X2.specialBack hx (y := mN5) rfl hown (mvT hZ (oW hw 206 rfl)) (mvT hZ (oW hw 47 rfl)) (mvT hZ (oW hw 49 rfl)) (by decide) (backOf (W := 1) (rmSB l Z a0 hw [] b1 b2  T2.heap n0 O2 (A1.keep K2) (Ut1.keep K2 nin0) g_b1) hZ (oW hw 49 rfl) (oW hw 33 rfl) (by decide) (by decide)) (g := (mkF m 20 #[vR o0, vI 2, vI 1] [(.int 0), (.ref b2), (.ref b1), (.ref b1)])) rfl (by rw [hml]; rfl) (Steps.refl _) (a := b1) (argsL := [(.ref b2), (.int 0)]) (rest := [(.ref b1)]) (lenOf pd_3 rfl) rfl (by show 2 * 0 + _ ≤ _; exact Nat.le_of_eq rfl) (hb hby d32_20) (fun _ _ => ⟨rfl, rfl, (by decide : 2 + 0 ≤ _), (by decide : 5 + 0 ≤ _)⟩)
  dsimp only [Pt.U, Pt.locs, Pt.cells, Pt.slots] at X3 l3 y3 z3 st3 hQ3
  subst l3 y3 z3
  obtain ⟨rfl, N3q, K3, Fv3, Fc3⟩ := hQ3
  have N3 := Fr.app N2 N3q
  have O3 := O2.keep K3 (allS g_b1 all0)
  have v_b2_3_x := (Vb2.keep K3 (ninS (Ne.symm (Nat.ne_of_lt (Nat.lt_of_lt_of_le A1.lt Sb2))) nin0))
  obtain ⟨fs, hr, hrun, hended, hW, hsame⟩ := X3.leave (v := some (.ref b1)) (fun h => by rw [Bd.returns] at h; cases h)
  refine ⟨_, _, pre0 _ ?_, hrun, hended, _, _, rfl, ?_, ⟨_, rfl⟩, hW, hsame.mono (by decide) (by decide)⟩
  · show oS p e below s₁ m 0 #[vR o0, vI 2, vI 1] [] _
    refine XS.iloadN X0.here hx rfl (hb hby d32_0) rfl ?_
    refine XS.ifYes X0.here hx rfl (pc0 := 1) (pc' := 7) rfl (hb hby d32_1) rfl ((if0 _ _).trans (feq (by decide : ¬ ((1 : Int32) = (0 : Int32)))).2) (by decide) (by decide) ?_
    show oS p e below s₁ m 7 #[vR o0, vI 2, vI 1] [] _
    refine st1 _ ?_
    show oS p e below T1 m 10 #[vR o0, vI 2, vI 1] [(.ref b1)] _
    refine XS.dup X1.here hx rfl (hb hby d32_10) rfl rfl ?_
    refine XS.aloadN X1.here hx rfl (hb hby d32_11) rfl rfl ?_
    refine XS.iloadN X1.here hx rfl (hb hby d32_12) rfl ?_
    show oS p e below T1 m 13 #[vR o0, vI 2, vI 1] [(.int 2), (.ref o0), (.ref b1), (.ref b1)] _
    refine XS.iloadN X1.here hx rfl (hb hby d32_13) rfl ?_
    refine XS.iloadN X1.here hx rfl (hb hby d32_14) rfl ?_
    refine XS.iadd X1.here hx rfl (hb hby d32_15) rfl ?_
    show oS p e below T1 m 16 #[vR o0, vI 2, vI 1] [(.int 3), (.int 2), (.ref o0), (.ref b1), (.ref b1)] _
    refine st2 _ ?_
    show oS p e below T2 m 19 #[vR o0, vI 2, vI 1] [(.ref b2), (.ref b1), (.ref b1)] _
    refine XS.iconst X2.here hx rfl (hb hby d32_19) ?_
    show oS p e below T2 m 20 #[vR o0, vI 2, vI 1] [(.int 0), (.ref b2), (.ref b1), (.ref b1)] _
    refine st3.trans ?_
    show Steps p.tables e below (T3.setTop (mkF m 23 #[vR o0, vI 2, vI 1] [(.ref b1)])) _
    jvm_step X3.here [X3.here.top, hx, (hb hby d32_23), X3.method', Bd.returns, Value.isRef, FieldType.isReference]
    first | (intro acts; rw [hr _ acts rfl rfl rfl]) | rw [hr _ _ rfl rfl rfl]
    exact Steps.refl _
  · show own_QNS Z (1 : Int32) [(.int qb)] h0 n0 _ T3.heap _
    exact ⟨b1, b2, k92, rfl, N3, ((((Keep.refl h0 []).ext E1).trans K2 all0).trans K3 (allS (Or.inr (Nat.le_of_eq g1.symm)) all0)), ((A1.keep K2).keep K3), Fv3, Fc3, v_b2_3_x⟩
theorem d29_0 : decode jdk_42_method_92_code 0 = .ok (.aload_n 0, 1) := by decide +kernel
theorem d29_1 : decode jdk_42_method_92_code 1 = .ok (.invokevirtual 505, 3) := by decide +kernel
theorem d29_4 : decode jdk_42_method_92_code 4 = .ok (.istore_n 3, 1) := by decide +kernel
theorem d29_5 : decode jdk_42_method_92_code 5 = .ok (.iload_n 1, 1) := by decide +kernel
theorem d29_6 : decode jdk_42_method_92_code 6 = .ok (.iload_n 2, 1) := by decide +kernel
theorem d29_7 : decode jdk_42_method_92_code 7 = .ok (.iload_n 3, 1) := by decide +kernel
theorem d29_8 : decode jdk_42_method_92_code 8 = .ok (.invokestatic 521, 3) := by decide +kernel
theorem pd_26 : parseMethodDescriptor "(III)V" = some ⟨[.int, .int, .int], none⟩ := by decide +kernel
theorem d29_11 : decode jdk_42_method_92_code 11 = .ok (.iload_n 1, 1) := by decide +kernel
theorem d29_12 : decode jdk_42_method_92_code 12 = .ok (.ifCond .ne 10, 3) := by decide +kernel
theorem d29_22 : decode jdk_42_method_92_code 22 = .ok (.iload_n 2, 1) := by decide +kernel
theorem d29_23 : decode jdk_42_method_92_code 23 = .ok (.iload_n 1, 1) := by decide +kernel
theorem d29_24 : decode jdk_42_method_92_code 24 = .ok (.isub, 1) := by decide +kernel
theorem d29_25 : decode jdk_42_method_92_code 25 = .ok (.istore 4, 2) := by decide +kernel
theorem d29_27 : decode jdk_42_method_92_code 27 = .ok (.aload_n 0, 1) := by decide +kernel
theorem d29_28 : decode jdk_42_method_92_code 28 = .ok (.invokevirtual 492, 3) := by decide +kernel
theorem d29_31 : decode jdk_42_method_92_code 31 = .ok (.ifCond .eq 16, 3) := by decide +kernel
theorem d29_34 : decode jdk_42_method_92_code 34 = .ok (.aload_n 0, 1) := by decide +kernel
theorem d29_35 : decode jdk_42_method_92_code 35 = .ok (.getfield 9, 3) := by decide +kernel
theorem d29_38 : decode jdk_42_method_92_code 38 = .ok (.iload_n 1, 1) := by decide +kernel
theorem d29_39 : decode jdk_42_method_92_code 39 = .ok (.iload 4, 2) := by decide +kernel
theorem d29_41 : decode jdk_42_method_92_code 41 = .ok (.invokestatic 685, 3) := by decide +kernel
theorem pd_27 : parseMethodDescriptor "([BII)Ljava/lang/String;" = some ⟨[(.array .byte), .int, .int], some (.object "java/lang/String")⟩ := by decide +kernel
theorem d29_44 : decode jdk_42_method_92_code 44 = .ok (.goto 13, 3) := by decide +kernel
theorem d29_57 : decode jdk_42_method_92_code 57 = .ok (.areturn, 1) := by decide +kernel
theorem ef_29 (m : MethodId) (x0 : Addr) (x1 : Int32) (x2 : Int32) : entryFrame m #[(.ref x0), (.int x1), (.int x2)] 5 = mkF m 0 #[.val (.ref x0), .val (.int x1), .val (.int x2), .unset, .unset] [] := by first | (simp [entryFrame, mkF, argsToLocals, Value.category]; done) | rfl
theorem pn_29 : plainName "java/lang/String" = true := by first | (simp [plainName, overriddenIn]; done) | decide +kernel
theorem rmSu3 (l : Launch) (Z : State) (a0 : Array Value) (hw : HW a0 Z) (ws : List Jvm.Cond) (o0 : Addr) (qb : Int32) (tA : Addr) (kA : ClassId) (zc : Int32) (fm : Value) (h0 : Heap) (n0 : Nat) (O0 : Old Z n0 h0) (E_o0 : Exa Z h0 o0 "java/lang/String") (F_value_o0 : Fld Z h0 o0 "java/lang/String" "value" "[B" (.ref tA)) (F_coder_o0 : Fld Z h0 o0 "java/lang/String" "coder" "B" (.int 0)) (V_tA : Arv Z h0 tA kA .byte (3 : Int32) [(.int 82), (.int 46), (.int qb)] (.int 0)) (S_CS : Sta Z Z.heap "java/lang/String" "COMPACT_STRINGS" "Z" (.int zc)) (hzc : ¬ zc = 0) (S_FM : Sta Z Z.heap "jdk/internal/util/Preconditions" "SIOOBE_FORMATTER" "Ljava/util/function/BiFunction;" fm) (hfm : fm.isRef = true) :
    oM l Z mN48 jdk_42_method_92_code 5 (some (.object "java/lang/String")) ws (rM 4 2 5 86) #[(.ref o0), (.int 2), (.int 3)] h0 (own_QNS Z (1 : Int32) [(.int qb)] h0 n0) := by
  refine MetFree.of_bodySF (plainFor_of_name pn_29) hisR ?_
  intro p e s m args below meth c s₁ Bd hml0 hP hK
  obtain ⟨rfl, hZ, hh⟩ := hP
  have hx := Bd.exec
  have hby := Bd.bytes
  have hml : c.maxLocals = 5 := hml0
  have hown : s.vm.findClass "java/lang/String" = some m.cls := findClass_of_methodNamed Bd.named
  have X0 : Stand p l e (rM 4 2 5 86) s m #[(.ref o0), (.int 2), (.int 3)] below meth c s₁ [] 0 0 := Stand.of_body Bd
  have e0 : s₁.heap = h0 := by rw [← hh, Bd.state]; rfl
  have N0 := Fr.nil n0
  have pre0 := fun t (k : oS p e below s₁ m 0 #[vR o0, vI 2, vI 3, .unset, .unset] [] t) => castTop (ef_29 m o0 (2 : Int32) (3 : Int32)) k
  obtain ⟨cq1, kq1, q1a, q1b, q1c⟩ := isOf hZ e0 E_o0
  obtain ⟨_, _, ⟨T1, L1, k1, n1⟩, -, X1, ⟨Lc1, hQ1, l1, y1, z1⟩, st1⟩ := X0.virtualBack hx (y := mN37) (z := mN37) hown (mvT hZ (oW hw 140 rfl)) (mvT hZ (oW hw 141 rfl)) (notFace_of_selects (args := #[]) (mvT hZ (oW hw 143 rfl))) (mvT hZ (oW hw 143 rfl)) (mvT hZ (oW hw 142 rfl)) (by decide) (backOf (W := 0) (rmLe l Z a0 hw [] o0 (3 : Int32) _ tA kA zc h0 n0 O0 E_o0 F_value_o0 F_coder_o0 V_tA S_CS hzc) hZ (oW hw 144 rfl) (oW hw 33 rfl) (by decide) (by decide)) q1a q1c (g := (mkF m 1 #[vR o0, vI 2, vI 3, .unset, .unset] [(.ref o0)])) rfl (by rw [hml]; rfl) (Steps.refl _) (argsL := []) (rest := []) (lenOf pd_22 rfl) rfl (by show 2 * 0 + _ ≤ _; exact Nat.le_of_eq rfl) (hb hby d29_1) (fun _ _ => ⟨rfl, e0, (by decide : 0 + 0 ≤ _), (by decide : 0 + 0 ≤ _)⟩)
  dsimp only [Pt.U, Pt.locs, Pt.cells, Pt.slots] at X1 l1 y1 z1 st1 hQ1
  subst l1 y1 z1
  obtain ⟨rfl, N1q, e1⟩ := hQ1
  have N1 := Fr.app N0 N1q
  obtain ⟨_, _, ⟨T2, L2, k2, n2⟩, -, X2, ⟨Lc2, hQ2, l2, y2, z2⟩, st2⟩ := Jvm.LawKit.callS X1 hx (y := mN43) hown (mvT hZ (oW hw 179 rfl)) (mvT hZ (oW hw 180 rfl)) (mvT hZ (oW hw 33 rfl)) (mvT hZ (oW hw 181 rfl)) (by decide) (backOf (W := 0) (rmCB l Z a0 hw [] (2 : Int32) (3 : Int32) (3 : Int32) fm  h0 n0 O0 S_FM hfm (by decide) (by decide) (by decide)) hZ (oW hw 181 rfl) (oW hw 33 rfl) (by decide) (by decide)) (g := (mkF m 8 #[vR o0, vI 2, vI 3, vI 3, .unset] [(.int 3), (.int 3), (.int 2)])) rfl (by rw [hml]; rfl) (argsL := [(.int 2), (.int 3), (.int 3)]) (rest := []) (lenOf pd_26 rfl) rfl (by show 2 * 0 + _ ≤ _; exact Nat.le_of_eq rfl) (hb hby d29_8) (fun _ _ => ⟨rfl, e1, (by decide : 0 + 0 ≤ _), (by decide : 0 + 0 ≤ _)⟩)
  dsimp only [Pt.U, Pt.locs, Pt.cells, Pt.slots] at X2 l2 y2 z2 st2 hQ2
  subst l2 y2 z2
  obtain ⟨rfl, N2q, e2⟩ := hQ2
  have N2 := Fr.app N1 N2q
  obtain ⟨cq3, kq3, q3a, q3b, q3c⟩ := isOf hZ e2 E_o0
  obtain ⟨_, _, ⟨T3, L3, k3, n3⟩, -, X3, ⟨Lc3, hQ3, l3, y3, z3⟩, st3⟩ := X2.virtualBack hx (y := mN35) (z := mN35) hown (mvT hZ (oW hw 155 rfl)) (mvT hZ (oW hw 156 rfl)) (notFace_of_selects (args := #[]) (mvT hZ (oW hw 158 rfl))) (mvT hZ (oW hw 158 rfl)) (mvT hZ (oW hw 157 rfl)) (by decide) (backOf (W := 0) (rmLa l Z a0 hw [] o0 zc h0 n0 O0 S_CS hzc F_coder_o0) hZ (oW hw 159 rfl) (oW hw 33 rfl) (by decide) (by decide)) q3a q3c (g := (mkF m 28 #[vR o0, vI 2, vI 3, vI 3, vI 1] [(.ref o0)])) rfl (by rw [hml]; rfl) (Steps.refl _) (argsL := []) (rest := []) (lenOf pd_15 rfl) rfl (by show 2 * 0 + _ ≤ _; exact Nat.le_of_eq rfl) (hb hby d29_28) (fun _ _ => ⟨rfl, e2, (by decide : 0 + 0 ≤ _), (by decide : 0 + 0 ≤ _)⟩)
  dsimp only [Pt.U, Pt.locs, Pt.cells, Pt.slots] at X3 l3 y3 z3 st3 hQ3
  subst l3 y3 z3
  obtain ⟨rfl, N3q, e3⟩ := hQ3
  have N3 := Fr.app N2 N3q
  obtain ⟨T4, X4, e4, st4⟩ := getF X3 hx hZ hown (host := "") (Or.inl (oW hw 51 rfl)) Via.refl e3 F_value_o0 (g := (mkF m 35 #[vR o0, vI 2, vI 3, vI 3, vI 1] [(.ref o0)])) rfl rfl (hb hby d29_35)
  obtain ⟨_, _, ⟨T5, L5, k5, n5⟩, -, X5, ⟨Lc5, hQ5, l5, y5, z5⟩, st5⟩ := Jvm.LawKit.callS X4 hx (y := mN47) hown (mvT hZ (oW hw 187 rfl)) (mvT hZ (oW hw 188 rfl)) (mvT hZ (oW hw 38 rfl)) (mvT hZ (oW hw 189 rfl)) (by decide) (backOf (W := 0) (rmNS3 l Z a0 hw [] tA qb kA h0 n0 O0 V_tA) hZ (oW hw 189 rfl) (oW hw 38 rfl) (by decide) (by decide)) (g := (mkF m 41 #[vR o0, vI 2, vI 3, vI 3, vI 1] [(.int 1), (.int 2), (.ref tA)])) rfl (by rw [hml]; rfl) (argsL := [(.ref tA), (.int 2), (.int 1)]) (rest := []) (lenOf pd_27 rfl) rfl (by show 2 * 0 + _ ≤ _; exact Nat.le_of_eq rfl) (hb hby d29_41) (fun _ _ => ⟨rfl, e4, (by decide : 0 + 2 ≤ _), (by decide : 0 + 5 ≤ _)⟩)
  dsimp only [Pt.U, Pt.locs, Pt.cells, Pt.slots] at X5 l5 y5 z5 st5 hQ5
  subst l5 y5 z5
  obtain ⟨x5, t5, k95, rfl, N5q, K5, Ex5, Fv5, Fc5, Vt5⟩ := hQ5
  have N5 := Fr.app N3 N5q
  have O5 := O0.keep K5 all0
  obtain ⟨fs, hr, hrun, hended, hW, hsame⟩ := X5.leave (v := some (.ref x5)) (fun h => by rw [Bd.returns] at h; cases h)
  refine ⟨_, _, pre0 _ ?_, hrun, hended, _, _, rfl, ?_, ⟨_, rfl⟩, hW, hsame.mono (by decide) (by decide)⟩
  · show oS p e below s₁ m 0 #[vR o0, vI 2, vI 3, .unset, .unset] [] _
    refine XS.aloadN X0.here hx rfl (hb hby d29_0) rfl rfl ?_
    show oS p e below s₁ m 1 #[vR o0, vI 2, vI 3, .unset, .unset] [(.ref o0)] _
    refine st1.trans ?_
    show oS p e below T1 m 4 #[vR o0, vI 2, vI 3, .unset, .unset] [(.int 3)] _
    refine XS.istoreN X1.here hx rfl (hb hby d29_4) rfl (l' := #[vR o0, vI 2, vI 3, vI 3, .unset]) rfl ?_
    show oS p e below T1 m 5 #[vR o0, vI 2, vI 3, vI 3, .unset] [] _
    refine XS.iloadN X1.here hx rfl (hb hby d29_5) rfl ?_
    refine XS.iloadN X1.here hx rfl (hb hby d29_6) rfl ?_
    refine XS.iloadN X1.here hx rfl (hb hby d29_7) rfl ?_
    show oS p e below T1 m 8 #[vR o0, vI 2, vI 3, vI 3, .unset] [(.int 3), (.int 3), (.int 2)] _
    refine st2 _ ?_
    show oS p e below T2 m 11 #[vR o0, vI 2, vI 3, vI 3, .unset] [] _
    refine XS.iloadN X2.here hx rfl (hb hby d29_11) rfl ?_
    refine XS.ifYes X2.here hx rfl (pc0 := 12) (pc' := 22) rfl (hb hby d29_12) rfl ((if0 _ _).trans (feq (by decide : ¬ ((2 : Int32) = (0 : Int32)))).2) (by decide) (by decide) ?_
    show oS p e below T2 m 22 #[vR o0, vI 2, vI 3, vI 3, .unset] [] _
    refine XS.iloadN X2.here hx rfl (hb hby d29_22) rfl ?_
    refine XS.iloadN X2.here hx rfl (hb hby d29_23) rfl ?_
    refine XS.isub X2.here hx rfl (hb hby d29_24) rfl ?_
    show oS p e below T2 m 25 #[vR o0, vI 2, vI 3, vI 3, .unset] [(.int 1)] _
    refine XS.istore X2.here hx rfl (hb hby d29_25) rfl (l' := #[vR o0, vI 2, vI 3, vI 3, vI 1]) rfl ?_
    show oS p e below T2 m 27 #[vR o0, vI 2, vI 3, vI 3, vI 1] [] _
    refine XS.aloadN X2.here hx rfl (hb hby d29_27) rfl rfl ?_
    show oS p e below T2 m 28 #[vR o0, vI 2, vI 3, vI 3, vI 1] [(.ref o0)] _
    refine st3.trans ?_
    show oS p e below T3 m 31 #[vR o0, vI 2, vI 3, vI 3, vI 1] [(.int 1)] _
    refine XS.ifNo X3.here hx rfl (hb hby d29_31) rfl ((if0 _ _).trans (feq (by decide : ¬ ((1 : Int32) = (0 : Int32)))).1) ?_
    show oS p e below T3 m 34 #[vR o0, vI 2, vI 3, vI 3, vI 1] [] _
    refine XS.aloadN X3.here hx rfl (hb hby d29_34) rfl rfl ?_
    show oS p e below T3 m 35 #[vR o0, vI 2, vI 3, vI 3, vI 1] [(.ref o0)] _
    refine st4 _ ?_
    show oS p e below T4 m 38 #[vR o0, vI 2, vI 3, vI 3, vI 1] [(.ref tA)] _
    refine XS.iloadN X4.here hx rfl (hb hby d29_38) rfl ?_
    refine XS.iload X4.here hx rfl (hb hby d29_39) rfl ?_
    show oS p e below T4 m 41 #[vR o0, vI 2, vI 3, vI 3, vI 1] [(.int 1), (.int 2), (.ref tA)] _
    refine st5 _ ?_
    show oS p e below T5 m 44 #[vR o0, vI 2, vI 3, vI 3, vI 1] [(.ref x5)] _
    refine XS.goto X5.here hx rfl (pc0 := 44) (pc' := 57) rfl (hb hby d29_44) (by decide) (by decide) ?_
    show Steps p.tables e below (T5.setTop (mkF m 57 #[vR o0, vI 2, vI 3, vI 3, vI 1] [(.ref x5)])) _
    jvm_step X5.here [X5.here.top, hx, (hb hby d29_57), X5.method', Bd.returns, Value.isRef, FieldType.isReference]
    first | (intro acts; rw [hr _ acts rfl rfl rfl]) | rw [hr _ _ rfl rfl rfl]
    exact Steps.refl _
  · show own_QNS Z (1 : Int32) [(.int qb)] h0 n0 _ T5.heap _
    exact ⟨x5, t5, k95, rfl, N5, ((Keep.refl h0 []).trans K5 all0), Ex5, Fv5, Fc5, Vt5⟩
theorem d28_0 : decode jdk_42_method_91_code 0 = .ok (.aload_n 0, 1) := by decide +kernel
theorem d28_1 : decode jdk_42_method_91_code 1 = .ok (.iload_n 1, 1) := by decide +kernel
theorem d28_2 : decode jdk_42_method_91_code 2 = .ok (.aload_n 0, 1) := by decide +kernel
theorem d28_3 : decode jdk_42_method_91_code 3 = .ok (.invokevirtual 505, 3) := by decide +kernel
theorem d28_6 : decode jdk_42_method_91_code 6 = .ok (.invokevirtual 681, 3) := by decide +kernel
theorem pd_28 : parseMethodDescriptor "(II)Ljava/lang/String;" = some ⟨[.int, .int], some (.object "java/lang/String")⟩ := by decide +kernel
theorem d28_9 : decode jdk_42_method_91_code 9 = .ok (.areturn, 1) := by decide +kernel
theorem ef_28 (m : MethodId) (x0 : Addr) (x1 : Int32) : entryFrame m #[(.ref x0), (.int x1)] 2 = mkF m 0 #[.val (.ref x0), .val (.int x1)] [] := by first | (simp [entryFrame, mkF, argsToLocals, Value.category]; done) | rfl
theorem pn_28 : plainName "java/lang/String" = true := by first | (simp [plainName, overriddenIn]; done) | decide +kernel
theorem rmSS3 (l : Launch) (Z : State) (a0 : Array Value) (hw : HW a0 Z) (ws : List Jvm.Cond) (o0 : Addr) (qb : Int32) (tA : Addr) (kA : ClassId) (zc : Int32) (fm : Value) (h0 : Heap) (n0 : Nat) (O0 : Old Z n0 h0) (E_o0 : Exa Z h0 o0 "java/lang/String") (F_value_o0 : Fld Z h0 o0 "java/lang/String" "value" "[B" (.ref tA)) (F_coder_o0 : Fld Z h0 o0 "java/lang/String" "coder" "B" (.int 0)) (V_tA : Arv Z h0 tA kA .byte (3 : Int32) [(.int 82), (.int 46), (.int qb)] (.int 0)) (S_CS : Sta Z Z.heap "java/lang/String" "COMPACT_STRINGS" "Z" (.int zc)) (hzc : ¬ zc = 0) (S_FM : Sta Z Z.heap "jdk/internal/util/Preconditions" "SIOOBE_FORMATTER" "Ljava/util/function/BiFunction;" fm) (hfm : fm.isRef = true) :
    oM l Z mN49 jdk_42_method_91_code 2 (some (.object "java/lang/String")) ws (rM 5 2 5 102) #[(.ref o0), (.int 2)] h0 (own_QNS Z (1 : Int32) [(.int qb)] h0 n0) := by
  refine MetFree.of_bodySF (plainFor_of_name pn_28) hisR ?_
  intro p e s m args below meth c s₁ Bd hml0 hP hK
  obtain ⟨rfl, hZ, hh⟩ := hP
  have hx := Bd.exec
  have hby := Bd.bytes
  have hml : c.maxLocals = 2 := hml0
  have hown : s.vm.findClass "java/lang/String" = some m.cls := findClass_of_methodNamed Bd.named
  have X0 : Stand p l e (rM 5 2 5 102) s m #[(.ref o0), (.int 2)] below meth c s₁ [] 0 0 := Stand.of_body Bd
  have e0 : s₁.heap = h0 := by rw [← hh, Bd.state]; rfl
  have N0 := Fr.nil n0
  have pre0 := fun t (k : oS p e below s₁ m 0 #[vR o0, vI 2] [] t) => castTop (ef_28 m o0 (2 : Int32)) k
  obtain ⟨cq1, kq1, q1a, q1b, q1c⟩ := isOf hZ e0 E_o0
  obtain ⟨_, _, ⟨T1, L1, k1, n1⟩, -, X1, ⟨Lc1, hQ1, l1, y1, z1⟩, st1⟩ := X0.virtualBack hx (y := mN37) (z := mN37) hown (mvT hZ (oW hw 140 rfl)) (mvT hZ (oW hw 141 rfl)) (notFace_of_selects (args := #[]) (mvT hZ (oW hw 143 rfl))) (mvT hZ (oW hw 143 rfl)) (mvT hZ (oW hw 142 rfl)) (by decide) (backOf (W := 2) (rmLe l Z a0 hw [] o0 (3 : Int32) _ tA kA zc h0 n0 O0 E_o0 F_value_o0 F_coder_o0 V_tA S_CS hzc) hZ (oW hw 144 rfl) (oW hw 33 rfl) (by decide) (by decide)) q1a q1c (g := (mkF m 3 #[vR o0, vI 2] [(.ref o0), (.int 2), (.ref o0)])) rfl (by rw [hml]; rfl) (Steps.refl _) (argsL := []) (rest := [(.int 2), (.ref o0)]) (lenOf pd_22 rfl) rfl (by show 2 * 0 + _ ≤ _; exact Nat.le_of_eq rfl) (hb hby d28_3) (fun _ _ => ⟨rfl, e0, (by decide : 0 + 0 ≤ _), (by decide : 0 + 0 ≤ _)⟩)
  dsimp only [Pt.U, Pt.locs, Pt.cells, Pt.slots] at X1 l1 y1 z1 st1 hQ1
  subst l1 y1 z1
  obtain ⟨rfl, N1q, e1⟩ := hQ1
  have N1 := Fr.app N0 N1q
  obtain ⟨cq2, kq2, q2a, q2b, q2c⟩ := isOf hZ e1 E_o0
  obtain ⟨_, _, ⟨T2, L2, k2, n2⟩, -, X2, ⟨Lc2, hQ2, l2, y2, z2⟩, st2⟩ := X1.virtualBack hx (y := mN48) (z := mN48) hown (mvT hZ (oW hw 174 rfl)) (mvT hZ (oW hw 175 rfl)) (notFace_of_selects (args := #[]) (mvT hZ (oW hw 177 rfl))) (mvT hZ (oW hw 177 rfl)) (mvT hZ (oW hw 176 rfl)) (by decide) (backOf (W := 0) (rmSu3 l Z a0 hw [] o0 qb tA kA zc fm h0 n0 O0 E_o0 F_value_o0 F_coder_o0 V_tA S_CS hzc S_FM hfm) hZ (oW hw 178 rfl) (oW hw 33 rfl) (by decide) (by decide)) q2a q2c (g := (mkF m 6 #[vR o0, vI 2] [(.int 3), (.int 2), (.ref o0)])) rfl (by rw [hml]; rfl) (Steps.refl _) (argsL := [(.int 2), (.int 3)]) (rest := []) (lenOf pd_28 rfl) rfl (by show 2 * 0 + _ ≤ _; exact Nat.le_of_eq rfl) (hb hby d28_6) (fun _ _ => ⟨rfl, e1, (by decide : 0 + 2 ≤ _), (by decide : 0 + 5 ≤ _)⟩)
  dsimp only [Pt.U, Pt.locs, Pt.cells, Pt.slots] at X2 l2 y2 z2 st2 hQ2
  subst l2 y2 z2
  obtain ⟨x2, t2, k92, rfl, N2q, K2, Ex2, Fv2, Fc2, Vt2⟩ := hQ2
  have N2 := Fr.app N1 N2q
  have O2 := O0.keep K2 all0
  obtain ⟨fs, hr, hrun, hended, hW, hsame⟩ := X2.leave (v := some (.ref x2)) (fun h => by rw [Bd.returns] at h; cases h)
  refine ⟨_, _, pre0 _ ?_, hrun, hended, _, _, rfl, ?_, ⟨_, rfl⟩, hW, hsame.mono (by decide) (by decide)⟩
  · show oS p e below s₁ m 0 #[vR o0, vI 2] [] _
    refine XS.aloadN X0.here hx rfl (hb hby d28_0) rfl rfl ?_
    refine XS.iloadN X0.here hx rfl (hb hby d28_1) rfl ?_
    refine XS.aloadN X0.here hx rfl (hb hby d28_2) rfl rfl ?_
    show oS p e below s₁ m 3 #[vR o0, vI 2] [(.ref o0), (.int 2), (.ref o0)] _
    refine st1.trans ?_
    show oS p e below T1 m 6 #[vR o0, vI 2] [(.int 3), (.int 2), (.ref o0)] _
    refine st2.trans ?_
    show Steps p.tables e below (T2.setTop (mkF m 9 #[vR o0, vI 2] [(.ref x2)])) _
    jvm_step X2.here [X2.here.top, hx, (hb hby d28_9), X2.method', Bd.returns, Value.isRef, FieldType.isReference]
    first | (intro acts; rw [hr _ acts rfl rfl rfl]) | rw [hr _ _ rfl rfl rfl]
    exact Steps.refl _
  · show own_QNS Z (1 : Int32) [(.int qb)] h0 n0 _ T2.heap _
    exact ⟨x2, t2, k92, rfl, N2, ((Keep.refl h0 []).trans K2 all0), Ex2, Fv2, Fc2, Vt2⟩
theorem rmRB6 (l : Launch) (Z : State) (a0 : Array Value) (hw : HW a0 Z) (ws : List Jvm.Cond) (o0 : Addr) (kA : ClassId) (h0 : Heap) (n0 : Nat) (O0 : Old Z n0 h0) (V_o0 : Arv Z h0 o0 kA .byte (6 : Int32) [(.int 82), (.int 46), (.int 98), (.int 91), (.int 120), (.int 93)] (.int 0)) :
    oM l Z mN45 jdk_65_method_133_code 5 (some (.array .byte)) ws (rM 1 1 4 40) #[(.ref o0), (.int 2), (.int 6)] h0 (own_QRa Z (4 : Int32) [(.int 98), (.int 91), (.int 120), (.int 93)] h0 n0) := by
  refine MetFree.of_bodySF (plainFor_of_name pn_34) hisR ?_
  intro p e s m args below meth c s₁ Bd hml0 hP hK
  obtain ⟨rfl, hZ, hh⟩ := hP
  have hx := Bd.exec
  have hby := Bd.bytes
  have hml : c.maxLocals = 5 := hml0
  have hown : s.vm.findClass "java/util/Arrays" = some m.cls := findClass_of_methodNamed Bd.named
  have X0 : Stand p l e (rM 1 1 4 40) s m #[(.ref o0), (.int 2), (.int 6)] below meth c s₁ [] 0 0 := Stand.of_body Bd
  have e0 : s₁.heap = h0 := by rw [← hh, Bd.state]; rfl
  have N0 := Fr.nil n0
  have pre0 := fun t (k : oS p e below s₁ m 0 #[vR o0, vI 2, vI 6, .unset, .unset] [] t) => castTop (ef_34 m o0 (2 : Int32) (6 : Int32)) k
  obtain ⟨_, _, ⟨T1, L1, k1, n1⟩, -, X1, ⟨Lc1, hQ1, l1, y1, z1⟩, st1⟩ := Jvm.LawKit.callS X0 hx (y := mN44) hown (mvT hZ (oW hw 198 rfl)) (mvT hZ (oW hw 199 rfl)) (mvT hZ (oW hw 193 rfl)) (mvT hZ (oW hw 200 rfl)) (by decide) (backOf (W := 0) (rmCL l Z a0 hw [] (2 : Int32) (6 : Int32)  h0 n0 O0 (by decide)) hZ (oW hw 200 rfl) (oW hw 193 rfl) (by decide) (by decide)) (g := (mkF m 2 #[vR o0, vI 2, vI 6, .unset, .unset] [(.int 6), (.int 2)])) rfl (by rw [hml]; rfl) (argsL := [(.int 2), (.int 6)]) (rest := []) (lenOf pd_24 rfl) rfl (by show 2 * 0 + _ ≤ _; exact Nat.le_of_eq rfl) (hb hby d34_2) (fun _ _ => ⟨rfl, e0, (by decide : 0 + 0 ≤ _), (by decide : 0 + 0 ≤ _)⟩)
  dsimp only [Pt.U, Pt.locs, Pt.cells, Pt.slots] at X1 l1 y1 z1 st1 hQ1
  subst l1 y1 z1
  obtain ⟨rfl, N1q, e1⟩ := hQ1
  have N1 := Fr.app N0 N1q
  obtain ⟨T2, h2, k2, X2, e2, E2, A2, st2⟩ := newP X1 hx hZ (oW hw 45 rfl) e1 (g := (mkF m 10 #[vR o0, vI 2, vI 6, vI 4, .unset] [(.int 4)])) rfl (hb hby d34_10) rfl (by decide) (cap := 4) (by decide) (by decide) (by decide) (by decide)
  obtain ⟨b2, g2⟩ : ∃ z, z = h0.size := ⟨_, rfl⟩
  rw [← g2] at A2 st2
  have g_b2 : n0 ≤ b2 := Nat.le_trans (own_le O0) (Nat.le_of_eq g2.symm)
  have O2 := O0.ext E2
  have V_b2 : Arv Z h2 b2 k2 .byte (4 : Int32) [(.int 0), (.int 0), (.int 0), (.int 0)] (.int 0) := (Arv.new A2 (by decide)).pad (pad_rep [] (.int 0) 4)
  obtain ⟨cl3, Ar3, qa3, Sz3, Ng3, Hs3, Ft3⟩ := (V_o0.ext E2)
  have V3o : Arv Z h2 o0 kA .byte (6 : Int32) [(.int 82), (.int 46), (.int 98), (.int 91), (.int 120), (.int 93)] (.int 0) := ⟨cl3, Ar3, qa3, Sz3, Ng3, Hs3, Ft3⟩
  obtain ⟨_, _, ⟨T4, L4, k4, n4⟩, -, X4, ⟨Lc4, hQ4, l4, y4, z4⟩, st4⟩ := Jvm.LawKit.callS X2 hx (y := mN16) hown (mvT hZ (oW hw 201 rfl)) (mvT hZ (oW hw 167 rfl)) (mvT hZ (oW hw 81 rfl)) (mvT hZ (oW hw 168 rfl)) (by decide) (backOf (W := 4) (rmMinS l Z a0 hw [] (4 : Int32)  h2 n0 O2 ) hZ (oW hw 168 rfl) (oW hw 81 rfl) (by decide) (by decide)) (g := (mkF m 24 #[vR o0, vI 2, vI 6, vI 4, vR b2] [(.int 4), (.int 4), (.int 0), (.ref b2), (.int 2), (.ref o0)])) rfl (by rw [hml]; rfl) (argsL := [(.int 4), (.int 4)]) (rest := [(.int 0), (.ref b2), (.int 2), (.ref o0)]) (lenOf pd_4 rfl) rfl (by show 2 * 0 + _ ≤ _; exact Nat.le_of_eq rfl) (hb hby d34_24) (fun _ _ => ⟨rfl, e2, (by decide : 1 + 0 ≤ _), (by decide : 4 + 0 ≤ _)⟩)
  dsimp only [Pt.U, Pt.locs, Pt.cells, Pt.slots] at X4 l4 y4 z4 st4 hQ4
  subst l4 y4 z4
  obtain ⟨rfl, N4q, e4⟩ := hQ4
  have N4 := Fr.app N1 N4q
  obtain ⟨T5, h5, L5, X5, e5, N5, K5, Va5, st5⟩ := cpA X4 hx hZ hown (oW hw 202 rfl) (oW hw 205 rfl) (oW hw 203 rfl) (oW hw 204 rfl) e4 (sp := (2 : Int32)) (dp := (0 : Int32)) (nn := (4 : Int32)) (us := [(.int 98), (.int 91), (.int 120), (.int 93)]) V3o V_b2 (Or.inl ⟨rfl, rfl⟩) (by decide) (by decide) (by decide) (by decide) (by decide) rfl (by decide) N4 g_b2 (g := (mkF m 27 #[vR o0, vI 2, vI 6, vI 4, vR b2] [(.int 4), (.int 0), (.ref b2), (.int 2), (.ref o0)])) rfl (by rw [hml]; rfl) rfl (hb hby d34_27) (by decide) (W := 0) (by show 2 * 0 + _ ≤ _; exact Nat.le_of_eq rfl) (by decide)
  have O5 := O2.keep K5 (allS g_b2 all0)
  have Vc5 : Arv Z h5 b2 k2 .byte (4 : Int32) [(.int 98), (.int 91), (.int 120), (.int 93)] (.int 0) := Va5
  obtain ⟨fs, hr, hrun, hended, hW, hsame⟩ := X5.leave (v := some (.ref b2)) (fun h => by rw [Bd.returns] at h; cases h)
  refine ⟨_, _, pre0 _ ?_, hrun, hended, _, _, rfl, ?_, ⟨_, rfl⟩, hW, hsame.mono (by decide) (by decide)⟩
  · show oS p e below s₁ m 0 #[vR o0, vI 2, vI 6, .unset, .unset] [] _
    refine XS.iloadN X0.here hx rfl (hb hby d34_0) rfl ?_
    refine XS.iloadN X0.here hx rfl (hb hby d34_1) rfl ?_
    show oS p e below s₁ m 2 #[vR o0, vI 2, vI 6, .unset, .unset] [(.int 6), (.int 2)] _
    refine st1 _ ?_
    show oS p e below T1 m 5 #[vR o0, vI 2, vI 6, .unset, .unset] [] _
    refine XS.iloadN X1.here hx rfl (hb hby d34_5) rfl ?_
    refine XS.iloadN X1.here hx rfl (hb hby d34_6) rfl ?_
    refine XS.isub X1.here hx rfl (hb hby d34_7) rfl ?_
    show oS p e below T1 m 8 #[vR o0, vI 2, vI 6, .unset, .unset] [(.int 4)] _
    refine XS.istoreN X1.here hx rfl (hb hby d34_8) rfl (l' := #[vR o0, vI 2, vI 6, vI 4, .unset]) rfl ?_
    show oS p e below T1 m 9 #[vR o0, vI 2, vI 6, vI 4, .unset] [] _
    refine XS.iloadN X1.here hx rfl (hb hby d34_9) rfl ?_
    show oS p e below T1 m 10 #[vR o0, vI 2, vI 6, vI 4, .unset] [(.int 4)] _
    refine st2 _ ?_
    show oS p e below T2 m 12 #[vR o0, vI 2, vI 6, vI 4, .unset] [(.ref b2)] _
    refine XS.astore X2.here hx rfl (hb hby d34_12) rfl rfl (l' := #[vR o0, vI 2, vI 6, vI 4, vR b2]) rfl ?_
    show oS p e below T2 m 14 #[vR o0, vI 2, vI 6, vI 4, vR b2] [] _
    refine XS.aloadN X2.here hx rfl (hb hby d34_14) rfl rfl ?_
    refine XS.iloadN X2.here hx rfl (hb hby d34_15) rfl ?_
    refine XS.aload X2.here hx rfl (hb hby d34_16) rfl rfl ?_
    show oS p e below T2 m 18 #[vR o0, vI 2, vI 6, vI 4, vR b2] [(.ref b2), (.int 2), (.ref o0)] _
    refine XS.iconst X2.here hx rfl (hb hby d34_18) ?_
    refine XS.aloadN X2.here hx rfl (hb hby d34_19) rfl rfl ?_
    show oS p e below T2 m 20 #[vR o0, vI 2, vI 6, vI 4, vR b2] [(.ref o0), (.int 0), (.ref b2), (.int 2), (.ref o0)] _
    refine X2.arraylength hx (by rw [e2]; exact Ar3.1) (State.isArrayOf_alike hZ.alike Ar3.2.1) (g := (mkF m 20 #[vR o0, vI 2, vI 6, vI 4, vR b2] [(.ref o0), (.int 0), (.ref b2), (.int 2), (.ref o0)])) rfl rfl (hb hby d34_20) _ ?_
    rw [len_of Sz3 Ng3]
    show oS p e below T2 m 21 #[vR o0, vI 2, vI 6, vI 4, vR b2] [(.int 6), (.int 0), (.ref b2), (.int 2), (.ref o0)] _
    refine XS.iloadN X2.here hx rfl (hb hby d34_21) rfl ?_
    refine XS.isub X2.here hx rfl (hb hby d34_22) rfl ?_
    show oS p e below T2 m 23 #[vR o0, vI 2, vI 6, vI 4, vR b2] [(.int 4), (.int 0), (.ref b2), (.int 2), (.ref o0)] _
    refine XS.iloadN X2.here hx rfl (hb hby d34_23) rfl ?_
    show oS p e below T2 m 24 #[vR o0, vI 2, vI 6, vI 4, vR b2] [(.int 4), (.int 4), (.int 0), (.ref b2), (.int 2), (.ref o0)] _
    refine st4 _ ?_
    show oS p e below T4 m 27 #[vR o0, vI 2, vI 6, vI 4, vR b2] [(.int 4), (.int 0), (.ref b2), (.int 2), (.ref o0)] _
    refine st5 _ ?_
    show oS p e below T5 m 30 #[vR o0, vI 2, vI 6, vI 4, vR b2] [] _
    refine XS.aload X5.here hx rfl (hb hby d34_30) rfl rfl ?_
    show Steps p.tables e below (T5.setTop (mkF m 32 #[vR o0, vI 2, vI 6, vI 4, vR b2] [(.ref b2)])) _
    jvm_step X5.here [X5.here.top, hx, (hb hby d34_32), X5.method', Bd.returns, Value.isRef, FieldType.isReference]
    first | (intro acts; rw [hr _ acts rfl rfl rfl]) | rw [hr _ _ rfl rfl rfl]
    exact Steps.refl _
  · show own_QRa Z (4 : Int32) [(.int 98), (.int 91), (.int 120), (.int 93)] h0 n0 _ T5.heap _
    rw [e5]
    exact ⟨b2, k2, rfl, N5, (((Keep.refl h0 []).ext E2).trans K5 (allS (Or.inr (Nat.le_of_eq g2.symm)) all0)), Vc5, (Nat.le_of_eq g2.symm)⟩
theorem rmRa6 (l : Launch) (Z : State) (a0 : Array Value) (hw : HW a0 Z) (ws : List Jvm.Cond) (o0 : Addr) (kA : ClassId) (h0 : Heap) (n0 : Nat) (O0 : Old Z n0 h0) (V_o0 : Arv Z h0 o0 kA .byte (6 : Int32) [(.int 82), (.int 46), (.int 98), (.int 91), (.int 120), (.int 93)] (.int 0)) :
    oM l Z mN46 jdk_65_method_132_code 3 (some (.array .byte)) ws (rM 2 1 4 56) #[(.ref o0), (.int 2), (.int 6)] h0 (own_QRa Z (4 : Int32) [(.int 98), (.int 91), (.int 120), (.int 93)] h0 n0) := by
  refine MetFree.of_bodySF (plainFor_of_name pn_33) hisR ?_
  intro p e s m args below meth c s₁ Bd hml0 hP hK
  obtain ⟨rfl, hZ, hh⟩ := hP
  have hx := Bd.exec
  have hby := Bd.bytes
  have hml : c.maxLocals = 3 := hml0
  have hown : s.vm.findClass "java/util/Arrays" = some m.cls := findClass_of_methodNamed Bd.named
  have X0 : Stand p l e (rM 2 1 4 56) s m #[(.ref o0), (.int 2), (.int 6)] below meth c s₁ [] 0 0 := Stand.of_body Bd
  have e0 : s₁.heap = h0 := by rw [← hh, Bd.state]; rfl
  have N0 := Fr.nil n0
  have pre0 := fun t (k : oS p e below s₁ m 0 #[vR o0, vI 2, vI 6] [] t) => castTop (ef_33 m o0 (2 : Int32) (6 : Int32)) k
  obtain ⟨_, _, ⟨T1, L1, k1, n1⟩, -, X1, ⟨Lc1, hQ1, l1, y1, z1⟩, st1⟩ := Jvm.LawKit.callS X0 hx (y := mN45) hown (mvT hZ (oW hw 195 rfl)) (mvT hZ (oW hw 196 rfl)) (mvT hZ (oW hw 193 rfl)) (mvT hZ (oW hw 197 rfl)) (by decide) (backOf (W := 0) (rmRB6 l Z a0 hw [] o0  kA h0 n0 O0 V_o0) hZ (oW hw 197 rfl) (oW hw 193 rfl) (by decide) (by decide)) (g := (mkF m 13 #[vR o0, vI 2, vI 6] [(.int 6), (.int 2), (.ref o0)])) rfl (by rw [hml]; rfl) (argsL := [(.ref o0), (.int 2), (.int 6)]) (rest := []) (lenOf pd_25 rfl) rfl (by show 2 * 0 + _ ≤ _; exact Nat.le_of_eq rfl) (hb hby d33_13) (fun _ _ => ⟨rfl, e0, (by decide : 0 + 1 ≤ _), (by decide : 0 + 4 ≤ _)⟩)
  dsimp only [Pt.U, Pt.locs, Pt.cells, Pt.slots] at X1 l1 y1 z1 st1 hQ1
  subst l1 y1 z1
  obtain ⟨b1, k91, rfl, N1q, K1, Vb1, Sb1⟩ := hQ1
  have N1 := Fr.app N0 N1q
  have O1 := O0.keep K1 all0
  obtain ⟨fs, hr, hrun, hended, hW, hsame⟩ := X1.leave (v := some (.ref b1)) (fun h => by rw [Bd.returns] at h; cases h)
  refine ⟨_, _, pre0 _ ?_, hrun, hended, _, _, rfl, ?_, ⟨_, rfl⟩, hW, hsame.mono (by decide) (by decide)⟩
  · show oS p e below s₁ m 0 #[vR o0, vI 2, vI 6] [] _
    refine XS.iloadN X0.here hx rfl (hb hby d33_0) rfl ?_
    refine XS.ifYes X0.here hx rfl (pc0 := 1) (pc' := 10) rfl (hb hby d33_1) rfl ((if0 _ _).trans (feq (by decide : ¬ ((2 : Int32) = (0 : Int32)))).2) (by decide) (by decide) ?_
    show oS p e below s₁ m 10 #[vR o0, vI 2, vI 6] [] _
    refine XS.aloadN X0.here hx rfl (hb hby d33_10) rfl rfl ?_
    refine XS.iloadN X0.here hx rfl (hb hby d33_11) rfl ?_
    refine XS.iloadN X0.here hx rfl (hb hby d33_12) rfl ?_
    show oS p e below s₁ m 13 #[vR o0, vI 2, vI 6] [(.int 6), (.int 2), (.ref o0)] _
    refine st1 _ ?_
    show Steps p.tables e below (T1.setTop (mkF m 16 #[vR o0, vI 2, vI 6] [(.ref b1)])) _
    jvm_step X1.here [X1.here.top, hx, (hb hby d33_16), X1.method', Bd.returns, Value.isRef, FieldType.isReference]
    first | (intro acts; rw [hr _ acts rfl rfl rfl]) | rw [hr _ _ rfl rfl rfl]
    exact Steps.refl _
  · show own_QRa Z (4 : Int32) [(.int 98), (.int 91), (.int 120), (.int 93)] h0 n0 _ T1.heap _
    exact ⟨b1, k91, rfl, N1, ((Keep.refl h0 []).trans K1 all0), Vb1, Sb1⟩
theorem rmNS6 (l : Launch) (Z : State) (a0 : Array Value) (hw : HW a0 Z) (ws : List Jvm.Cond) (o0 : Addr) (kA : ClassId) (h0 : Heap) (n0 : Nat) (O0 : Old Z n0 h0) (V_o0 : Arv Z h0 o0 kA .byte (6 : Int32) [(.int 82), (.int 46), (.int 98), (.int 91), (.int 120), (.int 93)] (.int 0)) :
    oM l Z mN47 jdk_43_method_47_code 3 (some (.object "java/lang/String")) ws (rM 3 2 8 72) #[(.ref o0), (.int 2), (.int 4)] h0 (own_QNS Z (4 : Int32) [(.int 98), (.int 91), (.int 120), (.int 93)] h0 n0) := by
  refine MetFree.of_bodySF (plainFor_of_name pn_32) hisR ?_
  intro p e s m args below meth c s₁ Bd hml0 hP hK
  obtain ⟨rfl, hZ, hh⟩ := hP
  have hx := Bd.exec
  have hby := Bd.bytes
  have hml : c.maxLocals = 3 := hml0
  have hown : s.vm.findClass "java/lang/StringLatin1" = some m.cls := findClass_of_methodNamed Bd.named
  have X0 : Stand p l e (rM 3 2 8 72) s m #[(.ref o0), (.int 2), (.int 4)] below meth c s₁ [] 0 0 := Stand.of_body Bd
  have e0 : s₁.heap = h0 := by rw [← hh, Bd.state]; rfl
  have N0 := Fr.nil n0
  have pre0 := fun t (k : oS p e below s₁ m 0 #[vR o0, vI 2, vI 4] [] t) => castTop (ef_32 m o0 (2 : Int32) (4 : Int32)) k
  obtain ⟨T1, h1, X1, e1, E1, A1, D1, U1, st1⟩ := newO X0 hx hZ hown (oW hw 190 rfl) (oW hw 41 rfl) (oW hw 33 rfl) e0 (g := (mkF m 7 #[vR o0, vI 2, vI 4] [])) rfl (hb hby d32_7) (by decide) (by decide)
  obtain ⟨b1, g1⟩ : ∃ z, z = h0.size := ⟨_, rfl⟩
  rw [← g1] at A1 D1 U1 st1
  have Ut1 : Unt h1 b1 := U1
  have g_b1 : n0 ≤ b1 := Nat.le_trans (own_le O0) (Nat.le_of_eq g1.symm)
  have O1 := O0.ext E1
  have F_value_b1 : Fld Z h1 b1 "java/lang/String" "value" "[B" .null := D1 (Or.inr (oW hw 52 rfl)) (ty := (.array .byte)) (by decide)
  have F_coder_b1 : Fld Z h1 b1 "java/lang/String" "coder" "B" (.int 0) := D1 (Or.inr (oW hw 54 rfl)) (ty := .byte) (by decide)
  obtain ⟨_, _, ⟨T2, L2, k2, n2⟩, -, X2, ⟨Lc2, hQ2, l2, y2, z2⟩, st2⟩ := Jvm.LawKit.callS X1 hx (y := mN46) hown (mvT hZ (oW hw 191 rfl)) (mvT hZ (oW hw 192 rfl)) (mvT hZ (oW hw 193 rfl)) (mvT hZ (oW hw 194 rfl)) (by decide) (backOf (W := 2) (rmRa6 l Z a0 hw [] o0  kA h1 n0 O1 (V_o0.ext E1)) hZ (oW hw 194 rfl) (oW hw 193 rfl) (by decide) (by decide)) (g := (mkF m 16 #[vR o0, vI 2, vI 4] [(.int 6), (.int 2), (.ref o0), (.ref b1), (.ref b1)])) rfl (by rw [hml]; rfl) (argsL := [(.ref o0), (.int 2), (.int 6)]) (rest := [(.ref b1), (.ref b1)]) (lenOf pd_25 rfl) rfl (by show 2 * 0 + _ ≤ _; exact Nat.le_of_eq rfl) (hb hby d32_16) (fun _ _ => ⟨rfl, e1, (by decide : 1 + 1 ≤ _), (by decide : 4 + 4 ≤ _)⟩)
  dsimp only [Pt.U, Pt.locs, Pt.cells, Pt.slots] at X2 l2 y2 z2 st2 hQ2
  subst l2 y2 z2
  obtain ⟨b2, k92, rfl, N2q, K2, Vb2, Sb2⟩ := hQ2
  have N2 := Fr.app N0 N2q
  have O2 := O1.keep K2 all0
  obtain ⟨_, _, ⟨T3, L3, k3, n3⟩, -, X3, ⟨Lc3, hQ3, l3, y3, z3⟩, st3⟩ := X2.specialBack hx (y := mN5) rfl hown (mvT hZ (oW hw 206 rfl)) (mvT hZ (oW hw 47 rfl)) (mvT hZ (oW hw 49 rfl)) (by decide) (backOf (W := 1) (rmSB l Z a0 hw [] b1 b2  T2.heap n0 O2 (A1.keep K2) (Ut1.keep K2 nin0) g_b1) hZ (oW hw 49 rfl) (oW hw 33 rfl) (by decide) (by decide)) (g := (mkF m 20 #[vR o0, vI 2, vI 4] [(.int 0), (.ref b2), (.ref b1), (.ref b1)])) rfl (by rw [hml]; rfl) (Steps.refl _) (a := b1) (argsL := [(.ref b2), (.int 0)]) (rest := [(.ref b1)]) (lenOf pd_3 rfl) rfl (by show 2 * 0 + _ ≤ _; exact Nat.le_of_eq rfl) (hb hby d32_20) (fun _ _ => ⟨rfl, rfl, (by decide : 2 + 0 ≤ _), (by decide : 8 + 0 ≤ _)⟩)
  dsimp only [Pt.U, Pt.locs, Pt.cells, Pt.slots] at X3 l3 y3 z3 st3 hQ3
  subst l3 y3 z3
  obtain ⟨rfl, N3q, K3, Fv3, Fc3⟩ := hQ3
  have N3 := Fr.app N2 N3q
  have O3 := O2.keep K3 (allS g_b1 all0)
  have v_b2_3_x := (Vb2.keep K3 (ninS (Ne.symm (Nat.ne_of_lt (Nat.lt_of_lt_of_le A1.lt Sb2))) nin0))
  obtain ⟨fs, hr, hrun, hended, hW, hsame⟩ := X3.leave (v := some (.ref b1)) (fun h => by rw [Bd.returns] at h; cases h)
  refine ⟨_, _, pre0 _ ?_, hrun, hended, _, _, rfl, ?_, ⟨_, rfl⟩, hW, hsame.mono (by decide) (by decide)⟩
  · show oS p e below s₁ m 0 #[vR o0, vI 2, vI 4] [] _
    refine XS.iloadN X0.here hx rfl (hb hby d32_0) rfl ?_
    refine XS.ifYes X0.here hx rfl (pc0 := 1) (pc' := 7) rfl (hb hby d32_1) rfl ((if0 _ _).trans (feq (by decide : ¬ ((4 : Int32) = (0 : Int32)))).2) (by decide) (by decide) ?_
    show oS p e below s₁ m 7 #[vR o0, vI 2, vI 4] [] _
    refine st1 _ ?_
    show oS p e below T1 m 10 #[vR o0, vI 2, vI 4] [(.ref b1)] _
    refine XS.dup X1.here hx rfl (hb hby d32_10) rfl rfl ?_
    refine XS.aloadN X1.here hx rfl (hb hby d32_11) rfl rfl ?_
    refine XS.iloadN X1.here hx rfl (hb hby d32_12) rfl ?_
    show oS p e below T1 m 13 #[vR o0, vI 2, vI 4] [(.int 2), (.ref o0), (.ref b1), (.ref b1)] _
    refine XS.iloadN X1.here hx rfl (hb hby d32_13) rfl ?_
    refine XS.iloadN X1.here hx rfl (hb hby d32_14) rfl ?_
    refine XS.iadd X1.here hx rfl (hb hby d32_15) rfl ?_
    show oS p e below T1 m 16 #[vR o0, vI 2, vI 4] [(.int 6), (.int 2), (.ref o0), (.ref b1), (.ref b1)] _
    refine st2 _ ?_
    show oS p e below T2 m 19 #[vR o0, vI 2, vI 4] [(.ref b2), (.ref b1), (.ref b1)] _
    refine XS.iconst X2.here hx rfl (hb hby d32_19) ?_
    show oS p e below T2 m 20 #[vR o0, vI 2, vI 4] [(.int 0), (.ref b2), (.ref b1), (.ref b1)] _
    refine st3.trans ?_
    show Steps p.tables e below (T3.setTop (mkF m 23 #[vR o0, vI 2, vI 4] [(.ref b1)])) _
    jvm_step X3.here [X3.here.top, hx, (hb hby d32_23), X3.method', Bd.returns, Value.isRef, FieldType.isReference]
    first | (intro acts; rw [hr _ acts rfl rfl rfl]) | rw [hr _ _ rfl rfl rfl]
    exact Steps.refl _
  · show own_QNS Z (4 : Int32) [(.int 98), (.int 91), (.int 120), (.int 93)] h0 n0 _ T3.heap _
    exact ⟨b1, b2, k92, rfl, N3, ((((Keep.refl h0 []).ext E1).trans K2 all0).trans K3 (allS (Or.inr (Nat.le_of_eq g1.symm)) all0)), ((A1.keep K2).keep K3), Fv3, Fc3, v_b2_3_x⟩
theorem rmSu6 (l : Launch) (Z : State) (a0 : Array Value) (hw : HW a0 Z) (ws : List Jvm.Cond) (o0 : Addr) (tA : Addr) (kA : ClassId) (zc : Int32) (fm : Value) (h0 : Heap) (n0 : Nat) (O0 : Old Z n0 h0) (E_o0 : Exa Z h0 o0 "java/lang/String") (F_value_o0 : Fld Z h0 o0 "java/lang/String" "value" "[B" (.ref tA)) (F_coder_o0 : Fld Z h0 o0 "java/lang/String" "coder" "B" (.int 0)) (V_tA : Arv Z h0 tA kA .byte (6 : Int32) [(.int 82), (.int 46), (.int 98), (.int 91), (.int 120), (.int 93)] (.int 0)) (S_CS : Sta Z Z.heap "java/lang/String" "COMPACT_STRINGS" "Z" (.int zc)) (hzc : ¬ zc = 0) (S_FM : Sta Z Z.heap "jdk/internal/util/Preconditions" "SIOOBE_FORMATTER" "Ljava/util/function/BiFunction;" fm) (hfm : fm.isRef = true) :
    oM l Z mN48 jdk_42_method_92_code 5 (some (.object "java/lang/String")) ws (rM 4 2 8 86) #[(.ref o0), (.int 2), (.int 6)] h0 (own_QNS Z (4 : Int32) [(.int 98), (.int 91), (.int 120), (.int 93)] h0 n0) := by
  refine MetFree.of_bodySF (plainFor_of_name pn_29) hisR ?_
  intro p e s m args below meth c s₁ Bd hml0 hP hK
  obtain ⟨rfl, hZ, hh⟩ := hP
  have hx := Bd.exec
  have hby := Bd.bytes
  have hml : c.maxLocals = 5 := hml0
  have hown : s.vm.findClass "java/lang/String" = some m.cls := findClass_of_methodNamed Bd.named
  have X0 : Stand p l e (rM 4 2 8 86) s m #[(.ref o0), (.int 2), (.int 6)] below meth c s₁ [] 0 0 := Stand.of_body Bd
  have e0 : s₁.heap = h0 := by rw [← hh, Bd.state]; rfl
  have N0 := Fr.nil n0
  have pre0 := fun t (k : oS p e below s₁ m 0 #[vR o0, vI 2, vI 6, .unset, .unset] [] t) => castTop (ef_29 m o0 (2 : Int32) (6 : Int32)) k
  obtain ⟨cq1, kq1, q1a, q1b, q1c⟩ := isOf hZ e0 E_o0
  obtain ⟨_, _, ⟨T1, L1, k1, n1⟩, -, X1, ⟨Lc1, hQ1, l1, y1, z1⟩, st1⟩ := X0.virtualBack hx (y := mN37) (z := mN37) hown (mvT hZ (oW hw 140 rfl)) (mvT hZ (oW hw 141 rfl)) (notFace_of_selects (args := #[]) (mvT hZ (oW hw 143 rfl))) (mvT hZ (oW hw 143 rfl)) (mvT hZ (oW hw 142 rfl)) (by decide) (backOf (W := 0) (rmLe l Z a0 hw [] o0 (6 : Int32) _ tA kA zc h0 n0 O0 E_o0 F_value_o0 F_coder_o0 V_tA S_CS hzc) hZ (oW hw 144 rfl) (oW hw 33 rfl) (by decide) (by decide)) q1a q1c (g := (mkF m 1 #[vR o0, vI 2, vI 6, .unset, .unset] [(.ref o0)])) rfl (by rw [hml]; rfl) (Steps.refl _) (argsL := []) (rest := []) (lenOf pd_22 rfl) rfl (by show 2 * 0 + _ ≤ _; exact Nat.le_of_eq rfl) (hb hby d29_1) (fun _ _ => ⟨rfl, e0, (by decide : 0 + 0 ≤ _), (by decide : 0 + 0 ≤ _)⟩)
  dsimp only [Pt.U, Pt.locs, Pt.cells, Pt.slots] at X1 l1 y1 z1 st1 hQ1
  subst l1 y1 z1
  obtain ⟨rfl, N1q, e1⟩ := hQ1
  have N1 := Fr.app N0 N1q
  obtain ⟨_, _, ⟨T2, L2, k2, n2⟩, -, X2, ⟨Lc2, hQ2, l2, y2, z2⟩, st2⟩ := Jvm.LawKit.callS X1 hx (y := mN43) hown (mvT hZ (oW hw 179 rfl)) (mvT hZ (oW hw 180 rfl)) (mvT hZ (oW hw 33 rfl)) (mvT hZ (oW hw 181 rfl)) (by decide) (backOf (W := 0) (rmCB l Z a0 hw [] (2 : Int32) (6 : Int32) (6 : Int32) fm  h0 n0 O0 S_FM hfm (by decide) (by decide) (by decide)) hZ (oW hw 181 rfl) (oW hw 33 rfl) (by decide) (by decide)) (g := (mkF m 8 #[vR o0, vI 2, vI 6, vI 6, .unset] [(.int 6), (.int 6), (.int 2)])) rfl (by rw [hml]; rfl) (argsL := [(.int 2), (.int 6), (.int 6)]) (rest := []) (lenOf pd_26 rfl) rfl (by show 2 * 0 + _ ≤ _; exact Nat.le_of_eq rfl) (hb hby d29_8) (fun _ _ => ⟨rfl, e1, (by decide : 0 + 0 ≤ _), (by decide : 0 + 0 ≤ _)⟩)
  dsimp only [Pt.U, Pt.locs, Pt.cells, Pt.slots] at X2 l2 y2 z2 st2 hQ2
  subst l2 y2 z2
  obtain ⟨rfl, N2q, e2⟩ := hQ2
  have N2 := Fr.app N1 N2q
  obtain ⟨cq3, kq3, q3a, q3b, q3c⟩ := isOf hZ e2 E_o0
  obtain ⟨_, _, ⟨T3, L3, k3, n3⟩, -, X3, ⟨Lc3, hQ3, l3, y3, z3⟩, st3⟩ := X2.virtualBack hx (y := mN35) (z := mN35) hown (mvT hZ (oW hw 155 rfl)) (mvT hZ (oW hw 156 rfl)) (notFace_of_selects (args := #[]) (mvT hZ (oW hw 158 rfl))) (mvT hZ (oW hw 158 rfl)) (mvT hZ (oW hw 157 rfl)) (by decide) (backOf (W := 0) (rmLa l Z a0 hw [] o0 zc h0 n0 O0 S_CS hzc F_coder_o0) hZ (oW hw 159 rfl) (oW hw 33 rfl) (by decide) (by decide)) q3a q3c (g := (mkF m 28 #[vR o0, vI 2, vI 6, vI 6, vI 4] [(.ref o0)])) rfl (by rw [hml]; rfl) (Steps.refl _) (argsL := []) (rest := []) (lenOf pd_15 rfl) rfl (by show 2 * 0 + _ ≤ _; exact Nat.le_of_eq rfl) (hb hby d29_28) (fun _ _ => ⟨rfl, e2, (by decide : 0 + 0 ≤ _), (by decide : 0 + 0 ≤ _)⟩)
  dsimp only [Pt.U, Pt.locs, Pt.cells, Pt.slots] at X3 l3 y3 z3 st3 hQ3
  subst l3 y3 z3
  obtain ⟨rfl, N3q, e3⟩ := hQ3
  have N3 := Fr.app N2 N3q
  obtain ⟨T4, X4, e4, st4⟩ := getF X3 hx hZ hown (host := "") (Or.inl (oW hw 51 rfl)) Via.refl e3 F_value_o0 (g := (mkF m 35 #[vR o0, vI 2, vI 6, vI 6, vI 4] [(.ref o0)])) rfl rfl (hb hby d29_35)
  obtain ⟨_, _, ⟨T5, L5, k5, n5⟩, -, X5, ⟨Lc5, hQ5, l5, y5, z5⟩, st5⟩ := Jvm.LawKit.callS X4 hx (y := mN47) hown (mvT hZ (oW hw 187 rfl)) (mvT hZ (oW hw 188 rfl)) (mvT hZ (oW hw 38 rfl)) (mvT hZ (oW hw 189 rfl)) (by decide) (backOf (W := 0) (rmNS6 l Z a0 hw [] tA  kA h0 n0 O0 V_tA) hZ (oW hw 189 rfl) (oW hw 38 rfl) (by decide) (by decide)) (g := (mkF m 41 #[vR o0, vI 2, vI 6, vI 6, vI 4] [(.int 4), (.int 2), (.ref tA)])) rfl (by rw [hml]; rfl) (argsL := [(.ref tA), (.int 2), (.int 4)]) (rest := []) (lenOf pd_27 rfl) rfl (by show 2 * 0 + _ ≤ _; exact Nat.le_of_eq rfl) (hb hby d29_41) (fun _ _ => ⟨rfl, e4, (by decide : 0 + 2 ≤ _), (by decide : 0 + 8 ≤ _)⟩)
  dsimp only [Pt.U, Pt.locs, Pt.cells, Pt.slots] at X5 l5 y5 z5 st5 hQ5
  subst l5 y5 z5
  obtain ⟨x5, t5, k95, rfl, N5q, K5, Ex5, Fv5, Fc5, Vt5⟩ := hQ5
  have N5 := Fr.app N3 N5q
  have O5 := O0.keep K5 all0
  obtain ⟨fs, hr, hrun, hended, hW, hsame⟩ := X5.leave (v := some (.ref x5)) (fun h => by rw [Bd.returns] at h; cases h)
  refine ⟨_, _, pre0 _ ?_, hrun, hended, _, _, rfl, ?_, ⟨_, rfl⟩, hW, hsame.mono (by decide) (by decide)⟩
  · show oS p e below s₁ m 0 #[vR o0, vI 2, vI 6, .unset, .unset] [] _
    refine XS.aloadN X0.here hx rfl (hb hby d29_0) rfl rfl ?_
    show oS p e below s₁ m 1 #[vR o0, vI 2, vI 6, .unset, .unset] [(.ref o0)] _
    refine st1.trans ?_
    show oS p e below T1 m 4 #[vR o0, vI 2, vI 6, .unset, .unset] [(.int 6)] _
    refine XS.istoreN X1.here hx rfl (hb hby d29_4) rfl (l' := #[vR o0, vI 2, vI 6, vI 6, .unset]) rfl ?_
    show oS p e below T1 m 5 #[vR o0, vI 2, vI 6, vI 6, .unset] [] _
    refine XS.iloadN X1.here hx rfl (hb hby d29_5) rfl ?_
    refine XS.iloadN X1.here hx rfl (hb hby d29_6) rfl ?_
    refine XS.iloadN X1.here hx rfl (hb hby d29_7) rfl ?_
    show oS p e below T1 m 8 #[vR o0, vI 2, vI 6, vI 6, .unset] [(.int 6), (.int 6), (.int 2)] _
    refine st2 _ ?_
    show oS p e below T2 m 11 #[vR o0, vI 2, vI 6, vI 6, .unset] [] _
    refine XS.iloadN X2.here hx rfl (hb hby d29_11) rfl ?_
    refine XS.ifYes X2.here hx rfl (pc0 := 12) (pc' := 22) rfl (hb hby d29_12) rfl ((if0 _ _).trans (feq (by decide : ¬ ((2 : Int32) = (0 : Int32)))).2) (by decide) (by decide) ?_
    show oS p e below T2 m 22 #[vR o0, vI 2, vI 6, vI 6, .unset] [] _
    refine XS.iloadN X2.here hx rfl (hb hby d29_22) rfl ?_
    refine XS.iloadN X2.here hx rfl (hb hby d29_23) rfl ?_
    refine XS.isub X2.here hx rfl (hb hby d29_24) rfl ?_
    show oS p e below T2 m 25 #[vR o0, vI 2, vI 6, vI 6, .unset] [(.int 4)] _
    refine XS.istore X2.here hx rfl (hb hby d29_25) rfl (l' := #[vR o0, vI 2, vI 6, vI 6, vI 4]) rfl ?_
    show oS p e below T2 m 27 #[vR o0, vI 2, vI 6, vI 6, vI 4] [] _
    refine XS.aloadN X2.here hx rfl (hb hby d29_27) rfl rfl ?_
    show oS p e below T2 m 28 #[vR o0, vI 2, vI 6, vI 6, vI 4] [(.ref o0)] _
    refine st3.trans ?_
    show oS p e below T3 m 31 #[vR o0, vI 2, vI 6, vI 6, vI 4] [(.int 1)] _
    refine XS.ifNo X3.here hx rfl (hb hby d29_31) rfl ((if0 _ _).trans (feq (by decide : ¬ ((1 : Int32) = (0 : Int32)))).1) ?_
    show oS p e below T3 m 34 #[vR o0, vI 2, vI 6, vI 6, vI 4] [] _
    refine XS.aloadN X3.here hx rfl (hb hby d29_34) rfl rfl ?_
    show oS p e below T3 m 35 #[vR o0, vI 2, vI 6, vI 6, vI 4] [(.ref o0)] _
    refine st4 _ ?_
    show oS p e below T4 m 38 #[vR o0, vI 2, vI 6, vI 6, vI 4] [(.ref tA)] _
    refine XS.iloadN X4.here hx rfl (hb hby d29_38) rfl ?_
    refine XS.iload X4.here hx rfl (hb hby d29_39) rfl ?_
    show oS p e below T4 m 41 #[vR o0, vI 2, vI 6, vI 6, vI 4] [(.int 4), (.int 2), (.ref tA)] _
    refine st5 _ ?_
    show oS p e below T5 m 44 #[vR o0, vI 2, vI 6, vI 6, vI 4] [(.ref x5)] _
    refine XS.goto X5.here hx rfl (pc0 := 44) (pc' := 57) rfl (hb hby d29_44) (by decide) (by decide) ?_
    show Steps p.tables e below (T5.setTop (mkF m 57 #[vR o0, vI 2, vI 6, vI 6, vI 4] [(.ref x5)])) _
    jvm_step X5.here [X5.here.top, hx, (hb hby d29_57), X5.method', Bd.returns, Value.isRef, FieldType.isReference]
    first | (intro acts; rw [hr _ acts rfl rfl rfl]) | rw [hr _ _ rfl rfl rfl]
    exact Steps.refl _
  · show own_QNS Z (4 : Int32) [(.int 98), (.int 91), (.int 120), (.int 93)] h0 n0 _ T5.heap _
    exact ⟨x5, t5, k95, rfl, N5, ((Keep.refl h0 []).trans K5 all0), Ex5, Fv5, Fc5, Vt5⟩
theorem rmSS6 (l : Launch) (Z : State) (a0 : Array Value) (hw : HW a0 Z) (ws : List Jvm.Cond) (o0 : Addr) (tA : Addr) (kA : ClassId) (zc : Int32) (fm : Value) (h0 : Heap) (n0 : Nat) (O0 : Old Z n0 h0) (E_o0 : Exa Z h0 o0 "java/lang/String") (F_value_o0 : Fld Z h0 o0 "java/lang/String" "value" "[B" (.ref tA)) (F_coder_o0 : Fld Z h0 o0 "java/lang/String" "coder" "B" (.int 0)) (V_tA : Arv Z h0 tA kA .byte (6 : Int32) [(.int 82), (.int 46), (.int 98), (.int 91), (.int 120), (.int 93)] (.int 0)) (S_CS : Sta Z Z.heap "java/lang/String" "COMPACT_STRINGS" "Z" (.int zc)) (hzc : ¬ zc = 0) (S_FM : Sta Z Z.heap "jdk/internal/util/Preconditions" "SIOOBE_FORMATTER" "Ljava/util/function/BiFunction;" fm) (hfm : fm.isRef = true) :
    oM l Z mN49 jdk_42_method_91_code 2 (some (.object "java/lang/String")) ws (rM 5 2 8 102) #[(.ref o0), (.int 2)] h0 (own_QNS Z (4 : Int32) [(.int 98), (.int 91), (.int 120), (.int 93)] h0 n0) := by
  refine MetFree.of_bodySF (plainFor_of_name pn_28) hisR ?_
  intro p e s m args below meth c s₁ Bd hml0 hP hK
  obtain ⟨rfl, hZ, hh⟩ := hP
  have hx := Bd.exec
  have hby := Bd.bytes
  have hml : c.maxLocals = 2 := hml0
  have hown : s.vm.findClass "java/lang/String" = some m.cls := findClass_of_methodNamed Bd.named
  have X0 : Stand p l e (rM 5 2 8 102) s m #[(.ref o0), (.int 2)] below meth c s₁ [] 0 0 := Stand.of_body Bd
  have e0 : s₁.heap = h0 := by rw [← hh, Bd.state]; rfl
  have N0 := Fr.nil n0
  have pre0 := fun t (k : oS p e below s₁ m 0 #[vR o0, vI 2] [] t) => castTop (ef_28 m o0 (2 : Int32)) k
  obtain ⟨cq1, kq1, q1a, q1b, q1c⟩ := isOf hZ e0 E_o0
  obtain ⟨_, _, ⟨T1, L1, k1, n1⟩, -, X1, ⟨Lc1, hQ1, l1, y1, z1⟩, st1⟩ := X0.virtualBack hx (y := mN37) (z := mN37) hown (mvT hZ (oW hw 140 rfl)) (mvT hZ (oW hw 141 rfl)) (notFace_of_selects (args := #[]) (mvT hZ (oW hw 143 rfl))) (mvT hZ (oW hw 143 rfl)) (mvT hZ (oW hw 142 rfl)) (by decide) (backOf (W := 2) (rmLe l Z a0 hw [] o0 (6 : Int32) _ tA kA zc h0 n0 O0 E_o0 F_value_o0 F_coder_o0 V_tA S_CS hzc) hZ (oW hw 144 rfl) (oW hw 33 rfl) (by decide) (by decide)) q1a q1c (g := (mkF m 3 #[vR o0, vI 2] [(.ref o0), (.int 2), (.ref o0)])) rfl (by rw [hml]; rfl) (Steps.refl _) (argsL := []) (rest := [(.int 2), (.ref o0)]) (lenOf pd_22 rfl) rfl (by show 2 * 0 + _ ≤ _; exact Nat.le_of_eq rfl) (hb hby d28_3) (fun _ _ => ⟨rfl, e0, (by decide : 0 + 0 ≤ _), (by decide : 0 + 0 ≤ _)⟩)
  dsimp only [Pt.U, Pt.locs, Pt.cells, Pt.slots] at X1 l1 y1 z1 st1 hQ1
  subst l1 y1 z1
  obtain ⟨rfl, N1q, e1⟩ := hQ1
  have N1 := Fr.app N0 N1q
  obtain ⟨cq2, kq2, q2a, q2b, q2c⟩ := isOf hZ e1 E_o0
  obtain ⟨_, _, ⟨T2, L2, k2, n2⟩, -, X2, ⟨Lc2, hQ2, l2, y2, z2⟩, st2⟩ := X1.virtualBack hx (y := mN48) (z := mN48) hown (mvT hZ (oW hw 174 rfl)) (mvT hZ (oW hw 175 rfl)) (notFace_of_selects (args := #[]) (mvT hZ (oW hw 177 rfl))) (mvT hZ (oW hw 177 rfl)) (mvT hZ (oW hw 176 rfl)) (by decide) (backOf (W := 0) (rmSu6 l Z a0 hw [] o0  tA kA zc fm h0 n0 O0 E_o0 F_value_o0 F_coder_o0 V_tA S_CS hzc S_FM hfm) hZ (oW hw 178 rfl) (oW hw 33 rfl) (by decide) (by decide)) q2a q2c (g := (mkF m 6 #[vR o0, vI 2] [(.int 6), (.int 2), (.ref o0)])) rfl (by rw [hml]; rfl) (Steps.refl _) (argsL := [(.int 2), (.int 6)]) (rest := []) (lenOf pd_28 rfl) rfl (by show 2 * 0 + _ ≤ _; exact Nat.le_of_eq rfl) (hb hby d28_6) (fun _ _ => ⟨rfl, e1, (by decide : 0 + 2 ≤ _), (by decide : 0 + 8 ≤ _)⟩)
  dsimp only [Pt.U, Pt.locs, Pt.cells, Pt.slots] at X2 l2 y2 z2 st2 hQ2
  subst l2 y2 z2
  obtain ⟨x2, t2, k92, rfl, N2q, K2, Ex2, Fv2, Fc2, Vt2⟩ := hQ2
  have N2 := Fr.app N1 N2q
  have O2 := O0.keep K2 all0
  obtain ⟨fs, hr, hrun, hended, hW, hsame⟩ := X2.leave (v := some (.ref x2)) (fun h => by rw [Bd.returns] at h; cases h)
  refine ⟨_, _, pre0 _ ?_, hrun, hended, _, _, rfl, ?_, ⟨_, rfl⟩, hW, hsame.mono (by decide) (by decide)⟩
  · show oS p e below s₁ m 0 #[vR o0, vI 2] [] _
    refine XS.aloadN X0.here hx rfl (hb hby d28_0) rfl rfl ?_
    refine XS.iloadN X0.here hx rfl (hb hby d28_1) rfl ?_
    refine XS.aloadN X0.here hx rfl (hb hby d28_2) rfl rfl ?_
    show oS p e below s₁ m 3 #[vR o0, vI 2] [(.ref o0), (.int 2), (.ref o0)] _
    refine st1.trans ?_
    show oS p e below T1 m 6 #[vR o0, vI 2] [(.int 6), (.int 2), (.ref o0)] _
    refine st2.trans ?_
    show Steps p.tables e below (T2.setTop (mkF m 9 #[vR o0, vI 2] [(.ref x2)])) _
    jvm_step X2.here [X2.here.top, hx, (hb hby d28_9), X2.method', Bd.returns, Value.isRef, FieldType.isReference]
    first | (intro acts; rw [hr _ acts rfl rfl rfl]) | rw [hr _ _ rfl rfl rfl]
    exact Steps.refl _
  · show own_QNS Z (4 : Int32) [(.int 98), (.int 91), (.int 120), (.int 93)] h0 n0 _ T2.heap _
    exact ⟨x2, t2, k92, rfl, N2, ((Keep.refl h0 []).trans K2 all0), Ex2, Fv2, Fc2, Vt2⟩
theorem rmRB4 (l : Launch) (Z : State) (a0 : Array Value) (hw : HW a0 Z) (ws : List Jvm.Cond) (o0 : Addr) (kA : ClassId) (h0 : Heap) (n0 : Nat) (O0 : Old Z n0 h0) (V_o0 : Arv Z h0 o0 kA .byte (4 : Int32) [(.int 98), (.int 91), (.int 120), (.int 93)] (.int 0)) :
    oM l Z mN45 jdk_65_method_133_code 5 (some (.array .byte)) ws (rM 1 1 1 40) #[(.ref o0), (.int 0), (.int 1)] h0 (own_QRa Z (1 : Int32) [(.int 98)] h0 n0) := by
  refine MetFree.of_bodySF (plainFor_of_name pn_34) hisR ?_
  intro p e s m args below meth c s₁ Bd hml0 hP hK
  obtain ⟨rfl, hZ, hh⟩ := hP
  have hx := Bd.exec
  have hby := Bd.bytes
  have hml : c.maxLocals = 5 := hml0
  have hown : s.vm.findClass "java/util/Arrays" = some m.cls := findClass_of_methodNamed Bd.named
  have X0 : Stand p l e (rM 1 1 1 40) s m #[(.ref o0), (.int 0), (.int 1)] below meth c s₁ [] 0 0 := Stand.of_body Bd
  have e0 : s₁.heap = h0 := by rw [← hh, Bd.state]; rfl
  have N0 := Fr.nil n0
  have pre0 := fun t (k : oS p e below s₁ m 0 #[vR o0, vI 0, vI 1, .unset, .unset] [] t) => castTop (ef_34 m o0 (0 : Int32) (1 : Int32)) k
  obtain ⟨_, _, ⟨T1, L1, k1, n1⟩, -, X1, ⟨Lc1, hQ1, l1, y1, z1⟩, st1⟩ := Jvm.LawKit.callS X0 hx (y := mN44) hown (mvT hZ (oW hw 198 rfl)) (mvT hZ (oW hw 199 rfl)) (mvT hZ (oW hw 193 rfl)) (mvT hZ (oW hw 200 rfl)) (by decide) (backOf (W := 0) (rmCL l Z a0 hw [] (0 : Int32) (1 : Int32)  h0 n0 O0 (by decide)) hZ (oW hw 200 rfl) (oW hw 193 rfl) (by decide) (by decide)) (g := (mkF m 2 #[vR o0, vI 0, vI 1, .unset, .unset] [(.int 1), (.int 0)])) rfl (by rw [hml]; rfl) (argsL := [(.int 0), (.int 1)]) (rest := []) (lenOf pd_24 rfl) rfl (by show 2 * 0 + _ ≤ _; exact Nat.le_of_eq rfl) (hb hby d34_2) (fun _ _ => ⟨rfl, e0, (by decide : 0 + 0 ≤ _), (by decide : 0 + 0 ≤ _)⟩)
  dsimp only [Pt.U, Pt.locs, Pt.cells, Pt.slots] at X1 l1 y1 z1 st1 hQ1
  subst l1 y1 z1
  obtain ⟨rfl, N1q, e1⟩ := hQ1
  have N1 := Fr.app N0 N1q
  obtain ⟨T2, h2, k2, X2, e2, E2, A2, st2⟩ := newP X1 hx hZ (oW hw 45 rfl) e1 (g := (mkF m 10 #[vR o0, vI 0, vI 1, vI 1, .unset] [(.int 1)])) rfl (hb hby d34_10) rfl (by decide) (cap := 1) (by decide) (by decide) (by decide) (by decide)
  obtain ⟨b2, g2⟩ : ∃ z, z = h0.size := ⟨_, rfl⟩
  rw [← g2] at A2 st2
  have g_b2 : n0 ≤ b2 := Nat.le_trans (own_le O0) (Nat.le_of_eq g2.symm)
  have O2 := O0.ext E2
  have V_b2 : Arv Z h2 b2 k2 .byte (1 : Int32) [(.int 0)] (.int 0) := (Arv.new A2 (by decide)).pad (pad_rep [] (.int 0) 1)
  obtain ⟨cl3, Ar3, qa3, Sz3, Ng3, Hs3, Ft3⟩ := (V_o0.ext E2)
  have V3o : Arv Z h2 o0 kA .byte (4 : Int32) [(.int 98), (.int 91), (.int 120), (.int 93)] (.int 0) := ⟨cl3, Ar3, qa3, Sz3, Ng3, Hs3, Ft3⟩
  obtain ⟨_, _, ⟨T4, L4, k4, n4⟩, -, X4, ⟨Lc4, hQ4, l4, y4, z4⟩, st4⟩ := Jvm.LawKit.callS X2 hx (y := mN16) hown (mvT hZ (oW hw 201 rfl)) (mvT hZ (oW hw 167 rfl)) (mvT hZ (oW hw 81 rfl)) (mvT hZ (oW hw 168 rfl)) (by decide) (backOf (W := 4) (rmMinG l Z a0 hw [] (4 : Int32) (1 : Int32)  h2 n0 O2 (by decide)) hZ (oW hw 168 rfl) (oW hw 81 rfl) (by decide) (by decide)) (g := (mkF m 24 #[vR o0, vI 0, vI 1, vI 1, vR b2] [(.int 1), (.int 4), (.int 0), (.ref b2), (.int 0), (.ref o0)])) rfl (by rw [hml]; rfl) (argsL := [(.int 4), (.int 1)]) (rest := [(.int 0), (.ref b2), (.int 0), (.ref o0)]) (lenOf pd_4 rfl) rfl (by show 2 * 0 + _ ≤ _; exact Nat.le_of_eq rfl) (hb hby d34_24) (fun _ _ => ⟨rfl, e2, (by decide : 1 + 0 ≤ _), (by decide : 1 + 0 ≤ _)⟩)
  dsimp only [Pt.U, Pt.locs, Pt.cells, Pt.slots] at X4 l4 y4 z4 st4 hQ4
  subst l4 y4 z4
  obtain ⟨rfl, N4q, e4⟩ := hQ4
  have N4 := Fr.app N1 N4q
  obtain ⟨T5, h5, L5, X5, e5, N5, K5, Va5, st5⟩ := cpA X4 hx hZ hown (oW hw 202 rfl) (oW hw 205 rfl) (oW hw 203 rfl) (oW hw 204 rfl) e4 (sp := (0 : Int32)) (dp := (0 : Int32)) (nn := (1 : Int32)) (us := [(.int 98)]) V3o V_b2 (Or.inl ⟨rfl, rfl⟩) (by decide) (by decide) (by decide) (by decide) (by decide) rfl (by decide) N4 g_b2 (g := (mkF m 27 #[vR o0, vI 0, vI 1, vI 1, vR b2] [(.int 1), (.int 0), (.ref b2), (.int 0), (.ref o0)])) rfl (by rw [hml]; rfl) rfl (hb hby d34_27) (by decide) (W := 0) (by show 2 * 0 + _ ≤ _; exact Nat.le_of_eq rfl) (by decide)
  have O5 := O2.keep K5 (allS g_b2 all0)
  have Vc5 : Arv Z h5 b2 k2 .byte (1 : Int32) [(.int 98)] (.int 0) := Va5
  obtain ⟨fs, hr, hrun, hended, hW, hsame⟩ := X5.leave (v := some (.ref b2)) (fun h => by rw [Bd.returns] at h; cases h)
  refine ⟨_, _, pre0 _ ?_, hrun, hended, _, _, rfl, ?_, ⟨_, rfl⟩, hW, hsame.mono (by decide) (by decide)⟩
  · show oS p e below s₁ m 0 #[vR o0, vI 0, vI 1, .unset, .unset] [] _
    refine XS.iloadN X0.here hx rfl (hb hby d34_0) rfl ?_
    refine XS.iloadN X0.here hx rfl (hb hby d34_1) rfl ?_
    show oS p e below s₁ m 2 #[vR o0, vI 0, vI 1, .unset, .unset] [(.int 1), (.int 0)] _
    refine st1 _ ?_
    show oS p e below T1 m 5 #[vR o0, vI 0, vI 1, .unset, .unset] [] _
    refine XS.iloadN X1.here hx rfl (hb hby d34_5) rfl ?_
    refine XS.iloadN X1.here hx rfl (hb hby d34_6) rfl ?_
    refine XS.isub X1.here hx rfl (hb hby d34_7) rfl ?_
    show oS p e below T1 m 8 #[vR o0, vI 0, vI 1, .unset, .unset] [(.int 1)] _
    refine XS.istoreN X1.here hx rfl (hb hby d34_8) rfl (l' := #[vR o0, vI 0, vI 1, vI 1, .unset]) rfl ?_
    show oS p e below T1 m 9 #[vR o0, vI 0, vI 1, vI 1, .unset] [] _
    refine XS.iloadN X1.here hx rfl (hb hby d34_9) rfl ?_
    show oS p e below T1 m 10 #[vR o0, vI 0, vI 1, vI 1, .unset] [(.int 1)] _
    refine st2 _ ?_
    show oS p e below T2 m 12 #[vR o0, vI 0, vI 1, vI 1, .unset] [(.ref b2)] _
    refine XS.astore X2.here hx rfl (hb hby d34_12) rfl rfl (l' := #[vR o0, vI 0, vI 1, vI 1, vR b2]) rfl ?_
    show oS p e below T2 m 14 #[vR o0, vI 0, vI 1, vI 1, vR b2] [] _
    refine XS.aloadN X2.here hx rfl (hb hby d34_14) rfl rfl ?_
    refine XS.iloadN X2.here hx rfl (hb hby d34_15) rfl ?_
    refine XS.aload X2.here hx rfl (hb hby d34_16) rfl rfl ?_
    show oS p e below T2 m 18 #[vR o0, vI 0, vI 1, vI 1, vR b2] [(.ref b2), (.int 0), (.ref o0)] _
    refine XS.iconst X2.here hx rfl (hb hby d34_18) ?_
    refine XS.aloadN X2.here hx rfl (hb hby d34_19) rfl rfl ?_
    show oS p e below T2 m 20 #[vR o0, vI 0, vI 1, vI 1, vR b2] [(.ref o0), (.int 0), (.ref b2), (.int 0), (.ref o0)] _
    refine X2.arraylength hx (by rw [e2]; exact Ar3.1) (State.isArrayOf_alike hZ.alike Ar3.2.1) (g := (mkF m 20 #[vR o0, vI 0, vI 1, vI 1, vR b2] [(.ref o0), (.int 0), (.ref b2), (.int 0), (.ref o0)])) rfl rfl (hb hby d34_20) _ ?_
    rw [len_of Sz3 Ng3]
    show oS p e below T2 m 21 #[vR o0, vI 0, vI 1, vI 1, vR b2] [(.int 4), (.int 0), (.ref b2), (.int 0), (.ref o0)] _
    refine XS.iloadN X2.here hx rfl (hb hby d34_21) rfl ?_
    refine XS.isub X2.here hx rfl (hb hby d34_22) rfl ?_
    show oS p e below T2 m 23 #[vR o0, vI 0, vI 1, vI 1, vR b2] [(.int 4), (.int 0), (.ref b2), (.int 0), (.ref o0)] _
    refine XS.iloadN X2.here hx rfl (hb hby d34_23) rfl ?_
    show oS p e below T2 m 24 #[vR o0, vI 0, vI 1, vI 1, vR b2] [(.int 1), (.int 4), (.int 0), (.ref b2), (.int 0), (.ref o0)] _
    refine st4 _ ?_
    show oS p e below T4 m 27 #[vR o0, vI 0, vI 1, vI 1, vR b2] [(.int 1), (.int 0), (.ref b2), (.int 0), (.ref o0)] _
    refine st5 _ ?_
    show oS p e below T5 m 30 #[vR o0, vI 0, vI 1, vI 1, vR b2] [] _
    refine XS.aload X5.here hx rfl (hb hby d34_30) rfl rfl ?_
    show Steps p.tables e below (T5.setTop (mkF m 32 #[vR o0, vI 0, vI 1, vI 1, vR b2] [(.ref b2)])) _
    jvm_step X5.here [X5.here.top, hx, (hb hby d34_32), X5.method', Bd.returns, Value.isRef, FieldType.isReference]
    first | (intro acts; rw [hr _ acts rfl rfl rfl]) | rw [hr _ _ rfl rfl rfl]
    exact Steps.refl _
  · show own_QRa Z (1 : Int32) [(.int 98)] h0 n0 _ T5.heap _
    rw [e5]
    exact ⟨b2, k2, rfl, N5, (((Keep.refl h0 []).ext E2).trans K5 (allS (Or.inr (Nat.le_of_eq g2.symm)) all0)), Vc5, (Nat.le_of_eq g2.symm)⟩
theorem d33_4 : decode jdk_65_method_132_code 4 = .ok (.iload_n 2, 1) := by decide +kernel
theorem d33_5 : decode jdk_65_method_132_code 5 = .ok (.aload_n 0, 1) := by decide +kernel
theorem d33_6 : decode jdk_65_method_132_code 6 = .ok (.arraylength, 1) := by decide +kernel
theorem d33_7 : decode jdk_65_method_132_code 7 = .ok (.if_icmp .eq 10, 3) := by decide +kernel
theorem rmRa4 (l : Launch) (Z : State) (a0 : Array Value) (hw : HW a0 Z) (ws : List Jvm.Cond) (o0 : Addr) (kA : ClassId) (h0 : Heap) (n0 : Nat) (O0 : Old Z n0 h0) (V_o0 : Arv Z h0 o0 kA .byte (4 : Int32) [(.int 98), (.int 91), (.int 120), (.int 93)] (.int 0)) :
    oM l Z mN46 jdk_65_method_132_code 3 (some (.array .byte)) ws (rM 2 1 1 56) #[(.ref o0), (.int 0), (.int 1)] h0 (own_QRa Z (1 : Int32) [(.int 98)] h0 n0) := by
  refine MetFree.of_bodySF (plainFor_of_name pn_33) hisR ?_
  intro p e s m args below meth c s₁ Bd hml0 hP hK
  obtain ⟨rfl, hZ, hh⟩ := hP
  have hx := Bd.exec
  have hby := Bd.bytes
  have hml : c.maxLocals = 3 := hml0
  have hown : s.vm.findClass "java/util/Arrays" = some m.cls := findClass_of_methodNamed Bd.named
  have X0 : Stand p l e (rM 2 1 1 56) s m #[(.ref o0), (.int 0), (.int 1)] below meth c s₁ [] 0 0 := Stand.of_body Bd
  have e0 : s₁.heap = h0 := by rw [← hh, Bd.state]; rfl
  have N0 := Fr.nil n0
  have pre0 := fun t (k : oS p e below s₁ m 0 #[vR o0, vI 0, vI 1] [] t) => castTop (ef_33 m o0 (0 : Int32) (1 : Int32)) k
  obtain ⟨cl1, Ar1, qa1, Sz1, Ng1, Hs1, Ft1⟩ := V_o0
  have V1o : Arv Z h0 o0 kA .byte (4 : Int32) [(.int 98), (.int 91), (.int 120), (.int 93)] (.int 0) := ⟨cl1, Ar1, qa1, Sz1, Ng1, Hs1, Ft1⟩
  obtain ⟨_, _, ⟨T2, L2, k2, n2⟩, -, X2, ⟨Lc2, hQ2, l2, y2, z2⟩, st2⟩ := Jvm.LawKit.callS X0 hx (y := mN45) hown (mvT hZ (oW hw 195 rfl)) (mvT hZ (oW hw 196 rfl)) (mvT hZ (oW hw 193 rfl)) (mvT hZ (oW hw 197 rfl)) (by decide) (backOf (W := 0) (rmRB4 l Z a0 hw [] o0  kA h0 n0 O0 V1o) hZ (oW hw 197 rfl) (oW hw 193 rfl) (by decide) (by decide)) (g := (mkF m 13 #[vR o0, vI 0, vI 1] [(.int 1), (.int 0), (.ref o0)])) rfl (by rw [hml]; rfl) (argsL := [(.ref o0), (.int 0), (.int 1)]) (rest := []) (lenOf pd_25 rfl) rfl (by show 2 * 0 + _ ≤ _; exact Nat.le_of_eq rfl) (hb hby d33_13) (fun _ _ => ⟨rfl, e0, (by decide : 0 + 1 ≤ _), (by decide : 0 + 1 ≤ _)⟩)
  dsimp only [Pt.U, Pt.locs, Pt.cells, Pt.slots] at X2 l2 y2 z2 st2 hQ2
  subst l2 y2 z2
  obtain ⟨b2, k92, rfl, N2q, K2, Vb2, Sb2⟩ := hQ2
  have N2 := Fr.app N0 N2q
  have O2 := O0.keep K2 all0
  obtain ⟨fs, hr, hrun, hended, hW, hsame⟩ := X2.leave (v := some (.ref b2)) (fun h => by rw [Bd.returns] at h; cases h)
  refine ⟨_, _, pre0 _ ?_, hrun, hended, _, _, rfl, ?_, ⟨_, rfl⟩, hW, hsame.mono (by decide) (by decide)⟩
  · show oS p e below s₁ m 0 #[vR o0, vI 0, vI 1] [] _
    refine XS.iloadN X0.here hx rfl (hb hby d33_0) rfl ?_
    refine XS.ifNo X0.here hx rfl (hb hby d33_1) rfl ((if0 _ _).trans (teq (by decide : (0 : Int32) = (0 : Int32))).2) ?_
    show oS p e below s₁ m 4 #[vR o0, vI 0, vI 1] [] _
    refine XS.iloadN X0.here hx rfl (hb hby d33_4) rfl ?_
    refine XS.aloadN X0.here hx rfl (hb hby d33_5) rfl rfl ?_
    show oS p e below s₁ m 6 #[vR o0, vI 0, vI 1] [(.ref o0), (.int 1)] _
    refine X0.arraylength hx (by rw [e0]; exact Ar1.1) (State.isArrayOf_alike hZ.alike Ar1.2.1) (g := (mkF m 6 #[vR o0, vI 0, vI 1] [(.ref o0), (.int 1)])) rfl rfl (hb hby d33_6) _ ?_
    rw [len_of Sz1 Ng1]
    show oS p e below s₁ m 7 #[vR o0, vI 0, vI 1] [(.int 4), (.int 1)] _
    refine XS.icmpNo X0.here hx rfl (hb hby d33_7) rfl (feq (by decide : ¬ ((1 : Int32) = (4 : Int32)))).1 ?_
    show oS p e below s₁ m 10 #[vR o0, vI 0, vI 1] [] _
    refine XS.aloadN X0.here hx rfl (hb hby d33_10) rfl rfl ?_
    refine XS.iloadN X0.here hx rfl (hb hby d33_11) rfl ?_
    refine XS.iloadN X0.here hx rfl (hb hby d33_12) rfl ?_
    show oS p e below s₁ m 13 #[vR o0, vI 0, vI 1] [(.int 1), (.int 0), (.ref o0)] _
    refine st2 _ ?_
    show Steps p.tables e below (T2.setTop (mkF m 16 #[vR o0, vI 0, vI 1] [(.ref b2)])) _
    jvm_step X2.here [X2.here.top, hx, (hb hby d33_16), X2.method', Bd.returns, Value.isRef, FieldType.isReference]
    first | (intro acts; rw [hr _ acts rfl rfl rfl]) | rw [hr _ _ rfl rfl rfl]
    exact Steps.refl _
  · show own_QRa Z (1 : Int32) [(.int 98)] h0 n0 _ T2.heap _
    exact ⟨b2, k92, rfl, N2, ((Keep.refl h0 []).trans K2 all0), Vb2, Sb2⟩
theorem rmNS4 (l : Launch) (Z : State) (a0 : Array Value) (hw : HW a0 Z) (ws : List Jvm.Cond) (o0 : Addr) (kA : ClassId) (h0 : Heap) (n0 : Nat) (O0 : Old Z n0 h0) (V_o0 : Arv Z h0 o0 kA .byte (4 : Int32) [(.int 98), (.int 91), (.int 120), (.int 93)] (.int 0)) :
    oM l Z mN47 jdk_43_method_47_code 3 (some (.object "java/lang/String")) ws (rM 3 2 5 72) #[(.ref o0), (.int 0), (.int 1)] h0 (own_QNS Z (1 : Int32) [(.int 98)] h0 n0) := by
  refine MetFree.of_bodySF (plainFor_of_name pn_32) hisR ?_
  intro p e s m args below meth c s₁ Bd hml0 hP hK
  obtain ⟨rfl, hZ, hh⟩ := hP
  have hx := Bd.exec
  have hby := Bd.bytes
  have hml : c.maxLocals = 3 := hml0
  have hown : s.vm.findClass "java/lang/StringLatin1" = some m.cls := findClass_of_methodNamed Bd.named
  have X0 : Stand p l e (rM 3 2 5 72) s m #[(.ref o0), (.int 0), (.int 1)] below meth c s₁ [] 0 0 := Stand.of_body Bd
  have e0 : s₁.heap = h0 := by rw [← hh, Bd.state]; rfl
  have N0 := Fr.nil n0
  have pre0 := fun t (k : oS p e below s₁ m 0 #[vR o0, vI 0, vI 1] [] t) => castTop (ef_32 m o0 (0 : Int32) (1 : Int32)) k
  obtain ⟨T1, h1, X1, e1, E1, A1, D1, U1, st1⟩ := newO X0 hx hZ hown (oW hw 190 rfl) (oW hw 41 rfl) (oW hw 33 rfl) e0 (g := (mkF m 7 #[vR o0, vI 0, vI 1] [])) rfl (hb hby d32_7) (by decide) (by decide)
  obtain ⟨b1, g1⟩ : ∃ z, z = h0.size := ⟨_, rfl⟩
  rw [← g1] at A1 D1 U1 st1
  have Ut1 : Unt h1 b1 := U1
  have g_b1 : n0 ≤ b1 := Nat.le_trans (own_le O0) (Nat.le_of_eq g1.symm)
  have O1 := O0.ext E1
  have F_value_b1 : Fld Z h1 b1 "java/lang/String" "value" "[B" .null := D1 (Or.inr (oW hw 52 rfl)) (ty := (.array .byte)) (by decide)
  have F_coder_b1 : Fld Z h1 b1 "java/lang/String" "coder" "B" (.int 0) := D1 (Or.inr (oW hw 54 rfl)) (ty := .byte) (by decide)
  obtain ⟨_, _, ⟨T2, L2, k2, n2⟩, -, X2, ⟨Lc2, hQ2, l2, y2, z2⟩, st2⟩ := Jvm.LawKit.callS X1 hx (y := mN46) hown (mvT hZ (oW hw 191 rfl)) (mvT hZ (oW hw 192 rfl)) (mvT hZ (oW hw 193 rfl)) (mvT hZ (oW hw 194 rfl)) (by decide) (backOf (W := 2) (rmRa4 l Z a0 hw [] o0  kA h1 n0 O1 (V_o0.ext E1)) hZ (oW hw 194 rfl) (oW hw 193 rfl) (by decide) (by decide)) (g := (mkF m 16 #[vR o0, vI 0, vI 1] [(.int 1), (.int 0), (.ref o0), (.ref b1), (.ref b1)])) rfl (by rw [hml]; rfl) (argsL := [(.ref o0), (.int 0), (.int 1)]) (rest := [(.ref b1), (.ref b1)]) (lenOf pd_25 rfl) rfl (by show 2 * 0 + _ ≤ _; exact Nat.le_of_eq rfl) (hb hby d32_16) (fun _ _ => ⟨rfl, e1, (by decide : 1 + 1 ≤ _), (by decide : 4 + 1 ≤ _)⟩)
  dsimp only [Pt.U, Pt.locs, Pt.cells, Pt.slots] at X2 l2 y2 z2 st2 hQ2
  subst l2 y2 z2
  obtain ⟨b2, k92, rfl, N2q, K2, Vb2, Sb2⟩ := hQ2
  have N2 := Fr.app N0 N2q
  have O2 := O1.keep K2 all0
  obtain ⟨_, _, ⟨T3, L3, k3, n3⟩, -, X3, ⟨Lc3, hQ3, l3, y3, z3⟩, st3⟩ := X2.specialBack hx (y := mN5) rfl hown (mvT hZ (oW hw 206 rfl)) (mvT hZ (oW hw 47 rfl)) (mvT hZ (oW hw 49 rfl)) (by decide) (backOf (W := 1) (rmSB l Z a0 hw [] b1 b2  T2.heap n0 O2 (A1.keep K2) (Ut1.keep K2 nin0) g_b1) hZ (oW hw 49 rfl) (oW hw 33 rfl) (by decide) (by decide)) (g := (mkF m 20 #[vR o0, vI 0, vI 1] [(.int 0), (.ref b2), (.ref b1), (.ref b1)])) rfl (by rw [hml]; rfl) (Steps.refl _) (a := b1) (argsL := [(.ref b2), (.int 0)]) (rest := [(.ref b1)]) (lenOf pd_3 rfl) rfl (by show 2 * 0 + _ ≤ _; exact Nat.le_of_eq rfl) (hb hby d32_20) (fun _ _ => ⟨rfl, rfl, (by decide : 2 + 0 ≤ _), (by decide : 5 + 0 ≤ _)⟩)
  dsimp only [Pt.U, Pt.locs, Pt.cells, Pt.slots] at X3 l3 y3 z3 st3 hQ3
  subst l3 y3 z3
  obtain ⟨rfl, N3q, K3, Fv3, Fc3⟩ := hQ3
  have N3 := Fr.app N2 N3q
  have O3 := O2.keep K3 (allS g_b1 all0)
  have v_b2_3_x := (Vb2.keep K3 (ninS (Ne.symm (Nat.ne_of_lt (Nat.lt_of_lt_of_le A1.lt Sb2))) nin0))
  obtain ⟨fs, hr, hrun, hended, hW, hsame⟩ := X3.leave (v := some (.ref b1)) (fun h => by rw [Bd.returns] at h; cases h)
  refine ⟨_, _, pre0 _ ?_, hrun, hended, _, _, rfl, ?_, ⟨_, rfl⟩, hW, hsame.mono (by decide) (by decide)⟩
  · show oS p e below s₁ m 0 #[vR o0, vI 0, vI 1] [] _
    refine XS.iloadN X0.here hx rfl (hb hby d32_0) rfl ?_
    refine XS.ifYes X0.here hx rfl (pc0 := 1) (pc' := 7) rfl (hb hby d32_1) rfl ((if0 _ _).trans (feq (by decide : ¬ ((1 : Int32) = (0 : Int32)))).2) (by decide) (by decide) ?_
    show oS p e below s₁ m 7 #[vR o0, vI 0, vI 1] [] _
    refine st1 _ ?_
    show oS p e below T1 m 10 #[vR o0, vI 0, vI 1] [(.ref b1)] _
    refine XS.dup X1.here hx rfl (hb hby d32_10) rfl rfl ?_
    refine XS.aloadN X1.here hx rfl (hb hby d32_11) rfl rfl ?_
    refine XS.iloadN X1.here hx rfl (hb hby d32_12) rfl ?_
    show oS p e below T1 m 13 #[vR o0, vI 0, vI 1] [(.int 0), (.ref o0), (.ref b1), (.ref b1)] _
    refine XS.iloadN X1.here hx rfl (hb hby d32_13) rfl ?_
    refine XS.iloadN X1.here hx rfl (hb hby d32_14) rfl ?_
    refine XS.iadd X1.here hx rfl (hb hby d32_15) rfl ?_
    show oS p e below T1 m 16 #[vR o0, vI 0, vI 1] [(.int 1), (.int 0), (.ref o0), (.ref b1), (.ref b1)] _
    refine st2 _ ?_
    show oS p e below T2 m 19 #[vR o0, vI 0, vI 1] [(.ref b2), (.ref b1), (.ref b1)] _
    refine XS.iconst X2.here hx rfl (hb hby d32_19) ?_
    show oS p e below T2 m 20 #[vR o0, vI 0, vI 1] [(.int 0), (.ref b2), (.ref b1), (.ref b1)] _
    refine st3.trans ?_
    show Steps p.tables e below (T3.setTop (mkF m 23 #[vR o0, vI 0, vI 1] [(.ref b1)])) _
    jvm_step X3.here [X3.here.top, hx, (hb hby d32_23), X3.method', Bd.returns, Value.isRef, FieldType.isReference]
    first | (intro acts; rw [hr _ acts rfl rfl rfl]) | rw [hr _ _ rfl rfl rfl]
    exact Steps.refl _
  · show own_QNS Z (1 : Int32) [(.int 98)] h0 n0 _ T3.heap _
    exact ⟨b1, b2, k92, rfl, N3, ((((Keep.refl h0 []).ext E1).trans K2 all0).trans K3 (allS (Or.inr (Nat.le_of_eq g1.symm)) all0)), ((A1.keep K2).keep K3), Fv3, Fc3, v_b2_3_x⟩
theorem d29_15 : decode jdk_42_method_92_code 15 = .ok (.iload_n 2, 1) := by decide +kernel
theorem d29_16 : decode jdk_42_method_92_code 16 = .ok (.iload_n 3, 1) := by decide +kernel
theorem d29_17 : decode jdk_42_method_92_code 17 = .ok (.if_icmp .ne 5, 3) := by decide +kernel
theorem rmSu4 (l : Launch) (Z : State) (a0 : Array Value) (hw : HW a0 Z) (ws : List Jvm.Cond) (o0 : Addr) (tA : Addr) (kA : ClassId) (zc : Int32) (fm : Value) (h0 : Heap) (n0 : Nat) (O0 : Old Z n0 h0) (E_o0 : Exa Z h0 o0 "java/lang/String") (F_value_o0 : Fld Z h0 o0 "java/lang/String" "value" "[B" (.ref tA)) (F_coder_o0 : Fld Z h0 o0 "java/lang/String" "coder" "B" (.int 0)) (V_tA : Arv Z h0 tA kA .byte (4 : Int32) [(.int 98), (.int 91), (.int 120), (.int 93)] (.int 0)) (S_CS : Sta Z Z.heap "java/lang/String" "COMPACT_STRINGS" "Z" (.int zc)) (hzc : ¬ zc = 0) (S_FM : Sta Z Z.heap "jdk/internal/util/Preconditions" "SIOOBE_FORMATTER" "Ljava/util/function/BiFunction;" fm) (hfm : fm.isRef = true) :
    oM l Z mN48 jdk_42_method_92_code 5 (some (.object "java/lang/String")) ws (rM 4 2 5 86) #[(.ref o0), (.int 0), (.int 1)] h0 (own_QNS Z (1 : Int32) [(.int 98)] h0 n0) := by
  refine MetFree.of_bodySF (plainFor_of_name pn_29) hisR ?_
  intro p e s m args below meth c s₁ Bd hml0 hP hK
  obtain ⟨rfl, hZ, hh⟩ := hP
  have hx := Bd.exec
  have hby := Bd.bytes
  have hml : c.maxLocals = 5 := hml0
  have hown : s.vm.findClass "java/lang/String" = some m.cls := findClass_of_methodNamed Bd.named
  have X0 : Stand p l e (rM 4 2 5 86) s m #[(.ref o0), (.int 0), (.int 1)] below meth c s₁ [] 0 0 := Stand.of_body Bd
  have e0 : s₁.heap = h0 := by rw [← hh, Bd.state]; rfl
  have N0 := Fr.nil n0
  have pre0 := fun t (k : oS p e below s₁ m 0 #[vR o0, vI 0, vI 1, .unset, .unset] [] t) => castTop (ef_29 m o0 (0 : Int32) (1 : Int32)) k
  obtain ⟨cq1, kq1, q1a, q1b, q1c⟩ := isOf hZ e0 E_o0
  obtain ⟨_, _, ⟨T1, L1, k1, n1⟩, -, X1, ⟨Lc1, hQ1, l1, y1, z1⟩, st1⟩ := X0.virtualBack hx (y := mN37) (z := mN37) hown (mvT hZ (oW hw 140 rfl)) (mvT hZ (oW hw 141 rfl)) (notFace_of_selects (args := #[]) (mvT hZ (oW hw 143 rfl))) (mvT hZ (oW hw 143 rfl)) (mvT hZ (oW hw 142 rfl)) (by decide) (backOf (W := 0) (rmLe l Z a0 hw [] o0 (4 : Int32) _ tA kA zc h0 n0 O0 E_o0 F_value_o0 F_coder_o0 V_tA S_CS hzc) hZ (oW hw 144 rfl) (oW hw 33 rfl) (by decide) (by decide)) q1a q1c (g := (mkF m 1 #[vR o0, vI 0, vI 1, .unset, .unset] [(.ref o0)])) rfl (by rw [hml]; rfl) (Steps.refl _) (argsL := []) (rest := []) (lenOf pd_22 rfl) rfl (by show 2 * 0 + _ ≤ _; exact Nat.le_of_eq rfl) (hb hby d29_1) (fun _ _ => ⟨rfl, e0, (by decide : 0 + 0 ≤ _), (by decide : 0 + 0 ≤ _)⟩)
  dsimp only [Pt.U, Pt.locs, Pt.cells, Pt.slots] at X1 l1 y1 z1 st1 hQ1
  subst l1 y1 z1
  obtain ⟨rfl, N1q, e1⟩ := hQ1
  have N1 := Fr.app N0 N1q
  obtain ⟨_, _, ⟨T2, L2, k2, n2⟩, -, X2, ⟨Lc2, hQ2, l2, y2, z2⟩, st2⟩ := Jvm.LawKit.callS X1 hx (y := mN43) hown (mvT hZ (oW hw 179 rfl)) (mvT hZ (oW hw 180 rfl)) (mvT hZ (oW hw 33 rfl)) (mvT hZ (oW hw 181 rfl)) (by decide) (backOf (W := 0) (rmCB l Z a0 hw [] (0 : Int32) (1 : Int32) (4 : Int32) fm  h0 n0 O0 S_FM hfm (by decide) (by decide) (by decide)) hZ (oW hw 181 rfl) (oW hw 33 rfl) (by decide) (by decide)) (g := (mkF m 8 #[vR o0, vI 0, vI 1, vI 4, .unset] [(.int 4), (.int 1), (.int 0)])) rfl (by rw [hml]; rfl) (argsL := [(.int 0), (.int 1), (.int 4)]) (rest := []) (lenOf pd_26 rfl) rfl (by show 2 * 0 + _ ≤ _; exact Nat.le_of_eq rfl) (hb hby d29_8) (fun _ _ => ⟨rfl, e1, (by decide : 0 + 0 ≤ _), (by decide : 0 + 0 ≤ _)⟩)
  dsimp only [Pt.U, Pt.locs, Pt.cells, Pt.slots] at X2 l2 y2 z2 st2 hQ2
  subst l2 y2 z2
  obtain ⟨rfl, N2q, e2⟩ := hQ2
  have N2 := Fr.app N1 N2q
  obtain ⟨cq3, kq3, q3a, q3b, q3c⟩ := isOf hZ e2 E_o0
  obtain ⟨_, _, ⟨T3, L3, k3, n3⟩, -, X3, ⟨Lc3, hQ3, l3, y3, z3⟩, st3⟩ := X2.virtualBack hx (y := mN35) (z := mN35) hown (mvT hZ (oW hw 155 rfl)) (mvT hZ (oW hw 156 rfl)) (notFace_of_selects (args := #[]) (mvT hZ (oW hw 158 rfl))) (mvT hZ (oW hw 158 rfl)) (mvT hZ (oW hw 157 rfl)) (by decide) (backOf (W := 0) (rmLa l Z a0 hw [] o0 zc h0 n0 O0 S_CS hzc F_coder_o0) hZ (oW hw 159 rfl) (oW hw 33 rfl) (by decide) (by decide)) q3a q3c (g := (mkF m 28 #[vR o0, vI 0, vI 1, vI 4, vI 1] [(.ref o0)])) rfl (by rw [hml]; rfl) (Steps.refl _) (argsL := []) (rest := []) (lenOf pd_15 rfl) rfl (by show 2 * 0 + _ ≤ _; exact Nat.le_of_eq rfl) (hb hby d29_28) (fun _ _ => ⟨rfl, e2, (by decide : 0 + 0 ≤ _), (by decide : 0 + 0 ≤ _)⟩)
  dsimp only [Pt.U, Pt.locs, Pt.cells, Pt.slots] at X3 l3 y3 z3 st3 hQ3
  subst l3 y3 z3
  obtain ⟨rfl, N3q, e3⟩ := hQ3
  have N3 := Fr.app N2 N3q
  obtain ⟨T4, X4, e4, st4⟩ := getF X3 hx hZ hown (host := "") (Or.inl (oW hw 51 rfl)) Via.refl e3 F_value_o0 (g := (mkF m 35 #[vR o0, vI 0, vI 1, vI 4, vI 1] [(.ref o0)])) rfl rfl (hb hby d29_35)
  obtain ⟨_, _, ⟨T5, L5, k5, n5⟩, -, X5, ⟨Lc5, hQ5, l5, y5, z5⟩, st5⟩ := Jvm.LawKit.callS X4 hx (y := mN47) hown (mvT hZ (oW hw 187 rfl)) (mvT hZ (oW hw 188 rfl)) (mvT hZ (oW hw 38 rfl)) (mvT hZ (oW hw 189 rfl)) (by decide) (backOf (W := 0) (rmNS4 l Z a0 hw [] tA  kA h0 n0 O0 V_tA) hZ (oW hw 189 rfl) (oW hw 38 rfl) (by decide) (by decide)) (g := (mkF m 41 #[vR o0, vI 0, vI 1, vI 4, vI 1] [(.int 1), (.int 0), (.ref tA)])) rfl (by rw [hml]; rfl) (argsL := [(.ref tA), (.int 0), (.int 1)]) (rest := []) (lenOf pd_27 rfl) rfl (by show 2 * 0 + _ ≤ _; exact Nat.le_of_eq rfl) (hb hby d29_41) (fun _ _ => ⟨rfl, e4, (by decide : 0 + 2 ≤ _), (by decide : 0 + 5 ≤ _)⟩)
  dsimp only [Pt.U, Pt.locs, Pt.cells, Pt.slots] at X5 l5 y5 z5 st5 hQ5
  subst l5 y5 z5
  obtain ⟨x5, t5, k95, rfl, N5q, K5, Ex5, Fv5, Fc5, Vt5⟩ := hQ5
  have N5 := Fr.app N3 N5q
  have O5 := O0.keep K5 all0
  obtain ⟨fs, hr, hrun, hended, hW, hsame⟩ := X5.leave (v := some (.ref x5)) (fun h => by rw [Bd.returns] at h; cases h)
  refine ⟨_, _, pre0 _ ?_, hrun, hended, _, _, rfl, ?_, ⟨_, rfl⟩, hW, hsame.mono (by decide) (by decide)⟩
  · show oS p e below s₁ m 0 #[vR o0, vI 0, vI 1, .unset, .unset] [] _
    refine XS.aloadN X0.here hx rfl (hb hby d29_0) rfl rfl ?_
    show oS p e below s₁ m 1 #[vR o0, vI 0, vI 1, .unset, .unset] [(.ref o0)] _
    refine st1.trans ?_
    show oS p e below T1 m 4 #[vR o0, vI 0, vI 1, .unset, .unset] [(.int 4)] _
    refine XS.istoreN X1.here hx rfl (hb hby d29_4) rfl (l' := #[vR o0, vI 0, vI 1, vI 4, .unset]) rfl ?_
    show oS p e below T1 m 5 #[vR o0, vI 0, vI 1, vI 4, .unset] [] _
    refine XS.iloadN X1.here hx rfl (hb hby d29_5) rfl ?_
    refine XS.iloadN X1.here hx rfl (hb hby d29_6) rfl ?_
    refine XS.iloadN X1.here hx rfl (hb hby d29_7) rfl ?_
    show oS p e below T1 m 8 #[vR o0, vI 0, vI 1, vI 4, .unset] [(.int 4), (.int 1), (.int 0)] _
    refine st2 _ ?_
    show oS p e below T2 m 11 #[vR o0, vI 0, vI 1, vI 4, .unset] [] _
    refine XS.iloadN X2.here hx rfl (hb hby d29_11) rfl ?_
    refine XS.ifNo X2.here hx rfl (hb hby d29_12) rfl ((if0 _ _).trans (teq (by decide : (0 : Int32) = (0 : Int32))).2) ?_
    show oS p e below T2 m 15 #[vR o0, vI 0, vI 1, vI 4, .unset] [] _
    refine XS.iloadN X2.here hx rfl (hb hby d29_15) rfl ?_
    refine XS.iloadN X2.here hx rfl (hb hby d29_16) rfl ?_
    refine XS.icmpYes X2.here hx rfl (pc0 := 17) (pc' := 22) rfl (hb hby d29_17) rfl (feq (by decide : ¬ ((1 : Int32) = (4 : Int32)))).2 (by decide) (by decide) ?_
    show oS p e below T2 m 22 #[vR o0, vI 0, vI 1, vI 4, .unset] [] _
    refine XS.iloadN X2.here hx rfl (hb hby d29_22) rfl ?_
    refine XS.iloadN X2.here hx rfl (hb hby d29_23) rfl ?_
    refine XS.isub X2.here hx rfl (hb hby d29_24) rfl ?_
    show oS p e below T2 m 25 #[vR o0, vI 0, vI 1, vI 4, .unset] [(.int 1)] _
    refine XS.istore X2.here hx rfl (hb hby d29_25) rfl (l' := #[vR o0, vI 0, vI 1, vI 4, vI 1]) rfl ?_
    show oS p e below T2 m 27 #[vR o0, vI 0, vI 1, vI 4, vI 1] [] _
    refine XS.aloadN X2.here hx rfl (hb hby d29_27) rfl rfl ?_
    show oS p e below T2 m 28 #[vR o0, vI 0, vI 1, vI 4, vI 1] [(.ref o0)] _
    refine st3.trans ?_
    show oS p e below T3 m 31 #[vR o0, vI 0, vI 1, vI 4, vI 1] [(.int 1)] _
    refine XS.ifNo X3.here hx rfl (hb hby d29_31) rfl ((if0 _ _).trans (feq (by decide : ¬ ((1 : Int32) = (0 : Int32)))).1) ?_
    show oS p e below T3 m 34 #[vR o0, vI 0, vI 1, vI 4, vI 1] [] _
    refine XS.aloadN X3.here hx rfl (hb hby d29_34) rfl rfl ?_
    show oS p e below T3 m 35 #[vR o0, vI 0, vI 1, vI 4, vI 1] [(.ref o0)] _
    refine st4 _ ?_
    show oS p e below T4 m 38 #[vR o0, vI 0, vI 1, vI 4, vI 1] [(.ref tA)] _
    refine XS.iloadN X4.here hx rfl (hb hby d29_38) rfl ?_
    refine XS.iload X4.here hx rfl (hb hby d29_39) rfl ?_
    show oS p e below T4 m 41 #[vR o0, vI 0, vI 1, vI 4, vI 1] [(.int 1), (.int 0), (.ref tA)] _
    refine st5 _ ?_
    show oS p e below T5 m 44 #[vR o0, vI 0, vI 1, vI 4, vI 1] [(.ref x5)] _
    refine XS.goto X5.here hx rfl (pc0 := 44) (pc' := 57) rfl (hb hby d29_44) (by decide) (by decide) ?_
    show Steps p.tables e below (T5.setTop (mkF m 57 #[vR o0, vI 0, vI 1, vI 4, vI 1] [(.ref x5)])) _
    jvm_step X5.here [X5.here.top, hx, (hb hby d29_57), X5.method', Bd.returns, Value.isRef, FieldType.isReference]
    first | (intro acts; rw [hr _ acts rfl rfl rfl]) | rw [hr _ _ rfl rfl rfl]
    exact Steps.refl _
  · show own_QNS Z (1 : Int32) [(.int 98)] h0 n0 _ T5.heap _
    exact ⟨x5, t5, k95, rfl, N5, ((Keep.refl h0 []).trans K5 all0), Ex5, Fv5, Fc5, Vt5⟩
theorem d42_0 : decode jdk_48_method_14_code 0 = .ok (.iconst 0, 1) := by decide +kernel
theorem d42_1 : decode jdk_48_method_14_code 1 = .ok (.istore 5, 2) := by decide +kernel
theorem d42_3 : decode jdk_48_method_14_code 3 = .ok (.iload 4, 2) := by decide +kernel
theorem d42_5 : decode jdk_48_method_14_code 5 = .ok (.bipush 7, 2) := by decide +kernel
theorem d42_7 : decode jdk_48_method_14_code 7 = .ok (.if_icmp .le 63, 3) := by decide +kernel
theorem d42_70 : decode jdk_48_method_14_code 70 = .ok (.iload 5, 2) := by decide +kernel
theorem d42_72 : decode jdk_48_method_14_code 72 = .ok (.iload 4, 2) := by decide +kernel
theorem d42_74 : decode jdk_48_method_14_code 74 = .ok (.if_icmp .ge 27, 3) := by decide +kernel
theorem d42_77 : decode jdk_48_method_14_code 77 = .ok (.aload_n 0, 1) := by decide +kernel
theorem d42_78 : decode jdk_48_method_14_code 78 = .ok (.iload_n 1, 1) := by decide +kernel
theorem d42_79 : decode jdk_48_method_14_code 79 = .ok (.iload 5, 2) := by decide +kernel
theorem d42_81 : decode jdk_48_method_14_code 81 = .ok (.iadd, 1) := by decide +kernel
theorem d42_82 : decode jdk_48_method_14_code 82 = .ok (.baload, 1) := by decide +kernel
theorem d42_83 : decode jdk_48_method_14_code 83 = .ok (.aload_n 2, 1) := by decide +kernel
theorem d42_84 : decode jdk_48_method_14_code 84 = .ok (.iload_n 3, 1) := by decide +kernel
theorem d42_85 : decode jdk_48_method_14_code 85 = .ok (.iload 5, 2) := by decide +kernel
theorem d42_87 : decode jdk_48_method_14_code 87 = .ok (.iadd, 1) := by decide +kernel
theorem d42_88 : decode jdk_48_method_14_code 88 = .ok (.baload, 1) := by decide +kernel
theorem d42_89 : decode jdk_48_method_14_code 89 = .ok (.if_icmp .eq 6, 3) := by decide +kernel
theorem d42_95 : decode jdk_48_method_14_code 95 = .ok (.iinc 5 1, 3) := by decide +kernel
theorem d42_98 : decode jdk_48_method_14_code 98 = .ok (.goto (-28), 3) := by decide +kernel
theorem d42_101 : decode jdk_48_method_14_code 101 = .ok (.iconst (-1), 1) := by decide +kernel
theorem d42_102 : decode jdk_48_method_14_code 102 = .ok (.ireturn, 1) := by decide +kernel
theorem ef_42 (m : MethodId) (x0 : Addr) (x1 : Int32) (x2 : Addr) (x3 : Int32) (x4 : Int32) : entryFrame m #[(.ref x0), (.int x1), (.ref x2), (.int x3), (.int x4)] 8 = mkF m 0 #[.val (.ref x0), .val (.int x1), .val (.ref x2), .val (.int x3), .val (.int x4), .unset, .unset, .unset] [] := by first | (simp [entryFrame, mkF, argsToLocals, Value.category]; done) | rfl
theorem pn_42 : plainName "jdk/internal/util/ArraysSupport" = true := by first | (simp [plainName, overriddenIn]; done) | decide +kernel
theorem rmMm (l : Launch) (Z : State) (a0 : Array Value) (hw : HW a0 Z) (ws : List Jvm.Cond) (o0 : Addr) (o2 : Addr) (kA : ClassId) (kB : ClassId) (h0 : Heap) (n0 : Nat) (O0 : Old Z n0 h0) (V_o0 : Arv Z h0 o0 kA .byte (4 : Int32) [(.int 98), (.int 91), (.int 120), (.int 93)] (.int 0)) (V_o2 : Arv Z h0 o2 kB .byte (3 : Int32) [(.int 91), (.int 120), (.int 93)] (.int 0)) :
    oM l Z mN50 jdk_48_method_14_code 8 (some .int) ws (rM 0 0 0 0) #[(.ref o0), (.int 1), (.ref o2), (.int 0), (.int 3)] h0 (own_Q (.int (-1 : Int32)) h0 n0) := by
  refine MetFree.of_bodySF (plainFor_of_name pn_42) hisR ?_
  intro p e s m args below meth c s₁ Bd hml0 hP hK
  obtain ⟨rfl, hZ, hh⟩ := hP
  have hx := Bd.exec
  have hby := Bd.bytes
  have hml : c.maxLocals = 8 := hml0
  have hown : s.vm.findClass "jdk/internal/util/ArraysSupport" = some m.cls := findClass_of_methodNamed Bd.named
  have X0 : Stand p l e (rM 0 0 0 0) s m #[(.ref o0), (.int 1), (.ref o2), (.int 0), (.int 3)] below meth c s₁ [] 0 0 := Stand.of_body Bd
  have e0 : s₁.heap = h0 := by rw [← hh, Bd.state]; rfl
  have N0 := Fr.nil n0
  have pre0 := fun t (k : oS p e below s₁ m 0 #[vR o0, vI 1, vR o2, vI 0, vI 3, .unset, .unset, .unset] [] t) => castTop (ef_42 m o0 (1 : Int32) o2 (0 : Int32) (3 : Int32)) k
  obtain ⟨cl1, Ar1, qa1, Sz1, Ng1, Hs1, Ft1⟩ := V_o0
  have hin1 := (inb_of (j := (1 : Int32)) Sz1 ⟨by decide, by decide⟩)
  have hat1 := Hs1.at (v := (.int 91)) hin1 rfl
  have V1o : Arv Z h0 o0 kA .byte (4 : Int32) [(.int 98), (.int 91), (.int 120), (.int 93)] (.int 0) := ⟨cl1, Ar1, qa1, Sz1, Ng1, Hs1, Ft1⟩
  obtain ⟨cl2, Ar2, qa2, Sz2, Ng2, Hs2, Ft2⟩ := V_o2
  have hin2 := (inb_of (j := (0 : Int32)) Sz2 ⟨by decide, by decide⟩)
  have hat2 := Hs2.at (v := (.int 91)) hin2 rfl
  have V2o : Arv Z h0 o2 kB .byte (3 : Int32) [(.int 91), (.int 120), (.int 93)] (.int 0) := ⟨cl2, Ar2, qa2, Sz2, Ng2, Hs2, Ft2⟩
  obtain ⟨cl3, Ar3, qa3, Sz3, Ng3, Hs3, Ft3⟩ := V1o
  have hin3 := (inb_of (j := (2 : Int32)) Sz3 ⟨by decide, by decide⟩)
  have hat3 := Hs3.at (v := (.int 120)) hin3 rfl
  have V3o : Arv Z h0 o0 kA .byte (4 : Int32) [(.int 98), (.int 91), (.int 120), (.int 93)] (.int 0) := ⟨cl3, Ar3, qa3, Sz3, Ng3, Hs3, Ft3⟩
  obtain ⟨cl4, Ar4, qa4, Sz4, Ng4, Hs4, Ft4⟩ := V2o
  have hin4 := (inb_of (j := (1 : Int32)) Sz4 ⟨by decide, by decide⟩)
  have hat4 := Hs4.at (v := (.int 120)) hin4 rfl
  have V4o : Arv Z h0 o2 kB .byte (3 : Int32) [(.int 91), (.int 120), (.int 93)] (.int 0) := ⟨cl4, Ar4, qa4, Sz4, Ng4, Hs4, Ft4⟩
  obtain ⟨cl5, Ar5, qa5, Sz5, Ng5, Hs5, Ft5⟩ := V3o
  have hin5 := (inb_of (j := (3 : Int32)) Sz5 ⟨by decide, by decide⟩)
  have hat5 := Hs5.at (v := (.int 93)) hin5 rfl
  have V5o : Arv Z h0 o0 kA .byte (4 : Int32) [(.int 98), (.int 91), (.int 120), (.int 93)] (.int 0) := ⟨cl5, Ar5, qa5, Sz5, Ng5, Hs5, Ft5⟩
  obtain ⟨cl6, Ar6, qa6, Sz6, Ng6, Hs6, Ft6⟩ := V4o
  have hin6 := (inb_of (j := (2 : Int32)) Sz6 ⟨by decide, by decide⟩)
  have hat6 := Hs6.at (v := (.int 93)) hin6 rfl
  have V6o : Arv Z h0 o2 kB .byte (3 : Int32) [(.int 91), (.int 120), (.int 93)] (.int 0) := ⟨cl6, Ar6, qa6, Sz6, Ng6, Hs6, Ft6⟩
  obtain ⟨fs, hr, hrun, hended, hW, hsame⟩ := X0.leave (v := some (.int (-1 : Int32))) (fun h => by rw [Bd.returns] at h; cases h)
  refine ⟨_, _, pre0 _ ?_, hrun, hended, _, _, rfl, ?_, ⟨_, rfl⟩, hW, hsame.mono (by decide) (by decide)⟩
  · show oS p e below s₁ m 0 #[vR o0, vI 1, vR o2, vI 0, vI 3, .unset, .unset, .unset] [] _
    refine XS.iconst X0.here hx rfl (hb hby d42_0) ?_
    refine XS.istore X0.here hx rfl (hb hby d42_1) rfl (l' := #[vR o0, vI 1, vR o2, vI 0, vI 3, vI 0, .unset, .unset]) rfl ?_
    show oS p e below s₁ m 3 #[vR o0, vI 1, vR o2, vI 0, vI 3, vI 0, .unset, .unset] [] _
    refine XS.iload X0.here hx rfl (hb hby d42_3) rfl ?_
    refine XS.bipush X0.here hx rfl (hb hby d42_5) ?_
    refine XS.icmpYes X0.here hx rfl (pc0 := 7) (pc' := 70) rfl (hb hby d42_7) rfl (flt (by decide : ¬ ((7 : Int32) < (3 : Int32)))).2.2.2 (by decide) (by decide) ?_
    show oS p e below s₁ m 70 #[vR o0, vI 1, vR o2, vI 0, vI 3, vI 0, .unset, .unset] [] _
    refine XS.iload X0.here hx rfl (hb hby d42_70) rfl ?_
    refine XS.iload X0.here hx rfl (hb hby d42_72) rfl ?_
    refine XS.icmpNo X0.here hx rfl (hb hby d42_74) rfl (tlt (by decide : (0 : Int32) < (3 : Int32))).2.1 ?_
    show oS p e below s₁ m 77 #[vR o0, vI 1, vR o2, vI 0, vI 3, vI 0, .unset, .unset] [] _
    refine XS.aloadN X0.here hx rfl (hb hby d42_77) rfl rfl ?_
    refine XS.iloadN X0.here hx rfl (hb hby d42_78) rfl ?_
    refine XS.iload X0.here hx rfl (hb hby d42_79) rfl ?_
    show oS p e below s₁ m 81 #[vR o0, vI 1, vR o2, vI 0, vI 3, vI 0, .unset, .unset] [(.int 0), (.int 1), (.ref o0)] _
    refine XS.iadd X0.here hx rfl (hb hby d42_81) rfl ?_
    show oS p e below s₁ m 82 #[vR o0, vI 1, vR o2, vI 0, vI 3, vI 0, .unset, .unset] [(.int 1), (.ref o0)] _
    refine X0.baloadBytes hx (j := (1 : Int32)) (v := (.int 91)) (by rw [e0]; exact Ar1.1) (State.isArrayOf_alike hZ.alike Ar1.2.1) Ar1.2.2 hin1 hat1 (g := (mkF m 82 #[vR o0, vI 1, vR o2, vI 0, vI 3, vI 0, .unset, .unset] [(.int 1), (.ref o0)])) rfl rfl (hb hby d42_82) _ ?_
    show oS p e below s₁ m 83 #[vR o0, vI 1, vR o2, vI 0, vI 3, vI 0, .unset, .unset] [(.int 91)] _
    refine XS.aloadN X0.here hx rfl (hb hby d42_83) rfl rfl ?_
    refine XS.iloadN X0.here hx rfl (hb hby d42_84) rfl ?_
    refine XS.iload X0.here hx rfl (hb hby d42_85) rfl ?_
    show oS p e below s₁ m 87 #[vR o0, vI 1, vR o2, vI 0, vI 3, vI 0, .unset, .unset] [(.int 0), (.int 0), (.ref o2), (.int 91)] _
    refine XS.iadd X0.here hx rfl (hb hby d42_87) rfl ?_
    show oS p e below s₁ m 88 #[vR o0, vI 1, vR o2, vI 0, vI 3, vI 0, .unset, .unset] [(.int 0), (.ref o2), (.int 91)] _
    refine X0.baloadBytes hx (j := (0 : Int32)) (v := (.int 91)) (by rw [e0]; exact Ar2.1) (State.isArrayOf_alike hZ.alike Ar2.2.1) Ar2.2.2 hin2 hat2 (g := (mkF m 88 #[vR o0, vI 1, vR o2, vI 0, vI 3, vI 0, .unset, .unset] [(.int 0), (.ref o2), (.int 91)])) rfl rfl (hb hby d42_88) _ ?_
    show oS p e below s₁ m 89 #[vR o0, vI 1, vR o2, vI 0, vI 3, vI 0, .unset, .unset] [(.int 91), (.int 91)] _
    refine XS.icmpYes X0.here hx rfl (pc0 := 89) (pc' := 95) rfl (hb hby d42_89) rfl (teq (by decide : (91 : Int32) = (91 : Int32))).1 (by decide) (by decide) ?_
    show oS p e below s₁ m 95 #[vR o0, vI 1, vR o2, vI 0, vI 3, vI 0, .unset, .unset] [] _
    refine XS.iinc X0.here hx rfl (hb hby d42_95) rfl (l' := #[vR o0, vI 1, vR o2, vI 0, vI 3, vI 1, .unset, .unset]) rfl ?_
    show oS p e below s₁ m 98 #[vR o0, vI 1, vR o2, vI 0, vI 3, vI 1, .unset, .unset] [] _
    refine XS.goto X0.here hx rfl (pc0 := 98) (pc' := 70) rfl (hb hby d42_98) (by decide) (by decide) ?_
    show oS p e below s₁ m 70 #[vR o0, vI 1, vR o2, vI 0, vI 3, vI 1, .unset, .unset] [] _
    refine XS.iload X0.here hx rfl (hb hby d42_70) rfl ?_
    refine XS.iload X0.here hx rfl (hb hby d42_72) rfl ?_
    refine XS.icmpNo X0.here hx rfl (hb hby d42_74) rfl (tlt (by decide : (1 : Int32) < (3 : Int32))).2.1 ?_
    show oS p e below s₁ m 77 #[vR o0, vI 1, vR o2, vI 0, vI 3, vI 1, .unset, .unset] [] _
    refine XS.aloadN X0.here hx rfl (hb hby d42_77) rfl rfl ?_
    refine XS.iloadN X0.here hx rfl (hb hby d42_78) rfl ?_
    refine XS.iload X0.here hx rfl (hb hby d42_79) rfl ?_
    show oS p e below s₁ m 81 #[vR o0, vI 1, vR o2, vI 0, vI 3, vI 1, .unset, .unset] [(.int 1), (.int 1), (.ref o0)] _
    refine XS.iadd X0.here hx rfl (hb hby d42_81) rfl ?_
    show oS p e below s₁ m 82 #[vR o0, vI 1, vR o2, vI 0, vI 3, vI 1, .unset, .unset] [(.int 2), (.ref o0)] _
    refine X0.baloadBytes hx (j := (2 : Int32)) (v := (.int 120)) (by rw [e0]; exact Ar3.1) (State.isArrayOf_alike hZ.alike Ar3.2.1) Ar3.2.2 hin3 hat3 (g := (mkF m 82 #[vR o0, vI 1, vR o2, vI 0, vI 3, vI 1, .unset, .unset] [(.int 2), (.ref o0)])) rfl rfl (hb hby d42_82) _ ?_
    show oS p e below s₁ m 83 #[vR o0, vI 1, vR o2, vI 0, vI 3, vI 1, .unset, .unset] [(.int 120)] _
    refine XS.aloadN X0.here hx rfl (hb hby d42_83) rfl rfl ?_
    refine XS.iloadN X0.here hx rfl (hb hby d42_84) rfl ?_
    refine XS.iload X0.here hx rfl (hb hby d42_85) rfl ?_
    show oS p e below s₁ m 87 #[vR o0, vI 1, vR o2, vI 0, vI 3, vI 1, .unset, .unset] [(.int 1), (.int 0), (.ref o2), (.int 120)] _
    refine XS.iadd X0.here hx rfl (hb hby d42_87) rfl ?_
    show oS p e below s₁ m 88 #[vR o0, vI 1, vR o2, vI 0, vI 3, vI 1, .unset, .unset] [(.int 1), (.ref o2), (.int 120)] _
    refine X0.baloadBytes hx (j := (1 : Int32)) (v := (.int 120)) (by rw [e0]; exact Ar4.1) (State.isArrayOf_alike hZ.alike Ar4.2.1) Ar4.2.2 hin4 hat4 (g := (mkF m 88 #[vR o0, vI 1, vR o2, vI 0, vI 3, vI 1, .unset, .unset] [(.int 1), (.ref o2), (.int 120)])) rfl rfl (hb hby d42_88) _ ?_
    show oS p e below s₁ m 89 #[vR o0, vI 1, vR o2, vI 0, vI 3, vI 1, .unset, .unset] [(.int 120), (.int 120)] _
    refine XS.icmpYes X0.here hx rfl (pc0 := 89) (pc' := 95) rfl (hb hby d42_89) rfl (teq (by decide : (120 : Int32) = (120 : Int32))).1 (by decide) (by decide) ?_
    show oS p e below s₁ m 95 #[vR o0, vI 1, vR o2, vI 0, vI 3, vI 1, .unset, .unset] [] _
    refine XS.iinc X0.here hx rfl (hb hby d42_95) rfl (l' := #[vR o0, vI 1, vR o2, vI 0, vI 3, vI 2, .unset, .unset]) rfl ?_
    show oS p e below s₁ m 98 #[vR o0, vI 1, vR o2, vI 0, vI 3, vI 2, .unset, .unset] [] _
    refine XS.goto X0.here hx rfl (pc0 := 98) (pc' := 70) rfl (hb hby d42_98) (by decide) (by decide) ?_
    show oS p e below s₁ m 70 #[vR o0, vI 1, vR o2, vI 0, vI 3, vI 2, .unset, .unset] [] _
    refine XS.iload X0.here hx rfl (hb hby d42_70) rfl ?_
    refine XS.iload X0.here hx rfl (hb hby d42_72) rfl ?_
    refine XS.icmpNo X0.here hx rfl (hb hby d42_74) rfl (tlt (by decide : (2 : Int32) < (3 : Int32))).2.1 ?_
    show oS p e below s₁ m 77 #[vR o0, vI 1, vR o2, vI 0, vI 3, vI 2, .unset, .unset] [] _
    refine XS.aloadN X0.here hx rfl (hb hby d42_77) rfl rfl ?_
    refine XS.iloadN X0.here hx rfl (hb hby d42_78) rfl ?_
    refine XS.iload X0.here hx rfl (hb hby d42_79) rfl ?_
    show oS p e below s₁ m 81 #[vR o0, vI 1, vR o2, vI 0, vI 3, vI 2, .unset, .unset] [(.int 2), (.int 1), (.ref o0)] _
    refine XS.iadd X0.here hx rfl (hb hby d42_81) rfl ?_
    show oS p e below s₁ m 82 #[vR o0, vI 1, vR o2, vI 0, vI 3, vI 2, .unset, .unset] [(.int 3), (.ref o0)] _
    refine X0.baloadBytes hx (j := (3 : Int32)) (v := (.int 93)) (by rw [e0]; exact Ar5.1) (State.isArrayOf_alike hZ.alike Ar5.2.1) Ar5.2.2 hin5 hat5 (g := (mkF m 82 #[vR o0, vI 1, vR o2, vI 0, vI 3, vI 2, .unset, .unset] [(.int 3), (.ref o0)])) rfl rfl (hb hby d42_82) _ ?_
    show oS p e below s₁ m 83 #[vR o0, vI 1, vR o2, vI 0, vI 3, vI 2, .unset, .unset] [(.int 93)] _
    refine XS.aloadN X0.here hx rfl (hb hby d42_83) rfl rfl ?_
    refine XS.iloadN X0.here hx rfl (hb hby d42_84) rfl ?_
    refine XS.iload X0.here hx rfl (hb hby d42_85) rfl ?_
    show oS p e below s₁ m 87 #[vR o0, vI 1, vR o2, vI 0, vI 3, vI 2, .unset, .unset] [(.int 2), (.int 0), (.ref o2), (.int 93)] _
    refine XS.iadd X0.here hx rfl (hb hby d42_87) rfl ?_
    show oS p e below s₁ m 88 #[vR o0, vI 1, vR o2, vI 0, vI 3, vI 2, .unset, .unset] [(.int 2), (.ref o2), (.int 93)] _
    refine X0.baloadBytes hx (j := (2 : Int32)) (v := (.int 93)) (by rw [e0]; exact Ar6.1) (State.isArrayOf_alike hZ.alike Ar6.2.1) Ar6.2.2 hin6 hat6 (g := (mkF m 88 #[vR o0, vI 1, vR o2, vI 0, vI 3, vI 2, .unset, .unset] [(.int 2), (.ref o2), (.int 93)])) rfl rfl (hb hby d42_88) _ ?_
    show oS p e below s₁ m 89 #[vR o0, vI 1, vR o2, vI 0, vI 3, vI 2, .unset, .unset] [(.int 93), (.int 93)] _
    refine XS.icmpYes X0.here hx rfl (pc0 := 89) (pc' := 95) rfl (hb hby d42_89) rfl (teq (by decide : (93 : Int32) = (93 : Int32))).1 (by decide) (by decide) ?_
    show oS p e below s₁ m 95 #[vR o0, vI 1, vR o2, vI 0, vI 3, vI 2, .unset, .unset] [] _
    refine XS.iinc X0.here hx rfl (hb hby d42_95) rfl (l' := #[vR o0, vI 1, vR o2, vI 0, vI 3, vI 3, .unset, .unset]) rfl ?_
    show oS p e below s₁ m 98 #[vR o0, vI 1, vR o2, vI 0, vI 3, vI 3, .unset, .unset] [] _
    refine XS.goto X0.here hx rfl (pc0 := 98) (pc' := 70) rfl (hb hby d42_98) (by decide) (by decide) ?_
    show oS p e below s₁ m 70 #[vR o0, vI 1, vR o2, vI 0, vI 3, vI 3, .unset, .unset] [] _
    refine XS.iload X0.here hx rfl (hb hby d42_70) rfl ?_
    refine XS.iload X0.here hx rfl (hb hby d42_72) rfl ?_
    refine XS.icmpYes X0.here hx rfl (pc0 := 74) (pc' := 101) rfl (hb hby d42_74) rfl (flt (by decide : ¬ ((3 : Int32) < (3 : Int32)))).2.1 (by decide) (by decide) ?_
    show oS p e below s₁ m 101 #[vR o0, vI 1, vR o2, vI 0, vI 3, vI 3, .unset, .unset] [] _
    refine XS.iconst X0.here hx rfl (hb hby d42_101) ?_
    show oS p e below s₁ m 102 #[vR o0, vI 1, vR o2, vI 0, vI 3, vI 3, .unset, .unset] [(.int (-1 : Int32))] _
    exact retI X0 hx Bd.returns (hb hby d42_102) hr
  · show own_Q (.int (-1 : Int32)) h0 n0 _ s₁.heap _
    rw [e0]
    exact ⟨rfl, N0, rfl⟩
theorem d37_0 : decode jdk_42_method_75_code 0 = .ok (.iload_n 2, 1) := by decide +kernel
theorem d37_1 : decode jdk_42_method_75_code 1 = .ok (.ifCond .lt 16, 3) := by decide +kernel
theorem d37_17 : decode jdk_42_method_75_code 17 = .ok (.iconst 0, 1) := by decide +kernel
theorem d37_18 : decode jdk_42_method_75_code 18 = .ok (.ireturn, 1) := by decide +kernel
theorem ef_37 (m : MethodId) (x0 : Addr) (x1 : Addr) (x2 : Int32) : entryFrame m #[(.ref x0), (.ref x1), (.int x2)] 8 = mkF m 0 #[.val (.ref x0), .val (.ref x1), .val (.int x2), .unset, .unset, .unset, .unset, .unset] [] := by first | (simp [entryFrame, mkF, argsToLocals, Value.category]; done) | rfl
theorem pn_37 : plainName "java/lang/String" = true := by first | (simp [plainName, overriddenIn]; done) | decide +kernel
theorem rmSW3 (l : Launch) (Z : State) (a0 : Array Value) (hw : HW a0 Z) (ws : List Jvm.Cond) (o0 : Addr) (o1 : Addr) (qb : Int32) (tA : Addr) (kA : ClassId) (tB : Addr) (kB : ClassId) (zc : Int32) (h0 : Heap) (n0 : Nat) (O0 : Old Z n0 h0) (E_o0 : Exa Z h0 o0 "java/lang/String") (F_value_o0 : Fld Z h0 o0 "java/lang/String" "value" "[B" (.ref tA)) (F_coder_o0 : Fld Z h0 o0 "java/lang/String" "coder" "B" (.int 0)) (V_tA : Arv Z h0 tA kA .byte (1 : Int32) [(.int qb)] (.int 0)) (E_o1 : Exa Z h0 o1 "java/lang/String") (F_value_o1 : Fld Z h0 o1 "java/lang/String" "value" "[B" (.ref tB)) (F_coder_o1 : Fld Z h0 o1 "java/lang/String" "coder" "B" (.int 0)) (V_tB : Arv Z h0 tB kB .byte (3 : Int32) [(.int 91), (.int 120), (.int 93)] (.int 0)) (S_CS : Sta Z Z.heap "java/lang/String" "COMPACT_STRINGS" "Z" (.int zc)) (hzc : ¬ zc = 0) :
    oM l Z mN51 jdk_42_method_75_code 8 (some .boolean) ws (rM 0 0 0 0) #[(.ref o0), (.ref o1), (.int (-2 : Int32))] h0 (own_Q (.int 0) h0 n0) := by
  refine MetFree.of_bodySF (plainFor_of_name pn_37) hisR ?_
  intro p e s m args below meth c s₁ Bd hml0 hP hK
  obtain ⟨rfl, hZ, hh⟩ := hP
  have hx := Bd.exec
  have hby := Bd.bytes
  have hml : c.maxLocals = 8 := hml0
  have hown : s.vm.findClass "java/lang/String" = some m.cls := findClass_of_methodNamed Bd.named
  have X0 : Stand p l e (rM 0 0 0 0) s m #[(.ref o0), (.ref o1), (.int (-2 : Int32))] below meth c s₁ [] 0 0 := Stand.of_body Bd
  have e0 : s₁.heap = h0 := by rw [← hh, Bd.state]; rfl
  have N0 := Fr.nil n0
  have pre0 := fun t (k : oS p e below s₁ m 0 #[vR o0, vR o1, vI (-2 : Int32), .unset, .unset, .unset, .unset, .unset] [] t) => castTop (ef_37 m o0 o1 (-2 : Int32)) k
  obtain ⟨fs, hr, hrun, hended, hW, hsame⟩ := X0.leave (v := some (.int 0)) (fun h => by rw [Bd.returns] at h; cases h)
  refine ⟨_, _, pre0 _ ?_, hrun, hended, _, _, rfl, ?_, ⟨_, rfl⟩, hW, hsame.mono (by decide) (by decide)⟩
  · show oS p e below s₁ m 0 #[vR o0, vR o1, vI (-2 : Int32), .unset, .unset, .unset, .unset, .unset] [] _
    refine XS.iloadN X0.here hx rfl (hb hby d37_0) rfl ?_
    refine XS.ifYes X0.here hx rfl (pc0 := 1) (pc' := 17) rfl (hb hby d37_1) rfl ((if0 _ _).trans (tlt (by decide : (-2 : Int32) < (0 : Int32))).1) (by decide) (by decide) ?_
    show oS p e below s₁ m 17 #[vR o0, vR o1, vI (-2 : Int32), .unset, .unset, .unset, .unset, .unset] [] _
    refine XS.iconst X0.here hx rfl (hb hby d37_17) ?_
    show oS p e below s₁ m 18 #[vR o0, vR o1, vI (-2 : Int32), .unset, .unset, .unset, .unset, .unset] [(.int 0)] _
    exact retN X0 hx (t := .boolean) Bd.returns (by simp) (hb hby d37_18) hr
  · show own_Q (.int 0) h0 n0 _ s₁.heap _
    rw [e0]
    exact ⟨rfl, N0, rfl⟩
theorem d36_0 : decode jdk_42_method_77_code 0 = .ok (.aload_n 0, 1) := by decide +kernel
theorem d36_1 : decode jdk_42_method_77_code 1 = .ok (.aload_n 1, 1) := by decide +kernel
theorem d36_2 : decode jdk_42_method_77_code 2 = .ok (.aload_n 0, 1) := by decide +kernel
theorem d36_3 : decode jdk_42_method_77_code 3 = .ok (.invokevirtual 505, 3) := by decide +kernel
theorem d36_6 : decode jdk_42_method_77_code 6 = .ok (.aload_n 1, 1) := by decide +kernel
theorem d36_7 : decode jdk_42_method_77_code 7 = .ok (.invokevirtual 505, 3) := by decide +kernel
theorem d36_10 : decode jdk_42_method_77_code 10 = .ok (.isub, 1) := by decide +kernel
theorem d36_11 : decode jdk_42_method_77_code 11 = .ok (.invokevirtual 624, 3) := by decide +kernel
theorem pd_29 : parseMethodDescriptor "(Ljava/lang/String;I)Z" = some ⟨[(.object "java/lang/String"), .int], some .boolean⟩ := by decide +kernel
theorem d36_14 : decode jdk_42_method_77_code 14 = .ok (.ireturn, 1) := by decide +kernel
theorem ef_36 (m : MethodId) (x0 : Addr) (x1 : Addr) : entryFrame m #[(.ref x0), (.ref x1)] 2 = mkF m 0 #[.val (.ref x0), .val (.ref x1)] [] := by first | (simp [entryFrame, mkF, argsToLocals, Value.category]; done) | rfl
theorem pn_36 : plainName "java/lang/String" = true := by first | (simp [plainName, overriddenIn]; done) | decide +kernel
theorem rmEW3 (l : Launch) (Z : State) (a0 : Array Value) (hw : HW a0 Z) (ws : List Jvm.Cond) (o0 : Addr) (o1 : Addr) (qb : Int32) (tA : Addr) (kA : ClassId) (tB : Addr) (kB : ClassId) (zc : Int32) (h0 : Heap) (n0 : Nat) (O0 : Old Z n0 h0) (E_o0 : Exa Z h0 o0 "java/lang/String") (F_value_o0 : Fld Z h0 o0 "java/lang/String" "value" "[B" (.ref tA)) (F_coder_o0 : Fld Z h0 o0 "java/lang/String" "coder" "B" (.int 0)) (V_tA : Arv Z h0 tA kA .byte (1 : Int32) [(.int qb)] (.int 0)) (E_o1 : Exa Z h0 o1 "java/lang/String") (F_value_o1 : Fld Z h0 o1 "java/lang/String" "value" "[B" (.ref tB)) (F_coder_o1 : Fld Z h0 o1 "java/lang/String" "coder" "B" (.int 0)) (V_tB : Arv Z h0 tB kB .byte (3 : Int32) [(.int 91), (.int 120), (.int 93)] (.int 0)) (S_CS : Sta Z Z.heap "java/lang/String" "COMPACT_STRINGS" "Z" (.int zc)) (hzc : ¬ zc = 0) :
    oM l Z mN52 jdk_42_method_77_code 2 (some .boolean) ws (rM 2 0 0 28) #[(.ref o0), (.ref o1)] h0 (own_Q (.int 0) h0 n0) := by
  refine MetFree.of_bodySF (plainFor_of_name pn_36) hisR ?_
  intro p e s m args below meth c s₁ Bd hml0 hP hK
  obtain ⟨rfl, hZ, hh⟩ := hP
  have hx := Bd.exec
  have hby := Bd.bytes
  have hml : c.maxLocals = 2 := hml0
  have hown : s.vm.findClass "java/lang/String" = some m.cls := findClass_of_methodNamed Bd.named
  have X0 : Stand p l e (rM 2 0 0 28) s m #[(.ref o0), (.ref o1)] below meth c s₁ [] 0 0 := Stand.of_body Bd
  have e0 : s₁.heap = h0 := by rw [← hh, Bd.state]; rfl
  have N0 := Fr.nil n0
  have pre0 := fun t (k : oS p e below s₁ m 0 #[vR o0, vR o1] [] t) => castTop (ef_36 m o0 o1) k
  obtain ⟨cq1, kq1, q1a, q1b, q1c⟩ := isOf hZ e0 E_o0
  obtain ⟨_, _, ⟨T1, L1, k1, n1⟩, -, X1, ⟨Lc1, hQ1, l1, y1, z1⟩, st1⟩ := X0.virtualBack hx (y := mN37) (z := mN37) hown (mvT hZ (oW hw 140 rfl)) (mvT hZ (oW hw 141 rfl)) (notFace_of_selects (args := #[]) (mvT hZ (oW hw 143 rfl))) (mvT hZ (oW hw 143 rfl)) (mvT hZ (oW hw 142 rfl)) (by decide) (backOf (W := 2) (rmLe l Z a0 hw [] o0 (1 : Int32) _ tA kA zc h0 n0 O0 E_o0 F_value_o0 F_coder_o0 V_tA S_CS hzc) hZ (oW hw 144 rfl) (oW hw 33 rfl) (by decide) (by decide)) q1a q1c (g := (mkF m 3 #[vR o0, vR o1] [(.ref o0), (.ref o1), (.ref o0)])) rfl (by rw [hml]; rfl) (Steps.refl _) (argsL := []) (rest := [(.ref o1), (.ref o0)]) (lenOf pd_22 rfl) rfl (by show 2 * 0 + _ ≤ _; exact Nat.le_of_eq rfl) (hb hby d36_3) (fun _ _ => ⟨rfl, e0, (by decide : 0 + 0 ≤ _), (by decide : 0 + 0 ≤ _)⟩)
  dsimp only [Pt.U, Pt.locs, Pt.cells, Pt.slots] at X1 l1 y1 z1 st1 hQ1
  subst l1 y1 z1
  obtain ⟨rfl, N1q, e1⟩ := hQ1
  have N1 := Fr.app N0 N1q
  obtain ⟨cq2, kq2, q2a, q2b, q2c⟩ := isOf hZ e1 E_o1
  obtain ⟨_, _, ⟨T2, L2, k2, n2⟩, -, X2, ⟨Lc2, hQ2, l2, y2, z2⟩, st2⟩ := X1.virtualBack hx (y := mN37) (z := mN37) hown (mvT hZ (oW hw 140 rfl)) (mvT hZ (oW hw 141 rfl)) (notFace_of_selects (args := #[]) (mvT hZ (oW hw 143 rfl))) (mvT hZ (oW hw 143 rfl)) (mvT hZ (oW hw 142 rfl)) (by decide) (backOf (W := 3) (rmLe l Z a0 hw [] o1 (3 : Int32) _ tB kB zc h0 n0 O0 E_o1 F_value_o1 F_coder_o1 V_tB S_CS hzc) hZ (oW hw 144 rfl) (oW hw 33 rfl) (by decide) (by decide)) q2a q2c (g := (mkF m 7 #[vR o0, vR o1] [(.ref o1), (.int 1), (.ref o1), (.ref o0)])) rfl (by rw [hml]; rfl) (Steps.refl _) (argsL := []) (rest := [(.int 1), (.ref o1), (.ref o0)]) (lenOf pd_22 rfl) rfl (by show 2 * 0 + _ ≤ _; exact Nat.le_of_eq rfl) (hb hby d36_7) (fun _ _ => ⟨rfl, e1, (by decide : 0 + 0 ≤ _), (by decide : 0 + 0 ≤ _)⟩)
  dsimp only [Pt.U, Pt.locs, Pt.cells, Pt.slots] at X2 l2 y2 z2 st2 hQ2
  subst l2 y2 z2
  obtain ⟨rfl, N2q, e2⟩ := hQ2
  have N2 := Fr.app N1 N2q
  obtain ⟨cq3, kq3, q3a, q3b, q3c⟩ := isOf hZ e2 E_o0
  obtain ⟨_, _, ⟨T3, L3, k3, n3⟩, -, X3, ⟨Lc3, hQ3, l3, y3, z3⟩, st3⟩ := X2.virtualBack hx (y := mN51) (z := mN51) hown (mvT hZ (oW hw 213 rfl)) (mvT hZ (oW hw 214 rfl)) (notFace_of_selects (args := #[]) (mvT hZ (oW hw 216 rfl))) (mvT hZ (oW hw 216 rfl)) (mvT hZ (oW hw 215 rfl)) (by decide) (backOf (W := 0) (rmSW3 l Z a0 hw [] o0 o1 qb tA kA tB kB zc h0 n0 O0 E_o0 F_value_o0 F_coder_o0 V_tA E_o1 F_value_o1 F_coder_o1 V_tB S_CS hzc) hZ (oW hw 217 rfl) (oW hw 33 rfl) (by decide) (by decide)) q3a q3c (g := (mkF m 11 #[vR o0, vR o1] [(.int (-2 : Int32)), (.ref o1), (.ref o0)])) rfl (by rw [hml]; rfl) (Steps.refl _) (argsL := [(.ref o1), (.int (-2 : Int32))]) (rest := []) (lenOf pd_29 rfl) rfl (by show 2 * 0 + _ ≤ _; exact Nat.le_of_eq rfl) (hb hby d36_11) (fun _ _ => ⟨rfl, e2, (by decide : 0 + 0 ≤ _), (by decide : 0 + 0 ≤ _)⟩)
  dsimp only [Pt.U, Pt.locs, Pt.cells, Pt.slots] at X3 l3 y3 z3 st3 hQ3
  subst l3 y3 z3
  obtain ⟨rfl, N3q, e3⟩ := hQ3
  have N3 := Fr.app N2 N3q
  obtain ⟨fs, hr, hrun, hended, hW, hsame⟩ := X3.leave (v := some (.int 0)) (fun h => by rw [Bd.returns] at h; cases h)
  refine ⟨_, _, pre0 _ ?_, hrun, hended, _, _, rfl, ?_, ⟨_, rfl⟩, hW, hsame.mono (by decide) (by decide)⟩
  · show oS p e below s₁ m 0 #[vR o0, vR o1] [] _
    refine XS.aloadN X0.here hx rfl (hb hby d36_0) rfl rfl ?_
    refine XS.aloadN X0.here hx rfl (hb hby d36_1) rfl rfl ?_
    refine XS.aloadN X0.here hx rfl (hb hby d36_2) rfl rfl ?_
    show oS p e below s₁ m 3 #[vR o0, vR o1] [(.ref o0), (.ref o1), (.ref o0)] _
    refine st1.trans ?_
    show oS p e below T1 m 6 #[vR o0, vR o1] [(.int 1), (.ref o1), (.ref o0)] _
    refine XS.aloadN X1.here hx rfl (hb hby d36_6) rfl rfl ?_
    show oS p e below T1 m 7 #[vR o0, vR o1] [(.ref o1), (.int 1), (.ref o1), (.ref o0)] _
    refine st2.trans ?_
    show oS p e below T2 m 10 #[vR o0, vR o1] [(.int 3), (.int 1), (.ref o1), (.ref o0)] _
    refine XS.isub X2.here hx rfl (hb hby d36_10) rfl ?_
    show oS p e below T2 m 11 #[vR o0, vR o1] [(.int (-2 : Int32)), (.ref o1), (.ref o0)] _
    refine st3.trans ?_
    show oS p e below T3 m 14 #[vR o0, vR o1] [(.int 0)] _
    exact retN X3 hx (t := .boolean) Bd.returns (by simp) (hb hby d36_14) hr
  · show own_Q (.int 0) h0 n0 _ T3.heap _
    rw [e3]
    exact ⟨rfl, N3, rfl⟩
theorem d37_4 : decode jdk_42_method_75_code 4 = .ok (.iload_n 2, 1) := by decide +kernel
theorem d37_5 : decode jdk_42_method_75_code 5 = .ok (.aload_n 0, 1) := by decide +kernel
theorem d37_6 : decode jdk_42_method_75_code 6 = .ok (.invokevirtual 505, 3) := by decide +kernel
theorem d37_9 : decode jdk_42_method_75_code 9 = .ok (.aload_n 1, 1) := by decide +kernel
theorem d37_10 : decode jdk_42_method_75_code 10 = .ok (.invokevirtual 505, 3) := by decide +kernel
theorem d37_13 : decode jdk_42_method_75_code 13 = .ok (.isub, 1) := by decide +kernel
theorem d37_14 : decode jdk_42_method_75_code 14 = .ok (.if_icmp .le 5, 3) := by decide +kernel
theorem d37_19 : decode jdk_42_method_75_code 19 = .ok (.aload_n 0, 1) := by decide +kernel
theorem d37_20 : decode jdk_42_method_75_code 20 = .ok (.getfield 9, 3) := by decide +kernel
theorem d37_23 : decode jdk_42_method_75_code 23 = .ok (.astore_n 3, 1) := by decide +kernel
theorem d37_24 : decode jdk_42_method_75_code 24 = .ok (.aload_n 1, 1) := by decide +kernel
theorem d37_25 : decode jdk_42_method_75_code 25 = .ok (.getfield 9, 3) := by decide +kernel
theorem d37_28 : decode jdk_42_method_75_code 28 = .ok (.astore 4, 2) := by decide +kernel
theorem d37_30 : decode jdk_42_method_75_code 30 = .ok (.iconst 0, 1) := by decide +kernel
theorem d37_31 : decode jdk_42_method_75_code 31 = .ok (.istore 5, 2) := by decide +kernel
theorem d37_33 : decode jdk_42_method_75_code 33 = .ok (.aload 4, 2) := by decide +kernel
theorem d37_35 : decode jdk_42_method_75_code 35 = .ok (.arraylength, 1) := by decide +kernel
theorem d37_36 : decode jdk_42_method_75_code 36 = .ok (.istore 6, 2) := by decide +kernel
theorem d37_38 : decode jdk_42_method_75_code 38 = .ok (.aload_n 0, 1) := by decide +kernel
theorem d37_39 : decode jdk_42_method_75_code 39 = .ok (.invokevirtual 335, 3) := by decide +kernel
theorem d37_42 : decode jdk_42_method_75_code 42 = .ok (.istore 7, 2) := by decide +kernel
theorem d37_44 : decode jdk_42_method_75_code 44 = .ok (.iload 7, 2) := by decide +kernel
theorem d37_46 : decode jdk_42_method_75_code 46 = .ok (.aload_n 1, 1) := by decide +kernel
theorem d37_47 : decode jdk_42_method_75_code 47 = .ok (.invokevirtual 335, 3) := by decide +kernel
theorem d37_50 : decode jdk_42_method_75_code 50 = .ok (.if_icmp .ne 32, 3) := by decide +kernel
theorem d37_53 : decode jdk_42_method_75_code 53 = .ok (.iload 7, 2) := by decide +kernel
theorem d37_55 : decode jdk_42_method_75_code 55 = .ok (.iconst 1, 1) := by decide +kernel
theorem d37_56 : decode jdk_42_method_75_code 56 = .ok (.if_icmp .ne 7, 3) := by decide +kernel
theorem d37_63 : decode jdk_42_method_75_code 63 = .ok (.aload_n 3, 1) := by decide +kernel
theorem d37_64 : decode jdk_42_method_75_code 64 = .ok (.iload_n 2, 1) := by decide +kernel
theorem d37_65 : decode jdk_42_method_75_code 65 = .ok (.aload 4, 2) := by decide +kernel
theorem d37_67 : decode jdk_42_method_75_code 67 = .ok (.iconst 0, 1) := by decide +kernel
theorem d37_68 : decode jdk_42_method_75_code 68 = .ok (.iload 6, 2) := by decide +kernel
theorem d37_70 : decode jdk_42_method_75_code 70 = .ok (.invokestatic 607, 3) := by decide +kernel
theorem pd_30 : parseMethodDescriptor "([BI[BII)I" = some ⟨[(.array .byte), .int, (.array .byte), .int, .int], some .int⟩ := by decide +kernel
theorem d37_73 : decode jdk_42_method_75_code 73 = .ok (.ifCond .ge 7, 3) := by decide +kernel
theorem d37_76 : decode jdk_42_method_75_code 76 = .ok (.iconst 1, 1) := by decide +kernel
theorem d37_77 : decode jdk_42_method_75_code 77 = .ok (.goto 4, 3) := by decide +kernel
theorem d37_81 : decode jdk_42_method_75_code 81 = .ok (.ireturn, 1) := by decide +kernel
theorem rmSW6 (l : Launch) (Z : State) (a0 : Array Value) (hw : HW a0 Z) (ws : List Jvm.Cond) (o0 : Addr) (o1 : Addr) (tA : Addr) (kA : ClassId) (tB : Addr) (kB : ClassId) (zc : Int32) (h0 : Heap) (n0 : Nat) (O0 : Old Z n0 h0) (E_o0 : Exa Z h0 o0 "java/lang/String") (F_value_o0 : Fld Z h0 o0 "java/lang/String" "value" "[B" (.ref tA)) (F_coder_o0 : Fld Z h0 o0 "java/lang/String" "coder" "B" (.int 0)) (V_tA : Arv Z h0 tA kA .byte (4 : Int32) [(.int 98), (.int 91), (.int 120), (.int 93)] (.int 0)) (E_o1 : Exa Z h0 o1 "java/lang/String") (F_value_o1 : Fld Z h0 o1 "java/lang/String" "value" "[B" (.ref tB)) (F_coder_o1 : Fld Z h0 o1 "java/lang/String" "coder" "B" (.int 0)) (V_tB : Arv Z h0 tB kB .byte (3 : Int32) [(.int 91), (.int 120), (.int 93)] (.int 0)) (S_CS : Sta Z Z.heap "java/lang/String" "COMPACT_STRINGS" "Z" (.int zc)) (hzc : ¬ zc = 0) :
    oM l Z mN51 jdk_42_method_75_code 8 (some .boolean) ws (rM 2 0 0 27) #[(.ref o0), (.ref o1), (.int 1)] h0 (own_Q (.int 1) h0 n0) := by
  refine MetFree.of_bodySF (plainFor_of_name pn_37) hisR ?_
  intro p e s m args below meth c s₁ Bd hml0 hP hK
  obtain ⟨rfl, hZ, hh⟩ := hP
  have hx := Bd.exec
  have hby := Bd.bytes
  have hml : c.maxLocals = 8 := hml0
  have hown : s.vm.findClass "java/lang/String" = some m.cls := findClass_of_methodNamed Bd.named
  have X0 : Stand p l e (rM 2 0 0 27) s m #[(.ref o0), (.ref o1), (.int 1)] below meth c s₁ [] 0 0 := Stand.of_body Bd
  have e0 : s₁.heap = h0 := by rw [← hh, Bd.state]; rfl
  have N0 := Fr.nil n0
  have pre0 := fun t (k : oS p e below s₁ m 0 #[vR o0, vR o1, vI 1, .unset, .unset, .unset, .unset, .unset] [] t) => castTop (ef_37 m o0 o1 (1 : Int32)) k
  obtain ⟨cq1, kq1, q1a, q1b, q1c⟩ := isOf hZ e0 E_o0
  obtain ⟨_, _, ⟨T1, L1, k1, n1⟩, -, X1, ⟨Lc1, hQ1, l1, y1, z1⟩, st1⟩ := X0.virtualBack hx (y := mN37) (z := mN37) hown (mvT hZ (oW hw 140 rfl)) (mvT hZ (oW hw 141 rfl)) (notFace_of_selects (args := #[]) (mvT hZ (oW hw 143 rfl))) (mvT hZ (oW hw 143 rfl)) (mvT hZ (oW hw 142 rfl)) (by decide) (backOf (W := 1) (rmLe l Z a0 hw [] o0 (4 : Int32) _ tA kA zc h0 n0 O0 E_o0 F_value_o0 F_coder_o0 V_tA S_CS hzc) hZ (oW hw 144 rfl) (oW hw 33 rfl) (by decide) (by decide)) q1a q1c (g := (mkF m 6 #[vR o0, vR o1, vI 1, .unset, .unset, .unset, .unset, .unset] [(.ref o0), (.int 1)])) rfl (by rw [hml]; rfl) (Steps.refl _) (argsL := []) (rest := [(.int 1)]) (lenOf pd_22 rfl) rfl (by show 2 * 0 + _ ≤ _; exact Nat.le_of_eq rfl) (hb hby d37_6) (fun _ _ => ⟨rfl, e0, (by decide : 0 + 0 ≤ _), (by decide : 0 + 0 ≤ _)⟩)
  dsimp only [Pt.U, Pt.locs, Pt.cells, Pt.slots] at X1 l1 y1 z1 st1 hQ1
  subst l1 y1 z1
  obtain ⟨rfl, N1q, e1⟩ := hQ1
  have N1 := Fr.app N0 N1q
  obtain ⟨cq2, kq2, q2a, q2b, q2c⟩ := isOf hZ e1 E_o1
  obtain ⟨_, _, ⟨T2, L2, k2, n2⟩, -, X2, ⟨Lc2, hQ2, l2, y2, z2⟩, st2⟩ := X1.virtualBack hx (y := mN37) (z := mN37) hown (mvT hZ (oW hw 140 rfl)) (mvT hZ (oW hw 141 rfl)) (notFace_of_selects (args := #[]) (mvT hZ (oW hw 143 rfl))) (mvT hZ (oW hw 143 rfl)) (mvT hZ (oW hw 142 rfl)) (by decide) (backOf (W := 2) (rmLe l Z a0 hw [] o1 (3 : Int32) _ tB kB zc h0 n0 O0 E_o1 F_value_o1 F_coder_o1 V_tB S_CS hzc) hZ (oW hw 144 rfl) (oW hw 33 rfl) (by decide) (by decide)) q2a q2c (g := (mkF m 10 #[vR o0, vR o1, vI 1, .unset, .unset, .unset, .unset, .unset] [(.ref o1), (.int 4), (.int 1)])) rfl (by rw [hml]; rfl) (Steps.refl _) (argsL := []) (rest := [(.int 4), (.int 1)]) (lenOf pd_22 rfl) rfl (by show 2 * 0 + _ ≤ _; exact Nat.le_of_eq rfl) (hb hby d37_10) (fun _ _ => ⟨rfl, e1, (by decide : 0 + 0 ≤ _), (by decide : 0 + 0 ≤ _)⟩)
  dsimp only [Pt.U, Pt.locs, Pt.cells, Pt.slots] at X2 l2 y2 z2 st2 hQ2
  subst l2 y2 z2
  obtain ⟨rfl, N2q, e2⟩ := hQ2
  have N2 := Fr.app N1 N2q
  obtain ⟨T3, X3, e3, st3⟩ := getF X2 hx hZ hown (host := "") (Or.inl (oW hw 51 rfl)) Via.refl e2 F_value_o0 (g := (mkF m 20 #[vR o0, vR o1, vI 1, .unset, .unset, .unset, .unset, .unset] [(.ref o0)])) rfl rfl (hb hby d37_20)
  obtain ⟨T4, X4, e4, st4⟩ := getF X3 hx hZ hown (host := "") (Or.inl (oW hw 51 rfl)) Via.refl e3 F_value_o1 (g := (mkF m 25 #[vR o0, vR o1, vI 1, vR tA, .unset, .unset, .unset, .unset] [(.ref o1)])) rfl rfl (hb hby d37_25)
  obtain ⟨cl5, Ar5, qa5, Sz5, Ng5, Hs5, Ft5⟩ := V_tB
  have V5o : Arv Z h0 tB kB .byte (3 : Int32) [(.int 91), (.int 120), (.int 93)] (.int 0) := ⟨cl5, Ar5, qa5, Sz5, Ng5, Hs5, Ft5⟩
  obtain ⟨cq6, kq6, q6a, q6b, q6c⟩ := isOf hZ e4 E_o0
  obtain ⟨_, _, ⟨T6, L6, k6, n6⟩, -, X6, ⟨Lc6, hQ6, l6, y6, z6⟩, st6⟩ := X4.virtualBack hx (y := mN36) (z := mN36) hown (mvT hZ (oW hw 145 rfl)) (mvT hZ (oW hw 146 rfl)) (notFace_of_selects (args := #[]) (mvT hZ (oW hw 148 rfl))) (mvT hZ (oW hw 148 rfl)) (mvT hZ (oW hw 147 rfl)) (by decide) (backOf (W := 0) (rmCo l Z a0 hw [] o0 zc h0 n0 O0 S_CS hzc F_coder_o0) hZ (oW hw 149 rfl) (oW hw 33 rfl) (by decide) (by decide)) q6a q6c (g := (mkF m 39 #[vR o0, vR o1, vI 1, vR tA, vR tB, vI 0, vI 3, .unset] [(.ref o0)])) rfl (by rw [hml]; rfl) (Steps.refl _) (argsL := []) (rest := []) (lenOf pd_19 rfl) rfl (by show 2 * 0 + _ ≤ _; exact Nat.le_of_eq rfl) (hb hby d37_39) (fun _ _ => ⟨rfl, e4, (by decide : 0 + 0 ≤ _), (by decide : 0 + 0 ≤ _)⟩)
  dsimp only [Pt.U, Pt.locs, Pt.cells, Pt.slots] at X6 l6 y6 z6 st6 hQ6
  subst l6 y6 z6
  obtain ⟨rfl, N6q, e6⟩ := hQ6
  have N6 := Fr.app N2 N6q
  obtain ⟨cq7, kq7, q7a, q7b, q7c⟩ := isOf hZ e6 E_o1
  obtain ⟨_, _, ⟨T7, L7, k7, n7⟩, -, X7, ⟨Lc7, hQ7, l7, y7, z7⟩, st7⟩ := X6.virtualBack hx (y := mN36) (z := mN36) hown (mvT hZ (oW hw 145 rfl)) (mvT hZ (oW hw 146 rfl)) (notFace_of_selects (args := #[]) (mvT hZ (oW hw 148 rfl))) (mvT hZ (oW hw 148 rfl)) (mvT hZ (oW hw 147 rfl)) (by decide) (backOf (W := 1) (rmCo l Z a0 hw [] o1 zc h0 n0 O0 S_CS hzc F_coder_o1) hZ (oW hw 149 rfl) (oW hw 33 rfl) (by decide) (by decide)) q7a q7c (g := (mkF m 47 #[vR o0, vR o1, vI 1, vR tA, vR tB, vI 0, vI 3, vI 0] [(.ref o1), (.int 0)])) rfl (by rw [hml]; rfl) (Steps.refl _) (argsL := []) (rest := [(.int 0)]) (lenOf pd_19 rfl) rfl (by show 2 * 0 + _ ≤ _; exact Nat.le_of_eq rfl) (hb hby d37_47) (fun _ _ => ⟨rfl, e6, (by decide : 0 + 0 ≤ _), (by decide : 0 + 0 ≤ _)⟩)
  dsimp only [Pt.U, Pt.locs, Pt.cells, Pt.slots] at X7 l7 y7 z7 st7 hQ7
  subst l7 y7 z7
  obtain ⟨rfl, N7q, e7⟩ := hQ7
  have N7 := Fr.app N6 N7q
  obtain ⟨_, _, ⟨T8, L8, k8, n8⟩, -, X8, ⟨Lc8, hQ8, l8, y8, z8⟩, st8⟩ := Jvm.LawKit.callS X7 hx (y := mN50) hown (mvT hZ (oW hw 256 rfl)) (mvT hZ (oW hw 257 rfl)) (mvT hZ (oW hw 258 rfl)) (mvT hZ (oW hw 259 rfl)) (by decide) (backOf (W := 0) (rmMm l Z a0 hw [] tA tB kA kB h0 n0 O0 V_tA V5o) hZ (oW hw 259 rfl) (oW hw 258 rfl) (by decide) (by decide)) (g := (mkF m 70 #[vR o0, vR o1, vI 1, vR tA, vR tB, vI 0, vI 3, vI 0] [(.int 3), (.int 0), (.ref tB), (.int 1), (.ref tA)])) rfl (by rw [hml]; rfl) (argsL := [(.ref tA), (.int 1), (.ref tB), (.int 0), (.int 3)]) (rest := []) (lenOf pd_30 rfl) rfl (by show 2 * 0 + _ ≤ _; exact Nat.le_of_eq rfl) (hb hby d37_70) (fun _ _ => ⟨rfl, e7, (by decide : 0 + 0 ≤ _), (by decide : 0 + 0 ≤ _)⟩)
  dsimp only [Pt.U, Pt.locs, Pt.cells, Pt.slots] at X8 l8 y8 z8 st8 hQ8
  subst l8 y8 z8
  obtain ⟨rfl, N8q, e8⟩ := hQ8
  have N8 := Fr.app N7 N8q
  obtain ⟨fs, hr, hrun, hended, hW, hsame⟩ := X8.leave (v := some (.int 1)) (fun h => by rw [Bd.returns] at h; cases h)
  refine ⟨_, _, pre0 _ ?_, hrun, hended, _, _, rfl, ?_, ⟨_, rfl⟩, hW, hsame.mono (by decide) (by decide)⟩
  · show oS p e below s₁ m 0 #[vR o0, vR o1, vI 1, .unset, .unset, .unset, .unset, .unset] [] _
    refine XS.iloadN X0.here hx rfl (hb hby d37_0) rfl ?_
    refine XS.ifNo X0.here hx rfl (hb hby d37_1) rfl ((if0 _ _).trans (flt (by decide : ¬ ((1 : Int32) < (0 : Int32)))).1) ?_
    show oS p e below s₁ m 4 #[vR o0, vR o1, vI 1, .unset, .unset, .unset, .unset, .unset] [] _
    refine XS.iloadN X0.here hx rfl (hb hby d37_4) rfl ?_
    refine XS.aloadN X0.here hx rfl (hb hby d37_5) rfl rfl ?_
    show oS p e below s₁ m 6 #[vR o0, vR o1, vI 1, .unset, .unset, .unset, .unset, .unset] [(.ref o0), (.int 1)] _
    refine st1.trans ?_
    show oS p e below T1 m 9 #[vR o0, vR o1, vI 1, .unset, .unset, .unset, .unset, .unset] [(.int 4), (.int 1)] _
    refine XS.aloadN X1.here hx rfl (hb hby d37_9) rfl rfl ?_
    show oS p e below T1 m 10 #[vR o0, vR o1, vI 1, .unset, .unset, .unset, .unset, .unset] [(.ref o1), (.int 4), (.int 1)] _
    refine st2.trans ?_
    show oS p e below T2 m 13 #[vR o0, vR o1, vI 1, .unset, .unset, .unset, .unset, .unset] [(.int 3), (.int 4), (.int 1)] _
    refine XS.isub X2.here hx rfl (hb hby d37_13) rfl ?_
    show oS p e below T2 m 14 #[vR o0, vR o1, vI 1, .unset, .unset, .unset, .unset, .unset] [(.int 1), (.int 1)] _
    refine XS.icmpYes X2.here hx rfl (pc0 := 14) (pc' := 19) rfl (hb hby d37_14) rfl (flt (by decide : ¬ ((1 : Int32) < (1 : Int32)))).2.2.2 (by decide) (by decide) ?_
    show oS p e below T2 m 19 #[vR o0, vR o1, vI 1, .unset, .unset, .unset, .unset, .unset] [] _
    refine XS.aloadN X2.here hx rfl (hb hby d37_19) rfl rfl ?_
    show oS p e below T2 m 20 #[vR o0, vR o1, vI 1, .unset, .unset, .unset, .unset, .unset] [(.ref o0)] _
    refine st3 _ ?_
    show oS p e below T3 m 23 #[vR o0, vR o1, vI 1, .unset, .unset, .unset, .unset, .unset] [(.ref tA)] _
    refine XS.astoreN X3.here hx rfl (hb hby d37_23) rfl rfl (l' := #[vR o0, vR o1, vI 1, vR tA, .unset, .unset, .unset, .unset]) rfl ?_
    show oS p e below T3 m 24 #[vR o0, vR o1, vI 1, vR tA, .unset, .unset, .unset, .unset] [] _
    refine XS.aloadN X3.here hx rfl (hb hby d37_24) rfl rfl ?_
    show oS p e below T3 m 25 #[vR o0, vR o1, vI 1, vR tA, .unset, .unset, .unset, .unset] [(.ref o1)] _
    refine st4 _ ?_
    show oS p e below T4 m 28 #[vR o0, vR o1, vI 1, vR tA, .unset, .unset, .unset, .unset] [(.ref tB)] _
    refine XS.astore X4.here hx rfl (hb hby d37_28) rfl rfl (l' := #[vR o0, vR o1, vI 1, vR tA, vR tB, .unset, .unset, .unset]) rfl ?_
    show oS p e below T4 m 30 #[vR o0, vR o1, vI 1, vR tA, vR tB, .unset, .unset, .unset] [] _
    refine XS.iconst X4.here hx rfl (hb hby d37_30) ?_
    refine XS.istore X4.here hx rfl (hb hby d37_31) rfl (l' := #[vR o0, vR o1, vI 1, vR tA, vR tB, vI 0, .unset, .unset]) rfl ?_
    show oS p e below T4 m 33 #[vR o0, vR o1, vI 1, vR tA, vR tB, vI 0, .unset, .unset] [] _
    refine XS.aload X4.here hx rfl (hb hby d37_33) rfl rfl ?_
    show oS p e below T4 m 35 #[vR o0, vR o1, vI 1, vR tA, vR tB, vI 0, .unset, .unset] [(.ref tB)] _
    refine X4.arraylength hx (by rw [e4]; exact Ar5.1) (State.isArrayOf_alike hZ.alike Ar5.2.1) (g := (mkF m 35 #[vR o0, vR o1, vI 1, vR tA, vR tB, vI 0, .unset, .unset] [(.ref tB)])) rfl rfl (hb hby d37_35) _ ?_
    rw [len_of Sz5 Ng5]
    show oS p e below T4 m 36 #[vR o0, vR o1, vI 1, vR tA, vR tB, vI 0, .unset, .unset] [(.int 3)] _
    refine XS.istore X4.here hx rfl (hb hby d37_36) rfl (l' := #[vR o0, vR o1, vI 1, vR tA, vR tB, vI 0, vI 3, .unset]) rfl ?_
    show oS p e below T4 m 38 #[vR o0, vR o1, vI 1, vR tA, vR tB, vI 0, vI 3, .unset] [] _
    refine XS.aloadN X4.here hx rfl (hb hby d37_38) rfl rfl ?_
    show oS p e below T4 m 39 #[vR o0, vR o1, vI 1, vR tA, vR tB, vI 0, vI 3, .unset] [(.ref o0)] _
    refine st6.trans ?_
    show oS p e below T6 m 42 #[vR o0, vR o1, vI 1, vR tA, vR tB, vI 0, vI 3, .unset] [(.int 0)] _
    refine XS.istore X6.here hx rfl (hb hby d37_42) rfl (l' := #[vR o0, vR o1, vI 1, vR tA, vR tB, vI 0, vI 3, vI 0]) rfl ?_
    show oS p e below T6 m 44 #[vR o0, vR o1, vI 1, vR tA, vR tB, vI 0, vI 3, vI 0] [] _
    refine XS.iload X6.here hx rfl (hb hby d37_44) rfl ?_
    refine XS.aloadN X6.here hx rfl (hb hby d37_46) rfl rfl ?_
    show oS p e below T6 m 47 #[vR o0, vR o1, vI 1, vR tA, vR tB, vI 0, vI 3, vI 0] [(.ref o1), (.int 0)] _
    refine st7.trans ?_
    show oS p e below T7 m 50 #[vR o0, vR o1, vI 1, vR tA, vR tB, vI 0, vI 3, vI 0] [(.int 0), (.int 0)] _
    refine XS.icmpNo X7.here hx rfl (hb hby d37_50) rfl (teq (by decide : (0 : Int32) = (0 : Int32))).2 ?_
    show oS p e below T7 m 53 #[vR o0, vR o1, vI 1, vR tA, vR tB, vI 0, vI 3, vI 0] [] _
    refine XS.iload X7.here hx rfl (hb hby d37_53) rfl ?_
    refine XS.iconst X7.here hx rfl (hb hby d37_55) ?_
    refine XS.icmpYes X7.here hx rfl (pc0 := 56) (pc' := 63) rfl (hb hby d37_56) rfl (feq (by decide : ¬ ((0 : Int32) = (1 : Int32)))).2 (by decide) (by decide) ?_
    show oS p e below T7 m 63 #[vR o0, vR o1, vI 1, vR tA, vR tB, vI 0, vI 3, vI 0] [] _
    refine XS.aloadN X7.here hx rfl (hb hby d37_63) rfl rfl ?_
    refine XS.iloadN X7.here hx rfl (hb hby d37_64) rfl ?_
    refine XS.aload X7.here hx rfl (hb hby d37_65) rfl rfl ?_
    show oS p e below T7 m 67 #[vR o0, vR o1, vI 1, vR tA, vR tB, vI 0, vI 3, vI 0] [(.ref tB), (.int 1), (.ref tA)] _
    refine XS.iconst X7.here hx rfl (hb hby d37_67) ?_
    refine XS.iload X7.here hx rfl (hb hby d37_68) rfl ?_
    show oS p e below T7 m 70 #[vR o0, vR o1, vI 1, vR tA, vR tB, vI 0, vI 3, vI 0] [(.int 3), (.int 0), (.ref tB), (.int 1), (.ref tA)] _
    refine st8 _ ?_
    show oS p e below T8 m 73 #[vR o0, vR o1, vI 1, vR tA, vR tB, vI 0, vI 3, vI 0] [(.int (-1 : Int32))] _
    refine XS.ifNo X8.here hx rfl (hb hby d37_73) rfl ((if0 _ _).trans (tlt (by decide : (-1 : Int32) < (0 : Int32))).2.1) ?_
    show oS p e below T8 m 76 #[vR o0, vR o1, vI 1, vR tA, vR tB, vI 0, vI 3, vI 0] [] _
    refine XS.iconst X8.here hx rfl (hb hby d37_76) ?_
    refine XS.goto X8.here hx rfl (pc0 := 77) (pc' := 81) rfl (hb hby d37_77) (by decide) (by decide) ?_
    show oS p e below T8 m 81 #[vR o0, vR o1, vI 1, vR tA, vR tB, vI 0, vI 3, vI 0] [(.int 1)] _
    exact retN X8 hx (t := .boolean) Bd.returns (by simp) (hb hby d37_81) hr
  · show own_Q (.int 1) h0 n0 _ T8.heap _
    rw [e8]
    exact ⟨rfl, N8, rfl⟩
theorem rmEW6 (l : Launch) (Z : State) (a0 : Array Value) (hw : HW a0 Z) (ws : List Jvm.Cond) (o0 : Addr) (o1 : Addr) (tA : Addr) (kA : ClassId) (tB : Addr) (kB : ClassId) (zc : Int32) (h0 : Heap) (n0 : Nat) (O0 : Old Z n0 h0) (E_o0 : Exa Z h0 o0 "java/lang/String") (F_value_o0 : Fld Z h0 o0 "java/lang/String" "value" "[B" (.ref tA)) (F_coder_o0 : Fld Z h0 o0 "java/lang/String" "coder" "B" (.int 0)) (V_tA : Arv Z h0 tA kA .byte (4 : Int32) [(.int 98), (.int 91), (.int 120), (.int 93)] (.int 0)) (E_o1 : Exa Z h0 o1 "java/lang/String") (F_value_o1 : Fld Z h0 o1 "java/lang/String" "value" "[B" (.ref tB)) (F_coder_o1 : Fld Z h0 o1 "java/lang/String" "coder" "B" (.int 0)) (V_tB : Arv Z h0 tB kB .byte (3 : Int32) [(.int 91), (.int 120), (.int 93)] (.int 0)) (S_CS : Sta Z Z.heap "java/lang/String" "COMPACT_STRINGS" "Z" (.int zc)) (hzc : ¬ zc = 0) :
    oM l Z mN52 jdk_42_method_77_code 2 (some .boolean) ws (rM 3 0 0 46) #[(.ref o0), (.ref o1)] h0 (own_Q (.int 1) h0 n0) := by
  refine MetFree.of_bodySF (plainFor_of_name pn_36) hisR ?_
  intro p e s m args below meth c s₁ Bd hml0 hP hK
  obtain ⟨rfl, hZ, hh⟩ := hP
  have hx := Bd.exec
  have hby := Bd.bytes
  have hml : c.maxLocals = 2 := hml0
  have hown : s.vm.findClass "java/lang/String" = some m.cls := findClass_of_methodNamed Bd.named
  have X0 : Stand p l e (rM 3 0 0 46) s m #[(.ref o0), (.ref o1)] below meth c s₁ [] 0 0 := Stand.of_body Bd
  have e0 : s₁.heap = h0 := by rw [← hh, Bd.state]; rfl
  have N0 := Fr.nil n0
  have pre0 := fun t (k : oS p e below s₁ m 0 #[vR o0, vR o1] [] t) => castTop (ef_36 m o0 o1) k
  obtain ⟨cq1, kq1, q1a, q1b, q1c⟩ := isOf hZ e0 E_o0
  obtain ⟨_, _, ⟨T1, L1, k1, n1⟩, -, X1, ⟨Lc1, hQ1, l1, y1, z1⟩, st1⟩ := X0.virtualBack hx (y := mN37) (z := mN37) hown (mvT hZ (oW hw 140 rfl)) (mvT hZ (oW hw 141 rfl)) (notFace_of_selects (args := #[]) (mvT hZ (oW hw 143 rfl))) (mvT hZ (oW hw 143 rfl)) (mvT hZ (oW hw 142 rfl)) (by decide) (backOf (W := 2) (rmLe l Z a0 hw [] o0 (4 : Int32) _ tA kA zc h0 n0 O0 E_o0 F_value_o0 F_coder_o0 V_tA S_CS hzc) hZ (oW hw 144 rfl) (oW hw 33 rfl) (by decide) (by decide)) q1a q1c (g := (mkF m 3 #[vR o0, vR o1] [(.ref o0), (.ref o1), (.ref o0)])) rfl (by rw [hml]; rfl) (Steps.refl _) (argsL := []) (rest := [(.ref o1), (.ref o0)]) (lenOf pd_22 rfl) rfl (by show 2 * 0 + _ ≤ _; exact Nat.le_of_eq rfl) (hb hby d36_3) (fun _ _ => ⟨rfl, e0, (by decide : 0 + 0 ≤ _), (by decide : 0 + 0 ≤ _)⟩)
  dsimp only [Pt.U, Pt.locs, Pt.cells, Pt.slots] at X1 l1 y1 z1 st1 hQ1
  subst l1 y1 z1
  obtain ⟨rfl, N1q, e1⟩ := hQ1
  have N1 := Fr.app N0 N1q
  obtain ⟨cq2, kq2, q2a, q2b, q2c⟩ := isOf hZ e1 E_o1
  obtain ⟨_, _, ⟨T2, L2, k2, n2⟩, -, X2, ⟨Lc2, hQ2, l2, y2, z2⟩, st2⟩ := X1.virtualBack hx (y := mN37) (z := mN37) hown (mvT hZ (oW hw 140 rfl)) (mvT hZ (oW hw 141 rfl)) (notFace_of_selects (args := #[]) (mvT hZ (oW hw 143 rfl))) (mvT hZ (oW hw 143 rfl)) (mvT hZ (oW hw 142 rfl)) (by decide) (backOf (W := 3) (rmLe l Z a0 hw [] o1 (3 : Int32) _ tB kB zc h0 n0 O0 E_o1 F_value_o1 F_coder_o1 V_tB S_CS hzc) hZ (oW hw 144 rfl) (oW hw 33 rfl) (by decide) (by decide)) q2a q2c (g := (mkF m 7 #[vR o0, vR o1] [(.ref o1), (.int 4), (.ref o1), (.ref o0)])) rfl (by rw [hml]; rfl) (Steps.refl _) (argsL := []) (rest := [(.int 4), (.ref o1), (.ref o0)]) (lenOf pd_22 rfl) rfl (by show 2 * 0 + _ ≤ _; exact Nat.le_of_eq rfl) (hb hby d36_7) (fun _ _ => ⟨rfl, e1, (by decide : 0 + 0 ≤ _), (by decide : 0 + 0 ≤ _)⟩)
  dsimp only [Pt.U, Pt.locs, Pt.cells, Pt.slots] at X2 l2 y2 z2 st2 hQ2
  subst l2 y2 z2
  obtain ⟨rfl, N2q, e2⟩ := hQ2
  have N2 := Fr.app N1 N2q
  obtain ⟨cq3, kq3, q3a, q3b, q3c⟩ := isOf hZ e2 E_o0
  obtain ⟨_, _, ⟨T3, L3, k3, n3⟩, -, X3, ⟨Lc3, hQ3, l3, y3, z3⟩, st3⟩ := X2.virtualBack hx (y := mN51) (z := mN51) hown (mvT hZ (oW hw 213 rfl)) (mvT hZ (oW hw 214 rfl)) (notFace_of_selects (args := #[]) (mvT hZ (oW hw 216 rfl))) (mvT hZ (oW hw 216 rfl)) (mvT hZ (oW hw 215 rfl)) (by decide) (backOf (W := 0) (rmSW6 l Z a0 hw [] o0 o1  tA kA tB kB zc h0 n0 O0 E_o0 F_value_o0 F_coder_o0 V_tA E_o1 F_value_o1 F_coder_o1 V_tB S_CS hzc) hZ (oW hw 217 rfl) (oW hw 33 rfl) (by decide) (by decide)) q3a q3c (g := (mkF m 11 #[vR o0, vR o1] [(.int 1), (.ref o1), (.ref o0)])) rfl (by rw [hml]; rfl) (Steps.refl _) (argsL := [(.ref o1), (.int 1)]) (rest := []) (lenOf pd_29 rfl) rfl (by show 2 * 0 + _ ≤ _; exact Nat.le_of_eq rfl) (hb hby d36_11) (fun _ _ => ⟨rfl, e2, (by decide : 0 + 0 ≤ _), (by decide : 0 + 0 ≤ _)⟩)
  dsimp only [Pt.U, Pt.locs, Pt.cells, Pt.slots] at X3 l3 y3 z3 st3 hQ3
  subst l3 y3 z3
  obtain ⟨rfl, N3q, e3⟩ := hQ3
  have N3 := Fr.app N2 N3q
  obtain ⟨fs, hr, hrun, hended, hW, hsame⟩ := X3.leave (v := some (.int 1)) (fun h => by rw [Bd.returns] at h; cases h)
  refine ⟨_, _, pre0 _ ?_, hrun, hended, _, _, rfl, ?_, ⟨_, rfl⟩, hW, hsame.mono (by decide) (by decide)⟩
  · show oS p e below s₁ m 0 #[vR o0, vR o1] [] _
    refine XS.aloadN X0.here hx rfl (hb hby d36_0) rfl rfl ?_
    refine XS.aloadN X0.here hx rfl (hb hby d36_1) rfl rfl ?_
    refine XS.aloadN X0.here hx rfl (hb hby d36_2) rfl rfl ?_
    show oS p e below s₁ m 3 #[vR o0, vR o1] [(.ref o0), (.ref o1), (.ref o0)] _
    refine st1.trans ?_
    show oS p e below T1 m 6 #[vR o0, vR o1] [(.int 4), (.ref o1), (.ref o0)] _
    refine XS.aloadN X1.here hx rfl (hb hby d36_6) rfl rfl ?_
    show oS p e below T1 m 7 #[vR o0, vR o1] [(.ref o1), (.int 4), (.ref o1), (.ref o0)] _
    refine st2.trans ?_
    show oS p e below T2 m 10 #[vR o0, vR o1] [(.int 3), (.int 4), (.ref o1), (.ref o0)] _
    refine XS.isub X2.here hx rfl (hb hby d36_10) rfl ?_
    show oS p e below T2 m 11 #[vR o0, vR o1] [(.int 1), (.ref o1), (.ref o0)] _
    refine st3.trans ?_
    show oS p e below T3 m 14 #[vR o0, vR o1] [(.int 1)] _
    exact retN X3 hx (t := .boolean) Bd.returns (by simp) (hb hby d36_14) hr
  · show own_Q (.int 1) h0 n0 _ T3.heap _
    rw [e3]
    exact ⟨rfl, N3, rfl⟩
theorem d51_0 : decode prog_6_method_6_code 0 = .ok (.aload_n 0, 1) := by decide +kernel
theorem d51_1 : decode prog_6_method_6_code 1 = .ok (.getfield 75, 3) := by decide +kernel
theorem d51_4 : decode prog_6_method_6_code 4 = .ok (.ifnonnull 10, 3) := by decide +kernel
theorem d51_7 : decode prog_6_method_6_code 7 = .ok (.aload_n 0, 1) := by decide +kernel
theorem d51_8 : decode prog_6_method_6_code 8 = .ok (.getfield 72, 3) := by decide +kernel
theorem d51_11 : decode prog_6_method_6_code 11 = .ok (.goto 10, 3) := by decide +kernel
theorem d51_21 : decode prog_6_method_6_code 21 = .ok (.areturn, 1) := by decide +kernel
theorem ef_51 (m : MethodId) (x0 : Addr) : entryFrame m #[(.ref x0)] 1 = mkF m 0 #[.val (.ref x0)] [] := by first | (simp [entryFrame, mkF, argsToLocals, Value.category]; done) | rfl
theorem pn_51 : plainName "com/example/graftwork/graftwork/ElementDefinition" = true := by first | (simp [plainName, overriddenIn]; done) | decide +kernel
theorem rmT0 (l : Launch) (Z : State) (a0 : Array Value) (hw : HW a0 Z) (ws : List Jvm.Cond) (o0 : Addr) (gg : Addr) (h0 : Heap) (n0 : Nat) (O0 : Old Z n0 h0) (F_reused_o0 : Fld Z h0 o0 "com/example/graftwork/graftwork/ElementDefinition" "reused" "Lcom/example/graftwork/graftwork/ElementDefinition;" .null) (F_types_o0 : Fld Z h0 o0 "com/example/graftwork/graftwork/ElementDefinition" "types" "Ljava/util/List;" (.ref gg)) :
    oM l Z mN53 prog_6_method_6_code 1 (some (.object "java/util/List")) ws (rM 0 0 0 0) #[(.ref o0)] h0 (own_Q (.ref gg) h0 n0) := by
  refine MetFree.of_bodySF (plainFor_of_name pn_51) hisR ?_
  intro p e s m args below meth c s₁ Bd hml0 hP hK
  obtain ⟨rfl, hZ, hh⟩ := hP
  have hx := Bd.exec
  have hby := Bd.bytes
  have hml : c.maxLocals = 1 := hml0
  have hown : s.vm.findClass "com/example/graftwork/graftwork/ElementDefinition" = some m.cls := findClass_of_methodNamed Bd.named
  have X0 : Stand p l e (rM 0 0 0 0) s m #[(.ref o0)] below meth c s₁ [] 0 0 := Stand.of_body Bd
  have e0 : s₁.heap = h0 := by rw [← hh, Bd.state]; rfl
  have N0 := Fr.nil n0
  have pre0 := fun t (k : oS p e below s₁ m 0 #[vR o0] [] t) => castTop (ef_51 m o0) k
  obtain ⟨T1, X1, e1, st1⟩ := getF X0 hx hZ hown (host := "") (Or.inl (oW hw 322 rfl)) Via.refl e0 F_reused_o0 (g := (mkF m 1 #[vR o0] [(.ref o0)])) rfl rfl (hb hby d51_1)
  obtain ⟨T2, X2, e2, st2⟩ := getF X1 hx hZ hown (host := "") (Or.inl (oW hw 253 rfl)) Via.refl e1 F_types_o0 (g := (mkF m 8 #[vR o0] [(.ref o0)])) rfl rfl (hb hby d51_8)
  obtain ⟨fs, hr, hrun, hended, hW, hsame⟩ := X2.leave (v := some (.ref gg)) (fun h => by rw [Bd.returns] at h; cases h)
  refine ⟨_, _, pre0 _ ?_, hrun, hended, _, _, rfl, ?_, ⟨_, rfl⟩, hW, hsame.mono (by decide) (by decide)⟩
  · show oS p e below s₁ m 0 #[vR o0] [] _
    refine XS.aloadN X0.here hx rfl (hb hby d51_0) rfl rfl ?_
    show oS p e below s₁ m 1 #[vR o0] [(.ref o0)] _
    refine st1 _ ?_
    show oS p e below T1 m 4 #[vR o0] [.null] _
    refine XS.ifnonnullNo X1.here hx rfl (hb hby d51_4) rfl ?_
    show oS p e below T1 m 7 #[vR o0] [] _
    refine XS.aloadN X1.here hx rfl (hb hby d51_7) rfl rfl ?_
    show oS p e below T1 m 8 #[vR o0] [(.ref o0)] _
    refine st2 _ ?_
    show oS p e below T2 m 11 #[vR o0] [(.ref gg)] _
    refine XS.goto X2.here hx rfl (pc0 := 11) (pc' := 21) rfl (hb hby d51_11) (by decide) (by decide) ?_
    show Steps p.tables e below (T2.setTop (mkF m 21 #[vR o0] [(.ref gg)])) _
    jvm_step X2.here [X2.here.top, hx, (hb hby d51_21), X2.method', Bd.returns, Value.isRef, FieldType.isReference]
    first | (intro acts; rw [hr _ acts rfl rfl rfl]) | rw [hr _ _ rfl rfl rfl]
    exact Steps.refl _
  · show own_Q (.ref gg) h0 n0 _ T2.heap _
    rw [e2]
    exact ⟨rfl, N0, rfl⟩
theorem d51_14 : decode prog_6_method_6_code 14 = .ok (.aload_n 0, 1) := by decide +kernel
theorem d51_15 : decode prog_6_method_6_code 15 = .ok (.getfield 75, 3) := by decide +kernel
theorem d51_18 : decode prog_6_method_6_code 18 = .ok (.invokevirtual 79, 3) := by decide +kernel
theorem rmT1 (l : Launch) (Z : State) (a0 : Array Value) (hw : HW a0 Z) (ws : List Jvm.Cond) (o0 : Addr) (o1 : Addr) (gg : Addr) (h0 : Heap) (n0 : Nat) (O0 : Old Z n0 h0) (F_reused_o0 : Fld Z h0 o0 "com/example/graftwork/graftwork/ElementDefinition" "reused" "Lcom/example/graftwork/graftwork/ElementDefinition;" (.ref o1)) (E_o1 : Exa Z h0 o1 "com/example/graftwork/graftwork/ElementDefinition") (F_reused_o1 : Fld Z h0 o1 "com/example/graftwork/graftwork/ElementDefinition" "reused" "Lcom/example/graftwork/graftwork/ElementDefinition;" .null) (F_types_o1 : Fld Z h0 o1 "com/example/graftwork/graftwork/ElementDefinition" "types" "Ljava/util/List;" (.ref gg)) :
    oM l Z mN53 prog_6_method_6_code 1 (some (.object "java/util/List")) ws (rM 1 0 0 12) #[(.ref o0)] h0 (own_Q (.ref gg) h0 n0) := by
  refine MetFree.of_bodySF (plainFor_of_name pn_51) hisR ?_
  intro p e s m args below meth c s₁ Bd hml0 hP hK
  obtain ⟨rfl, hZ, hh⟩ := hP
  have hx := Bd.exec
  have hby := Bd.bytes
  have hml : c.maxLocals = 1 := hml0
  have hown : s.vm.findClass "com/example/graftwork/graftwork/ElementDefinition" = some m.cls := findClass_of_methodNamed Bd.named
  have X0 : Stand p l e (rM 1 0 0 12) s m #[(.ref o0)] below meth c s₁ [] 0 0 := Stand.of_body Bd
  have e0 : s₁.heap = h0 := by rw [← hh, Bd.state]; rfl
  have N0 := Fr.nil n0
  have pre0 := fun t (k : oS p e below s₁ m 0 #[vR o0] [] t) => castTop (ef_51 m o0) k
  obtain ⟨T1, X1, e1, st1⟩ := getF X0 hx hZ hown (host := "") (Or.inl (oW hw 322 rfl)) Via.refl e0 F_reused_o0 (g := (mkF m 1 #[vR o0] [(.ref o0)])) rfl rfl (hb hby d51_1)
  obtain ⟨T2, X2, e2, st2⟩ := getF X1 hx hZ hown (host := "") (Or.inl (oW hw 322 rfl)) Via.refl e1 F_reused_o0 (g := (mkF m 15 #[vR o0] [(.ref o0)])) rfl rfl (hb hby d51_15)
  obtain ⟨cq3, kq3, q3a, q3b, q3c⟩ := isOf hZ e2 E_o1
  obtain ⟨_, _, ⟨T3, L3, k3, n3⟩, -, X3, ⟨Lc3, hQ3, l3, y3, z3⟩, st3⟩ := X2.virtualBack hx (y := mN53) (z := mN53) hown (mvT hZ (oW hw 344 rfl)) (mvT hZ (oW hw 318 rfl)) (notFace_of_selects (args := #[]) (mvT hZ (oW hw 320 rfl))) (mvT hZ (oW hw 320 rfl)) (mvT hZ (oW hw 319 rfl)) (by decide) (backOf (W := 0) (rmT0 l Z a0 hw [] o1 gg h0 n0 O0 F_reused_o1 F_types_o1) hZ (oW hw 321 rfl) (oW hw 93 rfl) (by decide) (by decide)) q3a q3c (g := (mkF m 18 #[vR o0] [(.ref o1)])) rfl (by rw [hml]; rfl) (Steps.refl _) (argsL := []) (rest := []) (lenOf pd_16 rfl) rfl (by show 2 * 0 + _ ≤ _; exact Nat.le_of_eq rfl) (hb hby d51_18) (fun _ _ => ⟨rfl, e2, (by decide : 0 + 0 ≤ _), (by decide : 0 + 0 ≤ _)⟩)
  dsimp only [Pt.U, Pt.locs, Pt.cells, Pt.slots] at X3 l3 y3 z3 st3 hQ3
  subst l3 y3 z3
  obtain ⟨rfl, N3q, e3⟩ := hQ3
  have N3 := Fr.app N0 N3q
  obtain ⟨fs, hr, hrun, hended, hW, hsame⟩ := X3.leave (v := some (.ref gg)) (fun h => by rw [Bd.returns] at h; cases h)
  refine ⟨_, _, pre0 _ ?_, hrun, hended, _, _, rfl, ?_, ⟨_, rfl⟩, hW, hsame.mono (by decide) (by decide)⟩
  · show oS p e below s₁ m 0 #[vR o0] [] _
    refine XS.aloadN X0.here hx rfl (hb hby d51_0) rfl rfl ?_
    show oS p e below s₁ m 1 #[vR o0] [(.ref o0)] _
    refine st1 _ ?_
    show oS p e below T1 m 4 #[vR o0] [(.ref o1)] _
    refine XS.ifnonnullYes X1.here hx rfl (pc0 := 4) (pc' := 14) rfl (hb hby d51_4) rfl (by decide) (by decide) ?_
    show oS p e below T1 m 14 #[vR o0] [] _
    refine XS.aloadN X1.here hx rfl (hb hby d51_14) rfl rfl ?_
    show oS p e below T1 m 15 #[vR o0] [(.ref o0)] _
    refine st2 _ ?_
    show oS p e below T2 m 18 #[vR o0] [(.ref o1)] _
    refine st3.trans ?_
    show Steps p.tables e below (T3.setTop (mkF m 21 #[vR o0] [(.ref gg)])) _
    jvm_step X3.here [X3.here.top, hx, (hb hby d51_21), X3.method', Bd.returns, Value.isRef, FieldType.isReference]
    first | (intro acts; rw [hr _ acts rfl rfl rfl]) | rw [hr _ _ rfl rfl rfl]
    exact Steps.refl _
  · show own_Q (.ref gg) h0 n0 _ T3.heap _
    rw [e3]
    exact ⟨rfl, N3, rfl⟩
theorem rmT2 (l : Launch) (Z : State) (a0 : Array Value) (hw : HW a0 Z) (ws : List Jvm.Cond) (o0 : Addr) (o1 : Addr) (o2 : Addr) (gg : Addr) (h0 : Heap) (n0 : Nat) (O0 : Old Z n0 h0) (F_reused_o0 : Fld Z h0 o0 "com/example/graftwork/graftwork/ElementDefinition" "reused" "Lcom/example/graftwork/graftwork/ElementDefinition;" (.ref o1)) (E_o1 : Exa Z h0 o1 "com/example/graftwork/graftwork/ElementDefinition") (F_reused_o1 : Fld Z h0 o1 "com/example/graftwork/graftwork/ElementDefinition" "reused" "Lcom/example/graftwork/graftwork/ElementDefinition;" (.ref o2)) (E_o2 : Exa Z h0 o2 "com/example/graftwork/graftwork/ElementDefinition") (F_reused_o2 : Fld Z h0 o2 "com/example/graftwork/graftwork/ElementDefinition" "reused" "Lcom/example/graftwork/graftwork/ElementDefinition;" .null) (F_types_o2 : Fld Z h0 o2 "com/example/graftwork/graftwork/ElementDefinition" "types" "Ljava/util/List;" (.ref gg)) :
    oM l Z mN53 prog_6_method_6_code 1 (some (.object "java/util/List")) ws (rM 2 0 0 24) #[(.ref o0)] h0 (own_Q (.ref gg) h0 n0) := by
  refine MetFree.of_bodySF (plainFor_of_name pn_51) hisR ?_
  intro p e s m args below meth c s₁ Bd hml0 hP hK
  obtain ⟨rfl, hZ, hh⟩ := hP
  have hx := Bd.exec
  have hby := Bd.bytes
  have hml : c.maxLocals = 1 := hml0
  have hown : s.vm.findClass "com/example/graftwork/graftwork/ElementDefinition" = some m.cls := findClass_of_methodNamed Bd.named
  have X0 : Stand p l e (rM 2 0 0 24) s m #[(.ref o0)] below meth c s₁ [] 0 0 := Stand.of_body Bd
  have e0 : s₁.heap = h0 := by rw [← hh, Bd.state]; rfl
  have N0 := Fr.nil n0
  have pre0 := fun t (k : oS p e below s₁ m 0 #[vR o0] [] t) => castTop (ef_51 m o0) k
  obtain ⟨T1, X1, e1, st1⟩ := getF X0 hx hZ hown (host := "") (Or.inl (oW hw 322 rfl)) Via.refl e0 F_reused_o0 (g := (mkF m 1 #[vR o0] [(.ref o0)])) rfl rfl (hb hby d51_1)
  obtain ⟨T2, X2, e2, st2⟩ := getF X1 hx hZ hown (host := "") (Or.inl (oW hw 322 rfl)) Via.refl e1 F_reused_o0 (g := (mkF m 15 #[vR o0] [(.ref o0)])) rfl rfl (hb hby d51_15)
  obtain ⟨cq3, kq3, q3a, q3b, q3c⟩ := isOf hZ e2 E_o1
  obtain ⟨_, _, ⟨T3, L3, k3, n3⟩, -, X3, ⟨Lc3, hQ3, l3, y3, z3⟩, st3⟩ := X2.virtualBack hx (y := mN53) (z := mN53) hown (mvT hZ (oW hw 344 rfl)) (mvT hZ (oW hw 318 rfl)) (notFace_of_selects (args := #[]) (mvT hZ (oW hw 320 rfl))) (mvT hZ (oW hw 320 rfl)) (mvT hZ (oW hw 319 rfl)) (by decide) (backOf (W := 0) (rmT1 l Z a0 hw [] o1 o2 gg h0 n0 O0 F_reused_o1 E_o2 F_reused_o2 F_types_o2) hZ (oW hw 321 rfl) (oW hw 93 rfl) (by decide) (by decide)) q3a q3c (g := (mkF m 18 #[vR o0] [(.ref o1)])) rfl (by rw [hml]; rfl) (Steps.refl _) (argsL := []) (rest := []) (lenOf pd_16 rfl) rfl (by show 2 * 0 + _ ≤ _; exact Nat.le_of_eq rfl) (hb hby d51_18) (fun _ _ => ⟨rfl, e2, (by decide : 0 + 0 ≤ _), (by decide : 0 + 0 ≤ _)⟩)
  dsimp only [Pt.U, Pt.locs, Pt.cells, Pt.slots] at X3 l3 y3 z3 st3 hQ3
  subst l3 y3 z3
  obtain ⟨rfl, N3q, e3⟩ := hQ3
  have N3 := Fr.app N0 N3q
  obtain ⟨fs, hr, hrun, hended, hW, hsame⟩ := X3.leave (v := some (.ref gg)) (fun h => by rw [Bd.returns] at h; cases h)
  refine ⟨_, _, pre0 _ ?_, hrun, hended, _, _, rfl, ?_, ⟨_, rfl⟩, hW, hsame.mono (by decide) (by decide)⟩
  · show oS p e below s₁ m 0 #[vR o0] [] _
    refine XS.aloadN X0.here hx rfl (hb hby d51_0) rfl rfl ?_
    show oS p e below s₁ m 1 #[vR o0] [(.ref o0)] _
    refine st1 _ ?_
    show oS p e below T1 m 4 #[vR o0] [(.ref o1)] _
    refine XS.ifnonnullYes X1.here hx rfl (pc0 := 4) (pc' := 14) rfl (hb hby d51_4) rfl (by decide) (by decide) ?_
    show oS p e below T1 m 14 #[vR o0] [] _
    refine XS.aloadN X1.here hx rfl (hb hby d51_14) rfl rfl ?_
    show oS p e below T1 m 15 #[vR o0] [(.ref o0)] _
    refine st2 _ ?_
    show oS p e below T2 m 18 #[vR o0] [(.ref o1)] _
    refine st3.trans ?_
    show Steps p.tables e below (T3.setTop (mkF m 21 #[vR o0] [(.ref gg)])) _
    jvm_step X3.here [X3.here.top, hx, (hb hby d51_21), X3.method', Bd.returns, Value.isRef, FieldType.isReference]
    first | (intro acts; rw [hr _ acts rfl rfl rfl]) | rw [hr _ _ rfl rfl rfl]
    exact Steps.refl _
  · show own_Q (.ref gg) h0 n0 _ T3.heap _
    rw [e3]
    exact ⟨rfl, N3, rfl⟩
theorem rmT0w (l : Launch) (Z : State) (a0 : Array Value) (hw : HW a0 Z) (ws : List Jvm.Cond) (o0 : Addr) (gg : Addr) (h0 : Heap) (n0 : Nat) (O0 : Old Z n0 h0) (F_reused_o0 : Fld Z h0 o0 "com/example/graftwork/graftwork/ElementDefinition" "reused" "Lcom/example/graftwork/graftwork/ElementDefinition;" .null) (F_types_o0 : Fld Z h0 o0 "com/example/graftwork/graftwork/ElementDefinition" "types" "Ljava/util/List;" (.ref gg)) :
    oM l Z mN53 prog_6_method_6_code 1 (some (.object "java/util/List")) ws (rM 2 0 0 24) #[(.ref o0)] h0 (own_Q (.ref gg) h0 n0) := by
  refine MetFree.of_bodySF (plainFor_of_name pn_51) hisR ?_
  intro p e s m args below meth c s₁ Bd hml0 hP hK
  obtain ⟨rfl, hZ, hh⟩ := hP
  have hx := Bd.exec
  have hby := Bd.bytes
  have hml : c.maxLocals = 1 := hml0
  have hown : s.vm.findClass "com/example/graftwork/graftwork/ElementDefinition" = some m.cls := findClass_of_methodNamed Bd.named
  have X0 : Stand p l e (rM 2 0 0 24) s m #[(.ref o0)] below meth c s₁ [] 0 0 := Stand.of_body Bd
  have e0 : s₁.heap = h0 := by rw [← hh, Bd.state]; rfl
  have N0 := Fr.nil n0
  have pre0 := fun t (k : oS p e below s₁ m 0 #[vR o0] [] t) => castTop (ef_51 m o0) k
  obtain ⟨T1, X1, e1, st1⟩ := getF X0 hx hZ hown (host := "") (Or.inl (oW hw 322 rfl)) Via.refl e0 F_reused_o0 (g := (mkF m 1 #[vR o0] [(.ref o0)])) rfl rfl (hb hby d51_1)
  obtain ⟨T2, X2, e2, st2⟩ := getF X1 hx hZ hown (host := "") (Or.inl (oW hw 253 rfl)) Via.refl e1 F_types_o0 (g := (mkF m 8 #[vR o0] [(.ref o0)])) rfl rfl (hb hby d51_8)
  obtain ⟨fs, hr, hrun, hended, hW, hsame⟩ := X2.leave (v := some (.ref gg)) (fun h => by rw [Bd.returns] at h; cases h)
  refine ⟨_, _, pre0 _ ?_, hrun, hended, _, _, rfl, ?_, ⟨_, rfl⟩, hW, hsame.mono (by decide) (by decide)⟩
  · show oS p e below s₁ m 0 #[vR o0] [] _
    refine XS.aloadN X0.here hx rfl (hb hby d51_0) rfl rfl ?_
    show oS p e below s₁ m 1 #[vR o0] [(.ref o0)] _
    refine st1 _ ?_
    show oS p e below T1 m 4 #[vR o0] [.null] _
    refine XS.ifnonnullNo X1.here hx rfl (hb hby d51_4) rfl ?_
    show oS p e below T1 m 7 #[vR o0] [] _
    refine XS.aloadN X1.here hx rfl (hb hby d51_7) rfl rfl ?_
    show oS p e below T1 m 8 #[vR o0] [(.ref o0)] _
    refine st2 _ ?_
    show oS p e below T2 m 11 #[vR o0] [(.ref gg)] _
    refine XS.goto X2.here hx rfl (pc0 := 11) (pc' := 21) rfl (hb hby d51_11) (by decide) (by decide) ?_
    show Steps p.tables e below (T2.setTop (mkF m 21 #[vR o0] [(.ref gg)])) _
    jvm_step X2.here [X2.here.top, hx, (hb hby d51_21), X2.method', Bd.returns, Value.isRef, FieldType.isReference]
    first | (intro acts; rw [hr _ acts rfl rfl rfl]) | rw [hr _ _ rfl rfl rfl]
    exact Steps.refl _
  · show own_Q (.ref gg) h0 n0 _ T2.heap _
    rw [e2]
    exact ⟨rfl, N0, rfl⟩
theorem rmT1w (l : Launch) (Z : State) (a0 : Array Value) (hw : HW a0 Z) (ws : List Jvm.Cond) (o0 : Addr) (o1 : Addr) (gg : Addr) (h0 : Heap) (n0 : Nat) (O0 : Old Z n0 h0) (F_reused_o0 : Fld Z h0 o0 "com/example/graftwork/graftwork/ElementDefinition" "reused" "Lcom/example/graftwork/graftwork/ElementDefinition;" (.ref o1)) (E_o1 : Exa Z h0 o1 "com/example/graftwork/graftwork/ElementDefinition") (F_reused_o1 : Fld Z h0 o1 "com/example/graftwork/graftwork/ElementDefinition" "reused" "Lcom/example/graftwork/graftwork/ElementDefinition;" .null) (F_types_o1 : Fld Z h0 o1 "com/example/graftwork/graftwork/ElementDefinition" "types" "Ljava/util/List;" (.ref gg)) :
    oM l Z mN53 prog_6_method_6_code 1 (some (.object "java/util/List")) ws (rM 2 0 0 24) #[(.ref o0)] h0 (own_Q (.ref gg) h0 n0) := by
  refine MetFree.of_bodySF (plainFor_of_name pn_51) hisR ?_
  intro p e s m args below meth c s₁ Bd hml0 hP hK
  obtain ⟨rfl, hZ, hh⟩ := hP
  have hx := Bd.exec
  have hby := Bd.bytes
  have hml : c.maxLocals = 1 := hml0
  have hown : s.vm.findClass "com/example/graftwork/graftwork/ElementDefinition" = some m.cls := findClass_of_methodNamed Bd.named
  have X0 : Stand p l e (rM 2 0 0 24) s m #[(.ref o0)] below meth c s₁ [] 0 0 := Stand.of_body Bd
  have e0 : s₁.heap = h0 := by rw [← hh, Bd.state]; rfl
  have N0 := Fr.nil n0
  have pre0 := fun t (k : oS p e below s₁ m 0 #[vR o0] [] t) => castTop (ef_51 m o0) k
  obtain ⟨T1, X1, e1, st1⟩ := getF X0 hx hZ hown (host := "") (Or.inl (oW hw 322 rfl)) Via.refl e0 F_reused_o0 (g := (mkF m 1 #[vR o0] [(.ref o0)])) rfl rfl (hb hby d51_1)
  obtain ⟨T2, X2, e2, st2⟩ := getF X1 hx hZ hown (host := "") (Or.inl (oW hw 322 rfl)) Via.refl e1 F_reused_o0 (g := (mkF m 15 #[vR o0] [(.ref o0)])) rfl rfl (hb hby d51_15)
  obtain ⟨cq3, kq3, q3a, q3b, q3c⟩ := isOf hZ e2 E_o1
  obtain ⟨_, _, ⟨T3, L3, k3, n3⟩, -, X3, ⟨Lc3, hQ3, l3, y3, z3⟩, st3⟩ := X2.virtualBack hx (y := mN53) (z := mN53) hown (mvT hZ (oW hw 344 rfl)) (mvT hZ (oW hw 318 rfl)) (notFace_of_selects (args := #[]) (mvT hZ (oW hw 320 rfl))) (mvT hZ (oW hw 320 rfl)) (mvT hZ (oW hw 319 rfl)) (by decide) (backOf (W := 0) (rmT0 l Z a0 hw [] o1 gg h0 n0 O0 F_reused_o1 F_types_o1) hZ (oW hw 321 rfl) (oW hw 93 rfl) (by decide) (by decide)) q3a q3c (g := (mkF m 18 #[vR o0] [(.ref o1)])) rfl (by rw [hml]; rfl) (Steps.refl _) (argsL := []) (rest := []) (lenOf pd_16 rfl) rfl (by show 2 * 0 + _ ≤ _; exact Nat.le_of_eq rfl) (hb hby d51_18) (fun _ _ => ⟨rfl, e2, (by decide : 0 + 0 ≤ _), (by decide : 0 + 0 ≤ _)⟩)
  dsimp only [Pt.U, Pt.locs, Pt.cells, Pt.slots] at X3 l3 y3 z3 st3 hQ3
  subst l3 y3 z3
  obtain ⟨rfl, N3q, e3⟩ := hQ3
  have N3 := Fr.app N0 N3q
  obtain ⟨fs, hr, hrun, hended, hW, hsame⟩ := X3.leave (v := some (.ref gg)) (fun h => by rw [Bd.returns] at h; cases h)
  refine ⟨_, _, pre0 _ ?_, hrun, hended, _, _, rfl, ?_, ⟨_, rfl⟩, hW, hsame.mono (by decide) (by decide)⟩
  · show oS p e below s₁ m 0 #[vR o0] [] _
    refine XS.aloadN X0.here hx rfl (hb hby d51_0) rfl rfl ?_
    show oS p e below s₁ m 1 #[vR o0] [(.ref o0)] _
    refine st1 _ ?_
    show oS p e below T1 m 4 #[vR o0] [(.ref o1)] _
    refine XS.ifnonnullYes X1.here hx rfl (pc0 := 4) (pc' := 14) rfl (hb hby d51_4) rfl (by decide) (by decide) ?_
    show oS p e below T1 m 14 #[vR o0] [] _
    refine XS.aloadN X1.here hx rfl (hb hby d51_14) rfl rfl ?_
    show oS p e below T1 m 15 #[vR o0] [(.ref o0)] _
    refine st2 _ ?_
    show oS p e below T2 m 18 #[vR o0] [(.ref o1)] _
    refine st3.trans ?_
    show Steps p.tables e below (T3.setTop (mkF m 21 #[vR o0] [(.ref gg)])) _
    jvm_step X3.here [X3.here.top, hx, (hb hby d51_21), X3.method', Bd.returns, Value.isRef, FieldType.isReference]
    first | (intro acts; rw [hr _ acts rfl rfl rfl]) | rw [hr _ _ rfl rfl rfl]
    exact Steps.refl _
  · show own_Q (.ref gg) h0 n0 _ T3.heap _
    rw [e3]
    exact ⟨rfl, N3, rfl⟩
def own_QRe (Z : State) (o r g : Addr) (h0 : Heap) (n0 : Nat) (v : Option Value) (h : Heap) (L : List Loc) : Prop := v = none ∧ Fr n0 L ∧ Keep h0 h [o] ∧ Fld Z h o "com/example/graftwork/graftwork/ElementDefinition" "reused" "Lcom/example/graftwork/graftwork/ElementDefinition;" (.ref r) ∧ Fld Z h o "com/example/graftwork/graftwork/ElementDefinition" "types" "Ljava/util/List;" (.ref g)
theorem d54_0 : decode prog_6_method_13_code 0 = .ok (.aload_n 0, 1) := by decide +kernel
theorem d54_1 : decode prog_6_method_13_code 1 = .ok (.aload_n 1, 1) := by decide +kernel
theorem d54_2 : decode prog_6_method_13_code 2 = .ok (.putfield 75, 3) := by decide +kernel
theorem d54_5 : decode prog_6_method_13_code 5 = .ok (.return_, 1) := by decide +kernel
theorem ef_54 (m : MethodId) (x0 : Addr) (x1 : Addr) : entryFrame m #[(.ref x0), (.ref x1)] 2 = mkF m 0 #[.val (.ref x0), .val (.ref x1)] [] := by first | (simp [entryFrame, mkF, argsToLocals, Value.category]; done) | rfl
theorem pn_54 : plainName "com/example/graftwork/graftwork/ElementDefinition" = true := by first | (simp [plainName, overriddenIn]; done) | decide +kernel
theorem rmRe (l : Launch) (Z : State) (a0 : Array Value) (hw : HW a0 Z) (ws : List Jvm.Cond) (o0 : Addr) (o1 : Addr) (gg : Addr) (h0 : Heap) (n0 : Nat) (O0 : Old Z n0 h0) (E_o0 : Exa Z h0 o0 "com/example/graftwork/graftwork/ElementDefinition") (F_reused_o0 : Fld Z h0 o0 "com/example/graftwork/graftwork/ElementDefinition" "reused" "Lcom/example/graftwork/graftwork/ElementDefinition;" .null) (F_types_o0 : Fld Z h0 o0 "com/example/graftwork/graftwork/ElementDefinition" "types" "Ljava/util/List;" (.ref gg)) (g_o0 : n0 ≤ o0) :
    oM l Z mN54 prog_6_method_13_code 2 none ws (rM 0 0 0 0) #[(.ref o0), (.ref o1)] h0 (own_QRe Z o0 o1 gg h0 n0) := by
  refine MetFree.of_bodySF (plainFor_of_name pn_54) hisR ?_
  intro p e s m args below meth c s₁ Bd hml0 hP hK
  obtain ⟨rfl, hZ, hh⟩ := hP
  have hx := Bd.exec
  have hby := Bd.bytes
  have hml : c.maxLocals = 2 := hml0
  have hown : s.vm.findClass "com/example/graftwork/graftwork/ElementDefinition" = some m.cls := findClass_of_methodNamed Bd.named
  have X0 : Stand p l e (rM 0 0 0 0) s m #[(.ref o0), (.ref o1)] below meth c s₁ [] 0 0 := Stand.of_body Bd
  have e0 : s₁.heap = h0 := by rw [← hh, Bd.state]; rfl
  have N0 := Fr.nil n0
  have pre0 := fun t (k : oS p e below s₁ m 0 #[vR o0, vR o1] [] t) => castTop (ef_54 m o0 o1) k
  obtain ⟨T1, h1, X1, e1, W1, st1⟩ := putF X0 hx hZ hown (host := "") (Or.inl (oW hw 322 rfl)) Via.refl e0 F_reused_o0 E_o0 (Or.inl (oW hw 323 rfl)) (oW hw 92 rfl) (ty := (.object "com/example/graftwork/graftwork/ElementDefinition")) (by decide) rfl rfl (g := (mkF m 2 #[vR o0, vR o1] [(.ref o1), (.ref o0)])) rfl rfl (hb hby d54_2)
  have O1 := O0.wr W1 g_o0
  have Fw1 := F_reused_o0.same W1
  have N1 := Fr.snoc X1 N0 g_o0
  have f_o0_1_types := (F_types_o0.other W1 (Or.inr (slot_ne (Or.inr (oW hw 254 rfl)) (Or.inl (oW hw 323 rfl)) (by decide) (t := (.object "java/util/List")) (t' := (.object "com/example/graftwork/graftwork/ElementDefinition")) (by decide) (by decide))))
  obtain ⟨fs, hr, hrun, hended, hW, hsame⟩ := X1.leave (v := none) (fun _ => rfl)
  refine ⟨_, _, pre0 _ ?_, hrun, hended, _, _, rfl, ?_, ⟨_, rfl⟩, hW, hsame.mono (by decide) (by decide)⟩
  · show oS p e below s₁ m 0 #[vR o0, vR o1] [] _
    refine XS.aloadN X0.here hx rfl (hb hby d54_0) rfl rfl ?_
    refine XS.aloadN X0.here hx rfl (hb hby d54_1) rfl rfl ?_
    show oS p e below s₁ m 2 #[vR o0, vR o1] [(.ref o1), (.ref o0)] _
    refine st1 _ ?_
    show oS p e below T1 m 5 #[vR o0, vR o1] [] _
    exact X1.returnOut hx Bd.returns (hb hby d54_5) hr
  · show own_QRe Z o0 o1 gg h0 n0 _ T1.heap _
    rw [e1]
    exact ⟨rfl, N1, ((Keep.refl h0 [o0]).wr W1 (Or.inl (List.mem_of_getElem? (i := 0) rfl))), Fw1, f_o0_1_types⟩
theorem d53_0 : decode jdk_45_method_3_code 0 = .ok (.aload_n 0, 1) := by decide +kernel
theorem d53_1 : decode jdk_45_method_3_code 1 = .ok (.getfield 7, 3) := by decide +kernel
theorem d53_4 : decode jdk_45_method_3_code 4 = .ok (.arraylength, 1) := by decide +kernel
theorem d53_5 : decode jdk_45_method_3_code 5 = .ok (.ireturn, 1) := by decide +kernel
theorem ef_53 (m : MethodId) (x0 : Addr) : entryFrame m #[(.ref x0)] 1 = mkF m 0 #[.val (.ref x0)] [] := by first | (simp [entryFrame, mkF, argsToLocals, Value.category]; done) | rfl
theorem pn_53 : plainName "java/util/ImmutableCollections$ListN" = true := by first | (simp [plainName, overriddenIn]; done) | decide +kernel
theorem rmNz (l : Launch) (Z : State) (a0 : Array Value) (hw : HW a0 Z) (ws : List Jvm.Cond) (o0 : Addr) (ee : Addr) (ke : ClassId) (h0 : Heap) (n0 : Nat) (O0 : Old Z n0 h0) (F_elements_o0 : Fld Z h0 o0 "java/util/ImmutableCollections$ListN" "elements" "[Ljava/lang/Object;" (.ref ee)) (V_ee : Arv Z h0 ee ke (.object "java/lang/Object") (0 : Int32) [] .null) :
    oM l Z mN28 jdk_45_method_3_code 1 (some .int) ws (rM 0 0 0 0) #[(.ref o0)] h0 (own_Q (.int 0) h0 n0) := by
  refine MetFree.of_bodySF (plainFor_of_name pn_53) hisR ?_
  intro p e s m args below meth c s₁ Bd hml0 hP hK
  obtain ⟨rfl, hZ, hh⟩ := hP
  have hx := Bd.exec
  have hby := Bd.bytes
  have hml : c.maxLocals = 1 := hml0
  have hown : s.vm.findClass "java/util/ImmutableCollections$ListN" = some m.cls := findClass_of_methodNamed Bd.named
  have X0 : Stand p l e (rM 0 0 0 0) s m #[(.ref o0)] below meth c s₁ [] 0 0 := Stand.of_body Bd
  have e0 : s₁.heap = h0 := by rw [← hh, Bd.state]; rfl
  have N0 := Fr.nil n0
  have pre0 := fun t (k : oS p e below s₁ m 0 #[vR o0] [] t) => castTop (ef_53 m o0) k
  obtain ⟨T1, X1, e1, st1⟩ := getF X0 hx hZ hown (host := "") (Or.inl (oW hw 337 rfl)) Via.refl e0 F_elements_o0 (g := (mkF m 1 #[vR o0] [(.ref o0)])) rfl rfl (hb hby d53_1)
  obtain ⟨cl2, Ar2, qa2, Sz2, Ng2, Hs2, Ft2⟩ := V_ee
  have V2o : Arv Z h0 ee ke (.object "java/lang/Object") (0 : Int32) [] .null := ⟨cl2, Ar2, qa2, Sz2, Ng2, Hs2, Ft2⟩
  obtain ⟨fs, hr, hrun, hended, hW, hsame⟩ := X1.leave (v := some (.int 0)) (fun h => by rw [Bd.returns] at h; cases h)
  refine ⟨_, _, pre0 _ ?_, hrun, hended, _, _, rfl, ?_, ⟨_, rfl⟩, hW, hsame.mono (by decide) (by decide)⟩
  · show oS p e below s₁ m 0 #[vR o0] [] _
    refine XS.aloadN X0.here hx rfl (hb hby d53_0) rfl rfl ?_
    show oS p e below s₁ m 1 #[vR o0] [(.ref o0)] _
    refine st1 _ ?_
    show oS p e below T1 m 4 #[vR o0] [(.ref ee)] _
    refine X1.arraylength hx (by rw [e1]; exact Ar2.1) (State.isArrayOf_alike hZ.alike Ar2.2.1) (g := (mkF m 4 #[vR o0] [(.ref ee)])) rfl rfl (hb hby d53_4) _ ?_
    rw [len_of Sz2 Ng2]
    show oS p e below T1 m 5 #[vR o0] [(.int 0)] _
    exact retI X1 hx Bd.returns (hb hby d53_5) hr
  · show own_Q (.int 0) h0 n0 _ T1.heap _
    rw [e1]
    exact ⟨rfl, N0, rfl⟩
theorem d55_0 : decode jdk_44_method_3_code 0 = .ok (.aload_n 0, 1) := by decide +kernel
theorem d55_1 : decode jdk_44_method_3_code 1 = .ok (.getfield 24, 3) := by decide +kernel
theorem d55_4 : decode jdk_44_method_3_code 4 = .ok (.getstatic 19, 3) := by decide +kernel
theorem d55_7 : decode jdk_44_method_3_code 7 = .ok (.if_acmp .eq 7, 3) := by decide +kernel
theorem d55_14 : decode jdk_44_method_3_code 14 = .ok (.iconst 1, 1) := by decide +kernel
theorem d55_15 : decode jdk_44_method_3_code 15 = .ok (.ireturn, 1) := by decide +kernel
theorem ef_55 (m : MethodId) (x0 : Addr) : entryFrame m #[(.ref x0)] 1 = mkF m 0 #[.val (.ref x0)] [] := by first | (simp [entryFrame, mkF, argsToLocals, Value.category]; done) | rfl
theorem pn_55 : plainName "java/util/ImmutableCollections$List12" = true := by first | (simp [plainName, overriddenIn]; done) | decide +kernel
theorem rmZ1 (l : Launch) (Z : State) (a0 : Array Value) (hw : HW a0 Z) (ws : List Jvm.Cond) (o0 : Addr) (em : Addr) (h0 : Heap) (n0 : Nat) (O0 : Old Z n0 h0) (S_EMPTY : Sta Z Z.heap "java/util/ImmutableCollections" "EMPTY" "Ljava/lang/Object;" (.ref em)) (F_e1_o0 : Fld Z h0 o0 "java/util/ImmutableCollections$List12" "e1" "Ljava/lang/Object;" (.ref em)) :
    oM l Z mN27 jdk_44_method_3_code 1 (some .int) ws (rM 0 0 0 0) #[(.ref o0)] h0 (own_Q (.int 1) h0 n0) := by
  refine MetFree.of_bodySF (plainFor_of_name pn_55) hisR ?_
  intro p e s m args below meth c s₁ Bd hml0 hP hK
  obtain ⟨rfl, hZ, hh⟩ := hP
  have hx := Bd.exec
  have hby := Bd.bytes
  have hml : c.maxLocals = 1 := hml0
  have hown : s.vm.findClass "java/util/ImmutableCollections$List12" = some m.cls := findClass_of_methodNamed Bd.named
  have X0 : Stand p l e (rM 0 0 0 0) s m #[(.ref o0)] below meth c s₁ [] 0 0 := Stand.of_body Bd
  have e0 : s₁.heap = h0 := by rw [← hh, Bd.state]; rfl
  have N0 := Fr.nil n0
  have pre0 := fun t (k : oS p e below s₁ m 0 #[vR o0] [] t) => castTop (ef_55 m o0) k
  obtain ⟨T1, X1, e1, st1⟩ := getF X0 hx hZ hown (host := "") (Or.inl (oW hw 315 rfl)) Via.refl e0 F_e1_o0 (g := (mkF m 1 #[vR o0] [(.ref o0)])) rfl rfl (hb hby d55_1)
  obtain ⟨T2, X2, e2, st2⟩ := getS2 X1 hx hZ hown (Or.inr (oW hw 351 rfl)) Via.refl e1 (S_EMPTY.ext O0.2) (g := (mkF m 4 #[vR o0] [(.ref em)])) rfl (hb hby d55_4)
  obtain ⟨fs, hr, hrun, hended, hW, hsame⟩ := X2.leave (v := some (.int 1)) (fun h => by rw [Bd.returns] at h; cases h)
  refine ⟨_, _, pre0 _ ?_, hrun, hended, _, _, rfl, ?_, ⟨_, rfl⟩, hW, hsame.mono (by decide) (by decide)⟩
  · show oS p e below s₁ m 0 #[vR o0] [] _
    refine XS.aloadN X0.here hx rfl (hb hby d55_0) rfl rfl ?_
    show oS p e below s₁ m 1 #[vR o0] [(.ref o0)] _
    refine st1 _ ?_
    show oS p e below T1 m 4 #[vR o0] [(.ref em)] _
    refine st2 _ ?_
    show oS p e below T2 m 7 #[vR o0] [(.ref em), (.ref em)] _
    refine Jvm.RoadKit.acmp (g := (mkF m 7 #[vR o0] [(.ref em), (.ref em)])) X2 hx rfl rfl rfl (pc0 := 7) (pc' := 14) (same := true) rfl (hb hby d55_7) rfl (decide_eq_true rfl) (by decide) (by decide) ?_
    show oS p e below T2 m 14 #[vR o0] [] _
    refine XS.iconst X2.here hx rfl (hb hby d55_14) ?_
    show oS p e below T2 m 15 #[vR o0] [(.int 1)] _
    exact retI X2 hx Bd.returns (hb hby d55_15) hr
  · show own_Q (.int 1) h0 n0 _ T2.heap _
    rw [e2]
    exact ⟨rfl, N0, rfl⟩
theorem d55_10 : decode jdk_44_method_3_code 10 = .ok (.iconst 2, 1) := by decide +kernel
theorem d55_11 : decode jdk_44_method_3_code 11 = .ok (.goto 4, 3) := by decide +kernel
theorem rmZ2 (l : Launch) (Z : State) (a0 : Array Value) (hw : HW a0 Z) (ws : List Jvm.Cond) (o0 : Addr) (em : Addr) (x2 : Addr) (h0 : Heap) (n0 : Nat) (O0 : Old Z n0 h0) (S_EMPTY : Sta Z Z.heap "java/util/ImmutableCollections" "EMPTY" "Ljava/lang/Object;" (.ref em)) (F_e1_o0 : Fld Z h0 o0 "java/util/ImmutableCollections$List12" "e1" "Ljava/lang/Object;" (.ref x2)) (hxe : ¬ (x2 = em)) :
    oM l Z mN27 jdk_44_method_3_code 1 (some .int) ws (rM 0 0 0 0) #[(.ref o0)] h0 (own_Q (.int 2) h0 n0) := by
  refine MetFree.of_bodySF (plainFor_of_name pn_55) hisR ?_
  intro p e s m args below meth c s₁ Bd hml0 hP hK
  obtain ⟨rfl, hZ, hh⟩ := hP
  have hx := Bd.exec
  have hby := Bd.bytes
  have hml : c.maxLocals = 1 := hml0
  have hown : s.vm.findClass "java/util/ImmutableCollections$List12" = some m.cls := findClass_of_methodNamed Bd.named
  have X0 : Stand p l e (rM 0 0 0 0) s m #[(.ref o0)] below meth c s₁ [] 0 0 := Stand.of_body Bd
  have e0 : s₁.heap = h0 := by rw [← hh, Bd.state]; rfl
  have N0 := Fr.nil n0
  have pre0 := fun t (k : oS p e below s₁ m 0 #[vR o0] [] t) => castTop (ef_55 m o0) k
  obtain ⟨T1, X1, e1, st1⟩ := getF X0 hx hZ hown (host := "") (Or.inl (oW hw 315 rfl)) Via.refl e0 F_e1_o0 (g := (mkF m 1 #[vR o0] [(.ref o0)])) rfl rfl (hb hby d55_1)
  obtain ⟨T2, X2, e2, st2⟩ := getS2 X1 hx hZ hown (Or.inr (oW hw 351 rfl)) Via.refl e1 (S_EMPTY.ext O0.2) (g := (mkF m 4 #[vR o0] [(.ref x2)])) rfl (hb hby d55_4)
  obtain ⟨fs, hr, hrun, hended, hW, hsame⟩ := X2.leave (v := some (.int 2)) (fun h => by rw [Bd.returns] at h; cases h)
  refine ⟨_, _, pre0 _ ?_, hrun, hended, _, _, rfl, ?_, ⟨_, rfl⟩, hW, hsame.mono (by decide) (by decide)⟩
  · show oS p e below s₁ m 0 #[vR o0] [] _
    refine XS.aloadN X0.here hx rfl (hb hby d55_0) rfl rfl ?_
    show oS p e below s₁ m 1 #[vR o0] [(.ref o0)] _
    refine st1 _ ?_
    show oS p e below T1 m 4 #[vR o0] [(.ref x2)] _
    refine st2 _ ?_
    show oS p e below T2 m 7 #[vR o0] [(.ref em), (.ref x2)] _
    refine Jvm.RoadKit.acmp (g := (mkF m 7 #[vR o0] [(.ref em), (.ref x2)])) X2 hx rfl rfl rfl (pc0 := 7) (pc' := 10) (same := false) rfl (hb hby d55_7) rfl (decide_eq_false fun q => hxe (Value.ref.inj q)) (by decide) (by decide) ?_
    show oS p e below T2 m 10 #[vR o0] [] _
    refine XS.iconst X2.here hx rfl (hb hby d55_10) ?_
    refine XS.goto X2.here hx rfl (pc0 := 11) (pc' := 15) rfl (hb hby d55_11) (by decide) (by decide) ?_
    show oS p e below T2 m 15 #[vR o0] [(.int 2)] _
    exact retI X2 hx Bd.returns (hb hby d55_15) hr
  · show own_Q (.int 2) h0 n0 _ T2.heap _
    rw [e2]
    exact ⟨rfl, N0, rfl⟩
theorem d56_0 : decode jdk_44_method_5_code 0 = .ok (.iload_n 1, 1) := by decide +kernel
theorem d56_1 : decode jdk_44_method_5_code 1 = .ok (.ifCond .ne 8, 3) := by decide +kernel
theorem d56_4 : decode jdk_44_method_5_code 4 = .ok (.aload_n 0, 1) := by decide +kernel
theorem d56_5 : decode jdk_44_method_5_code 5 = .ok (.getfield 13, 3) := by decide +kernel
theorem d56_8 : decode jdk_44_method_5_code 8 = .ok (.areturn, 1) := by decide +kernel
theorem ef_56 (m : MethodId) (x0 : Addr) (x1 : Int32) : entryFrame m #[(.ref x0), (.int x1)] 2 = mkF m 0 #[.val (.ref x0), .val (.int x1)] [] := by first | (simp [entryFrame, mkF, argsToLocals, Value.category]; done) | rfl
theorem pn_56 : plainName "java/util/ImmutableCollections$List12" = true := by first | (simp [plainName, overriddenIn]; done) | decide +kernel
theorem rmGe0 (l : Launch) (Z : State) (a0 : Array Value) (hw : HW a0 Z) (ws : List Jvm.Cond) (o0 : Addr) (x1 : Addr) (h0 : Heap) (n0 : Nat) (O0 : Old Z n0 h0) (F_e0_o0 : Fld Z h0 o0 "java/util/ImmutableCollections$List12" "e0" "Ljava/lang/Object;" (.ref x1)) :
    oM l Z mN55 jdk_44_method_5_code 2 (some (.object "java/lang/Object")) ws (rM 0 0 0 0) #[(.ref o0), (.int 0)] h0 (own_Q (.ref x1) h0 n0) := by
  refine MetFree.of_bodySF (plainFor_of_name pn_56) hisR ?_
  intro p e s m args below meth c s₁ Bd hml0 hP hK
  obtain ⟨rfl, hZ, hh⟩ := hP
  have hx := Bd.exec
  have hby := Bd.bytes
  have hml : c.maxLocals = 2 := hml0
  have hown : s.vm.findClass "java/util/ImmutableCollections$List12" = some m.cls := findClass_of_methodNamed Bd.named
  have X0 : Stand p l e (rM 0 0 0 0) s m #[(.ref o0), (.int 0)] below meth c s₁ [] 0 0 := Stand.of_body Bd
  have e0 : s₁.heap = h0 := by rw [← hh, Bd.state]; rfl
  have N0 := Fr.nil n0
  have pre0 := fun t (k : oS p e below s₁ m 0 #[vR o0, vI 0] [] t) => castTop (ef_56 m o0 (0 : Int32)) k
  obtain ⟨T1, X1, e1, st1⟩ := getF X0 hx hZ hown (host := "") (Or.inl (oW hw 313 rfl)) Via.refl e0 F_e0_o0 (g := (mkF m 5 #[vR o0, vI 0] [(.ref o0)])) rfl rfl (hb hby d56_5)
  obtain ⟨fs, hr, hrun, hended, hW, hsame⟩ := X1.leave (v := some (.ref x1)) (fun h => by rw [Bd.returns] at h; cases h)
  refine ⟨_, _, pre0 _ ?_, hrun, hended, _, _, rfl, ?_, ⟨_, rfl⟩, hW, hsame.mono (by decide) (by decide)⟩
  · show oS p e below s₁ m 0 #[vR o0, vI 0] [] _
    refine XS.iloadN X0.here hx rfl (hb hby d56_0) rfl ?_
    refine XS.ifNo X0.here hx rfl (hb hby d56_1) rfl ((if0 _ _).trans (teq (by decide : (0 : Int32) = (0 : Int32))).2) ?_
    show oS p e below s₁ m 4 #[vR o0, vI 0] [] _
    refine XS.aloadN X0.here hx rfl (hb hby d56_4) rfl rfl ?_
    show oS p e below s₁ m 5 #[vR o0, vI 0] [(.ref o0)] _
    refine st1 _ ?_
    show Steps p.tables e below (T1.setTop (mkF m 8 #[vR o0, vI 0] [(.ref x1)])) _
    jvm_step X1.here [X1.here.top, hx, (hb hby d56_8), X1.method', Bd.returns, Value.isRef, FieldType.isReference]
    first | (intro acts; rw [hr _ acts rfl rfl rfl]) | rw [hr _ _ rfl rfl rfl]
    exact Steps.refl _
  · show own_Q (.ref x1) h0 n0 _ T1.heap _
    rw [e1]
    exact ⟨rfl, N0, rfl⟩
theorem d56_9 : decode jdk_44_method_5_code 9 = .ok (.iload_n 1, 1) := by decide +kernel
theorem d56_10 : decode jdk_44_method_5_code 10 = .ok (.iconst 1, 1) := by decide +kernel
theorem d56_11 : decode jdk_44_method_5_code 11 = .ok (.if_icmp .ne 18, 3) := by decide +kernel
theorem d56_14 : decode jdk_44_method_5_code 14 = .ok (.aload_n 0, 1) := by decide +kernel
theorem d56_15 : decode jdk_44_method_5_code 15 = .ok (.getfield 24, 3) := by decide +kernel
theorem d56_18 : decode jdk_44_method_5_code 18 = .ok (.getstatic 19, 3) := by decide +kernel
theorem d56_21 : decode jdk_44_method_5_code 21 = .ok (.if_acmp .eq 8, 3) := by decide +kernel
theorem d56_24 : decode jdk_44_method_5_code 24 = .ok (.aload_n 0, 1) := by decide +kernel
theorem d56_25 : decode jdk_44_method_5_code 25 = .ok (.getfield 24, 3) := by decide +kernel
theorem d56_28 : decode jdk_44_method_5_code 28 = .ok (.areturn, 1) := by decide +kernel
theorem rmGe1 (l : Launch) (Z : State) (a0 : Array Value) (hw : HW a0 Z) (ws : List Jvm.Cond) (o0 : Addr) (em : Addr) (x2 : Addr) (h0 : Heap) (n0 : Nat) (O0 : Old Z n0 h0) (S_EMPTY : Sta Z Z.heap "java/util/ImmutableCollections" "EMPTY" "Ljava/lang/Object;" (.ref em)) (F_e1_o0 : Fld Z h0 o0 "java/util/ImmutableCollections$List12" "e1" "Ljava/lang/Object;" (.ref x2)) (hxe : ¬ (x2 = em)) :
    oM l Z mN55 jdk_44_method_5_code 2 (some (.object "java/lang/Object")) ws (rM 0 0 0 0) #[(.ref o0), (.int 1)] h0 (own_Q (.ref x2) h0 n0) := by
  refine MetFree.of_bodySF (plainFor_of_name pn_56) hisR ?_
  intro p e s m args below meth c s₁ Bd hml0 hP hK
  obtain ⟨rfl, hZ, hh⟩ := hP
  have hx := Bd.exec
  have hby := Bd.bytes
  have hml : c.maxLocals = 2 := hml0
  have hown : s.vm.findClass "java/util/ImmutableCollections$List12" = some m.cls := findClass_of_methodNamed Bd.named
  have X0 : Stand p l e (rM 0 0 0 0) s m #[(.ref o0), (.int 1)] below meth c s₁ [] 0 0 := Stand.of_body Bd
  have e0 : s₁.heap = h0 := by rw [← hh, Bd.state]; rfl
  have N0 := Fr.nil n0
  have pre0 := fun t (k : oS p e below s₁ m 0 #[vR o0, vI 1] [] t) => castTop (ef_56 m o0 (1 : Int32)) k
  obtain ⟨T1, X1, e1, st1⟩ := getF X0 hx hZ hown (host := "") (Or.inl (oW hw 315 rfl)) Via.refl e0 F_e1_o0 (g := (mkF m 15 #[vR o0, vI 1] [(.ref o0)])) rfl rfl (hb hby d56_15)
  obtain ⟨T2, X2, e2, st2⟩ := getS2 X1 hx hZ hown (Or.inr (oW hw 351 rfl)) Via.refl e1 (S_EMPTY.ext O0.2) (g := (mkF m 18 #[vR o0, vI 1] [(.ref x2)])) rfl (hb hby d56_18)
  obtain ⟨T3, X3, e3, st3⟩ := getF X2 hx hZ hown (host := "") (Or.inl (oW hw 315 rfl)) Via.refl e2 F_e1_o0 (g := (mkF m 25 #[vR o0, vI 1] [(.ref o0)])) rfl rfl (hb hby d56_25)
  obtain ⟨fs, hr, hrun, hended, hW, hsame⟩ := X3.leave (v := some (.ref x2)) (fun h => by rw [Bd.returns] at h; cases h)
  refine ⟨_, _, pre0 _ ?_, hrun, hended, _, _, rfl, ?_, ⟨_, rfl⟩, hW, hsame.mono (by decide) (by decide)⟩
  · show oS p e below s₁ m 0 #[vR o0, vI 1] [] _
    refine XS.iloadN X0.here hx rfl (hb hby d56_0) rfl ?_
    refine XS.ifYes X0.here hx rfl (pc0 := 1) (pc' := 9) rfl (hb hby d56_1) rfl ((if0 _ _).trans (feq (by decide : ¬ ((1 : Int32) = (0 : Int32)))).2) (by decide) (by decide) ?_
    show oS p e below s₁ m 9 #[vR o0, vI 1] [] _
    refine XS.iloadN X0.here hx rfl (hb hby d56_9) rfl ?_
    refine XS.iconst X0.here hx rfl (hb hby d56_10) ?_
    refine XS.icmpNo X0.here hx rfl (hb hby d56_11) rfl (teq (by decide : (1 : Int32) = (1 : Int32))).2 ?_
    show oS p e below s₁ m 14 #[vR o0, vI 1] [] _
    refine XS.aloadN X0.here hx rfl (hb hby d56_14) rfl rfl ?_
    show oS p e below s₁ m 15 #[vR o0, vI 1] [(.ref o0)] _
    refine st1 _ ?_
    show oS p e below T1 m 18 #[vR o0, vI 1] [(.ref x2)] _
    refine st2 _ ?_
    show oS p e below T2 m 21 #[vR o0, vI 1] [(.ref em), (.ref x2)] _
    refine Jvm.RoadKit.acmp (g := (mkF m 21 #[vR o0, vI 1] [(.ref em), (.ref x2)])) X2 hx rfl rfl rfl (pc0 := 21) (pc' := 24) (same := false) rfl (hb hby d56_21) rfl (decide_eq_false fun q => hxe (Value.ref.inj q)) (by decide) (by decide) ?_
    show oS p e below T2 m 24 #[vR o0, vI 1] [] _
    refine XS.aloadN X2.here hx rfl (hb hby d56_24) rfl rfl ?_
    show oS p e below T2 m 25 #[vR o0, vI 1] [(.ref o0)] _
    refine st3 _ ?_
    show Steps p.tables e below (T3.setTop (mkF m 28 #[vR o0, vI 1] [(.ref x2)])) _
    jvm_step X3.here [X3.here.top, hx, (hb hby d56_28), X3.method', Bd.returns, Value.isRef, FieldType.isReference]
    first | (intro acts; rw [hr _ acts rfl rfl rfl]) | rw [hr _ _ rfl rfl rfl]
    exact Steps.refl _
  · show own_Q (.ref x2) h0 n0 _ T3.heap _
    rw [e3]
    exact ⟨rfl, N0, rfl⟩
theorem d59_0 : decode jdk_41_method_11_code 0 = .ok (.iload_n 0, 1) := by decide +kernel
theorem d59_1 : decode jdk_41_method_11_code 1 = .ok (.ifCond .lt 8, 3) := by decide +kernel
theorem d59_4 : decode jdk_41_method_11_code 4 = .ok (.iload_n 0, 1) := by decide +kernel
theorem d59_5 : decode jdk_41_method_11_code 5 = .ok (.iload_n 1, 1) := by decide +kernel
theorem d59_6 : decode jdk_41_method_11_code 6 = .ok (.if_icmp .lt 10, 3) := by decide +kernel
theorem d59_16 : decode jdk_41_method_11_code 16 = .ok (.iload_n 0, 1) := by decide +kernel
theorem d59_17 : decode jdk_41_method_11_code 17 = .ok (.ireturn, 1) := by decide +kernel
theorem ef_59_vvn (m : MethodId) (x0 : Int32) (x1 : Int32) : entryFrame m #[(.int x0), (.int x1), .null] 3 = mkF m 0 #[.val (.int x0), .val (.int x1), .val .null] [] := by first | (simp [entryFrame, mkF, argsToLocals, Value.category]; done) | rfl
theorem pn_59 : plainName "jdk/internal/util/Preconditions" = true := by first | (simp [plainName, overriddenIn]; done) | decide +kernel
theorem rmCi (l : Launch) (Z : State) (a0 : Array Value) (hw : HW a0 Z) (ws : List Jvm.Cond) (p0 : Int32) (p1 : Int32) (h0 : Heap) (n0 : Nat) (O0 : Old Z n0 h0) (hi0 : ¬ p0 < (0 : Int32)) (hi1 : p0 < p1) :
    oM l Z mN56 jdk_41_method_11_code 3 (some .int) ws (rM 0 0 0 0) #[(.int p0), (.int p1), .null] h0 (own_Q (.int p0) h0 n0) := by
  refine MetFree.of_bodySF (plainFor_of_name pn_59) hisR ?_
  intro p e s m args below meth c s₁ Bd hml0 hP hK
  obtain ⟨rfl, hZ, hh⟩ := hP
  have hx := Bd.exec
  have hby := Bd.bytes
  have hml : c.maxLocals = 3 := hml0
  have hown : s.vm.findClass "jdk/internal/util/Preconditions" = some m.cls := findClass_of_methodNamed Bd.named
  have X0 : Stand p l e (rM 0 0 0 0) s m #[(.int p0), (.int p1), .null] below meth c s₁ [] 0 0 := Stand.of_body Bd
  have e0 : s₁.heap = h0 := by rw [← hh, Bd.state]; rfl
  have N0 := Fr.nil n0
  have pre0 := fun t (k : oS p e below s₁ m 0 #[vI p0, vI p1, .val .null] [] t) => castTop (ef_59_vvn m p0 p1) k
  obtain ⟨fs, hr, hrun, hended, hW, hsame⟩ := X0.leave (v := some (.int p0)) (fun h => by rw [Bd.returns] at h; cases h)
  refine ⟨_, _, pre0 _ ?_, hrun, hended, _, _, rfl, ?_, ⟨_, rfl⟩, hW, hsame.mono (by decide) (by decide)⟩
  · show oS p e below s₁ m 0 #[vI p0, vI p1, .val .null] [] _
    refine XS.iloadN X0.here hx rfl (hb hby d59_0) rfl ?_
    refine XS.ifNo X0.here hx rfl (hb hby d59_1) rfl ((if0 _ _).trans (flt hi0).1) ?_
    show oS p e below s₁ m 4 #[vI p0, vI p1, .val .null] [] _
    refine XS.iloadN X0.here hx rfl (hb hby d59_4) rfl ?_
    refine XS.iloadN X0.here hx rfl (hb hby d59_5) rfl ?_
    refine XS.icmpYes X0.here hx rfl (pc0 := 6) (pc' := 16) rfl (hb hby d59_6) rfl (tlt hi1).1 (by decide) (by decide) ?_
    show oS p e below s₁ m 16 #[vI p0, vI p1, .val .null] [] _
    refine XS.iloadN X0.here hx rfl (hb hby d59_16) rfl ?_
    show oS p e below s₁ m 17 #[vI p0, vI p1, .val .null] [(.int p0)] _
    exact retI X0 hx Bd.returns (hb hby d59_17) hr
  · show own_Q (.int p0) h0 n0 _ s₁.heap _
    rw [e0]
    exact ⟨rfl, N0, rfl⟩
theorem d58_0 : decode jdk_31_method_17_code 0 = .ok (.iload_n 0, 1) := by decide +kernel
theorem d58_1 : decode jdk_31_method_17_code 1 = .ok (.iload_n 1, 1) := by decide +kernel
theorem d58_2 : decode jdk_31_method_17_code 2 = .ok (.aconst_null, 1) := by decide +kernel
theorem d58_3 : decode jdk_31_method_17_code 3 = .ok (.invokestatic 105, 3) := by decide +kernel
theorem pd_31 : parseMethodDescriptor "(IILjava/util/function/BiFunction;)I" = some ⟨[.int, .int, (.object "java/util/function/BiFunction")], some .int⟩ := by decide +kernel
theorem d58_6 : decode jdk_31_method_17_code 6 = .ok (.ireturn, 1) := by decide +kernel
theorem ef_58 (m : MethodId) (x0 : Int32) (x1 : Int32) : entryFrame m #[(.int x0), (.int x1)] 2 = mkF m 0 #[.val (.int x0), .val (.int x1)] [] := by first | (simp [entryFrame, mkF, argsToLocals, Value.category]; done) | rfl
theorem pn_58 : plainName "java/util/Objects" = true := by first | (simp [plainName, overriddenIn]; done) | decide +kernel
theorem rmCx (l : Launch) (Z : State) (a0 : Array Value) (hw : HW a0 Z) (ws : List Jvm.Cond) (p0 : Int32) (p1 : Int32) (h0 : Heap) (n0 : Nat) (O0 : Old Z n0 h0) (hi0 : ¬ p0 < (0 : Int32)) (hi1 : p0 < p1) :
    oM l Z mN57 jdk_31_method_17_code 2 (some .int) ws (rM 1 0 0 14) #[(.int p0), (.int p1)] h0 (own_Q (.int p0) h0 n0) := by
  refine MetFree.of_bodySF (plainFor_of_name pn_58) hisR ?_
  intro p e s m args below meth c s₁ Bd hml0 hP hK
  obtain ⟨rfl, hZ, hh⟩ := hP
  have hx := Bd.exec
  have hby := Bd.bytes
  have hml : c.maxLocals = 2 := hml0
  have hown : s.vm.findClass "java/util/Objects" = some m.cls := findClass_of_methodNamed Bd.named
  have X0 : Stand p l e (rM 1 0 0 14) s m #[(.int p0), (.int p1)] below meth c s₁ [] 0 0 := Stand.of_body Bd
  have e0 : s₁.heap = h0 := by rw [← hh, Bd.state]; rfl
  have N0 := Fr.nil n0
  have pre0 := fun t (k : oS p e below s₁ m 0 #[vI p0, vI p1] [] t) => castTop (ef_58 m p0 p1) k
  obtain ⟨_, _, ⟨T1, L1, k1, n1⟩, -, X1, ⟨Lc1, hQ1, l1, y1, z1⟩, st1⟩ := Jvm.LawKit.callS X0 hx (y := mN56) hown (mvT hZ (oW hw 370 rfl)) (mvT hZ (oW hw 371 rfl)) (mvT hZ (oW hw 183 rfl)) (mvT hZ (oW hw 372 rfl)) (by decide) (backOf (W := 0) (rmCi l Z a0 hw [] p0 p1  h0 n0 O0 hi0 hi1) hZ (oW hw 372 rfl) (oW hw 183 rfl) (by decide) (by decide)) (g := (mkF m 3 #[vI p0, vI p1] [.null, (.int p1), (.int p0)])) rfl (by rw [hml]; rfl) (argsL := [(.int p0), (.int p1), .null]) (rest := []) (lenOf pd_31 rfl) rfl (by show 2 * 0 + _ ≤ _; exact Nat.le_of_eq rfl) (hb hby d58_3) (fun _ _ => ⟨rfl, e0, (by decide : 0 + 0 ≤ _), (by decide : 0 + 0 ≤ _)⟩)
  dsimp only [Pt.U, Pt.locs, Pt.cells, Pt.slots] at X1 l1 y1 z1 st1 hQ1
  subst l1 y1 z1
  obtain ⟨rfl, N1q, e1⟩ := hQ1
  have N1 := Fr.app N0 N1q
  obtain ⟨fs, hr, hrun, hended, hW, hsame⟩ := X1.leave (v := some (.int p0)) (fun h => by rw [Bd.returns] at h; cases h)
  refine ⟨_, _, pre0 _ ?_, hrun, hended, _, _, rfl, ?_, ⟨_, rfl⟩, hW, hsame.mono (by decide) (by decide)⟩
  · show oS p e below s₁ m 0 #[vI p0, vI p1] [] _
    refine XS.iloadN X0.here hx rfl (hb hby d58_0) rfl ?_
    refine XS.iloadN X0.here hx rfl (hb hby d58_1) rfl ?_
    refine XS.aconstNull X0.here hx rfl (hb hby d58_2) ?_
    show oS p e below s₁ m 3 #[vI p0, vI p1] [.null, (.int p1), (.int p0)] _
    refine st1 _ ?_
    show oS p e below T1 m 6 #[vI p0, vI p1] [(.int p0)] _
    exact retI X1 hx Bd.returns (hb hby d58_6) hr
  · show own_Q (.int p0) h0 n0 _ T1.heap _
    rw [e1]
    exact ⟨rfl, N1, rfl⟩
theorem d60_0 : decode jdk_38_method_18_code 0 = .ok (.aload_n 0, 1) := by decide +kernel
theorem d60_1 : decode jdk_38_method_18_code 1 = .ok (.getfield 9, 3) := by decide +kernel
theorem d60_4 : decode jdk_38_method_18_code 4 = .ok (.iload_n 1, 1) := by decide +kernel
theorem d60_5 : decode jdk_38_method_18_code 5 = .ok (.aaload, 1) := by decide +kernel
theorem d60_6 : decode jdk_38_method_18_code 6 = .ok (.areturn, 1) := by decide +kernel
theorem ef_60 (m : MethodId) (x0 : Addr) (x1 : Int32) : entryFrame m #[(.ref x0), (.int x1)] 2 = mkF m 0 #[.val (.ref x0), .val (.int x1)] [] := by first | (simp [entryFrame, mkF, argsToLocals, Value.category]; done) | rfl
theorem pn_60 : plainName "java/util/ArrayList" = true := by first | (simp [plainName, overriddenIn]; done) | decide +kernel
theorem rmEd10 (l : Launch) (Z : State) (a0 : Array Value) (hw : HW a0 Z) (ws : List Jvm.Cond) (o0 : Addr) (ed : Addr) (x1 : Addr) (y1 y2 : Value) (ka : ClassId) (h0 : Heap) (n0 : Nat) (O0 : Old Z n0 h0) (F_elementData_o0 : Fld Z h0 o0 "java/util/ArrayList" "elementData" "[Ljava/lang/Object;" (.ref ed)) (V_ed : Arv Z h0 ed ka (.object "java/lang/Object") (10 : Int32) [(.ref x1), y1, y2, .null, .null, .null, .null, .null, .null, .null] .null) :
    oM l Z mN58 jdk_38_method_18_code 2 (some (.object "java/lang/Object")) ws (rM 0 0 0 0) #[(.ref o0), (.int 0)] h0 (own_Q (.ref x1) h0 n0) := by
  refine MetFree.of_bodySF (plainFor_of_name pn_60) hisR ?_
  intro p e s m args below meth c s₁ Bd hml0 hP hK
  obtain ⟨rfl, hZ, hh⟩ := hP
  have hx := Bd.exec
  have hby := Bd.bytes
  have hml : c.maxLocals = 2 := hml0
  have hown : s.vm.findClass "java/util/ArrayList" = some m.cls := findClass_of_methodNamed Bd.named
  have X0 : Stand p l e (rM 0 0 0 0) s m #[(.ref o0), (.int 0)] below meth c s₁ [] 0 0 := Stand.of_body Bd
  have e0 : s₁.heap = h0 := by rw [← hh, Bd.state]; rfl
  have N0 := Fr.nil n0
  have pre0 := fun t (k : oS p e below s₁ m 0 #[vR o0, vI 0] [] t) => castTop (ef_60 m o0 (0 : Int32)) k
  obtain ⟨T1, X1, e1, st1⟩ := getF X0 hx hZ hown (host := "") (Or.inl (oW hw 28 rfl)) Via.refl e0 F_elementData_o0 (g := (mkF m 1 #[vR o0, vI 0] [(.ref o0)])) rfl rfl (hb hby d60_1)
  obtain ⟨cl2, Ar2, qa2, Sz2, Ng2, Hs2, Ft2⟩ := V_ed
  have hin2 := (inb_of (j := (0 : Int32)) Sz2 ⟨by decide, by decide⟩)
  have hat2 := Hs2.at (v := (.ref x1)) hin2 rfl
  have V2o : Arv Z h0 ed ka (.object "java/lang/Object") (10 : Int32) [(.ref x1), y1, y2, .null, .null, .null, .null, .null, .null, .null] .null := ⟨cl2, Ar2, qa2, Sz2, Ng2, Hs2, Ft2⟩
  obtain ⟨fs, hr, hrun, hended, hW, hsame⟩ := X1.leave (v := some (.ref x1)) (fun h => by rw [Bd.returns] at h; cases h)
  refine ⟨_, _, pre0 _ ?_, hrun, hended, _, _, rfl, ?_, ⟨_, rfl⟩, hW, hsame.mono (by decide) (by decide)⟩
  · show oS p e below s₁ m 0 #[vR o0, vI 0] [] _
    refine XS.aloadN X0.here hx rfl (hb hby d60_0) rfl rfl ?_
    show oS p e below s₁ m 1 #[vR o0, vI 0] [(.ref o0)] _
    refine st1 _ ?_
    show oS p e below T1 m 4 #[vR o0, vI 0] [(.ref ed)] _
    refine XS.iloadN X1.here hx rfl (hb hby d60_4) rfl ?_
    show oS p e below T1 m 5 #[vR o0, vI 0] [(.int 0), (.ref ed)] _
    refine X1.aaload hx (j := (0 : Int32)) (v := (.ref x1)) (by rw [e1]; exact Ar2.1) (State.isArrayOf_alike hZ.alike Ar2.2.1) rfl Ar2.2.2 hin2 hat2 (g := (mkF m 5 #[vR o0, vI 0] [(.int 0), (.ref ed)])) rfl rfl (hb hby d60_5) _ ?_
    show Steps p.tables e below (T1.setTop (mkF m 6 #[vR o0, vI 0] [(.ref x1)])) _
    jvm_step X1.here [X1.here.top, hx, (hb hby d60_6), X1.method', Bd.returns, Value.isRef, FieldType.isReference]
    first | (intro acts; rw [hr _ acts rfl rfl rfl]) | rw [hr _ _ rfl rfl rfl]
    exact Steps.refl _
  · show own_Q (.ref x1) h0 n0 _ T1.heap _
    rw [e1]
    exact ⟨rfl, N0, rfl⟩
theorem d57_0 : decode jdk_38_method_20_code 0 = .ok (.iload_n 1, 1) := by decide +kernel
theorem d57_1 : decode jdk_38_method_20_code 1 = .ok (.aload_n 0, 1) := by decide +kernel
theorem d57_2 : decode jdk_38_method_20_code 2 = .ok (.getfield 48, 3) := by decide +kernel
theorem d57_5 : decode jdk_38_method_20_code 5 = .ok (.invokestatic 118, 3) := by decide +kernel
theorem d57_8 : decode jdk_38_method_20_code 8 = .ok (.pop, 1) := by decide +kernel
theorem d57_9 : decode jdk_38_method_20_code 9 = .ok (.aload_n 0, 1) := by decide +kernel
theorem d57_10 : decode jdk_38_method_20_code 10 = .ok (.iload_n 1, 1) := by decide +kernel
theorem d57_11 : decode jdk_38_method_20_code 11 = .ok (.invokevirtual 123, 3) := by decide +kernel
theorem pd_32 : parseMethodDescriptor "(I)Ljava/lang/Object;" = some ⟨[.int], some (.object "java/lang/Object")⟩ := by decide +kernel
theorem d57_14 : decode jdk_38_method_20_code 14 = .ok (.areturn, 1) := by decide +kernel
theorem ef_57 (m : MethodId) (x0 : Addr) (x1 : Int32) : entryFrame m #[(.ref x0), (.int x1)] 2 = mkF m 0 #[.val (.ref x0), .val (.int x1)] [] := by first | (simp [entryFrame, mkF, argsToLocals, Value.category]; done) | rfl
theorem pn_57 : plainName "java/util/ArrayList" = true := by first | (simp [plainName, overriddenIn]; done) | decide +kernel
theorem rmAg10 (l : Launch) (Z : State) (a0 : Array Value) (hw : HW a0 Z) (ws : List Jvm.Cond) (o0 : Addr) (sz : Int32) (ed : Addr) (x1 : Addr) (y1 y2 : Value) (ka : ClassId) (h0 : Heap) (n0 : Nat) (O0 : Old Z n0 h0) (E_o0 : Exa Z h0 o0 "java/util/ArrayList") (F_size_o0 : Fld Z h0 o0 "java/util/ArrayList" "size" "I" (.int sz)) (F_elementData_o0 : Fld Z h0 o0 "java/util/ArrayList" "elementData" "[Ljava/lang/Object;" (.ref ed)) (V_ed : Arv Z h0 ed ka (.object "java/lang/Object") (10 : Int32) [(.ref x1), y1, y2, .null, .null, .null, .null, .null, .null, .null] .null) (hm : (0 : Int32) < sz) :
    oM l Z mN59 jdk_38_method_20_code 2 (some (.object "java/lang/Object")) ws (rM 2 0 0 27) #[(.ref o0), (.int 0)] h0 (own_Q (.ref x1) h0 n0) := by
  refine MetFree.of_bodySF (plainFor_of_name pn_57) hisR ?_
  intro p e s m args below meth c s₁ Bd hml0 hP hK
  obtain ⟨rfl, hZ, hh⟩ := hP
  have hx := Bd.exec
  have hby := Bd.bytes
  have hml : c.maxLocals = 2 := hml0
  have hown : s.vm.findClass "java/util/ArrayList" = some m.cls := findClass_of_methodNamed Bd.named
  have X0 : Stand p l e (rM 2 0 0 27) s m #[(.ref o0), (.int 0)] below meth c s₁ [] 0 0 := Stand.of_body Bd
  have e0 : s₁.heap = h0 := by rw [← hh, Bd.state]; rfl
  have N0 := Fr.nil n0
  have pre0 := fun t (k : oS p e below s₁ m 0 #[vR o0, vI 0] [] t) => castTop (ef_57 m o0 (0 : Int32)) k
  obtain ⟨T1, X1, e1, st1⟩ := getF X0 hx hZ hown (host := "") (Or.inl (oW hw 62 rfl)) Via.refl e0 F_size_o0 (g := (mkF m 2 #[vR o0, vI 0] [(.ref o0), (.int 0)])) rfl rfl (hb hby d57_2)
  obtain ⟨_, _, ⟨T2, L2, k2, n2⟩, -, X2, ⟨Lc2, hQ2, l2, y2, z2⟩, st2⟩ := Jvm.LawKit.callS X1 hx (y := mN57) hown (mvT hZ (oW hw 367 rfl)) (mvT hZ (oW hw 368 rfl)) (mvT hZ (oW hw 311 rfl)) (mvT hZ (oW hw 369 rfl)) (by decide) (backOf (W := 0) (rmCx l Z a0 hw [] (0 : Int32) sz  h0 n0 O0 (by decide) hm) hZ (oW hw 369 rfl) (oW hw 311 rfl) (by decide) (by decide)) (g := (mkF m 5 #[vR o0, vI 0] [(.int sz), (.int 0)])) rfl (by rw [hml]; rfl) (argsL := [(.int 0), (.int sz)]) (rest := []) (lenOf pd_4 rfl) rfl (by show 2 * 0 + _ ≤ _; exact Nat.le_of_eq rfl) (hb hby d57_5) (fun _ _ => ⟨rfl, e1, (by decide : 0 + 0 ≤ _), (by decide : 0 + 0 ≤ _)⟩)
  dsimp only [Pt.U, Pt.locs, Pt.cells, Pt.slots] at X2 l2 y2 z2 st2 hQ2
  subst l2 y2 z2
  obtain ⟨rfl, N2q, e2⟩ := hQ2
  have N2 := Fr.app N0 N2q
  obtain ⟨cq3, kq3, q3a, q3b, q3c⟩ := isOf hZ e2 E_o0
  obtain ⟨_, _, ⟨T3, L3, k3, n3⟩, -, X3, ⟨Lc3, hQ3, l3, y3, z3⟩, st3⟩ := X2.virtualBack hx (y := mN58) (z := mN58) hown (mvT hZ (oW hw 373 rfl)) (mvT hZ (oW hw 374 rfl)) (notFace_of_selects (args := #[]) (mvT hZ (oW hw 376 rfl))) (mvT hZ (oW hw 376 rfl)) (mvT hZ (oW hw 375 rfl)) (by decide) (backOf (W := 0) (rmEd10 l Z a0 hw [] o0 ed x1 y1 y2 ka h0 n0 O0 F_elementData_o0 V_ed) hZ (oW hw 377 rfl) (oW hw 6 rfl) (by decide) (by decide)) q3a q3c (g := (mkF m 11 #[vR o0, vI 0] [(.int 0), (.ref o0)])) rfl (by rw [hml]; rfl) (Steps.refl _) (argsL := [(.int 0)]) (rest := []) (lenOf pd_32 rfl) rfl (by show 2 * 0 + _ ≤ _; exact Nat.le_of_eq rfl) (hb hby d57_11) (fun _ _ => ⟨rfl, e2, (by decide : 0 + 0 ≤ _), (by decide : 0 + 0 ≤ _)⟩)
  dsimp only [Pt.U, Pt.locs, Pt.cells, Pt.slots] at X3 l3 y3 z3 st3 hQ3
  subst l3 y3 z3
  obtain ⟨rfl, N3q, e3⟩ := hQ3
  have N3 := Fr.app N2 N3q
  obtain ⟨fs, hr, hrun, hended, hW, hsame⟩ := X3.leave (v := some (.ref x1)) (fun h => by rw [Bd.returns] at h; cases h)
  refine ⟨_, _, pre0 _ ?_, hrun, hended, _, _, rfl, ?_, ⟨_, rfl⟩, hW, hsame.mono (by decide) (by decide)⟩
  · show oS p e below s₁ m 0 #[vR o0, vI 0] [] _
    refine XS.iloadN X0.here hx rfl (hb hby d57_0) rfl ?_
    refine XS.aloadN X0.here hx rfl (hb hby d57_1) rfl rfl ?_
    show oS p e below s₁ m 2 #[vR o0, vI 0] [(.ref o0), (.int 0)] _
    refine st1 _ ?_
    show oS p e below T1 m 5 #[vR o0, vI 0] [(.int sz), (.int 0)] _
    refine st2 _ ?_
    show oS p e below T2 m 8 #[vR o0, vI 0] [(.int 0)] _
    refine XS.pop X2.here hx rfl (hb hby d57_8) rfl rfl ?_
    show oS p e below T2 m 9 #[vR o0, vI 0] [] _
    refine XS.aloadN X2.here hx rfl (hb hby d57_9) rfl rfl ?_
    refine XS.iloadN X2.here hx rfl (hb hby d57_10) rfl ?_
    show oS p e below T2 m 11 #[vR o0, vI 0] [(.int 0), (.ref o0)] _
    refine st3.trans ?_
    show Steps p.tables e below (T3.setTop (mkF m 14 #[vR o0, vI 0] [(.ref x1)])) _
    jvm_step X3.here [X3.here.top, hx, (hb hby d57_14), X3.method', Bd.returns, Value.isRef, FieldType.isReference]
    first | (intro acts; rw [hr _ acts rfl rfl rfl]) | rw [hr _ _ rfl rfl rfl]
    exact Steps.refl _
  · show own_Q (.ref x1) h0 n0 _ T3.heap _
    rw [e3]
    exact ⟨rfl, N3, rfl⟩
theorem rmEd20 (l : Launch) (Z : State) (a0 : Array Value) (hw : HW a0 Z) (ws : List Jvm.Cond) (o0 : Addr) (ed : Addr) (x1 x2 : Addr) (y2 : Value) (ka : ClassId) (h0 : Heap) (n0 : Nat) (O0 : Old Z n0 h0) (F_elementData_o0 : Fld Z h0 o0 "java/util/ArrayList" "elementData" "[Ljava/lang/Object;" (.ref ed)) (V_ed : Arv Z h0 ed ka (.object "java/lang/Object") (10 : Int32) [(.ref x1), (.ref x2), y2, .null, .null, .null, .null, .null, .null, .null] .null) :
    oM l Z mN58 jdk_38_method_18_code 2 (some (.object "java/lang/Object")) ws (rM 0 0 0 0) #[(.ref o0), (.int 0)] h0 (own_Q (.ref x1) h0 n0) := by
  refine MetFree.of_bodySF (plainFor_of_name pn_60) hisR ?_
  intro p e s m args below meth c s₁ Bd hml0 hP hK
  obtain ⟨rfl, hZ, hh⟩ := hP
  have hx := Bd.exec
  have hby := Bd.bytes
  have hml : c.maxLocals = 2 := hml0
  have hown : s.vm.findClass "java/util/ArrayList" = some m.cls := findClass_of_methodNamed Bd.named
  have X0 : Stand p l e (rM 0 0 0 0) s m #[(.ref o0), (.int 0)] below meth c s₁ [] 0 0 := Stand.of_body Bd
  have e0 : s₁.heap = h0 := by rw [← hh, Bd.state]; rfl
  have N0 := Fr.nil n0
  have pre0 := fun t (k : oS p e below s₁ m 0 #[vR o0, vI 0] [] t) => castTop (ef_60 m o0 (0 : Int32)) k
  obtain ⟨T1, X1, e1, st1⟩ := getF X0 hx hZ hown (host := "") (Or.inl (oW hw 28 rfl)) Via.refl e0 F_elementData_o0 (g := (mkF m 1 #[vR o0, vI 0] [(.ref o0)])) rfl rfl (hb hby d60_1)
  obtain ⟨cl2, Ar2, qa2, Sz2, Ng2, Hs2, Ft2⟩ := V_ed
  have hin2 := (inb_of (j := (0 : Int32)) Sz2 ⟨by decide, by decide⟩)
  have hat2 := Hs2.at (v := (.ref x1)) hin2 rfl
  have V2o : Arv Z h0 ed ka (.object "java/lang/Object") (10 : Int32) [(.ref x1), (.ref x2), y2, .null, .null, .null, .null, .null, .null, .null] .null := ⟨cl2, Ar2, qa2, Sz2, Ng2, Hs2, Ft2⟩
  obtain ⟨fs, hr, hrun, hended, hW, hsame⟩ := X1.leave (v := some (.ref x1)) (fun h => by rw [Bd.returns] at h; cases h)
  refine ⟨_, _, pre0 _ ?_, hrun, hended, _, _, rfl, ?_, ⟨_, rfl⟩, hW, hsame.mono (by decide) (by decide)⟩
  · show oS p e below s₁ m 0 #[vR o0, vI 0] [] _
    refine XS.aloadN X0.here hx rfl (hb hby d60_0) rfl rfl ?_
    show oS p e below s₁ m 1 #[vR o0, vI 0] [(.ref o0)] _
    refine st1 _ ?_
    show oS p e below T1 m 4 #[vR o0, vI 0] [(.ref ed)] _
    refine XS.iloadN X1.here hx rfl (hb hby d60_4) rfl ?_
    show oS p e below T1 m 5 #[vR o0, vI 0] [(.int 0), (.ref ed)] _
    refine X1.aaload hx (j := (0 : Int32)) (v := (.ref x1)) (by rw [e1]; exact Ar2.1) (State.isArrayOf_alike hZ.alike Ar2.2.1) rfl Ar2.2.2 hin2 hat2 (g := (mkF m 5 #[vR o0, vI 0] [(.int 0), (.ref ed)])) rfl rfl (hb hby d60_5) _ ?_
    show Steps p.tables e below (T1.setTop (mkF m 6 #[vR o0, vI 0] [(.ref x1)])) _
    jvm_step X1.here [X1.here.top, hx, (hb hby d60_6), X1.method', Bd.returns, Value.isRef, FieldType.isReference]
    first | (intro acts; rw [hr _ acts rfl rfl rfl]) | rw [hr _ _ rfl rfl rfl]
    exact Steps.refl _
  · show own_Q (.ref x1) h0 n0 _ T1.heap _
    rw [e1]
    exact ⟨rfl, N0, rfl⟩
theorem rmAg20 (l : Launch) (Z : State) (a0 : Array Value) (hw : HW a0 Z) (ws : List Jvm.Cond) (o0 : Addr) (sz : Int32) (ed : Addr) (x1 x2 : Addr) (y2 : Value) (ka : ClassId) (h0 : Heap) (n0 : Nat) (O0 : Old Z n0 h0) (E_o0 : Exa Z h0 o0 "java/util/ArrayList") (F_size_o0 : Fld Z h0 o0 "java/util/ArrayList" "size" "I" (.int sz)) (F_elementData_o0 : Fld Z h0 o0 "java/util/ArrayList" "elementData" "[Ljava/lang/Object;" (.ref ed)) (V_ed : Arv Z h0 ed ka (.object "java/lang/Object") (10 : Int32) [(.ref x1), (.ref x2), y2, .null, .null, .null, .null, .null, .null, .null] .null) (hm : (0 : Int32) < sz) :
    oM l Z mN59 jdk_38_method_20_code 2 (some (.object "java/lang/Object")) ws (rM 2 0 0 27) #[(.ref o0), (.int 0)] h0 (own_Q (.ref x1) h0 n0) := by
  refine MetFree.of_bodySF (plainFor_of_name pn_57) hisR ?_
  intro p e s m args below meth c s₁ Bd hml0 hP hK
  obtain ⟨rfl, hZ, hh⟩ := hP
  have hx := Bd.exec
  have hby := Bd.bytes
  have hml : c.maxLocals = 2 := hml0
  have hown : s.vm.findClass "java/util/ArrayList" = some m.cls := findClass_of_methodNamed Bd.named
  have X0 : Stand p l e (rM 2 0 0 27) s m #[(.ref o0), (.int 0)] below meth c s₁ [] 0 0 := Stand.of_body Bd
  have e0 : s₁.heap = h0 := by rw [← hh, Bd.state]; rfl
  have N0 := Fr.nil n0
  have pre0 := fun t (k : oS p e below s₁ m 0 #[vR o0, vI 0] [] t) => castTop (ef_57 m o0 (0 : Int32)) k
  obtain ⟨T1, X1, e1, st1⟩ := getF X0 hx hZ hown (host := "") (Or.inl (oW hw 62 rfl)) Via.refl e0 F_size_o0 (g := (mkF m 2 #[vR o0, vI 0] [(.ref o0), (.int 0)])) rfl rfl (hb hby d57_2)
  obtain ⟨_, _, ⟨T2, L2, k2, n2⟩, -, X2, ⟨Lc2, hQ2, l2, y2, z2⟩, st2⟩ := Jvm.LawKit.callS X1 hx (y := mN57) hown (mvT hZ (oW hw 367 rfl)) (mvT hZ (oW hw 368 rfl)) (mvT hZ (oW hw 311 rfl)) (mvT hZ (oW hw 369 rfl)) (by decide) (backOf (W := 0) (rmCx l Z a0 hw [] (0 : Int32) sz  h0 n0 O0 (by decide) hm) hZ (oW hw 369 rfl) (oW hw 311 rfl) (by decide) (by decide)) (g := (mkF m 5 #[vR o0, vI 0] [(.int sz), (.int 0)])) rfl (by rw [hml]; rfl) (argsL := [(.int 0), (.int sz)]) (rest := []) (lenOf pd_4 rfl) rfl (by show 2 * 0 + _ ≤ _; exact Nat.le_of_eq rfl) (hb hby d57_5) (fun _ _ => ⟨rfl, e1, (by decide : 0 + 0 ≤ _), (by decide : 0 + 0 ≤ _)⟩)
  dsimp only [Pt.U, Pt.locs, Pt.cells, Pt.slots] at X2 l2 y2 z2 st2 hQ2
  subst l2 y2 z2
  obtain ⟨rfl, N2q, e2⟩ := hQ2
  have N2 := Fr.app N0 N2q
  obtain ⟨cq3, kq3, q3a, q3b, q3c⟩ := isOf hZ e2 E_o0
  obtain ⟨_, _, ⟨T3, L3, k3, n3⟩, -, X3, ⟨Lc3, hQ3, l3, y3, z3⟩, st3⟩ := X2.virtualBack hx (y := mN58) (z := mN58) hown (mvT hZ (oW hw 373 rfl)) (mvT hZ (oW hw 374 rfl)) (notFace_of_selects (args := #[]) (mvT hZ (oW hw 376 rfl))) (mvT hZ (oW hw 376 rfl)) (mvT hZ (oW hw 375 rfl)) (by decide) (backOf (W := 0) (rmEd20 l Z a0 hw [] o0 ed x1 x2 y2 ka h0 n0 O0 F_elementData_o0 V_ed) hZ (oW hw 377 rfl) (oW hw 6 rfl) (by decide) (by decide)) q3a q3c (g := (mkF m 11 #[vR o0, vI 0] [(.int 0), (.ref o0)])) rfl (by rw [hml]; rfl) (Steps.refl _) (argsL := [(.int 0)]) (rest := []) (lenOf pd_32 rfl) rfl (by show 2 * 0 + _ ≤ _; exact Nat.le_of_eq rfl) (hb hby d57_11) (fun _ _ => ⟨rfl, e2, (by decide : 0 + 0 ≤ _), (by decide : 0 + 0 ≤ _)⟩)
  dsimp only [Pt.U, Pt.locs, Pt.cells, Pt.slots] at X3 l3 y3 z3 st3 hQ3
  subst l3 y3 z3
  obtain ⟨rfl, N3q, e3⟩ := hQ3
  have N3 := Fr.app N2 N3q
  obtain ⟨fs, hr, hrun, hended, hW, hsame⟩ := X3.leave (v := some (.ref x1)) (fun h => by rw [Bd.returns] at h; cases h)
  refine ⟨_, _, pre0 _ ?_, hrun, hended, _, _, rfl, ?_, ⟨_, rfl⟩, hW, hsame.mono (by decide) (by decide)⟩
  · show oS p e below s₁ m 0 #[vR o0, vI 0] [] _
    refine XS.iloadN X0.here hx rfl (hb hby d57_0) rfl ?_
    refine XS.aloadN X0.here hx rfl (hb hby d57_1) rfl rfl ?_
    show oS p e below s₁ m 2 #[vR o0, vI 0] [(.ref o0), (.int 0)] _
    refine st1 _ ?_
    show oS p e below T1 m 5 #[vR o0, vI 0] [(.int sz), (.int 0)] _
    refine st2 _ ?_
    show oS p e below T2 m 8 #[vR o0, vI 0] [(.int 0)] _
    refine XS.pop X2.here hx rfl (hb hby d57_8) rfl rfl ?_
    show oS p e below T2 m 9 #[vR o0, vI 0] [] _
    refine XS.aloadN X2.here hx rfl (hb hby d57_9) rfl rfl ?_
    refine XS.iloadN X2.here hx rfl (hb hby d57_10) rfl ?_
    show oS p e below T2 m 11 #[vR o0, vI 0] [(.int 0), (.ref o0)] _
    refine st3.trans ?_
    show Steps p.tables e below (T3.setTop (mkF m 14 #[vR o0, vI 0] [(.ref x1)])) _
    jvm_step X3.here [X3.here.top, hx, (hb hby d57_14), X3.method', Bd.returns, Value.isRef, FieldType.isReference]
    first | (intro acts; rw [hr _ acts rfl rfl rfl]) | rw [hr _ _ rfl rfl rfl]
    exact Steps.refl _
  · show own_Q (.ref x1) h0 n0 _ T3.heap _
    rw [e3]
    exact ⟨rfl, N3, rfl⟩
theorem rmEd21 (l : Launch) (Z : State) (a0 : Array Value) (hw : HW a0 Z) (ws : List Jvm.Cond) (o0 : Addr) (ed : Addr) (x1 x2 : Addr) (y2 : Value) (ka : ClassId) (h0 : Heap) (n0 : Nat) (O0 : Old Z n0 h0) (F_elementData_o0 : Fld Z h0 o0 "java/util/ArrayList" "elementData" "[Ljava/lang/Object;" (.ref ed)) (V_ed : Arv Z h0 ed ka (.object "java/lang/Object") (10 : Int32) [(.ref x1), (.ref x2), y2, .null, .null, .null, .null, .null, .null, .null] .null) :
    oM l Z mN58 jdk_38_method_18_code 2 (some (.object "java/lang/Object")) ws (rM 0 0 0 0) #[(.ref o0), (.int 1)] h0 (own_Q (.ref x2) h0 n0) := by
  refine MetFree.of_bodySF (plainFor_of_name pn_60) hisR ?_
  intro p e s m args below meth c s₁ Bd hml0 hP hK
  obtain ⟨rfl, hZ, hh⟩ := hP
  have hx := Bd.exec
  have hby := Bd.bytes
  have hml : c.maxLocals = 2 := hml0
  have hown : s.vm.findClass "java/util/ArrayList" = some m.cls := findClass_of_methodNamed Bd.named
  have X0 : Stand p l e (rM 0 0 0 0) s m #[(.ref o0), (.int 1)] below meth c s₁ [] 0 0 := Stand.of_body Bd
  have e0 : s₁.heap = h0 := by rw [← hh, Bd.state]; rfl
  have N0 := Fr.nil n0
  have pre0 := fun t (k : oS p e below s₁ m 0 #[vR o0, vI 1] [] t) => castTop (ef_60 m o0 (1 : Int32)) k
  obtain ⟨T1, X1, e1, st1⟩ := getF X0 hx hZ hown (host := "") (Or.inl (oW hw 28 rfl)) Via.refl e0 F_elementData_o0 (g := (mkF m 1 #[vR o0, vI 1] [(.ref o0)])) rfl rfl (hb hby d60_1)
  obtain ⟨cl2, Ar2, qa2, Sz2, Ng2, Hs2, Ft2⟩ := V_ed
  have hin2 := (inb_of (j := (1 : Int32)) Sz2 ⟨by decide, by decide⟩)
  have hat2 := Hs2.at (v := (.ref x2)) hin2 rfl
  have V2o : Arv Z h0 ed ka (.object "java/lang/Object") (10 : Int32) [(.ref x1), (.ref x2), y2, .null, .null, .null, .null, .null, .null, .null] .null := ⟨cl2, Ar2, qa2, Sz2, Ng2, Hs2, Ft2⟩
  obtain ⟨fs, hr, hrun, hended, hW, hsame⟩ := X1.leave (v := some (.ref x2)) (fun h => by rw [Bd.returns] at h; cases h)
  refine ⟨_, _, pre0 _ ?_, hrun, hended, _, _, rfl, ?_, ⟨_, rfl⟩, hW, hsame.mono (by decide) (by decide)⟩
  · show oS p e below s₁ m 0 #[vR o0, vI 1] [] _
    refine XS.aloadN X0.here hx rfl (hb hby d60_0) rfl rfl ?_
    show oS p e below s₁ m 1 #[vR o0, vI 1] [(.ref o0)] _
    refine st1 _ ?_
    show oS p e below T1 m 4 #[vR o0, vI 1] [(.ref ed)] _
    refine XS.iloadN X1.here hx rfl (hb hby d60_4) rfl ?_
    show oS p e below T1 m 5 #[vR o0, vI 1] [(.int 1), (.ref ed)] _
    refine X1.aaload hx (j := (1 : Int32)) (v := (.ref x2)) (by rw [e1]; exact Ar2.1) (State.isArrayOf_alike hZ.alike Ar2.2.1) rfl Ar2.2.2 hin2 hat2 (g := (mkF m 5 #[vR o0, vI 1] [(.int 1), (.ref ed)])) rfl rfl (hb hby d60_5) _ ?_
    show Steps p.tables e below (T1.setTop (mkF m 6 #[vR o0, vI 1] [(.ref x2)])) _
    jvm_step X1.here [X1.here.top, hx, (hb hby d60_6), X1.method', Bd.returns, Value.isRef, FieldType.isReference]
    first | (intro acts; rw [hr _ acts rfl rfl rfl]) | rw [hr _ _ rfl rfl rfl]
    exact Steps.refl _
  · show own_Q (.ref x2) h0 n0 _ T1.heap _
    rw [e1]
    exact ⟨rfl, N0, rfl⟩
theorem rmAg21 (l : Launch) (Z : State) (a0 : Array Value) (hw : HW a0 Z) (ws : List Jvm.Cond) (o0 : Addr) (sz : Int32) (ed : Addr) (x1 x2 : Addr) (y2 : Value) (ka : ClassId) (h0 : Heap) (n0 : Nat) (O0 : Old Z n0 h0) (E_o0 : Exa Z h0 o0 "java/util/ArrayList") (F_size_o0 : Fld Z h0 o0 "java/util/ArrayList" "size" "I" (.int sz)) (F_elementData_o0 : Fld Z h0 o0 "java/util/ArrayList" "elementData" "[Ljava/lang/Object;" (.ref ed)) (V_ed : Arv Z h0 ed ka (.object "java/lang/Object") (10 : Int32) [(.ref x1), (.ref x2), y2, .null, .null, .null, .null, .null, .null, .null] .null) (hm : (1 : Int32) < sz) :
    oM l Z mN59 jdk_38_method_20_code 2 (some (.object "java/lang/Object")) ws (rM 2 0 0 27) #[(.ref o0), (.int 1)] h0 (own_Q (.ref x2) h0 n0) := by
  refine MetFree.of_bodySF (plainFor_of_name pn_57) hisR ?_
  intro p e s m args below meth c s₁ Bd hml0 hP hK
  obtain ⟨rfl, hZ, hh⟩ := hP
  have hx := Bd.exec
  have hby := Bd.bytes
  have hml : c.maxLocals = 2 := hml0
  have hown : s.vm.findClass "java/util/ArrayList" = some m.cls := findClass_of_methodNamed Bd.named
  have X0 : Stand p l e (rM 2 0 0 27) s m #[(.ref o0), (.int 1)] below meth c s₁ [] 0 0 := Stand.of_body Bd
  have e0 : s₁.heap = h0 := by rw [← hh, Bd.state]; rfl
  have N0 := Fr.nil n0
  have pre0 := fun t (k : oS p e below s₁ m 0 #[vR o0, vI 1] [] t) => castTop (ef_57 m o0 (1 : Int32)) k
  obtain ⟨T1, X1, e1, st1⟩ := getF X0 hx hZ hown (host := "") (Or.inl (oW hw 62 rfl)) Via.refl e0 F_size_o0 (g := (mkF m 2 #[vR o0, vI 1] [(.ref o0), (.int 1)])) rfl rfl (hb hby d57_2)
  obtain ⟨_, _, ⟨T2, L2, k2, n2⟩, -, X2, ⟨Lc2, hQ2, l2, y2, z2⟩, st2⟩ := Jvm.LawKit.callS X1 hx (y := mN57) hown (mvT hZ (oW hw 367 rfl)) (mvT hZ (oW hw 368 rfl)) (mvT hZ (oW hw 311 rfl)) (mvT hZ (oW hw 369 rfl)) (by decide) (backOf (W := 0) (rmCx l Z a0 hw [] (1 : Int32) sz  h0 n0 O0 (by decide) hm) hZ (oW hw 369 rfl) (oW hw 311 rfl) (by decide) (by decide)) (g := (mkF m 5 #[vR o0, vI 1] [(.int sz), (.int 1)])) rfl (by rw [hml]; rfl) (argsL := [(.int 1), (.int sz)]) (rest := []) (lenOf pd_4 rfl) rfl (by show 2 * 0 + _ ≤ _; exact Nat.le_of_eq rfl) (hb hby d57_5) (fun _ _ => ⟨rfl, e1, (by decide : 0 + 0 ≤ _), (by decide : 0 + 0 ≤ _)⟩)
  dsimp only [Pt.U, Pt.locs, Pt.cells, Pt.slots] at X2 l2 y2 z2 st2 hQ2
  subst l2 y2 z2
  obtain ⟨rfl, N2q, e2⟩ := hQ2
  have N2 := Fr.app N0 N2q
  obtain ⟨cq3, kq3, q3a, q3b, q3c⟩ := isOf hZ e2 E_o0
  obtain ⟨_, _, ⟨T3, L3, k3, n3⟩, -, X3, ⟨Lc3, hQ3, l3, y3, z3⟩, st3⟩ := X2.virtualBack hx (y := mN58) (z := mN58) hown (mvT hZ (oW hw 373 rfl)) (mvT hZ (oW hw 374 rfl)) (notFace_of_selects (args := #[]) (mvT hZ (oW hw 376 rfl))) (mvT hZ (oW hw 376 rfl)) (mvT hZ (oW hw 375 rfl)) (by decide) (backOf (W := 0) (rmEd21 l Z a0 hw [] o0 ed x1 x2 y2 ka h0 n0 O0 F_elementData_o0 V_ed) hZ (oW hw 377 rfl) (oW hw 6 rfl) (by decide) (by decide)) q3a q3c (g := (mkF m 11 #[vR o0, vI 1] [(.int 1), (.ref o0)])) rfl (by rw [hml]; rfl) (Steps.refl _) (argsL := [(.int 1)]) (rest := []) (lenOf pd_32 rfl) rfl (by show 2 * 0 + _ ≤ _; exact Nat.le_of_eq rfl) (hb hby d57_11) (fun _ _ => ⟨rfl, e2, (by decide : 0 + 0 ≤ _), (by decide : 0 + 0 ≤ _)⟩)
  dsimp only [Pt.U, Pt.locs, Pt.cells, Pt.slots] at X3 l3 y3 z3 st3 hQ3
  subst l3 y3 z3
  obtain ⟨rfl, N3q, e3⟩ := hQ3
  have N3 := Fr.app N2 N3q
  obtain ⟨fs, hr, hrun, hended, hW, hsame⟩ := X3.leave (v := some (.ref x2)) (fun h => by rw [Bd.returns] at h; cases h)
  refine ⟨_, _, pre0 _ ?_, hrun, hended, _, _, rfl, ?_, ⟨_, rfl⟩, hW, hsame.mono (by decide) (by decide)⟩
  · show oS p e below s₁ m 0 #[vR o0, vI 1] [] _
    refine XS.iloadN X0.here hx rfl (hb hby d57_0) rfl ?_
    refine XS.aloadN X0.here hx rfl (hb hby d57_1) rfl rfl ?_
    show oS p e below s₁ m 2 #[vR o0, vI 1] [(.ref o0), (.int 1)] _
    refine st1 _ ?_
    show oS p e below T1 m 5 #[vR o0, vI 1] [(.int sz), (.int 1)] _
    refine st2 _ ?_
    show oS p e below T2 m 8 #[vR o0, vI 1] [(.int 1)] _
    refine XS.pop X2.here hx rfl (hb hby d57_8) rfl rfl ?_
    show oS p e below T2 m 9 #[vR o0, vI 1] [] _
    refine XS.aloadN X2.here hx rfl (hb hby d57_9) rfl rfl ?_
    refine XS.iloadN X2.here hx rfl (hb hby d57_10) rfl ?_
    show oS p e below T2 m 11 #[vR o0, vI 1] [(.int 1), (.ref o0)] _
    refine st3.trans ?_
    show Steps p.tables e below (T3.setTop (mkF m 14 #[vR o0, vI 1] [(.ref x2)])) _
    jvm_step X3.here [X3.here.top, hx, (hb hby d57_14), X3.method', Bd.returns, Value.isRef, FieldType.isReference]
    first | (intro acts; rw [hr _ acts rfl rfl rfl]) | rw [hr _ _ rfl rfl rfl]
    exact Steps.refl _
  · show own_Q (.ref x2) h0 n0 _ T3.heap _
    rw [e3]
    exact ⟨rfl, N3, rfl⟩
theorem d61_0 : decode jdk_42_method_66_code 0 = .ok (.aload_n 0, 1) := by decide +kernel
theorem d61_1 : decode jdk_42_method_66_code 1 = .ok (.aload_n 1, 1) := by decide +kernel
theorem d61_2 : decode jdk_42_method_66_code 2 = .ok (.if_acmp .ne 5, 3) := by decide +kernel
theorem d61_5 : decode jdk_42_method_66_code 5 = .ok (.iconst 1, 1) := by decide +kernel
theorem d61_6 : decode jdk_42_method_66_code 6 = .ok (.ireturn, 1) := by decide +kernel
theorem ef_61 (m : MethodId) (x0 : Addr) (x1 : Addr) : entryFrame m #[(.ref x0), (.ref x1)] 3 = mkF m 0 #[.val (.ref x0), .val (.ref x1), .unset] [] := by first | (simp [entryFrame, mkF, argsToLocals, Value.category]; done) | rfl
theorem pn_61 : plainName "java/lang/String" = true := by first | (simp [plainName, overriddenIn]; done) | decide +kernel
theorem rmEq (l : Launch) (Z : State) (a0 : Array Value) (hw : HW a0 Z) (ws : List Jvm.Cond) (o0 : Addr) (h0 : Heap) (n0 : Nat) (O0 : Old Z n0 h0) :
    oM l Z mN60 jdk_42_method_66_code 3 (some .boolean) ws (rM 0 0 0 0) #[(.ref o0), (.ref o0)] h0 (own_Q (.int 1) h0 n0) := by
  refine MetFree.of_bodySF (plainFor_of_name pn_61) hisR ?_
  intro p e s m args below meth c s₁ Bd hml0 hP hK
  obtain ⟨rfl, hZ, hh⟩ := hP
  have hx := Bd.exec
  have hby := Bd.bytes
  have hml : c.maxLocals = 3 := hml0
  have hown : s.vm.findClass "java/lang/String" = some m.cls := findClass_of_methodNamed Bd.named
  have X0 : Stand p l e (rM 0 0 0 0) s m #[(.ref o0), (.ref o0)] below meth c s₁ [] 0 0 := Stand.of_body Bd
  have e0 : s₁.heap = h0 := by rw [← hh, Bd.state]; rfl
  have N0 := Fr.nil n0
  have pre0 := fun t (k : oS p e below s₁ m 0 #[vR o0, vR o0, .unset] [] t) => castTop (ef_61 m o0 o0) k
  obtain ⟨fs, hr, hrun, hended, hW, hsame⟩ := X0.leave (v := some (.int 1)) (fun h => by rw [Bd.returns] at h; cases h)
  refine ⟨_, _, pre0 _ ?_, hrun, hended, _, _, rfl, ?_, ⟨_, rfl⟩, hW, hsame.mono (by decide) (by decide)⟩
  · show oS p e below s₁ m 0 #[vR o0, vR o0, .unset] [] _
    refine XS.aloadN X0.here hx rfl (hb hby d61_0) rfl rfl ?_
    refine XS.aloadN X0.here hx rfl (hb hby d61_1) rfl rfl ?_
    show oS p e below s₁ m 2 #[vR o0, vR o0, .unset] [(.ref o0), (.ref o0)] _
    refine Jvm.RoadKit.acmp (g := (mkF m 2 #[vR o0, vR o0, .unset] [(.ref o0), (.ref o0)])) X0 hx rfl rfl rfl (pc0 := 2) (pc' := 5) (same := true) rfl (hb hby d61_2) rfl (decide_eq_true rfl) (by decide) (by decide) ?_
    show oS p e below s₁ m 5 #[vR o0, vR o0, .unset] [] _
    refine XS.iconst X0.here hx rfl (hb hby d61_5) ?_
    show oS p e below s₁ m 6 #[vR o0, vR o0, .unset] [(.int 1)] _
    exact retN X0 hx (t := .boolean) Bd.returns (by simp) (hb hby d61_6) hr
  · show own_Q (.int 1) h0 n0 _ s₁.heap _
    rw [e0]
    exact ⟨rfl, N0, rfl⟩
theorem d52_0 : decode method_3_code 0 = .ok (.aload_n 0, 1) := by decide +kernel
theorem d52_1 : decode method_3_code 1 = .ok (.invokeinterface 21 1, 5) := by decide +kernel
theorem d52_6 : decode method_3_code 6 = .ok (.iload_n 2, 1) := by decide +kernel
theorem d52_7 : decode method_3_code 7 = .ok (.if_icmp .eq 5, 3) := by decide +kernel
theorem d52_12 : decode method_3_code 12 = .ok (.iload_n 2, 1) := by decide +kernel
theorem d52_13 : decode method_3_code 13 = .ok (.iconst 1, 1) := by decide +kernel
theorem d52_14 : decode method_3_code 14 = .ok (.if_icmp .lt 28, 3) := by decide +kernel
theorem d52_42 : decode method_3_code 42 = .ok (.iload_n 2, 1) := by decide +kernel
theorem d52_43 : decode method_3_code 43 = .ok (.iconst 2, 1) := by decide +kernel
theorem d52_44 : decode method_3_code 44 = .ok (.if_icmp .lt 28, 3) := by decide +kernel
theorem d52_72 : decode method_3_code 72 = .ok (.iconst 1, 1) := by decide +kernel
theorem d52_73 : decode method_3_code 73 = .ok (.ireturn, 1) := by decide +kernel
theorem d52_17 : decode method_3_code 17 = .ok (.aload_n 0, 1) := by decide +kernel
theorem d52_18 : decode method_3_code 18 = .ok (.iconst 0, 1) := by decide +kernel
theorem d52_19 : decode method_3_code 19 = .ok (.invokeinterface 27 2, 5) := by decide +kernel
theorem d52_24 : decode method_3_code 24 = .ok (.checkcast 12, 3) := by decide +kernel
theorem d52_27 : decode method_3_code 27 = .ok (.aload_n 1, 1) := by decide +kernel
theorem d52_28 : decode method_3_code 28 = .ok (.iconst 0, 1) := by decide +kernel
theorem d52_29 : decode method_3_code 29 = .ok (.invokeinterface 27 2, 5) := by decide +kernel
theorem d52_34 : decode method_3_code 34 = .ok (.invokevirtual 31, 3) := by decide +kernel
theorem d52_37 : decode method_3_code 37 = .ok (.ifCond .ne 5, 3) := by decide +kernel
theorem d52_47 : decode method_3_code 47 = .ok (.aload_n 0, 1) := by decide +kernel
theorem d52_48 : decode method_3_code 48 = .ok (.iconst 1, 1) := by decide +kernel
theorem d52_49 : decode method_3_code 49 = .ok (.invokeinterface 27 2, 5) := by decide +kernel
theorem d52_54 : decode method_3_code 54 = .ok (.checkcast 12, 3) := by decide +kernel
theorem d52_57 : decode method_3_code 57 = .ok (.aload_n 1, 1) := by decide +kernel
theorem d52_58 : decode method_3_code 58 = .ok (.iconst 1, 1) := by decide +kernel
theorem d52_59 : decode method_3_code 59 = .ok (.invokeinterface 27 2, 5) := by decide +kernel
theorem d52_64 : decode method_3_code 64 = .ok (.invokevirtual 31, 3) := by decide +kernel
theorem d52_67 : decode method_3_code 67 = .ok (.ifCond .ne 5, 3) := by decide +kernel
theorem ef_52 (m : MethodId) (x0 : Addr) (x1 : Addr) (x2 : Int32) : entryFrame m #[(.ref x0), (.ref x1), (.int x2)] 3 = mkF m 0 #[.val (.ref x0), .val (.ref x1), .val (.int x2)] [] := by first | (simp [entryFrame, mkF, argsToLocals, Value.category]; done) | rfl
theorem pn_52 : plainName "com/example/graftwork/graftwork/ElementDefinitionTypesPinLaw" = true := by first | (simp [plainName, overriddenIn]; done) | decide +kernel
theorem rmS0 (l : Launch) (Z : State) (a0 : Array Value) (hw : HW a0 Z) (ws : List Jvm.Cond) (o0 : Addr) (o1 : Addr) (em : Addr) (ee : Addr) (ke : ClassId) (h0 : Heap) (n0 : Nat) (O0 : Old Z n0 h0) (E_em : Exa Z Z.heap em "java/lang/Object") (S_EMPTY : Sta Z Z.heap "java/util/ImmutableCollections" "EMPTY" "Ljava/lang/Object;" (.ref em)) (E_o0 : Exa Z h0 o0 "java/util/ImmutableCollections$ListN") (F_elements_o0 : Fld Z h0 o0 "java/util/ImmutableCollections$ListN" "elements" "[Ljava/lang/Object;" (.ref ee)) (V_ee : Arv Z h0 ee ke (.object "java/lang/Object") (0 : Int32) [] .null) :
    oM l Z mN61 method_3_code 3 (some .boolean) ws (rM 3 0 0 41) #[(.ref o0), (.ref o1), (.int 0)] h0 (own_Q (.int 1) h0 n0) := by
  refine MetFree.of_bodySF (plainFor_of_name pn_52) hisR ?_
  intro p e s m args below meth c s₁ Bd hml0 hP hK
  obtain ⟨rfl, hZ, hh⟩ := hP
  have hx := Bd.exec
  have hby := Bd.bytes
  have hml : c.maxLocals = 3 := hml0
  have hown : s.vm.findClass "com/example/graftwork/graftwork/ElementDefinitionTypesPinLaw" = some m.cls := findClass_of_methodNamed Bd.named
  have X0 : Stand p l e (rM 3 0 0 41) s m #[(.ref o0), (.ref o1), (.int 0)] below meth c s₁ [] 0 0 := Stand.of_body Bd
  have e0 : s₁.heap = h0 := by rw [← hh, Bd.state]; rfl
  have N0 := Fr.nil n0
  have pre0 := fun t (k : oS p e below s₁ m 0 #[vR o0, vR o1, vI 0] [] t) => castTop (ef_52 m o0 o1 (0 : Int32)) k
  obtain ⟨cq1, kq1, q1a, q1b, q1c⟩ := isOf hZ e0 E_o0
  obtain ⟨_, _, ⟨T1, L1, k1, n1⟩, -, X1, ⟨Lc1, hQ1, l1, y1, z1⟩, st1⟩ := X0.interfaceBack hx (xi := mN62) (y := mN28) hown (mvT hZ (oW hw 327 rfl)) (mvT hZ (oW hw 328 rfl)) (mvT hZ (oW hw 329 rfl)) (mvT hZ (oW hw 330 rfl)) (mvT hZ (oW hw 331 rfl)) (mvT hZ (oW hw 332 rfl)) (mvT hZ (oW hw 333 rfl)) (mvT hZ (oW hw 334 rfl)) (by decide) (backOf (W := 0) (rmNz l Z a0 hw [] o0 ee ke h0 n0 O0 F_elements_o0 V_ee) hZ (oW hw 336 rfl) (oW hw 335 rfl) (by decide) (by decide)) q1a q1b q1c (g := (mkF m 1 #[vR o0, vR o1, vI 0] [(.ref o0)])) rfl (by rw [hml]; rfl) (Steps.refl _) (argsL := []) (rest := []) (lenOf pd_22 rfl) rfl (by show 2 * 0 + _ ≤ _; exact Nat.le_of_eq rfl) (hb hby d52_1) (fun _ _ => ⟨rfl, e0, (by decide : 0 + 0 ≤ _), (by decide : 0 + 0 ≤ _)⟩)
  dsimp only [Pt.U, Pt.locs, Pt.cells, Pt.slots] at X1 l1 y1 z1 st1 hQ1
  subst l1 y1 z1
  obtain ⟨rfl, N1q, e1⟩ := hQ1
  have N1 := Fr.app N0 N1q
  obtain ⟨fs, hr, hrun, hended, hW, hsame⟩ := X1.leave (v := some (.int 1)) (fun h => by rw [Bd.returns] at h; cases h)
  refine ⟨_, _, pre0 _ ?_, hrun, hended, _, _, rfl, ?_, ⟨_, rfl⟩, hW, hsame.mono (by decide) (by decide)⟩
  · show oS p e below s₁ m 0 #[vR o0, vR o1, vI 0] [] _
    refine XS.aloadN X0.here hx rfl (hb hby d52_0) rfl rfl ?_
    show oS p e below s₁ m 1 #[vR o0, vR o1, vI 0] [(.ref o0)] _
    refine st1.trans ?_
    show oS p e below T1 m 6 #[vR o0, vR o1, vI 0] [(.int 0)] _
    refine XS.iloadN X1.here hx rfl (hb hby d52_6) rfl ?_
    refine XS.icmpYes X1.here hx rfl (pc0 := 7) (pc' := 12) rfl (hb hby d52_7) rfl (teq (by decide : (0 : Int32) = (0 : Int32))).1 (by decide) (by decide) ?_
    show oS p e below T1 m 12 #[vR o0, vR o1, vI 0] [] _
    refine XS.iloadN X1.here hx rfl (hb hby d52_12) rfl ?_
    refine XS.iconst X1.here hx rfl (hb hby d52_13) ?_
    refine XS.icmpYes X1.here hx rfl (pc0 := 14) (pc' := 42) rfl (hb hby d52_14) rfl (tlt (by decide : (0 : Int32) < (1 : Int32))).1 (by decide) (by decide) ?_
    show oS p e below T1 m 42 #[vR o0, vR o1, vI 0] [] _
    refine XS.iloadN X1.here hx rfl (hb hby d52_42) rfl ?_
    refine XS.iconst X1.here hx rfl (hb hby d52_43) ?_
    refine XS.icmpYes X1.here hx rfl (pc0 := 44) (pc' := 72) rfl (hb hby d52_44) rfl (tlt (by decide : (0 : Int32) < (2 : Int32))).1 (by decide) (by decide) ?_
    show oS p e below T1 m 72 #[vR o0, vR o1, vI 0] [] _
    refine XS.iconst X1.here hx rfl (hb hby d52_72) ?_
    show oS p e below T1 m 73 #[vR o0, vR o1, vI 0] [(.int 1)] _
    exact retN X1 hx (t := .boolean) Bd.returns (by simp) (hb hby d52_73) hr
  · show own_Q (.int 1) h0 n0 _ T1.heap _
    rw [e1]
    exact ⟨rfl, N1, rfl⟩
theorem rmS1 (l : Launch) (Z : State) (a0 : Array Value) (hw : HW a0 Z) (ws : List Jvm.Cond) (o0 : Addr) (o1 : Addr) (em : Addr) (sz : Int32) (ed : Addr) (x1 : Addr) (y1 y2 : Value) (ka : ClassId) (h0 : Heap) (n0 : Nat) (O0 : Old Z n0 h0) (E_em : Exa Z Z.heap em "java/lang/Object") (S_EMPTY : Sta Z Z.heap "java/util/ImmutableCollections" "EMPTY" "Ljava/lang/Object;" (.ref em)) (E_o0 : Exa Z h0 o0 "java/util/ImmutableCollections$List12") (E_o1 : Exa Z h0 o1 "java/util/ArrayList") (F_size_o1 : Fld Z h0 o1 "java/util/ArrayList" "size" "I" (.int sz)) (F_elementData_o1 : Fld Z h0 o1 "java/util/ArrayList" "elementData" "[Ljava/lang/Object;" (.ref ed)) (V_ed : Arv Z h0 ed ka (.object "java/lang/Object") (10 : Int32) [(.ref x1), y1, y2, .null, .null, .null, .null, .null, .null, .null] .null) (hm : (0 : Int32) < sz) (F_e0_o0 : Fld Z h0 o0 "java/util/ImmutableCollections$List12" "e0" "Ljava/lang/Object;" (.ref x1)) (F_e1_o0 : Fld Z h0 o0 "java/util/ImmutableCollections$List12" "e1" "Ljava/lang/Object;" (.ref em)) (E_x1 : Exa Z h0 x1 "java/lang/String") :
    oM l Z mN61 method_3_code 3 (some .boolean) ws (rM 3 0 0 41) #[(.ref o0), (.ref o1), (.int 1)] h0 (own_Q (.int 1) h0 n0) := by
  refine MetFree.of_bodySF (plainFor_of_name pn_52) hisR ?_
  intro p e s m args below meth c s₁ Bd hml0 hP hK
  obtain ⟨rfl, hZ, hh⟩ := hP
  have hx := Bd.exec
  have hby := Bd.bytes
  have hml : c.maxLocals = 3 := hml0
  have hown : s.vm.findClass "com/example/graftwork/graftwork/ElementDefinitionTypesPinLaw" = some m.cls := findClass_of_methodNamed Bd.named
  have X0 : Stand p l e (rM 3 0 0 41) s m #[(.ref o0), (.ref o1), (.int 1)] below meth c s₁ [] 0 0 := Stand.of_body Bd
  have e0 : s₁.heap = h0 := by rw [← hh, Bd.state]; rfl
  have N0 := Fr.nil n0
  have pre0 := fun t (k : oS p e below s₁ m 0 #[vR o0, vR o1, vI 1] [] t) => castTop (ef_52 m o0 o1 (1 : Int32)) k
  obtain ⟨cq1, kq1, q1a, q1b, q1c⟩ := isOf hZ e0 E_o0
  obtain ⟨_, _, ⟨T1, L1, k1, n1⟩, -, X1, ⟨Lc1, hQ1, l1, y1, z1⟩, st1⟩ := X0.interfaceBack hx (xi := mN62) (y := mN27) hown (mvT hZ (oW hw 327 rfl)) (mvT hZ (oW hw 328 rfl)) (mvT hZ (oW hw 329 rfl)) (mvT hZ (oW hw 345 rfl)) (mvT hZ (oW hw 346 rfl)) (mvT hZ (oW hw 347 rfl)) (mvT hZ (oW hw 348 rfl)) (mvT hZ (oW hw 349 rfl)) (by decide) (backOf (W := 0) (rmZ1 l Z a0 hw [] o0 em h0 n0 O0 S_EMPTY F_e1_o0) hZ (oW hw 350 rfl) (oW hw 290 rfl) (by decide) (by decide)) q1a q1b q1c (g := (mkF m 1 #[vR o0, vR o1, vI 1] [(.ref o0)])) rfl (by rw [hml]; rfl) (Steps.refl _) (argsL := []) (rest := []) (lenOf pd_22 rfl) rfl (by show 2 * 0 + _ ≤ _; exact Nat.le_of_eq rfl) (hb hby d52_1) (fun _ _ => ⟨rfl, e0, (by decide : 0 + 0 ≤ _), (by decide : 0 + 0 ≤ _)⟩)
  dsimp only [Pt.U, Pt.locs, Pt.cells, Pt.slots] at X1 l1 y1 z1 st1 hQ1
  subst l1 y1 z1
  obtain ⟨rfl, N1q, e1⟩ := hQ1
  have N1 := Fr.app N0 N1q
  obtain ⟨cq2, kq2, q2a, q2b, q2c⟩ := isOf hZ e1 E_o0
  obtain ⟨_, _, ⟨T2, L2, k2, n2⟩, -, X2, ⟨Lc2, hQ2, l2, y2, z2⟩, st2⟩ := X1.interfaceBack hx (xi := mN63) (y := mN55) hown (mvT hZ (oW hw 352 rfl)) (mvT hZ (oW hw 353 rfl)) (mvT hZ (oW hw 354 rfl)) (mvT hZ (oW hw 355 rfl)) (mvT hZ (oW hw 356 rfl)) (mvT hZ (oW hw 357 rfl)) (mvT hZ (oW hw 358 rfl)) (mvT hZ (oW hw 349 rfl)) (by decide) (backOf (W := 0) (rmGe0 l Z a0 hw [] o0 x1 h0 n0 O0 F_e0_o0) hZ (oW hw 359 rfl) (oW hw 290 rfl) (by decide) (by decide)) q2a q2b q2c (g := (mkF m 19 #[vR o0, vR o1, vI 1] [(.int 0), (.ref o0)])) rfl (by rw [hml]; rfl) (Steps.refl _) (argsL := [(.int 0)]) (rest := []) (lenOf pd_32 rfl) rfl (by show 2 * 0 + _ ≤ _; exact Nat.le_of_eq rfl) (hb hby d52_19) (fun _ _ => ⟨rfl, e1, (by decide : 0 + 0 ≤ _), (by decide : 0 + 0 ≤ _)⟩)
  dsimp only [Pt.U, Pt.locs, Pt.cells, Pt.slots] at X2 l2 y2 z2 st2 hQ2
  subst l2 y2 z2
  obtain ⟨rfl, N2q, e2⟩ := hQ2
  have N2 := Fr.app N1 N2q
  obtain ⟨T3, X3, e3, st3⟩ := castY X2 hx hZ hown (oW hw 360 rfl) e2 (Ins.self E_x1) (g := (mkF m 24 #[vR o0, vR o1, vI 1] [(.ref x1)])) rfl rfl (hb hby d52_24)
  obtain ⟨cq4, kq4, q4a, q4b, q4c⟩ := isOf hZ e3 E_o1
  obtain ⟨_, _, ⟨T4, L4, k4, n4⟩, -, X4, ⟨Lc4, hQ4, l4, y4, z4⟩, st4⟩ := X3.interfaceBack hx (xi := mN63) (y := mN59) hown (mvT hZ (oW hw 352 rfl)) (mvT hZ (oW hw 353 rfl)) (mvT hZ (oW hw 354 rfl)) (mvT hZ (oW hw 361 rfl)) (mvT hZ (oW hw 362 rfl)) (mvT hZ (oW hw 363 rfl)) (mvT hZ (oW hw 364 rfl)) (mvT hZ (oW hw 365 rfl)) (by decide) (backOf (W := 1) (rmAg10 l Z a0 hw [] o1 sz ed x1 y1 y2 ka h0 n0 O0 E_o1 F_size_o1 F_elementData_o1 V_ed hm) hZ (oW hw 366 rfl) (oW hw 6 rfl) (by decide) (by decide)) q4a q4b q4c (g := (mkF m 29 #[vR o0, vR o1, vI 1] [(.int 0), (.ref o1), (.ref x1)])) rfl (by rw [hml]; rfl) (Steps.refl _) (argsL := [(.int 0)]) (rest := [(.ref x1)]) (lenOf pd_32 rfl) rfl (by show 2 * 0 + _ ≤ _; exact Nat.le_of_eq rfl) (hb hby d52_29) (fun _ _ => ⟨rfl, e3, (by decide : 0 + 0 ≤ _), (by decide : 0 + 0 ≤ _)⟩)
  dsimp only [Pt.U, Pt.locs, Pt.cells, Pt.slots] at X4 l4 y4 z4 st4 hQ4
  subst l4 y4 z4
  obtain ⟨rfl, N4q, e4⟩ := hQ4
  have N4 := Fr.app N2 N4q
  obtain ⟨cq5, kq5, q5a, q5b, q5c⟩ := isOf hZ e4 E_x1
  obtain ⟨_, _, ⟨T5, L5, k5, n5⟩, -, X5, ⟨Lc5, hQ5, l5, y5, z5⟩, st5⟩ := X4.virtualBack hx (y := mN60) (z := mN60) hown (mvT hZ (oW hw 378 rfl)) (mvT hZ (oW hw 379 rfl)) (notFace_of_selects (args := #[]) (mvT hZ (oW hw 381 rfl))) (mvT hZ (oW hw 381 rfl)) (mvT hZ (oW hw 380 rfl)) (by decide) (backOf (W := 0) (rmEq l Z a0 hw [] x1  h0 n0 O0 ) hZ (oW hw 382 rfl) (oW hw 33 rfl) (by decide) (by decide)) q5a q5c (g := (mkF m 34 #[vR o0, vR o1, vI 1] [(.ref x1), (.ref x1)])) rfl (by rw [hml]; rfl) (Steps.refl _) (argsL := [(.ref x1)]) (rest := []) (lenOf pd_9 rfl) rfl (by show 2 * 0 + _ ≤ _; exact Nat.le_of_eq rfl) (hb hby d52_34) (fun _ _ => ⟨rfl, e4, (by decide : 0 + 0 ≤ _), (by decide : 0 + 0 ≤ _)⟩)
  dsimp only [Pt.U, Pt.locs, Pt.cells, Pt.slots] at X5 l5 y5 z5 st5 hQ5
  subst l5 y5 z5
  obtain ⟨rfl, N5q, e5⟩ := hQ5
  have N5 := Fr.app N4 N5q
  obtain ⟨fs, hr, hrun, hended, hW, hsame⟩ := X5.leave (v := some (.int 1)) (fun h => by rw [Bd.returns] at h; cases h)
  refine ⟨_, _, pre0 _ ?_, hrun, hended, _, _, rfl, ?_, ⟨_, rfl⟩, hW, hsame.mono (by decide) (by decide)⟩
  · show oS p e below s₁ m 0 #[vR o0, vR o1, vI 1] [] _
    refine XS.aloadN X0.here hx rfl (hb hby d52_0) rfl rfl ?_
    show oS p e below s₁ m 1 #[vR o0, vR o1, vI 1] [(.ref o0)] _
    refine st1.trans ?_
    show oS p e below T1 m 6 #[vR o0, vR o1, vI 1] [(.int 1)] _
    refine XS.iloadN X1.here hx rfl (hb hby d52_6) rfl ?_
    refine XS.icmpYes X1.here hx rfl (pc0 := 7) (pc' := 12) rfl (hb hby d52_7) rfl (teq (by decide : (1 : Int32) = (1 : Int32))).1 (by decide) (by decide) ?_
    show oS p e below T1 m 12 #[vR o0, vR o1, vI 1] [] _
    refine XS.iloadN X1.here hx rfl (hb hby d52_12) rfl ?_
    refine XS.iconst X1.here hx rfl (hb hby d52_13) ?_
    refine XS.icmpNo X1.here hx rfl (hb hby d52_14) rfl (flt (by decide : ¬ ((1 : Int32) < (1 : Int32)))).1 ?_
    show oS p e below T1 m 17 #[vR o0, vR o1, vI 1] [] _
    refine XS.aloadN X1.here hx rfl (hb hby d52_17) rfl rfl ?_
    refine XS.iconst X1.here hx rfl (hb hby d52_18) ?_
    show oS p e below T1 m 19 #[vR o0, vR o1, vI 1] [(.int 0), (.ref o0)] _
    refine st2.trans ?_
    show oS p e below T2 m 24 #[vR o0, vR o1, vI 1] [(.ref x1)] _
    refine st3 _ ?_
    show oS p e below T3 m 27 #[vR o0, vR o1, vI 1] [(.ref x1)] _
    refine XS.aloadN X3.here hx rfl (hb hby d52_27) rfl rfl ?_
    refine XS.iconst X3.here hx rfl (hb hby d52_28) ?_
    show oS p e below T3 m 29 #[vR o0, vR o1, vI 1] [(.int 0), (.ref o1), (.ref x1)] _
    refine st4.trans ?_
    show oS p e below T4 m 34 #[vR o0, vR o1, vI 1] [(.ref x1), (.ref x1)] _
    refine st5.trans ?_
    show oS p e below T5 m 37 #[vR o0, vR o1, vI 1] [(.int 1)] _
    refine XS.ifYes X5.here hx rfl (pc0 := 37) (pc' := 42) rfl (hb hby d52_37) rfl ((if0 _ _).trans (feq (by decide : ¬ ((1 : Int32) = (0 : Int32)))).2) (by decide) (by decide) ?_
    show oS p e below T5 m 42 #[vR o0, vR o1, vI 1] [] _
    refine XS.iloadN X5.here hx rfl (hb hby d52_42) rfl ?_
    refine XS.iconst X5.here hx rfl (hb hby d52_43) ?_
    refine XS.icmpYes X5.here hx rfl (pc0 := 44) (pc' := 72) rfl (hb hby d52_44) rfl (tlt (by decide : (1 : Int32) < (2 : Int32))).1 (by decide) (by decide) ?_
    show oS p e below T5 m 72 #[vR o0, vR o1, vI 1] [] _
    refine XS.iconst X5.here hx rfl (hb hby d52_72) ?_
    show oS p e below T5 m 73 #[vR o0, vR o1, vI 1] [(.int 1)] _
    exact retN X5 hx (t := .boolean) Bd.returns (by simp) (hb hby d52_73) hr
  · show own_Q (.int 1) h0 n0 _ T5.heap _
    rw [e5]
    exact ⟨rfl, N5, rfl⟩
theorem rmS2 (l : Launch) (Z : State) (a0 : Array Value) (hw : HW a0 Z) (ws : List Jvm.Cond) (o0 : Addr) (o1 : Addr) (em : Addr) (sz : Int32) (ed : Addr) (x1 x2 : Addr) (y2 : Value) (ka : ClassId) (h0 : Heap) (n0 : Nat) (O0 : Old Z n0 h0) (E_em : Exa Z Z.heap em "java/lang/Object") (S_EMPTY : Sta Z Z.heap "java/util/ImmutableCollections" "EMPTY" "Ljava/lang/Object;" (.ref em)) (E_o0 : Exa Z h0 o0 "java/util/ImmutableCollections$List12") (E_o1 : Exa Z h0 o1 "java/util/ArrayList") (F_size_o1 : Fld Z h0 o1 "java/util/ArrayList" "size" "I" (.int sz)) (F_elementData_o1 : Fld Z h0 o1 "java/util/ArrayList" "elementData" "[Ljava/lang/Object;" (.ref ed)) (V_ed : Arv Z h0 ed ka (.object "java/lang/Object") (10 : Int32) [(.ref x1), (.ref x2), y2, .null, .null, .null, .null, .null, .null, .null] .null) (hm : (1 : Int32) < sz) (F_e0_o0 : Fld Z h0 o0 "java/util/ImmutableCollections$List12" "e0" "Ljava/lang/Object;" (.ref x1)) (F_e1_o0 : Fld Z h0 o0 "java/util/ImmutableCollections$List12" "e1" "Ljava/lang/Object;" (.ref x2)) (E_x1 : Exa Z h0 x1 "java/lang/String") (E_x2 : Exa Z h0 x2 "java/lang/String") (hm0 : (0 : Int32) < sz) :
    oM l Z mN61 method_3_code 3 (some .boolean) ws (rM 3 0 0 41) #[(.ref o0), (.ref o1), (.int 2)] h0 (own_Q (.int 1) h0 n0) := by
  refine MetFree.of_bodySF (plainFor_of_name pn_52) hisR ?_
  intro p e s m args below meth c s₁ Bd hml0 hP hK
  obtain ⟨rfl, hZ, hh⟩ := hP
  have hx := Bd.exec
  have hby := Bd.bytes
  have hml : c.maxLocals = 3 := hml0
  have hown : s.vm.findClass "com/example/graftwork/graftwork/ElementDefinitionTypesPinLaw" = some m.cls := findClass_of_methodNamed Bd.named
  have X0 : Stand p l e (rM 3 0 0 41) s m #[(.ref o0), (.ref o1), (.int 2)] below meth c s₁ [] 0 0 := Stand.of_body Bd
  have e0 : s₁.heap = h0 := by rw [← hh, Bd.state]; rfl
  have N0 := Fr.nil n0
  have pre0 := fun t (k : oS p e below s₁ m 0 #[vR o0, vR o1, vI 2] [] t) => castTop (ef_52 m o0 o1 (2 : Int32)) k
  have hxe : ¬ (x2 = em) := Exa.ne E_x2 (E_em.ext O0.2) (by decide)
  obtain ⟨cq1, kq1, q1a, q1b, q1c⟩ := isOf hZ e0 E_o0
  obtain ⟨_, _, ⟨T1, L1, k1, n1⟩, -, X1, ⟨Lc1, hQ1, l1, y1, z1⟩, st1⟩ := X0.interfaceBack hx (xi := mN62) (y := mN27) hown (mvT hZ (oW hw 327 rfl)) (mvT hZ (oW hw 328 rfl)) (mvT hZ (oW hw 329 rfl)) (mvT hZ (oW hw 345 rfl)) (mvT hZ (oW hw 346 rfl)) (mvT hZ (oW hw 347 rfl)) (mvT hZ (oW hw 348 rfl)) (mvT hZ (oW hw 349 rfl)) (by decide) (backOf (W := 0) (rmZ2 l Z a0 hw [] o0 em x2 h0 n0 O0 S_EMPTY F_e1_o0 hxe) hZ (oW hw 350 rfl) (oW hw 290 rfl) (by decide) (by decide)) q1a q1b q1c (g := (mkF m 1 #[vR o0, vR o1, vI 2] [(.ref o0)])) rfl (by rw [hml]; rfl) (Steps.refl _) (argsL := []) (rest := []) (lenOf pd_22 rfl) rfl (by show 2 * 0 + _ ≤ _; exact Nat.le_of_eq rfl) (hb hby d52_1) (fun _ _ => ⟨rfl, e0, (by decide : 0 + 0 ≤ _), (by decide : 0 + 0 ≤ _)⟩)
  dsimp only [Pt.U, Pt.locs, Pt.cells, Pt.slots] at X1 l1 y1 z1 st1 hQ1
  subst l1 y1 z1
  obtain ⟨rfl, N1q, e1⟩ := hQ1
  have N1 := Fr.app N0 N1q
  obtain ⟨cq2, kq2, q2a, q2b, q2c⟩ := isOf hZ e1 E_o0
  obtain ⟨_, _, ⟨T2, L2, k2, n2⟩, -, X2, ⟨Lc2, hQ2, l2, y2, z2⟩, st2⟩ := X1.interfaceBack hx (xi := mN63) (y := mN55) hown (mvT hZ (oW hw 352 rfl)) (mvT hZ (oW hw 353 rfl)) (mvT hZ (oW hw 354 rfl)) (mvT hZ (oW hw 355 rfl)) (mvT hZ (oW hw 356 rfl)) (mvT hZ (oW hw 357 rfl)) (mvT hZ (oW hw 358 rfl)) (mvT hZ (oW hw 349 rfl)) (by decide) (backOf (W := 0) (rmGe0 l Z a0 hw [] o0 x1 h0 n0 O0 F_e0_o0) hZ (oW hw 359 rfl) (oW hw 290 rfl) (by decide) (by decide)) q2a q2b q2c (g := (mkF m 19 #[vR o0, vR o1, vI 2] [(.int 0), (.ref o0)])) rfl (by rw [hml]; rfl) (Steps.refl _) (argsL := [(.int 0)]) (rest := []) (lenOf pd_32 rfl) rfl (by show 2 * 0 + _ ≤ _; exact Nat.le_of_eq rfl) (hb hby d52_19) (fun _ _ => ⟨rfl, e1, (by decide : 0 + 0 ≤ _), (by decide : 0 + 0 ≤ _)⟩)
  dsimp only [Pt.U, Pt.locs, Pt.cells, Pt.slots] at X2 l2 y2 z2 st2 hQ2
  subst l2 y2 z2
  obtain ⟨rfl, N2q, e2⟩ := hQ2
  have N2 := Fr.app N1 N2q
  obtain ⟨T3, X3, e3, st3⟩ := castY X2 hx hZ hown (oW hw 360 rfl) e2 (Ins.self E_x1) (g := (mkF m 24 #[vR o0, vR o1, vI 2] [(.ref x1)])) rfl rfl (hb hby d52_24)
  obtain ⟨cq4, kq4, q4a, q4b, q4c⟩ := isOf hZ e3 E_o1
  obtain ⟨_, _, ⟨T4, L4, k4, n4⟩, -, X4, ⟨Lc4, hQ4, l4, y4, z4⟩, st4⟩ := X3.interfaceBack hx (xi := mN63) (y := mN59) hown (mvT hZ (oW hw 352 rfl)) (mvT hZ (oW hw 353 rfl)) (mvT hZ (oW hw 354 rfl)) (mvT hZ (oW hw 361 rfl)) (mvT hZ (oW hw 362 rfl)) (mvT hZ (oW hw 363 rfl)) (mvT hZ (oW hw 364 rfl)) (mvT hZ (oW hw 365 rfl)) (by decide) (backOf (W := 1) (rmAg20 l Z a0 hw [] o1 sz ed x1 x2 y2 ka h0 n0 O0 E_o1 F_size_o1 F_elementData_o1 V_ed hm0) hZ (oW hw 366 rfl) (oW hw 6 rfl) (by decide) (by decide)) q4a q4b q4c (g := (mkF m 29 #[vR o0, vR o1, vI 2] [(.int 0), (.ref o1), (.ref x1)])) rfl (by rw [hml]; rfl) (Steps.refl _) (argsL := [(.int 0)]) (rest := [(.ref x1)]) (lenOf pd_32 rfl) rfl (by show 2 * 0 + _ ≤ _; exact Nat.le_of_eq rfl) (hb hby d52_29) (fun _ _ => ⟨rfl, e3, (by decide : 0 + 0 ≤ _), (by decide : 0 + 0 ≤ _)⟩)
  dsimp only [Pt.U, Pt.locs, Pt.cells, Pt.slots] at X4 l4 y4 z4 st4 hQ4
  subst l4 y4 z4
  obtain ⟨rfl, N4q, e4⟩ := hQ4
  have N4 := Fr.app N2 N4q
  obtain ⟨cq5, kq5, q5a, q5b, q5c⟩ := isOf hZ e4 E_x1
  obtain ⟨_, _, ⟨T5, L5, k5, n5⟩, -, X5, ⟨Lc5, hQ5, l5, y5, z5⟩, st5⟩ := X4.virtualBack hx (y := mN60) (z := mN60) hown (mvT hZ (oW hw 378 rfl)) (mvT hZ (oW hw 379 rfl)) (notFace_of_selects (args := #[]) (mvT hZ (oW hw 381 rfl))) (mvT hZ (oW hw 381 rfl)) (mvT hZ (oW hw 380 rfl)) (by decide) (backOf (W := 0) (rmEq l Z a0 hw [] x1  h0 n0 O0 ) hZ (oW hw 382 rfl) (oW hw 33 rfl) (by decide) (by decide)) q5a q5c (g := (mkF m 34 #[vR o0, vR o1, vI 2] [(.ref x1), (.ref x1)])) rfl (by rw [hml]; rfl) (Steps.refl _) (argsL := [(.ref x1)]) (rest := []) (lenOf pd_9 rfl) rfl (by show 2 * 0 + _ ≤ _; exact Nat.le_of_eq rfl) (hb hby d52_34) (fun _ _ => ⟨rfl, e4, (by decide : 0 + 0 ≤ _), (by decide : 0 + 0 ≤ _)⟩)
  dsimp only [Pt.U, Pt.locs, Pt.cells, Pt.slots] at X5 l5 y5 z5 st5 hQ5
  subst l5 y5 z5
  obtain ⟨rfl, N5q, e5⟩ := hQ5
  have N5 := Fr.app N4 N5q
  obtain ⟨cq6, kq6, q6a, q6b, q6c⟩ := isOf hZ e5 E_o0
  obtain ⟨_, _, ⟨T6, L6, k6, n6⟩, -, X6, ⟨Lc6, hQ6, l6, y6, z6⟩, st6⟩ := X5.interfaceBack hx (xi := mN63) (y := mN55) hown (mvT hZ (oW hw 352 rfl)) (mvT hZ (oW hw 353 rfl)) (mvT hZ (oW hw 354 rfl)) (mvT hZ (oW hw 355 rfl)) (mvT hZ (oW hw 356 rfl)) (mvT hZ (oW hw 357 rfl)) (mvT hZ (oW hw 358 rfl)) (mvT hZ (oW hw 349 rfl)) (by decide) (backOf (W := 0) (rmGe1 l Z a0 hw [] o0 em x2 h0 n0 O0 S_EMPTY F_e1_o0 hxe) hZ (oW hw 359 rfl) (oW hw 290 rfl) (by decide) (by decide)) q6a q6b q6c (g := (mkF m 49 #[vR o0, vR o1, vI 2] [(.int 1), (.ref o0)])) rfl (by rw [hml]; rfl) (Steps.refl _) (argsL := [(.int 1)]) (rest := []) (lenOf pd_32 rfl) rfl (by show 2 * 0 + _ ≤ _; exact Nat.le_of_eq rfl) (hb hby d52_49) (fun _ _ => ⟨rfl, e5, (by decide : 0 + 0 ≤ _), (by decide : 0 + 0 ≤ _)⟩)
  dsimp only [Pt.U, Pt.locs, Pt.cells, Pt.slots] at X6 l6 y6 z6 st6 hQ6
  subst l6 y6 z6
  obtain ⟨rfl, N6q, e6⟩ := hQ6
  have N6 := Fr.app N5 N6q
  obtain ⟨T7, X7, e7, st7⟩ := castY X6 hx hZ hown (oW hw 360 rfl) e6 (Ins.self E_x2) (g := (mkF m 54 #[vR o0, vR o1, vI 2] [(.ref x2)])) rfl rfl (hb hby d52_54)
  obtain ⟨cq8, kq8, q8a, q8b, q8c⟩ := isOf hZ e7 E_o1
  obtain ⟨_, _, ⟨T8, L8, k8, n8⟩, -, X8, ⟨Lc8, hQ8, l8, y8, z8⟩, st8⟩ := X7.interfaceBack hx (xi := mN63) (y := mN59) hown (mvT hZ (oW hw 352 rfl)) (mvT hZ (oW hw 353 rfl)) (mvT hZ (oW hw 354 rfl)) (mvT hZ (oW hw 361 rfl)) (mvT hZ (oW hw 362 rfl)) (mvT hZ (oW hw 363 rfl)) (mvT hZ (oW hw 364 rfl)) (mvT hZ (oW hw 365 rfl)) (by decide) (backOf (W := 1) (rmAg21 l Z a0 hw [] o1 sz ed x1 x2 y2 ka h0 n0 O0 E_o1 F_size_o1 F_elementData_o1 V_ed hm) hZ (oW hw 366 rfl) (oW hw 6 rfl) (by decide) (by decide)) q8a q8b q8c (g := (mkF m 59 #[vR o0, vR o1, vI 2] [(.int 1), (.ref o1), (.ref x2)])) rfl (by rw [hml]; rfl) (Steps.refl _) (argsL := [(.int 1)]) (rest := [(.ref x2)]) (lenOf pd_32 rfl) rfl (by show 2 * 0 + _ ≤ _; exact Nat.le_of_eq rfl) (hb hby d52_59) (fun _ _ => ⟨rfl, e7, (by decide : 0 + 0 ≤ _), (by decide : 0 + 0 ≤ _)⟩)
  dsimp only [Pt.U, Pt.locs, Pt.cells, Pt.slots] at X8 l8 y8 z8 st8 hQ8
  subst l8 y8 z8
  obtain ⟨rfl, N8q, e8⟩ := hQ8
  have N8 := Fr.app N6 N8q
  obtain ⟨cq9, kq9, q9a, q9b, q9c⟩ := isOf hZ e8 E_x2
  obtain ⟨_, _, ⟨T9, L9, k9, n9⟩, -, X9, ⟨Lc9, hQ9, l9, y9, z9⟩, st9⟩ := X8.virtualBack hx (y := mN60) (z := mN60) hown (mvT hZ (oW hw 378 rfl)) (mvT hZ (oW hw 379 rfl)) (notFace_of_selects (args := #[]) (mvT hZ (oW hw 381 rfl))) (mvT hZ (oW hw 381 rfl)) (mvT hZ (oW hw 380 rfl)) (by decide) (backOf (W := 0) (rmEq l Z a0 hw [] x2  h0 n0 O0 ) hZ (oW hw 382 rfl) (oW hw 33 rfl) (by decide) (by decide)) q9a q9c (g := (mkF m 64 #[vR o0, vR o1, vI 2] [(.ref x2), (.ref x2)])) rfl (by rw [hml]; rfl) (Steps.refl _) (argsL := [(.ref x2)]) (rest := []) (lenOf pd_9 rfl) rfl (by show 2 * 0 + _ ≤ _; exact Nat.le_of_eq rfl) (hb hby d52_64) (fun _ _ => ⟨rfl, e8, (by decide : 0 + 0 ≤ _), (by decide : 0 + 0 ≤ _)⟩)
  dsimp only [Pt.U, Pt.locs, Pt.cells, Pt.slots] at X9 l9 y9 z9 st9 hQ9
  subst l9 y9 z9
  obtain ⟨rfl, N9q, e9⟩ := hQ9
  have N9 := Fr.app N8 N9q
  obtain ⟨fs, hr, hrun, hended, hW, hsame⟩ := X9.leave (v := some (.int 1)) (fun h => by rw [Bd.returns] at h; cases h)
  refine ⟨_, _, pre0 _ ?_, hrun, hended, _, _, rfl, ?_, ⟨_, rfl⟩, hW, hsame.mono (by decide) (by decide)⟩
  · show oS p e below s₁ m 0 #[vR o0, vR o1, vI 2] [] _
    refine XS.aloadN X0.here hx rfl (hb hby d52_0) rfl rfl ?_
    show oS p e below s₁ m 1 #[vR o0, vR o1, vI 2] [(.ref o0)] _
    refine st1.trans ?_
    show oS p e below T1 m 6 #[vR o0, vR o1, vI 2] [(.int 2)] _
    refine XS.iloadN X1.here hx rfl (hb hby d52_6) rfl ?_
    refine XS.icmpYes X1.here hx rfl (pc0 := 7) (pc' := 12) rfl (hb hby d52_7) rfl (teq (by decide : (2 : Int32) = (2 : Int32))).1 (by decide) (by decide) ?_
    show oS p e below T1 m 12 #[vR o0, vR o1, vI 2] [] _
    refine XS.iloadN X1.here hx rfl (hb hby d52_12) rfl ?_
    refine XS.iconst X1.here hx rfl (hb hby d52_13) ?_
    refine XS.icmpNo X1.here hx rfl (hb hby d52_14) rfl (flt (by decide : ¬ ((2 : Int32) < (1 : Int32)))).1 ?_
    show oS p e below T1 m 17 #[vR o0, vR o1, vI 2] [] _
    refine XS.aloadN X1.here hx rfl (hb hby d52_17) rfl rfl ?_
    refine XS.iconst X1.here hx rfl (hb hby d52_18) ?_
    show oS p e below T1 m 19 #[vR o0, vR o1, vI 2] [(.int 0), (.ref o0)] _
    refine st2.trans ?_
    show oS p e below T2 m 24 #[vR o0, vR o1, vI 2] [(.ref x1)] _
    refine st3 _ ?_
    show oS p e below T3 m 27 #[vR o0, vR o1, vI 2] [(.ref x1)] _
    refine XS.aloadN X3.here hx rfl (hb hby d52_27) rfl rfl ?_
    refine XS.iconst X3.here hx rfl (hb hby d52_28) ?_
    show oS p e below T3 m 29 #[vR o0, vR o1, vI 2] [(.int 0), (.ref o1), (.ref x1)] _
    refine st4.trans ?_
    show oS p e below T4 m 34 #[vR o0, vR o1, vI 2] [(.ref x1), (.ref x1)] _
    refine st5.trans ?_
    show oS p e below T5 m 37 #[vR o0, vR o1, vI 2] [(.int 1)] _
    refine XS.ifYes X5.here hx rfl (pc0 := 37) (pc' := 42) rfl (hb hby d52_37) rfl ((if0 _ _).trans (feq (by decide : ¬ ((1 : Int32) = (0 : Int32)))).2) (by decide) (by decide) ?_
    show oS p e below T5 m 42 #[vR o0, vR o1, vI 2] [] _
    refine XS.iloadN X5.here hx rfl (hb hby d52_42) rfl ?_
    refine XS.iconst X5.here hx rfl (hb hby d52_43) ?_
    refine XS.icmpNo X5.here hx rfl (hb hby d52_44) rfl (flt (by decide : ¬ ((2 : Int32) < (2 : Int32)))).1 ?_
    show oS p e below T5 m 47 #[vR o0, vR o1, vI 2] [] _
    refine XS.aloadN X5.here hx rfl (hb hby d52_47) rfl rfl ?_
    refine XS.iconst X5.here hx rfl (hb hby d52_48) ?_
    show oS p e below T5 m 49 #[vR o0, vR o1, vI 2] [(.int 1), (.ref o0)] _
    refine st6.trans ?_
    show oS p e below T6 m 54 #[vR o0, vR o1, vI 2] [(.ref x2)] _
    refine st7 _ ?_
    show oS p e below T7 m 57 #[vR o0, vR o1, vI 2] [(.ref x2)] _
    refine XS.aloadN X7.here hx rfl (hb hby d52_57) rfl rfl ?_
    refine XS.iconst X7.here hx rfl (hb hby d52_58) ?_
    show oS p e below T7 m 59 #[vR o0, vR o1, vI 2] [(.int 1), (.ref o1), (.ref x2)] _
    refine st8.trans ?_
    show oS p e below T8 m 64 #[vR o0, vR o1, vI 2] [(.ref x2), (.ref x2)] _
    refine st9.trans ?_
    show oS p e below T9 m 67 #[vR o0, vR o1, vI 2] [(.int 1)] _
    refine XS.ifYes X9.here hx rfl (pc0 := 67) (pc' := 72) rfl (hb hby d52_67) rfl ((if0 _ _).trans (feq (by decide : ¬ ((1 : Int32) = (0 : Int32)))).2) (by decide) (by decide) ?_
    show oS p e below T9 m 72 #[vR o0, vR o1, vI 2] [] _
    refine XS.iconst X9.here hx rfl (hb hby d52_72) ?_
    show oS p e below T9 m 73 #[vR o0, vR o1, vI 2] [(.int 1)] _
    exact retN X9 hx (t := .boolean) Bd.returns (by simp) (hb hby d52_73) hr
  · show own_Q (.int 1) h0 n0 _ T9.heap _
    rw [e9]
    exact ⟨rfl, N9, rfl⟩
theorem own_lt01 {m : Int32} (h : (1 : Int32) < m) : (0 : Int32) < m := by
  have e0 : (0 : Int32).toInt = 0 := by decide
  have e1 : (1 : Int32).toInt = 1 := by decide
  rw [Int32.lt_iff_toInt_lt, e1] at h
  rw [Int32.lt_iff_toInt_lt, e0]
  omega
theorem rmSa (l : Launch) (Z : State) (a0 : Array Value) (hw : HW a0 Z) (ws : List Jvm.Cond) (o0 o1 : Addr) (n : Int32) (ed el em ee x1 x2 : Addr) (ke : ClassId) (h0 : Heap) (n0 : Nat) (O0 : Old Z n0 h0) (S_EMPTY : Sta Z Z.heap "java/util/ImmutableCollections" "EMPTY" "Ljava/lang/Object;" (.ref em)) (E_em : Exa Z Z.heap em "java/lang/Object") (E_el : Exa Z Z.heap el "java/util/ImmutableCollections$ListN") (F_el : Fld Z Z.heap el "java/util/ImmutableCollections$ListN" "elements" "[Ljava/lang/Object;" (.ref ee)) (V_ee : Arv Z Z.heap ee ke (.object "java/lang/Object") (0 : Int32) [] .null) (hil : own_IL Z h0 el em o0 n x1 x2) (hls : own_LS Z h0 o1 ed n x1 x2) : MetFree l mN61 (head1 (Jvm.Cond.code mN61 method_3_code 3 (some .boolean) :: ws) (rM 3 0 0 41)) (fun a U => a = #[(.ref o0), (.ref o1), (.int n)] ∧ Z.Warmed39 U.vm ∧ U.heap = h0) (fun _ _ _ _ _ => True) (fun _ U o U' => ∃ v L, o = .returned v ∧ own_Q (.int 1) h0 n0 v U'.heap L ∧ FrameEnd U o U' L (rM 3 0 0 41).cells (rM 3 0 0 41).slots) := by
  rcases hil with ⟨rfl, rfl⟩ | ⟨rfl, s1, s2, s3, s4⟩ | ⟨rfl, s1, s2, s3, s4, s5⟩
  · exact rmS0 l Z a0 hw ws o0 o1 em ee ke h0 n0 O0 E_em S_EMPTY (E_el.ext O0.2) (F_el.ext O0.2) (V_ee.ext O0.2)
  · rcases hls with q | ⟨k, m, a1, a2, a3, ⟨-, r, y1, y2, s⟩ | ⟨q, -⟩⟩
    · exact absurd q (by decide)
    · exact rmS1 l Z a0 hw ws o0 o1 em m ed x1 y1 y2 k h0 n0 O0 E_em S_EMPTY s1 a1 a2 a3 s r s2 s3 s4
    · exact absurd q (by decide)
  · rcases hls with q | ⟨k, m, a1, a2, a3, ⟨q, -⟩ | ⟨-, r, y2, s⟩⟩
    · exact absurd q (by decide)
    · exact absurd q (by decide)
    · exact rmS2 l Z a0 hw ws o0 o1 em m ed x1 x2 y2 k h0 n0 O0 E_em S_EMPTY s1 a1 a2 a3 s r s2 s3 s4 s5 (own_lt01 r)
theorem own_imp {l : Launch} {x : MethodName} {S : Spec} {P : Array Value → State → Prop} {Q Q' : Option Value → Heap → List Loc → Prop} {a b : Nat} (hm : MetFree l x S P (fun _ _ _ _ _ => True) (fun _ U o U' => ∃ v L, o = .returned v ∧ Q v U'.heap L ∧ FrameEnd U o U' L a b)) (h : ∀ v h L, Q v h L → Q' v h L) : MetFree l x S P (fun _ _ _ _ _ => True) (fun _ U o U' => ∃ v L, o = .returned v ∧ Q' v U'.heap L ∧ FrameEnd U o U' L a b) :=
  hm.imp (fun _ U o U' ⟨v, L, h1, h2, h3⟩ => ⟨v, L, h1, h v _ L h2, h3⟩)
def own_wa (n : Int32) (l ed : Addr) : Addr := if n = 0 then l else ed
def own_QAq (Z : State) (l ed : Addr) (n : Int32) (x1 x2 : Addr) (h0 : Heap) (n0 : Nat) (v : Option Value) (h : Heap) (L : List Loc) : Prop := v = some (.int 1) ∧ Fr n0 L ∧ Keep h0 h [l, own_wa n l ed] ∧ own_LS Z h l ed n x1 x2
theorem rmAq (l : Launch) (Z : State) (a0 : Array Value) (hw : HW a0 Z) (ws : List Jvm.Cond) (o0 o1 ad ed x1 x2 : Addr) (kd : ClassId) (n : Int32) (h0 : Heap) (n0 : Nat) (O0 : Old Z n0 h0) (S_DE : Sta Z Z.heap "java/util/ArrayList" "DEFAULTCAPACITY_EMPTY_ELEMENTDATA" "[Ljava/lang/Object;" (.ref ad)) (V_ad : Arv Z Z.heap ad kd (.object "java/lang/Object") (0 : Int32) [] .null) (hal : own_AL Z h0 ad o0 ed n x1 x2) (g_o0 : n0 ≤ o0) (g_ed : n = 0 ∨ n0 ≤ ed) (E_o1 : Exa Z h0 o1 "java/lang/String") : MetFree l mN11 (head1 (Jvm.Cond.code mN11 jdk_38_method_25_code 2 (some .boolean) :: ws) (rM 4 1 10 56)) (fun a U => a = #[(.ref o0), (.ref o1)] ∧ Z.Warmed39 U.vm ∧ U.heap = h0) (fun _ _ _ _ _ => True) (fun _ U o U' => ∃ v L, o = .returned v ∧ own_QAq Z o0 ed n x1 x2 h0 n0 v U'.heap L ∧ FrameEnd U o U' L (rM 4 1 10 56).cells (rM 4 1 10 56).slots) := by
  obtain ⟨k, mc, a1, a2, a3, a4, a5, s⟩ := hal
  rcases s with ⟨rfl, rfl⟩ | ⟨rfl, s1, s2, s3, s4⟩ | ⟨rfl, s1, s2, s3, s4, s5⟩
  · refine own_imp (rmE0 l Z a0 hw ws o0 o1 mc ed kd h0 n0 O0 a1 a2 a3 a4 g_o0 E_o1 S_DE V_ad) ?_
    rintro v h L ⟨b, k', q1, q2, q3, -⟩
    exact ⟨q1, q2, (Keep.refl h0 _).trans q3 (allS (Or.inl (List.mem_of_getElem? (i := 0) rfl)) all0), Or.inl rfl⟩
  · have g_e : n0 ≤ ed := g_ed.resolve_left (by decide)
    refine own_imp (rmE1 l Z a0 hw ws o0 o1 mc ed x1 k h0 n0 O0 a1 a2 a3 a4 g_o0 g_e E_o1 s1 s3) ?_
    rintro v h L ⟨q1, q2, q3, q4, q5, q6, q7⟩
    exact ⟨q1, q2, q3, Or.inr ⟨k, 2, a1.keep q3, q5, q6, Or.inl ⟨rfl, by decide, .ref o1, .null, q7⟩⟩⟩
  · have g_e : n0 ≤ ed := g_ed.resolve_left (by decide)
    refine own_imp (rmE2 l Z a0 hw ws o0 o1 mc ed x1 x2 k h0 n0 O0 a1 a2 a3 a4 g_o0 g_e E_o1 s1 s3) ?_
    rintro v h L ⟨q1, q2, q3, q4, q5, q6, q7⟩
    exact ⟨q1, q2, q3, Or.inr ⟨k, 3, a1.keep q3, q5, q6, Or.inr ⟨rfl, by decide, .ref o1, q7⟩⟩⟩
theorem own_IL.neo {Z : State} {h : Heap} {el em g x1 x2 o : Addr} {n : Int32} {n0 : Nat} {C : String} (A : own_IL Z h el em g n x1 x2) (hel : el < n0) (E : Exa Z h o C) (ho : n0 ≤ o) (hc : "java/util/ImmutableCollections$List12" ≠ C) : g ≠ o := by
  rcases A with ⟨-, rfl⟩ | ⟨-, s1, -⟩ | ⟨-, s1, -⟩
  · exact Nat.ne_of_lt (Nat.lt_of_lt_of_le hel ho)
  · exact s1.ne E hc
  · exact s1.ne E hc
theorem own_IL.nev {Z : State} {h : Heap} {el em g x1 x2 o : Addr} {n : Int32} {n0 : Nat} {k : ClassId} {ty : FieldType} {z : Int32} {vs : List Value} {dv : Value} {a0 : Array Value} {j : Nat} (A : own_IL Z h el em g n x1 x2) (hel : el < n0) (V : Arv Z h o k ty z vs dv) (ho : n0 ≤ o) (w : (Jvm.Cond.instantiable "java/util/ImmutableCollections$List12" j).before a0 Z = true) : g ≠ o := by
  rcases A with ⟨-, rfl⟩ | ⟨-, s1, -⟩ | ⟨-, s1, -⟩
  · exact Nat.ne_of_lt (Nat.lt_of_lt_of_le hel ho)
  · exact s1.neArv V w
  · exact s1.neArv V w
def own_QI (Z : State) (o el em : Addr) (n : Int32) (x1 x2 : Addr) (h0 : Heap) (n0 : Nat) (v : Option Value) (h : Heap) (L : List Loc) : Prop := ∃ g : Addr, v = none ∧ Fr n0 L ∧ Keep h0 h [o] ∧ Fld Z h o "com/example/graftwork/graftwork/ElementDefinition" "reused" "Lcom/example/graftwork/graftwork/ElementDefinition;" .null ∧ Fld Z h o "com/example/graftwork/graftwork/ElementDefinition" "types" "Ljava/util/List;" (.ref g) ∧ own_IL Z h el em g n x1 x2
theorem d16_0 : decode prog_6_method_1_code 0 = .ok (.aload_n 0, 1) := by decide +kernel
theorem d16_1 : decode prog_6_method_1_code 1 = .ok (.invokespecial 3, 3) := by decide +kernel
theorem d16_4 : decode prog_6_method_1_code 4 = .ok (.aload_n 0, 1) := by decide +kernel
theorem d16_5 : decode prog_6_method_1_code 5 = .ok (.new 9, 3) := by decide +kernel
theorem d16_8 : decode prog_6_method_1_code 8 = .ok (.dup, 1) := by decide +kernel
theorem d16_9 : decode prog_6_method_1_code 9 = .ok (.invokespecial 11, 3) := by decide +kernel
theorem d16_12 : decode prog_6_method_1_code 12 = .ok (.putfield 12, 3) := by decide +kernel
theorem d16_15 : decode prog_6_method_1_code 15 = .ok (.aload_n 0, 1) := by decide +kernel
theorem d16_16 : decode prog_6_method_1_code 16 = .ok (.new 18, 3) := by decide +kernel
theorem d16_19 : decode prog_6_method_1_code 19 = .ok (.dup, 1) := by decide +kernel
theorem d16_20 : decode prog_6_method_1_code 20 = .ok (.invokespecial 20, 3) := by decide +kernel
theorem d16_23 : decode prog_6_method_1_code 23 = .ok (.putfield 21, 3) := by decide +kernel
theorem d16_26 : decode prog_6_method_1_code 26 = .ok (.aload_n 0, 1) := by decide +kernel
theorem d16_27 : decode prog_6_method_1_code 27 = .ok (.aload_n 1, 1) := by decide +kernel
theorem d16_28 : decode prog_6_method_1_code 28 = .ok (.putfield 25, 3) := by decide +kernel
theorem d16_31 : decode prog_6_method_1_code 31 = .ok (.aload_n 1, 1) := by decide +kernel
theorem d16_32 : decode prog_6_method_1_code 32 = .ok (.aload_n 1, 1) := by decide +kernel
theorem d16_33 : decode prog_6_method_1_code 33 = .ok (.bipush 46, 2) := by decide +kernel
theorem d16_35 : decode prog_6_method_1_code 35 = .ok (.invokevirtual 29, 3) := by decide +kernel
theorem pd_33 : parseMethodDescriptor "(I)I" = some ⟨[.int], some .int⟩ := by decide +kernel
theorem d16_38 : decode prog_6_method_1_code 38 = .ok (.iconst 1, 1) := by decide +kernel
theorem d16_39 : decode prog_6_method_1_code 39 = .ok (.iadd, 1) := by decide +kernel
theorem d16_40 : decode prog_6_method_1_code 40 = .ok (.invokevirtual 35, 3) := by decide +kernel
theorem pd_34 : parseMethodDescriptor "(I)Ljava/lang/String;" = some ⟨[.int], some (.object "java/lang/String")⟩ := by decide +kernel
theorem d16_43 : decode prog_6_method_1_code 43 = .ok (.astore 5, 2) := by decide +kernel
theorem d16_45 : decode prog_6_method_1_code 45 = .ok (.aload_n 0, 1) := by decide +kernel
theorem d16_46 : decode prog_6_method_1_code 46 = .ok (.aload 5, 2) := by decide +kernel
theorem d16_48 : decode prog_6_method_1_code 48 = .ok (.ldc 39, 2) := by decide +kernel
theorem own_sa {a0 : Array Value} {Z : State} (hw : HW a0 Z) : ∀ a ∈ Bundle.stringAtoms, a.before a0 Z = true := by
  intro a ha
  simp only [Bundle.stringAtoms, List.mem_cons, List.not_mem_nil, or_false] at ha
  rcases ha with rfl | rfl | rfl | rfl | rfl | rfl | rfl
  · exact (oW hw 33 rfl)
  · exact (oW hw 41 rfl)
  · exact (oW hw 45 rfl)
  · exact (oW hw 52 rfl)
  · exact (oW hw 54 rfl)
  · exact (oW hw 95 rfl)
  · exact (oW hw 96 rfl)
theorem d16_50 : decode prog_6_method_1_code 50 = .ok (.invokevirtual 41, 3) := by decide +kernel
theorem pd_35 : parseMethodDescriptor "(Ljava/lang/String;)Z" = some ⟨[(.object "java/lang/String")], some .boolean⟩ := by decide +kernel
theorem d16_53 : decode prog_6_method_1_code 53 = .ok (.putfield 45, 3) := by decide +kernel
theorem d16_56 : decode prog_6_method_1_code 56 = .ok (.aload_n 0, 1) := by decide +kernel
theorem d16_57 : decode prog_6_method_1_code 57 = .ok (.aload_n 0, 1) := by decide +kernel
theorem d16_58 : decode prog_6_method_1_code 58 = .ok (.getfield 45, 3) := by decide +kernel
theorem d16_61 : decode prog_6_method_1_code 61 = .ok (.ifCond .eq 23, 3) := by decide +kernel
theorem d16_84 : decode prog_6_method_1_code 84 = .ok (.aload 5, 2) := by decide +kernel
theorem d16_86 : decode prog_6_method_1_code 86 = .ok (.putfield 56, 3) := by decide +kernel
theorem d16_89 : decode prog_6_method_1_code 89 = .ok (.aload_n 0, 1) := by decide +kernel
theorem d16_90 : decode prog_6_method_1_code 90 = .ok (.iload_n 2, 1) := by decide +kernel
theorem d16_91 : decode prog_6_method_1_code 91 = .ok (.putfield 59, 3) := by decide +kernel
theorem d16_94 : decode prog_6_method_1_code 94 = .ok (.aload_n 0, 1) := by decide +kernel
theorem d16_95 : decode prog_6_method_1_code 95 = .ok (.iload_n 3, 1) := by decide +kernel
theorem d16_96 : decode prog_6_method_1_code 96 = .ok (.putfield 63, 3) := by decide +kernel
theorem d16_99 : decode prog_6_method_1_code 99 = .ok (.aload_n 0, 1) := by decide +kernel
theorem d16_100 : decode prog_6_method_1_code 100 = .ok (.aload 4, 2) := by decide +kernel
theorem d16_102 : decode prog_6_method_1_code 102 = .ok (.invokestatic 66, 3) := by decide +kernel
theorem d16_105 : decode prog_6_method_1_code 105 = .ok (.putfield 72, 3) := by decide +kernel
theorem d16_108 : decode prog_6_method_1_code 108 = .ok (.return_, 1) := by decide +kernel
theorem ef_16 (m : MethodId) (x0 : Addr) (x1 : Addr) (x2 : Int32) (x3 : Int32) (x4 : Addr) : entryFrame m #[(.ref x0), (.ref x1), (.int x2), (.int x3), (.ref x4)] 6 = mkF m 0 #[.val (.ref x0), .val (.ref x1), .val (.int x2), .val (.int x3), .val (.ref x4), .unset] [] := by first | (simp [entryFrame, mkF, argsToLocals, Value.category]; done) | rfl
theorem pn_16 : plainName "com/example/graftwork/graftwork/ElementDefinition" = true := by first | (simp [plainName, overriddenIn]; done) | decide +kernel
theorem rmI3 (l : Launch) (Z : State) (a0 : Array Value) (hw : HW a0 Z) (ws : List Jvm.Cond) (o0 : Addr) (o1 : Addr) (p2 : Int32) (p3 : Int32) (o4 : Addr) (qb : Int32) (tp : Addr) (kp : ClassId) (ad : Addr) (kd : ClassId) (zc : Int32) (fm : Value) (el : Addr) (em : Addr) (ed mr x1 x2 : Addr) (n : Int32) (h0 : Heap) (n0 : Nat) (O0 : Old Z n0 h0) (E_o0 : Exa Z h0 o0 "com/example/graftwork/graftwork/ElementDefinition") (U_o0 : Unt h0 o0) (g_o0 : n0 ≤ o0) (F_reused_o0 : Fld Z h0 o0 "com/example/graftwork/graftwork/ElementDefinition" "reused" "Lcom/example/graftwork/graftwork/ElementDefinition;" .null) (hqb : ¬ (qb = ((46 : Int32).toInt8.toInt32))) (E_o1 : Exa Z h0 o1 "java/lang/String") (F_value_o1 : Fld Z h0 o1 "java/lang/String" "value" "[B" (.ref tp)) (F_coder_o1 : Fld Z h0 o1 "java/lang/String" "coder" "B" (.int 0)) (V_tp : Arv Z h0 tp kp .byte (3 : Int32) [(.int 82), (.int 46), (.int qb)] (.int 0)) (S_DE : Sta Z Z.heap "java/util/ArrayList" "DEFAULTCAPACITY_EMPTY_ELEMENTDATA" "[Ljava/lang/Object;" (.ref ad)) (V_ad : Arv Z Z.heap ad kd (.object "java/lang/Object") (0 : Int32) [] .null) (S_CS : Sta Z Z.heap "java/lang/String" "COMPACT_STRINGS" "Z" (.int zc)) (hzc : ¬ zc = 0) (S_FM : Sta Z Z.heap "jdk/internal/util/Preconditions" "SIOOBE_FORMATTER" "Ljava/util/function/BiFunction;" fm) (hfm : fm.isRef = true) (E_el : Exa Z Z.heap el "java/util/ImmutableCollections$ListN") (S_EMPTY_LIST : Sta Z Z.heap "java/util/ImmutableCollections" "EMPTY_LIST" "Ljava/util/ImmutableCollections$ListN;" (.ref el)) (S_EMPTY : Sta Z Z.heap "java/util/ImmutableCollections" "EMPTY" "Ljava/lang/Object;" (.ref em)) (hmr : own_Mir Z "[Ljava/lang/Object;" mr) (hal : own_AL Z h0 ad o4 ed n x1 x2) :
    MetFree l mN64 (head1 (Jvm.Cond.code mN64 prog_6_method_1_code 6 none :: ws) (rM 8 8 40 115)) (fun a U => a = #[(.ref o0), (.ref o1), (.int p2), (.int p3), (.ref o4)] ∧ Z.Warmed39 U.vm ∧ U.heap = h0 ∧ CHv Z own_EL U.vm h0) (fun _ _ _ _ _ => True) (fun _ U o U' => ∃ v L, o = .returned v ∧ own_QI Z o0 el em n x1 x2 h0 n0 v U'.heap L ∧ CHr Z own_EL U.vm U.heap U'.vm U'.heap ∧ ReturnedEndW U o U' L (rM 8 8 40 115).cells (rM 8 8 40 115).slots) := by
  refine MetFree.of_bodySF (plainFor_of_name pn_16) hisR ?_
  intro p e s m args below meth c s₁ Bd hml0 hP hK
  obtain ⟨rfl, hZ, hh, hch⟩ := hP
  have hx := Bd.exec
  have hby := Bd.bytes
  have hml : c.maxLocals = 6 := hml0
  have hown : s.vm.findClass "com/example/graftwork/graftwork/ElementDefinition" = some m.cls := findClass_of_methodNamed Bd.named
  have hnm := (name_of_methodNamed Bd.named Bd.method).1
  have X0 : Stand p l e (rM 8 8 40 115) s m #[(.ref o0), (.ref o1), (.int p2), (.int p3), (.ref o4)] below meth c s₁ [] 0 0 := Stand.of_body Bd
  have e0 : s₁.heap = h0 := by rw [← hh, Bd.state]; rfl
  have N0 := Fr.nil n0
  have pre0 := fun t (k : oS p e below s₁ m 0 #[vR o0, vR o1, vI p2, vI p3, vR o4, .unset] [] t) => castTop (ef_16 m o0 o1 p2 p3 o4) k
  have Sn0 : s.Since s.vm 0 := (State.WarmedH.refl s).since 0
  have XS0 : Stand p l e _ (s.setVm s.vm) m #[(.ref o0), (.ref o1), (.int p2), (.int p3), (.ref o4)] below meth c s₁ _ 0 0 := X0
  have hZS : Z.Warmed39 s.vm := hZ
  have hownS : s.vm.findClass "com/example/graftwork/graftwork/ElementDefinition" = some m.cls := hown
  have C0 : CHr Z own_EL s.vm h0 s.vm h0 := CHr.refl hch
  have ne1 := Exa.ne E_o1 E_o0 (by decide)
  have ne2 := Exa.neArv E_o0 V_tp (oW hw 92 rfl)
  have ne3 := Exa.ne hal.exa E_o0 (by decide)
  have ne4 := hal.nee (V_ad.ext O0.2) E_o0 (oW hw 92 rfl)
  have hel : el < n0 := O0.1 ▸ E_el.lt
  obtain ⟨T1, X1, e1, st1⟩ := initO XS0 hx hZS hownS (oW hw 100 rfl) (oW hw 23 rfl) (oW hw 24 rfl) e0 (g := (mkF m 1 #[vR o0, vR o1, vI p2, vI p3, vR o4, .unset] [(.ref o0)])) rfl (by rw [hml]; rfl) rfl (hb hby d16_1) (by decide) (W := 0) (by show 2 * 0 + _ ≤ _; exact Nat.le_of_eq rfl) (by decide)
  obtain ⟨T2, h2, X2, e2, E2, A2, D2, U2, st2⟩ := newO X1 hx hZS hownS (oW hw 101 rfl) (oW hw 102 rfl) (oW hw 103 rfl) e1 (g := (mkF m 5 #[vR o0, vR o1, vI p2, vI p3, vR o4, .unset] [(.ref o0)])) rfl (hb hby d16_5) (by decide) (by decide)
  obtain ⟨b2, g2⟩ : ∃ z, z = h0.size := ⟨_, rfl⟩
  rw [← g2] at A2 D2 U2 st2
  have Ut2 : Unt h2 b2 := U2
  have g_b2 : n0 ≤ b2 := Nat.le_trans (own_le O0) (Nat.le_of_eq g2.symm)
  have C2 := C0.trans (CHr.ext E2 C0.1)
  have O2 := O0.ext E2
  have F_loadFactor_b2 : Fld Z h2 b2 "java/util/HashMap" "loadFactor" "F" (.float (0 : UInt32)) := D2 (Or.inr (oW hw 122 rfl)) (ty := .float) (by decide)
  have F_putMode_b2 : Fld Z h2 b2 "java/util/LinkedHashMap" "putMode" "I" (.int 0) := D2 (Or.inl (oW hw 124 rfl)) (ty := .int) (by decide)
  have F_accessOrder_b2 : Fld Z h2 b2 "java/util/LinkedHashMap" "accessOrder" "Z" (.int 0) := D2 (Or.inr (oW hw 126 rfl)) (ty := .boolean) (by decide)
  obtain ⟨_, _, ⟨T3, L3, k3, n3⟩, -, X3, ⟨Lc3, hQ3, l3, y3, z3⟩, st3⟩ := X2.specialBack hx (y := mN34) rfl hownS (mvT hZS (oW hw 104 rfl)) (mvT hZS (oW hw 105 rfl)) (mvT hZS (oW hw 106 rfl)) (by decide) (backOf (W := 2) (rmLHM l Z a0 hw [] b2  h2 n0 O2 A2 F_loadFactor_b2 F_putMode_b2 F_accessOrder_b2 g_b2) hZS (oW hw 106 rfl) (oW hw 103 rfl) (by decide) (by decide)) (g := (mkF m 9 #[vR o0, vR o1, vI p2, vI p3, vR o4, .unset] [(.ref b2), (.ref b2), (.ref o0)])) rfl (by rw [hml]; rfl) (Steps.refl _) (a := b2) (argsL := []) (rest := [(.ref b2), (.ref o0)]) (lenOf pd_0 rfl) rfl (by show 2 * 0 + _ ≤ _; exact Nat.le_of_eq rfl) (hb hby d16_9) (fun _ _ => ⟨rfl, e2, (by decide : 1 + 0 ≤ _), (by decide : 12 + 0 ≤ _)⟩)
  dsimp only [Pt.U, Pt.locs, Pt.cells, Pt.slots] at X3 l3 y3 z3 st3 hQ3
  subst l3 y3 z3
  obtain ⟨rfl, N3q, K3⟩ := hQ3
  have N3 := Fr.app N0 N3q
  have C3 := C2.trans (CHr.keep K3 (allS (Safe.exa hZS.alike A2 (by decide) (by decide)) all0) C2.1)
  have O3 := O2.keep K3 (allS g_b2 all0)
  have u_o0_2_x := ((Unt.ext E2 U_o0).keep K3 (ninS (Nat.ne_of_lt (Nat.lt_of_lt_of_le F_reused_o0.lt (Nat.le_of_eq g2.symm))) nin0))
  obtain ⟨uo4, Fo4⟩ := fld_laid ((E_o0.ext E2).keep K3) (Unt.known u_o0_2_x) (oW hw 92 rfl) (Or.inr (oW hw 128 rfl))
  obtain ⟨T4, h4, X4, e4, W4, st4⟩ := putF X3 hx hZS hownS (host := "") (Or.inl (oW hw 127 rfl)) Via.refl rfl Fo4 ((E_o0.ext E2).keep K3) (Or.inr ⟨(oW hw 128 rfl), rfl, hnm⟩) (oW hw 92 rfl) (ty := (.object "java/util/Map")) (by decide) rfl rfl (g := (mkF m 12 #[vR o0, vR o1, vI p2, vI p3, vR o4, .unset] [(.ref b2), (.ref o0)])) rfl rfl (hb hby d16_12)
  have C4 := C3.trans (CHr.wr W4 (Safe.exa hZS.alike ((E_o0.ext E2).keep K3) (by decide) (by decide)) C3.1)
  have O4 := O3.wr W4 g_o0
  have Fw4 := Fo4.same W4
  have N4 := Fr.snoc X4 N3 g_o0
  obtain ⟨T5, h5, X5, e5, E5, A5, D5, U5, st5⟩ := newO X4 hx hZS hownS (oW hw 129 rfl) (oW hw 5 rfl) (oW hw 6 rfl) e4 (g := (mkF m 16 #[vR o0, vR o1, vI p2, vI p3, vR o4, .unset] [(.ref o0)])) rfl (hb hby d16_16) (by decide) (by decide)
  obtain ⟨b5, g5⟩ : ∃ z, z = h4.size := ⟨_, rfl⟩
  rw [← g5] at A5 D5 U5 st5
  have Ut5 : Unt h5 b5 := U5
  have g_b5 : n0 ≤ b5 := Nat.le_trans (own_le O4) (Nat.le_of_eq g5.symm)
  have C5 := C4.trans (CHr.ext E5 C4.1)
  have O5 := O4.ext E5
  have F_modCount_b5 : Fld Z h5 b5 "java/util/AbstractList" "modCount" "I" (.int 0) := D5 (Or.inl (oW hw 26 rfl)) (ty := .int) (by decide)
  have F_elementData_b5 : Fld Z h5 b5 "java/util/ArrayList" "elementData" "[Ljava/lang/Object;" .null := D5 (Or.inl (oW hw 29 rfl)) (ty := (.array (.object "java/lang/Object"))) (by decide)
  have F_size_b5 : Fld Z h5 b5 "java/util/ArrayList" "size" "I" (.int 0) := D5 (Or.inl (oW hw 63 rfl)) (ty := .int) (by decide)
  obtain ⟨_, _, ⟨T6, L6, k6, n6⟩, -, X6, ⟨Lc6, hQ6, l6, y6, z6⟩, st6⟩ := X5.specialBack hx (y := mN2) rfl hownS (mvT hZS (oW hw 130 rfl)) (mvT hZS (oW hw 8 rfl)) (mvT hZS (oW hw 9 rfl)) (by decide) (backOf (W := 2) (rmA0 l Z a0 hw [] b5 ad kd h5 n0 O5 A5 F_modCount_b5 F_size_b5 F_elementData_b5 g_b5 S_DE V_ad) hZS (oW hw 9 rfl) (oW hw 6 rfl) (by decide) (by decide)) (g := (mkF m 20 #[vR o0, vR o1, vI p2, vI p3, vR o4, .unset] [(.ref b5), (.ref b5), (.ref o0)])) rfl (by rw [hml]; rfl) (Steps.refl _) (a := b5) (argsL := []) (rest := [(.ref b5), (.ref o0)]) (lenOf pd_0 rfl) rfl (by show 2 * 0 + _ ≤ _; exact Nat.le_of_eq rfl) (hb hby d16_20) (fun _ _ => ⟨rfl, e5, (by decide : 2 + 0 ≤ _), (by decide : 15 + 0 ≤ _)⟩)
  dsimp only [Pt.U, Pt.locs, Pt.cells, Pt.slots] at X6 l6 y6 z6 st6 hQ6
  subst l6 y6 z6
  obtain ⟨rfl, N6q, K6, Fm6, Fs6, Fe6⟩ := hQ6
  have N6 := Fr.app N4 N6q
  have C6 := C5.trans (CHr.keep K6 (allS (Safe.exa hZS.alike A5 (by decide) (by decide)) all0) C5.1)
  have O6 := O5.keep K6 (allS g_b5 all0)
  have u_o0_5_x := ((Unt.ext E5 (Unt.wr W4 u_o0_2_x)).keep K6 (ninS (Nat.ne_of_lt (Nat.lt_of_lt_of_le Fw4.lt (Nat.le_of_eq g5.symm))) nin0))
  obtain ⟨uo7, Fo7⟩ := fld_laid (((((E_o0.ext E2).keep K3).wr W4).ext E5).keep K6) (Unt.known u_o0_5_x) (oW hw 92 rfl) (Or.inr (oW hw 132 rfl))
  obtain ⟨T7, h7, X7, e7, W7, st7⟩ := putF X6 hx hZS hownS (host := "") (Or.inl (oW hw 131 rfl)) Via.refl rfl Fo7 (((((E_o0.ext E2).keep K3).wr W4).ext E5).keep K6) (Or.inr ⟨(oW hw 132 rfl), rfl, hnm⟩) (oW hw 92 rfl) (ty := (.object "java/util/List")) (by decide) rfl rfl (g := (mkF m 23 #[vR o0, vR o1, vI p2, vI p3, vR o4, .unset] [(.ref b5), (.ref o0)])) rfl rfl (hb hby d16_23)
  have C7 := C6.trans (CHr.wr W7 (Safe.exa hZS.alike (((((E_o0.ext E2).keep K3).wr W4).ext E5).keep K6) (by decide) (by decide)) C6.1)
  have O7 := O6.wr W7 g_o0
  have Fw7 := Fo7.same W7
  have N7 := Fr.snoc X7 N6 g_o0
  obtain ⟨uo8, Fo8⟩ := fld_laid ((((((E_o0.ext E2).keep K3).wr W4).ext E5).keep K6).wr W7) (Unt.known (Unt.wr W7 u_o0_5_x)) (oW hw 92 rfl) (Or.inr (oW hw 134 rfl))
  obtain ⟨T8, h8, X8, e8, W8, st8⟩ := putF X7 hx hZS hownS (host := "") (Or.inl (oW hw 133 rfl)) Via.refl e7 Fo8 ((((((E_o0.ext E2).keep K3).wr W4).ext E5).keep K6).wr W7) (Or.inr ⟨(oW hw 134 rfl), rfl, hnm⟩) (oW hw 92 rfl) (ty := (.object "java/lang/String")) (by decide) rfl rfl (g := (mkF m 28 #[vR o0, vR o1, vI p2, vI p3, vR o4, .unset] [(.ref o1), (.ref o0)])) rfl rfl (hb hby d16_28)
  have C8 := C7.trans (CHr.wr W8 (Safe.exa hZS.alike ((((((E_o0.ext E2).keep K3).wr W4).ext E5).keep K6).wr W7) (by decide) (by decide)) C7.1)
  have O8 := O7.wr W8 g_o0
  have Fw8 := Fo8.same W8
  have N8 := Fr.snoc X8 N7 g_o0
  have e_o1_7_x := (((((((E_o1.ext E2).keep K3).wr W4).ext E5).keep K6).wr W7).wr W8)
  have f_o1_7_value := (((((((F_value_o1.ext E2).keep K3 (ninS (Nat.ne_of_lt (Nat.lt_of_lt_of_le F_value_o1.lt (Nat.le_of_eq g2.symm))) nin0)).other W4 (Or.inl ne1)).ext E5).keep K6 (ninS (Nat.ne_of_lt (Nat.lt_of_lt_of_le (Nat.lt_of_lt_of_le F_value_o1.lt (Nat.le_trans (Nat.le_trans E2.1 K3.1) (Keep.of_wr W4).1)) (Nat.le_of_eq g5.symm))) nin0)).other W7 (Or.inl ne1)).other W8 (Or.inl ne1))
  have f_o1_7_coder := (((((((F_coder_o1.ext E2).keep K3 (ninS (Nat.ne_of_lt (Nat.lt_of_lt_of_le F_coder_o1.lt (Nat.le_of_eq g2.symm))) nin0)).other W4 (Or.inl ne1)).ext E5).keep K6 (ninS (Nat.ne_of_lt (Nat.lt_of_lt_of_le (Nat.lt_of_lt_of_le F_coder_o1.lt (Nat.le_trans (Nat.le_trans E2.1 K3.1) (Keep.of_wr W4).1)) (Nat.le_of_eq g5.symm))) nin0)).other W7 (Or.inl ne1)).other W8 (Or.inl ne1))
  have v_tp_7_x := (((((((V_tp.ext E2).keep K3 (ninS (Nat.ne_of_lt (Nat.lt_of_lt_of_le V_tp.lt (Nat.le_of_eq g2.symm))) nin0)).other W4 (Ne.symm ne2)).ext E5).keep K6 (ninS (Nat.ne_of_lt (Nat.lt_of_lt_of_le (Nat.lt_of_lt_of_le V_tp.lt (Nat.le_trans (Nat.le_trans E2.1 K3.1) (Keep.of_wr W4).1)) (Nat.le_of_eq g5.symm))) nin0)).other W7 (Ne.symm ne2)).other W8 (Ne.symm ne2))
  obtain ⟨cq9, kq9, q9a, q9b, q9c⟩ := isOf hZS e8 e_o1_7_x
  obtain ⟨_, _, ⟨T9, L9, k9, n9⟩, -, X9, ⟨Lc9, hQ9, l9, y9, z9⟩, st9⟩ := X8.virtualBack hx (y := mN41) (z := mN41) hownS (mvT hZS (oW hw 135 rfl)) (mvT hZS (oW hw 136 rfl)) (notFace_of_selects (args := #[]) (mvT hZS (oW hw 138 rfl))) (mvT hZS (oW hw 138 rfl)) (mvT hZS (oW hw 137 rfl)) (by decide) (backOf (W := 1) (rmLI3 l Z a0 hw [] o1 qb tp kp zc h8 n0 O8 hqb e_o1_7_x f_o1_7_value f_o1_7_coder v_tp_7_x S_CS hzc) hZS (oW hw 139 rfl) (oW hw 33 rfl) (by decide) (by decide)) q9a q9c (g := (mkF m 35 #[vR o0, vR o1, vI p2, vI p3, vR o4, .unset] [(.int 46), (.ref o1), (.ref o1)])) rfl (by rw [hml]; rfl) (Steps.refl _) (argsL := [(.int 46)]) (rest := [(.ref o1)]) (lenOf pd_33 rfl) rfl (by show 2 * 0 + _ ≤ _; exact Nat.le_of_eq rfl) (hb hby d16_35) (fun _ _ => ⟨rfl, e8, (by decide : 2 + 0 ≤ _), (by decide : 15 + 0 ≤ _)⟩)
  dsimp only [Pt.U, Pt.locs, Pt.cells, Pt.slots] at X9 l9 y9 z9 st9 hQ9
  subst l9 y9 z9
  obtain ⟨rfl, N9q, e9⟩ := hQ9
  have N9 := Fr.app N8 N9q
  obtain ⟨cq10, kq10, q10a, q10b, q10c⟩ := isOf hZS e9 e_o1_7_x
  obtain ⟨_, _, ⟨T10, L10, k10, n10⟩, -, X10, ⟨Lc10, hQ10, l10, y10, z10⟩, st10⟩ := X9.virtualBack hx (y := mN49) (z := mN49) hownS (mvT hZS (oW hw 169 rfl)) (mvT hZS (oW hw 170 rfl)) (notFace_of_selects (args := #[]) (mvT hZS (oW hw 172 rfl))) (mvT hZS (oW hw 172 rfl)) (mvT hZS (oW hw 171 rfl)) (by decide) (backOf (W := 0) (rmSS3 l Z a0 hw [] o1 qb tp kp zc fm h8 n0 O8 e_o1_7_x f_o1_7_value f_o1_7_coder v_tp_7_x S_CS hzc S_FM hfm) hZS (oW hw 173 rfl) (oW hw 33 rfl) (by decide) (by decide)) q10a q10c (g := (mkF m 40 #[vR o0, vR o1, vI p2, vI p3, vR o4, .unset] [(.int 2), (.ref o1)])) rfl (by rw [hml]; rfl) (Steps.refl _) (argsL := [(.int 2)]) (rest := []) (lenOf pd_34 rfl) rfl (by show 2 * 0 + _ ≤ _; exact Nat.le_of_eq rfl) (hb hby d16_40) (fun _ _ => ⟨rfl, e9, (by decide : 2 + 2 ≤ _), (by decide : 15 + 5 ≤ _)⟩)
  dsimp only [Pt.U, Pt.locs, Pt.cells, Pt.slots] at X10 l10 y10 z10 st10 hQ10
  subst l10 y10 z10
  obtain ⟨x10, t10, k910, rfl, N10q, K10, Ex10, Fv10, Fc10, Vt10⟩ := hQ10
  have N10 := Fr.app N9 N10q
  have C10 := C8.trans (CHr.keep K10 all0 C8.1)
  have O10 := O8.keep K10 all0
  have e_o0_8_x := ((((((((E_o0.ext E2).keep K3).wr W4).ext E5).keep K6).wr W7).wr W8).keep K10)
  have nx_x10 := Exa.ne Ex10 e_o0_8_x (by decide)
  have ny_x10 := Exa.neArv e_o0_8_x Vt10 (oW hw 92 rfl)
  obtain ⟨sa11, T11, h11, ks11, tb11, kb11, X11, e11, E11, Sn11, hk11, hZ11, hown11, Ea11, Fc11, Fv11, Vb11, la11, lb11, Cl11, Lt11, ns11, st11⟩ := ldcCH X10 hx hZS hownS (oW hw 207 rfl) (own_sa hw) rfl Sn0 (Nat.le_trans (Nat.zero_le _) (Nat.le_trans (Nat.le_trans (Nat.le_trans (Nat.le_trans (Nat.le_trans (Nat.le_trans (Nat.le_trans E2.1 K3.1) (Keep.of_wr W4).1) E5.1) K6.1) (Keep.of_wr W7).1) (Keep.of_wr W8).1) K10.1)) (own_EW hw) (by decide) C10.1 (vs := [(.int 91), (.int 120), (.int 93)]) (z := (3 : Int32)) ⟨by decide, rfl⟩ (by decide) (by decide) (g := (mkF m 48 #[vR o0, vR o1, vI p2, vI p3, vR o4, vR x10] [(.ref x10), (.ref o0)])) rfl (hb hby d16_48) (n := 12) (by decide) (by decide) (by decide) (by decide)
  have C11 := C10.trans Cl11
  have O11 := O10.ext E11
  have nx_sa11 := Exa.ne Ea11 (e_o0_8_x.ext E11) (by decide)
  have ny_sa11 := Exa.neArv (e_o0_8_x.ext E11) Vb11 (oW hw 92 rfl)
  obtain ⟨cq12, kq12, q12a, q12b, q12c⟩ := isOf hZ11 e11 (Ex10.ext E11)
  obtain ⟨_, _, ⟨T12, L12, k12, n12⟩, -, X12, ⟨Lc12, hQ12, l12, y12, z12⟩, st12⟩ := X11.virtualBack hx (y := mN52) (z := mN52) hown11 (mvT hZ11 (oW hw 208 rfl)) (mvT hZ11 (oW hw 209 rfl)) (notFace_of_selects (args := #[]) (mvT hZ11 (oW hw 211 rfl))) (mvT hZ11 (oW hw 211 rfl)) (mvT hZ11 (oW hw 210 rfl)) (by decide) (backOf (W := 1) (rmEW3 l Z a0 hw [] x10 sa11 qb t10 k910 tb11 kb11 zc h11 n0 O11 (Ex10.ext E11) (Fv10.ext E11) (Fc10.ext E11) (Vt10.ext E11) Ea11 Fv11 Fc11 Vb11 S_CS hzc) hZ11 (oW hw 212 rfl) (oW hw 33 rfl) (by decide) (by decide)) q12a q12c (g := (mkF m 50 #[vR o0, vR o1, vI p2, vI p3, vR o4, vR x10] [(.ref sa11), (.ref x10), (.ref o0)])) rfl (by rw [hml]; rfl) (Steps.refl _) (argsL := [(.ref sa11)]) (rest := [(.ref o0)]) (lenOf pd_35 rfl) rfl (by show 2 * 0 + _ ≤ _; exact Nat.le_of_eq rfl) (hb hby d16_50) (fun _ _ => ⟨rfl, e11, (by decide : 6 + 0 ≤ _), (by decide : 36 + 0 ≤ _)⟩)
  dsimp only [Pt.U, Pt.locs, Pt.cells, Pt.slots] at X12 l12 y12 z12 st12 hQ12
  subst l12 y12 z12
  obtain ⟨rfl, N12q, e12⟩ := hQ12
  have N12 := Fr.app N10 N12q
  have u_o0_9_x := (Unt.ext E11 ((Unt.wr W8 (Unt.wr W7 u_o0_5_x)).keep K10 nin0))
  obtain ⟨uo13, Fo13⟩ := fld_laid (e_o0_8_x.ext E11) (Unt.known u_o0_9_x) (oW hw 92 rfl) (Or.inr (oW hw 219 rfl))
  obtain ⟨T13, h13, X13, e13, W13, st13⟩ := putFN X12 hx hZ11 hown11 (oW hw 218 rfl) Via.refl e12 Fo13 (e_o0_8_x.ext E11) (Or.inr ⟨(oW hw 219 rfl), rfl, hnm⟩) (oW hw 92 rfl) (ty := .boolean) (v' := (.int 0)) (by decide) rfl (by decide) (g := (mkF m 53 #[vR o0, vR o1, vI p2, vI p3, vR o4, vR x10] [(.int 0), (.ref o0)])) rfl rfl (hb hby d16_53)
  have C13 := C11.trans (CHr.wr W13 (Safe.exa hZ11.alike (e_o0_8_x.ext E11) (by decide) (by decide)) C11.1)
  have O13 := O11.wr W13 g_o0
  have Fw13 := Fo13.same W13
  have N13 := Fr.snoc X13 N12 g_o0
  obtain ⟨T14, X14, e14, st14⟩ := getF X13 hx hZ11 hown11 (host := "") (Or.inl (oW hw 218 rfl)) Via.refl e13 Fw13 (g := (mkF m 58 #[vR o0, vR o1, vI p2, vI p3, vR o4, vR x10] [(.ref o0), (.ref o0)])) rfl rfl (hb hby d16_58)
  obtain ⟨uo15, Fo15⟩ := fld_laid ((e_o0_8_x.ext E11).wr W13) (Unt.known (Unt.wr W13 u_o0_9_x)) (oW hw 92 rfl) (Or.inr (oW hw 221 rfl))
  obtain ⟨T15, h15, X15, e15, W15, st15⟩ := putF X14 hx hZ11 hown11 (host := "") (Or.inl (oW hw 220 rfl)) Via.refl e14 Fo15 ((e_o0_8_x.ext E11).wr W13) (Or.inr ⟨(oW hw 221 rfl), rfl, hnm⟩) (oW hw 92 rfl) (ty := (.object "java/lang/String")) (by decide) rfl rfl (g := (mkF m 86 #[vR o0, vR o1, vI p2, vI p3, vR o4, vR x10] [(.ref x10), (.ref o0)])) rfl rfl (hb hby d16_86)
  have C15 := C13.trans (CHr.wr W15 (Safe.exa hZ11.alike ((e_o0_8_x.ext E11).wr W13) (by decide) (by decide)) C13.1)
  have O15 := O13.wr W15 g_o0
  have Fw15 := Fo15.same W15
  have N15 := Fr.snoc X15 N13 g_o0
  obtain ⟨uo16, Fo16⟩ := fld_laid (((e_o0_8_x.ext E11).wr W13).wr W15) (Unt.known (Unt.wr W15 (Unt.wr W13 u_o0_9_x))) (oW hw 92 rfl) (Or.inr (oW hw 223 rfl))
  obtain ⟨T16, h16, X16, e16, W16, st16⟩ := putF X15 hx hZ11 hown11 (host := "") (Or.inl (oW hw 222 rfl)) Via.refl e15 Fo16 (((e_o0_8_x.ext E11).wr W13).wr W15) (Or.inr ⟨(oW hw 223 rfl), rfl, hnm⟩) (oW hw 92 rfl) (ty := .int) (by decide) rfl rfl (g := (mkF m 91 #[vR o0, vR o1, vI p2, vI p3, vR o4, vR x10] [(.int p2), (.ref o0)])) rfl rfl (hb hby d16_91)
  have C16 := C15.trans (CHr.wr W16 (Safe.exa hZ11.alike (((e_o0_8_x.ext E11).wr W13).wr W15) (by decide) (by decide)) C15.1)
  have O16 := O15.wr W16 g_o0
  have Fw16 := Fo16.same W16
  have N16 := Fr.snoc X16 N15 g_o0
  obtain ⟨uo17, Fo17⟩ := fld_laid ((((e_o0_8_x.ext E11).wr W13).wr W15).wr W16) (Unt.known (Unt.wr W16 (Unt.wr W15 (Unt.wr W13 u_o0_9_x)))) (oW hw 92 rfl) (Or.inr (oW hw 225 rfl))
  obtain ⟨T17, h17, X17, e17, W17, st17⟩ := putF X16 hx hZ11 hown11 (host := "") (Or.inl (oW hw 224 rfl)) Via.refl e16 Fo17 ((((e_o0_8_x.ext E11).wr W13).wr W15).wr W16) (Or.inr ⟨(oW hw 225 rfl), rfl, hnm⟩) (oW hw 92 rfl) (ty := .int) (by decide) rfl rfl (g := (mkF m 96 #[vR o0, vR o1, vI p2, vI p3, vR o4, vR x10] [(.int p3), (.ref o0)])) rfl rfl (hb hby d16_96)
  have C17 := C16.trans (CHr.wr W17 (Safe.exa hZ11.alike ((((e_o0_8_x.ext E11).wr W13).wr W15).wr W16) (by decide) (by decide)) C16.1)
  have O17 := O16.wr W17 g_o0
  have Fw17 := Fo17.same W17
  have N17 := Fr.snoc X17 N16 g_o0
  have a_o4_13_ed := (((((((((((((hal.ext E2).keep K3 (ninS (Nat.ne_of_lt (Nat.lt_of_lt_of_le hal.ltl (Nat.le_of_eq g2.symm))) nin0) (ninS (Nat.ne_of_lt (Nat.lt_of_lt_of_le hal.lte (Nat.le_of_eq g2.symm))) nin0)).other W4 ne3 ne4).ext E5).keep K6 (ninS (Nat.ne_of_lt (Nat.lt_of_lt_of_le (Nat.lt_of_lt_of_le hal.ltl (Nat.le_trans (Nat.le_trans E2.1 K3.1) (Keep.of_wr W4).1)) (Nat.le_of_eq g5.symm))) nin0) (ninS (Nat.ne_of_lt (Nat.lt_of_lt_of_le (Nat.lt_of_lt_of_le hal.lte (Nat.le_trans (Nat.le_trans E2.1 K3.1) (Keep.of_wr W4).1)) (Nat.le_of_eq g5.symm))) nin0)).other W7 ne3 ne4).other W8 ne3 ne4).keep K10 nin0 nin0).ext E11).other W13 ne3 ne4).other W15 ne3 ne4).other W16 ne3 ne4).other W17 ne3 ne4)
  obtain ⟨_, _, ⟨T18, L18, k18, n18⟩, -, X18, ⟨Lc18, hQ18, l18, y18, z18⟩, st18⟩ := Jvm.LawKit.callS X17 hx (y := mN31) hown11 (mvT hZ11 (oW hw 226 rfl)) (mvT hZ11 (oW hw 227 rfl)) (mvT hZ11 (oW hw 228 rfl)) (mvT hZ11 (oW hw 229 rfl)) (by decide) (backOf (W := 1) (rmCp l Z a0 hw [] o4 ad ed el em mr x1 x2 n h17 n0 O17 S_EMPTY_LIST S_EMPTY hmr a_o4_13_ed) hZ11 (oW hw 229 rfl) (oW hw 228 rfl) (by decide) (by decide)) (g := (mkF m 102 #[vR o0, vR o1, vI p2, vI p3, vR o4, vR x10] [(.ref o4), (.ref o0)])) rfl (by rw [hml]; rfl) (argsL := [(.ref o4)]) (rest := [(.ref o0)]) (lenOf pd_18 rfl) rfl (by show 2 * 0 + _ ≤ _; exact Nat.le_of_eq rfl) (hb hby d16_102) (fun _ _ => ⟨rfl, e17, (by decide : 6 + 2 ≤ _), (by decide : 36 + 4 ≤ _)⟩)
  dsimp only [Pt.U, Pt.locs, Pt.cells, Pt.slots] at X18 l18 y18 z18 st18 hQ18
  subst l18 y18 z18
  obtain ⟨b18, rfl, N18q, K18, Il18⟩ := hQ18
  have N18 := Fr.app N17 N18q
  have C18 := C17.trans (CHr.keep K18 all0 C17.1)
  have O18 := O17.keep K18 all0
  have e_o0_14_x := ((((((e_o0_8_x.ext E11).wr W13).wr W15).wr W16).wr W17).keep K18)
  have neg := own_IL.neo Il18 hel e_o0_14_x g_o0 (by decide)
  have u_o0_14_x := ((Unt.wr W17 (Unt.wr W16 (Unt.wr W15 (Unt.wr W13 u_o0_9_x)))).keep K18 nin0)
  obtain ⟨uo19, Fo19⟩ := fld_laid e_o0_14_x (Unt.known u_o0_14_x) (oW hw 92 rfl) (Or.inr (oW hw 254 rfl))
  obtain ⟨T19, h19, X19, e19, W19, st19⟩ := putF X18 hx hZ11 hown11 (host := "") (Or.inl (oW hw 253 rfl)) Via.refl rfl Fo19 e_o0_14_x (Or.inr ⟨(oW hw 254 rfl), rfl, hnm⟩) (oW hw 92 rfl) (ty := (.object "java/util/List")) (by decide) rfl rfl (g := (mkF m 105 #[vR o0, vR o1, vI p2, vI p3, vR o4, vR x10] [(.ref b18), (.ref o0)])) rfl rfl (hb hby d16_105)
  have C19 := C18.trans (CHr.wr W19 (Safe.exa hZ11.alike e_o0_14_x (by decide) (by decide)) C18.1)
  have O19 := O18.wr W19 g_o0
  have Fw19 := Fo19.same W19
  have N19 := Fr.snoc X19 N18 g_o0
  have f_o0_15_reused := (((((((((((((((F_reused_o0.ext E2).keep K3 (ninS (Nat.ne_of_lt (Nat.lt_of_lt_of_le F_reused_o0.lt (Nat.le_of_eq g2.symm))) nin0)).other W4 (Or.inr (slot_ne (Or.inl (oW hw 323 rfl)) (Or.inr (oW hw 128 rfl)) (by decide) (t := (.object "com/example/graftwork/graftwork/ElementDefinition")) (t' := (.object "java/util/Map")) (by decide) (by decide)))).ext E5).keep K6 (ninS (Nat.ne_of_lt (Nat.lt_of_lt_of_le Fw4.lt (Nat.le_of_eq g5.symm))) nin0)).other W7 (Or.inr (slot_ne (Or.inl (oW hw 323 rfl)) (Or.inr (oW hw 132 rfl)) (by decide) (t := (.object "com/example/graftwork/graftwork/ElementDefinition")) (t' := (.object "java/util/List")) (by decide) (by decide)))).other W8 (Or.inr (slot_ne (Or.inl (oW hw 323 rfl)) (Or.inr (oW hw 134 rfl)) (by decide) (t := (.object "com/example/graftwork/graftwork/ElementDefinition")) (t' := (.object "java/lang/String")) (by decide) (by decide)))).keep K10 nin0).ext E11).other W13 (Or.inr (slot_ne (Or.inl (oW hw 323 rfl)) (Or.inr (oW hw 219 rfl)) (by decide) (t := (.object "com/example/graftwork/graftwork/ElementDefinition")) (t' := .boolean) (by decide) (by decide)))).other W15 (Or.inr (slot_ne (Or.inl (oW hw 323 rfl)) (Or.inr (oW hw 221 rfl)) (by decide) (t := (.object "com/example/graftwork/graftwork/ElementDefinition")) (t' := (.object "java/lang/String")) (by decide) (by decide)))).other W16 (Or.inr (slot_ne (Or.inl (oW hw 323 rfl)) (Or.inr (oW hw 223 rfl)) (by decide) (t := (.object "com/example/graftwork/graftwork/ElementDefinition")) (t' := .int) (by decide) (by decide)))).other W17 (Or.inr (slot_ne (Or.inl (oW hw 323 rfl)) (Or.inr (oW hw 225 rfl)) (by decide) (t := (.object "com/example/graftwork/graftwork/ElementDefinition")) (t' := .int) (by decide) (by decide)))).keep K18 nin0).other W19 (Or.inr (slot_ne (Or.inl (oW hw 323 rfl)) (Or.inr (oW hw 254 rfl)) (by decide) (t := (.object "com/example/graftwork/graftwork/ElementDefinition")) (t' := (.object "java/util/List")) (by decide) (by decide))))
  obtain ⟨fs, hr, hrun, hended, hRW⟩ := X19.leaveW Sn11 (by rw [e19]; exact (Nat.le_trans hk11 (Nat.le_trans (Nat.le_trans (Nat.le_trans (Nat.le_trans (Nat.le_trans (Keep.of_wr W13).1 (Keep.of_wr W15).1) (Keep.of_wr W16).1) (Keep.of_wr W17).1) K18.1) (Keep.of_wr W19).1))) (v := none) (fun _ => rfl)
  have hCE : CHr Z own_EL s.vm h0 T19.vm h19 := C19.trans (CHv.at X19 hZ11 (own_EW hw) C19.1)
  refine ⟨_, _, pre0 _ ?_, hrun, hended, _, _, rfl, ?_, (by show CHr Z own_EL s.vm s.heap T19.vm T19.heap; rw [hh, e19]; exact hCE), hRW.1, hRW.2.1, hRW.2.2.1, hRW.2.2.2.mono (by decide) (by decide)⟩
  · show oS p e below s₁ m 0 #[vR o0, vR o1, vI p2, vI p3, vR o4, .unset] [] _
    refine XS.aloadN XS0.here hx rfl (hb hby d16_0) rfl rfl ?_
    show oS p e below s₁ m 1 #[vR o0, vR o1, vI p2, vI p3, vR o4, .unset] [(.ref o0)] _
    refine st1 _ ?_
    show oS p e below T1 m 4 #[vR o0, vR o1, vI p2, vI p3, vR o4, .unset] [] _
    refine XS.aloadN X1.here hx rfl (hb hby d16_4) rfl rfl ?_
    show oS p e below T1 m 5 #[vR o0, vR o1, vI p2, vI p3, vR o4, .unset] [(.ref o0)] _
    refine st2 _ ?_
    show oS p e below T2 m 8 #[vR o0, vR o1, vI p2, vI p3, vR o4, .unset] [(.ref b2), (.ref o0)] _
    refine XS.dup X2.here hx rfl (hb hby d16_8) rfl rfl ?_
    show oS p e below T2 m 9 #[vR o0, vR o1, vI p2, vI p3, vR o4, .unset] [(.ref b2), (.ref b2), (.ref o0)] _
    refine st3.trans ?_
    show oS p e below T3 m 12 #[vR o0, vR o1, vI p2, vI p3, vR o4, .unset] [(.ref b2), (.ref o0)] _
    refine st4 _ ?_
    show oS p e below T4 m 15 #[vR o0, vR o1, vI p2, vI p3, vR o4, .unset] [] _
    refine XS.aloadN X4.here hx rfl (hb hby d16_15) rfl rfl ?_
    show oS p e below T4 m 16 #[vR o0, vR o1, vI p2, vI p3, vR o4, .unset] [(.ref o0)] _
    refine st5 _ ?_
    show oS p e below T5 m 19 #[vR o0, vR o1, vI p2, vI p3, vR o4, .unset] [(.ref b5), (.ref o0)] _
    refine XS.dup X5.here hx rfl (hb hby d16_19) rfl rfl ?_
    show oS p e below T5 m 20 #[vR o0, vR o1, vI p2, vI p3, vR o4, .unset] [(.ref b5), (.ref b5), (.ref o0)] _
    refine st6.trans ?_
    show oS p e below T6 m 23 #[vR o0, vR o1, vI p2, vI p3, vR o4, .unset] [(.ref b5), (.ref o0)] _
    refine st7 _ ?_
    show oS p e below T7 m 26 #[vR o0, vR o1, vI p2, vI p3, vR o4, .unset] [] _
    refine XS.aloadN X7.here hx rfl (hb hby d16_26) rfl rfl ?_
    refine XS.aloadN X7.here hx rfl (hb hby d16_27) rfl rfl ?_
    show oS p e below T7 m 28 #[vR o0, vR o1, vI p2, vI p3, vR o4, .unset] [(.ref o1), (.ref o0)] _
    refine st8 _ ?_
    show oS p e below T8 m 31 #[vR o0, vR o1, vI p2, vI p3, vR o4, .unset] [] _
    refine XS.aloadN X8.here hx rfl (hb hby d16_31) rfl rfl ?_
    refine XS.aloadN X8.here hx rfl (hb hby d16_32) rfl rfl ?_
    refine XS.bipush X8.here hx rfl (hb hby d16_33) ?_
    show oS p e below T8 m 35 #[vR o0, vR o1, vI p2, vI p3, vR o4, .unset] [(.int 46), (.ref o1), (.ref o1)] _
    refine st9.trans ?_
    show oS p e below T9 m 38 #[vR o0, vR o1, vI p2, vI p3, vR o4, .unset] [(.int 1), (.ref o1)] _
    refine XS.iconst X9.here hx rfl (hb hby d16_38) ?_
    refine XS.iadd X9.here hx rfl (hb hby d16_39) rfl ?_
    show oS p e below T9 m 40 #[vR o0, vR o1, vI p2, vI p3, vR o4, .unset] [(.int 2), (.ref o1)] _
    refine st10.trans ?_
    show oS p e below T10 m 43 #[vR o0, vR o1, vI p2, vI p3, vR o4, .unset] [(.ref x10)] _
    refine XS.astore X10.here hx rfl (hb hby d16_43) rfl rfl (l' := #[vR o0, vR o1, vI p2, vI p3, vR o4, vR x10]) rfl ?_
    show oS p e below T10 m 45 #[vR o0, vR o1, vI p2, vI p3, vR o4, vR x10] [] _
    refine XS.aloadN X10.here hx rfl (hb hby d16_45) rfl rfl ?_
    refine XS.aload X10.here hx rfl (hb hby d16_46) rfl rfl ?_
    show oS p e below T10 m 48 #[vR o0, vR o1, vI p2, vI p3, vR o4, vR x10] [(.ref x10), (.ref o0)] _
    refine st11 _ ?_
    show oS p e below T11 m 50 #[vR o0, vR o1, vI p2, vI p3, vR o4, vR x10] [(.ref sa11), (.ref x10), (.ref o0)] _
    refine st12.trans ?_
    show oS p e below T12 m 53 #[vR o0, vR o1, vI p2, vI p3, vR o4, vR x10] [(.int 0), (.ref o0)] _
    refine st13 _ ?_
    show oS p e below T13 m 56 #[vR o0, vR o1, vI p2, vI p3, vR o4, vR x10] [] _
    refine XS.aloadN X13.here hx rfl (hb hby d16_56) rfl rfl ?_
    refine XS.aloadN X13.here hx rfl (hb hby d16_57) rfl rfl ?_
    show oS p e below T13 m 58 #[vR o0, vR o1, vI p2, vI p3, vR o4, vR x10] [(.ref o0), (.ref o0)] _
    refine st14 _ ?_
    show oS p e below T14 m 61 #[vR o0, vR o1, vI p2, vI p3, vR o4, vR x10] [(.int 0), (.ref o0)] _
    refine XS.ifYes X14.here hx rfl (pc0 := 61) (pc' := 84) rfl (hb hby d16_61) rfl ((if0 _ _).trans (teq (by decide : (0 : Int32) = (0 : Int32))).1) (by decide) (by decide) ?_
    show oS p e below T14 m 84 #[vR o0, vR o1, vI p2, vI p3, vR o4, vR x10] [(.ref o0)] _
    refine XS.aload X14.here hx rfl (hb hby d16_84) rfl rfl ?_
    show oS p e below T14 m 86 #[vR o0, vR o1, vI p2, vI p3, vR o4, vR x10] [(.ref x10), (.ref o0)] _
    refine st15 _ ?_
    show oS p e below T15 m 89 #[vR o0, vR o1, vI p2, vI p3, vR o4, vR x10] [] _
    refine XS.aloadN X15.here hx rfl (hb hby d16_89) rfl rfl ?_
    refine XS.iloadN X15.here hx rfl (hb hby d16_90) rfl ?_
    show oS p e below T15 m 91 #[vR o0, vR o1, vI p2, vI p3, vR o4, vR x10] [(.int p2), (.ref o0)] _
    refine st16 _ ?_
    show oS p e below T16 m 94 #[vR o0, vR o1, vI p2, vI p3, vR o4, vR x10] [] _
    refine XS.aloadN X16.here hx rfl (hb hby d16_94) rfl rfl ?_
    refine XS.iloadN X16.here hx rfl (hb hby d16_95) rfl ?_
    show oS p e below T16 m 96 #[vR o0, vR o1, vI p2, vI p3, vR o4, vR x10] [(.int p3), (.ref o0)] _
    refine st17 _ ?_
    show oS p e below T17 m 99 #[vR o0, vR o1, vI p2, vI p3, vR o4, vR x10] [] _
    refine XS.aloadN X17.here hx rfl (hb hby d16_99) rfl rfl ?_
    refine XS.aload X17.here hx rfl (hb hby d16_100) rfl rfl ?_
    show oS p e below T17 m 102 #[vR o0, vR o1, vI p2, vI p3, vR o4, vR x10] [(.ref o4), (.ref o0)] _
    refine st18 _ ?_
    show oS p e below T18 m 105 #[vR o0, vR o1, vI p2, vI p3, vR o4, vR x10] [(.ref b18), (.ref o0)] _
    refine st19 _ ?_
    show oS p e below T19 m 108 #[vR o0, vR o1, vI p2, vI p3, vR o4, vR x10] [] _
    exact X19.returnOut hx Bd.returns (hb hby d16_108) hr
  · show own_QI Z o0 el em n x1 x2 h0 n0 _ T19.heap _
    rw [e19]
    exact ⟨b18, rfl, N19, ((((((((((((((((Keep.refl h0 [o0]).ext E2).trans K3 (allS (Or.inr (Nat.le_of_eq g2.symm)) all0)).wr W4 (Or.inl (List.mem_of_getElem? (i := 0) rfl))).ext E5).trans K6 (allS (Or.inr (Nat.le_trans (Nat.le_trans (Nat.le_trans E2.1 K3.1) (Keep.of_wr W4).1) (Nat.le_of_eq g5.symm))) all0)).wr W7 (Or.inl (List.mem_of_getElem? (i := 0) rfl))).wr W8 (Or.inl (List.mem_of_getElem? (i := 0) rfl))).trans K10 all0).ext E11).wr W13 (Or.inl (List.mem_of_getElem? (i := 0) rfl))).wr W15 (Or.inl (List.mem_of_getElem? (i := 0) rfl))).wr W16 (Or.inl (List.mem_of_getElem? (i := 0) rfl))).wr W17 (Or.inl (List.mem_of_getElem? (i := 0) rfl))).trans K18 all0).wr W19 (Or.inl (List.mem_of_getElem? (i := 0) rfl))), f_o0_15_reused, Fw19, (Il18.other W19 neg)⟩
theorem d16_64 : decode prog_6_method_1_code 64 = .ok (.aload 5, 2) := by decide +kernel
theorem d16_66 : decode prog_6_method_1_code 66 = .ok (.iconst 0, 1) := by decide +kernel
theorem d16_67 : decode prog_6_method_1_code 67 = .ok (.aload 5, 2) := by decide +kernel
theorem d16_69 : decode prog_6_method_1_code 69 = .ok (.invokevirtual 49, 3) := by decide +kernel
theorem d16_72 : decode prog_6_method_1_code 72 = .ok (.ldc 39, 2) := by decide +kernel
theorem d16_74 : decode prog_6_method_1_code 74 = .ok (.invokevirtual 49, 3) := by decide +kernel
theorem d16_77 : decode prog_6_method_1_code 77 = .ok (.isub, 1) := by decide +kernel
theorem d16_78 : decode prog_6_method_1_code 78 = .ok (.invokevirtual 53, 3) := by decide +kernel
theorem d16_81 : decode prog_6_method_1_code 81 = .ok (.goto 5, 3) := by decide +kernel
theorem rmI6 (l : Launch) (Z : State) (a0 : Array Value) (hw : HW a0 Z) (ws : List Jvm.Cond) (o0 : Addr) (o1 : Addr) (p2 : Int32) (p3 : Int32) (o4 : Addr) (tp : Addr) (kp : ClassId) (ad : Addr) (kd : ClassId) (zc : Int32) (fm : Value) (el : Addr) (em : Addr) (ed mr x1 x2 : Addr) (n : Int32) (h0 : Heap) (n0 : Nat) (O0 : Old Z n0 h0) (E_o0 : Exa Z h0 o0 "com/example/graftwork/graftwork/ElementDefinition") (U_o0 : Unt h0 o0) (g_o0 : n0 ≤ o0) (F_reused_o0 : Fld Z h0 o0 "com/example/graftwork/graftwork/ElementDefinition" "reused" "Lcom/example/graftwork/graftwork/ElementDefinition;" .null) (E_o1 : Exa Z h0 o1 "java/lang/String") (F_value_o1 : Fld Z h0 o1 "java/lang/String" "value" "[B" (.ref tp)) (F_coder_o1 : Fld Z h0 o1 "java/lang/String" "coder" "B" (.int 0)) (V_tp : Arv Z h0 tp kp .byte (6 : Int32) [(.int 82), (.int 46), (.int 98), (.int 91), (.int 120), (.int 93)] (.int 0)) (S_DE : Sta Z Z.heap "java/util/ArrayList" "DEFAULTCAPACITY_EMPTY_ELEMENTDATA" "[Ljava/lang/Object;" (.ref ad)) (V_ad : Arv Z Z.heap ad kd (.object "java/lang/Object") (0 : Int32) [] .null) (S_CS : Sta Z Z.heap "java/lang/String" "COMPACT_STRINGS" "Z" (.int zc)) (hzc : ¬ zc = 0) (S_FM : Sta Z Z.heap "jdk/internal/util/Preconditions" "SIOOBE_FORMATTER" "Ljava/util/function/BiFunction;" fm) (hfm : fm.isRef = true) (E_el : Exa Z Z.heap el "java/util/ImmutableCollections$ListN") (S_EMPTY_LIST : Sta Z Z.heap "java/util/ImmutableCollections" "EMPTY_LIST" "Ljava/util/ImmutableCollections$ListN;" (.ref el)) (S_EMPTY : Sta Z Z.heap "java/util/ImmutableCollections" "EMPTY" "Ljava/lang/Object;" (.ref em)) (hmr : own_Mir Z "[Ljava/lang/Object;" mr) (hal : own_AL Z h0 ad o4 ed n x1 x2) :
    MetFree l mN64 (head1 (Jvm.Cond.code mN64 prog_6_method_1_code 6 none :: ws) (rM 8 12 64 115)) (fun a U => a = #[(.ref o0), (.ref o1), (.int p2), (.int p3), (.ref o4)] ∧ Z.Warmed39 U.vm ∧ U.heap = h0 ∧ CHv Z own_EL U.vm h0) (fun _ _ _ _ _ => True) (fun _ U o U' => ∃ v L, o = .returned v ∧ own_QI Z o0 el em n x1 x2 h0 n0 v U'.heap L ∧ CHr Z own_EL U.vm U.heap U'.vm U'.heap ∧ ReturnedEndW U o U' L (rM 8 12 64 115).cells (rM 8 12 64 115).slots) := by
  refine MetFree.of_bodySF (plainFor_of_name pn_16) hisR ?_
  intro p e s m args below meth c s₁ Bd hml0 hP hK
  obtain ⟨rfl, hZ, hh, hch⟩ := hP
  have hx := Bd.exec
  have hby := Bd.bytes
  have hml : c.maxLocals = 6 := hml0
  have hown : s.vm.findClass "com/example/graftwork/graftwork/ElementDefinition" = some m.cls := findClass_of_methodNamed Bd.named
  have hnm := (name_of_methodNamed Bd.named Bd.method).1
  have X0 : Stand p l e (rM 8 12 64 115) s m #[(.ref o0), (.ref o1), (.int p2), (.int p3), (.ref o4)] below meth c s₁ [] 0 0 := Stand.of_body Bd
  have e0 : s₁.heap = h0 := by rw [← hh, Bd.state]; rfl
  have N0 := Fr.nil n0
  have pre0 := fun t (k : oS p e below s₁ m 0 #[vR o0, vR o1, vI p2, vI p3, vR o4, .unset] [] t) => castTop (ef_16 m o0 o1 p2 p3 o4) k
  have Sn0 : s.Since s.vm 0 := (State.WarmedH.refl s).since 0
  have XS0 : Stand p l e _ (s.setVm s.vm) m #[(.ref o0), (.ref o1), (.int p2), (.int p3), (.ref o4)] below meth c s₁ _ 0 0 := X0
  have hZS : Z.Warmed39 s.vm := hZ
  have hownS : s.vm.findClass "com/example/graftwork/graftwork/ElementDefinition" = some m.cls := hown
  have C0 : CHr Z own_EL s.vm h0 s.vm h0 := CHr.refl hch
  have ne1 := Exa.ne E_o1 E_o0 (by decide)
  have ne2 := Exa.neArv E_o0 V_tp (oW hw 92 rfl)
  have ne3 := Exa.ne hal.exa E_o0 (by decide)
  have ne4 := hal.nee (V_ad.ext O0.2) E_o0 (oW hw 92 rfl)
  have hel : el < n0 := O0.1 ▸ E_el.lt
  obtain ⟨T1, X1, e1, st1⟩ := initO XS0 hx hZS hownS (oW hw 100 rfl) (oW hw 23 rfl) (oW hw 24 rfl) e0 (g := (mkF m 1 #[vR o0, vR o1, vI p2, vI p3, vR o4, .unset] [(.ref o0)])) rfl (by rw [hml]; rfl) rfl (hb hby d16_1) (by decide) (W := 0) (by show 2 * 0 + _ ≤ _; exact Nat.le_of_eq rfl) (by decide)
  obtain ⟨T2, h2, X2, e2, E2, A2, D2, U2, st2⟩ := newO X1 hx hZS hownS (oW hw 101 rfl) (oW hw 102 rfl) (oW hw 103 rfl) e1 (g := (mkF m 5 #[vR o0, vR o1, vI p2, vI p3, vR o4, .unset] [(.ref o0)])) rfl (hb hby d16_5) (by decide) (by decide)
  obtain ⟨b2, g2⟩ : ∃ z, z = h0.size := ⟨_, rfl⟩
  rw [← g2] at A2 D2 U2 st2
  have Ut2 : Unt h2 b2 := U2
  have g_b2 : n0 ≤ b2 := Nat.le_trans (own_le O0) (Nat.le_of_eq g2.symm)
  have C2 := C0.trans (CHr.ext E2 C0.1)
  have O2 := O0.ext E2
  have F_loadFactor_b2 : Fld Z h2 b2 "java/util/HashMap" "loadFactor" "F" (.float (0 : UInt32)) := D2 (Or.inr (oW hw 122 rfl)) (ty := .float) (by decide)
  have F_putMode_b2 : Fld Z h2 b2 "java/util/LinkedHashMap" "putMode" "I" (.int 0) := D2 (Or.inl (oW hw 124 rfl)) (ty := .int) (by decide)
  have F_accessOrder_b2 : Fld Z h2 b2 "java/util/LinkedHashMap" "accessOrder" "Z" (.int 0) := D2 (Or.inr (oW hw 126 rfl)) (ty := .boolean) (by decide)
  obtain ⟨_, _, ⟨T3, L3, k3, n3⟩, -, X3, ⟨Lc3, hQ3, l3, y3, z3⟩, st3⟩ := X2.specialBack hx (y := mN34) rfl hownS (mvT hZS (oW hw 104 rfl)) (mvT hZS (oW hw 105 rfl)) (mvT hZS (oW hw 106 rfl)) (by decide) (backOf (W := 2) (rmLHM l Z a0 hw [] b2  h2 n0 O2 A2 F_loadFactor_b2 F_putMode_b2 F_accessOrder_b2 g_b2) hZS (oW hw 106 rfl) (oW hw 103 rfl) (by decide) (by decide)) (g := (mkF m 9 #[vR o0, vR o1, vI p2, vI p3, vR o4, .unset] [(.ref b2), (.ref b2), (.ref o0)])) rfl (by rw [hml]; rfl) (Steps.refl _) (a := b2) (argsL := []) (rest := [(.ref b2), (.ref o0)]) (lenOf pd_0 rfl) rfl (by show 2 * 0 + _ ≤ _; exact Nat.le_of_eq rfl) (hb hby d16_9) (fun _ _ => ⟨rfl, e2, (by decide : 1 + 0 ≤ _), (by decide : 12 + 0 ≤ _)⟩)
  dsimp only [Pt.U, Pt.locs, Pt.cells, Pt.slots] at X3 l3 y3 z3 st3 hQ3
  subst l3 y3 z3
  obtain ⟨rfl, N3q, K3⟩ := hQ3
  have N3 := Fr.app N0 N3q
  have C3 := C2.trans (CHr.keep K3 (allS (Safe.exa hZS.alike A2 (by decide) (by decide)) all0) C2.1)
  have O3 := O2.keep K3 (allS g_b2 all0)
  have u_o0_2_x := ((Unt.ext E2 U_o0).keep K3 (ninS (Nat.ne_of_lt (Nat.lt_of_lt_of_le F_reused_o0.lt (Nat.le_of_eq g2.symm))) nin0))
  obtain ⟨uo4, Fo4⟩ := fld_laid ((E_o0.ext E2).keep K3) (Unt.known u_o0_2_x) (oW hw 92 rfl) (Or.inr (oW hw 128 rfl))
  obtain ⟨T4, h4, X4, e4, W4, st4⟩ := putF X3 hx hZS hownS (host := "") (Or.inl (oW hw 127 rfl)) Via.refl rfl Fo4 ((E_o0.ext E2).keep K3) (Or.inr ⟨(oW hw 128 rfl), rfl, hnm⟩) (oW hw 92 rfl) (ty := (.object "java/util/Map")) (by decide) rfl rfl (g := (mkF m 12 #[vR o0, vR o1, vI p2, vI p3, vR o4, .unset] [(.ref b2), (.ref o0)])) rfl rfl (hb hby d16_12)
  have C4 := C3.trans (CHr.wr W4 (Safe.exa hZS.alike ((E_o0.ext E2).keep K3) (by decide) (by decide)) C3.1)
  have O4 := O3.wr W4 g_o0
  have Fw4 := Fo4.same W4
  have N4 := Fr.snoc X4 N3 g_o0
  obtain ⟨T5, h5, X5, e5, E5, A5, D5, U5, st5⟩ := newO X4 hx hZS hownS (oW hw 129 rfl) (oW hw 5 rfl) (oW hw 6 rfl) e4 (g := (mkF m 16 #[vR o0, vR o1, vI p2, vI p3, vR o4, .unset] [(.ref o0)])) rfl (hb hby d16_16) (by decide) (by decide)
  obtain ⟨b5, g5⟩ : ∃ z, z = h4.size := ⟨_, rfl⟩
  rw [← g5] at A5 D5 U5 st5
  have Ut5 : Unt h5 b5 := U5
  have g_b5 : n0 ≤ b5 := Nat.le_trans (own_le O4) (Nat.le_of_eq g5.symm)
  have C5 := C4.trans (CHr.ext E5 C4.1)
  have O5 := O4.ext E5
  have F_modCount_b5 : Fld Z h5 b5 "java/util/AbstractList" "modCount" "I" (.int 0) := D5 (Or.inl (oW hw 26 rfl)) (ty := .int) (by decide)
  have F_elementData_b5 : Fld Z h5 b5 "java/util/ArrayList" "elementData" "[Ljava/lang/Object;" .null := D5 (Or.inl (oW hw 29 rfl)) (ty := (.array (.object "java/lang/Object"))) (by decide)
  have F_size_b5 : Fld Z h5 b5 "java/util/ArrayList" "size" "I" (.int 0) := D5 (Or.inl (oW hw 63 rfl)) (ty := .int) (by decide)
  obtain ⟨_, _, ⟨T6, L6, k6, n6⟩, -, X6, ⟨Lc6, hQ6, l6, y6, z6⟩, st6⟩ := X5.specialBack hx (y := mN2) rfl hownS (mvT hZS (oW hw 130 rfl)) (mvT hZS (oW hw 8 rfl)) (mvT hZS (oW hw 9 rfl)) (by decide) (backOf (W := 2) (rmA0 l Z a0 hw [] b5 ad kd h5 n0 O5 A5 F_modCount_b5 F_size_b5 F_elementData_b5 g_b5 S_DE V_ad) hZS (oW hw 9 rfl) (oW hw 6 rfl) (by decide) (by decide)) (g := (mkF m 20 #[vR o0, vR o1, vI p2, vI p3, vR o4, .unset] [(.ref b5), (.ref b5), (.ref o0)])) rfl (by rw [hml]; rfl) (Steps.refl _) (a := b5) (argsL := []) (rest := [(.ref b5), (.ref o0)]) (lenOf pd_0 rfl) rfl (by show 2 * 0 + _ ≤ _; exact Nat.le_of_eq rfl) (hb hby d16_20) (fun _ _ => ⟨rfl, e5, (by decide : 2 + 0 ≤ _), (by decide : 15 + 0 ≤ _)⟩)
  dsimp only [Pt.U, Pt.locs, Pt.cells, Pt.slots] at X6 l6 y6 z6 st6 hQ6
  subst l6 y6 z6
  obtain ⟨rfl, N6q, K6, Fm6, Fs6, Fe6⟩ := hQ6
  have N6 := Fr.app N4 N6q
  have C6 := C5.trans (CHr.keep K6 (allS (Safe.exa hZS.alike A5 (by decide) (by decide)) all0) C5.1)
  have O6 := O5.keep K6 (allS g_b5 all0)
  have u_o0_5_x := ((Unt.ext E5 (Unt.wr W4 u_o0_2_x)).keep K6 (ninS (Nat.ne_of_lt (Nat.lt_of_lt_of_le Fw4.lt (Nat.le_of_eq g5.symm))) nin0))
  obtain ⟨uo7, Fo7⟩ := fld_laid (((((E_o0.ext E2).keep K3).wr W4).ext E5).keep K6) (Unt.known u_o0_5_x) (oW hw 92 rfl) (Or.inr (oW hw 132 rfl))
  obtain ⟨T7, h7, X7, e7, W7, st7⟩ := putF X6 hx hZS hownS (host := "") (Or.inl (oW hw 131 rfl)) Via.refl rfl Fo7 (((((E_o0.ext E2).keep K3).wr W4).ext E5).keep K6) (Or.inr ⟨(oW hw 132 rfl), rfl, hnm⟩) (oW hw 92 rfl) (ty := (.object "java/util/List")) (by decide) rfl rfl (g := (mkF m 23 #[vR o0, vR o1, vI p2, vI p3, vR o4, .unset] [(.ref b5), (.ref o0)])) rfl rfl (hb hby d16_23)
  have C7 := C6.trans (CHr.wr W7 (Safe.exa hZS.alike (((((E_o0.ext E2).keep K3).wr W4).ext E5).keep K6) (by decide) (by decide)) C6.1)
  have O7 := O6.wr W7 g_o0
  have Fw7 := Fo7.same W7
  have N7 := Fr.snoc X7 N6 g_o0
  obtain ⟨uo8, Fo8⟩ := fld_laid ((((((E_o0.ext E2).keep K3).wr W4).ext E5).keep K6).wr W7) (Unt.known (Unt.wr W7 u_o0_5_x)) (oW hw 92 rfl) (Or.inr (oW hw 134 rfl))
  obtain ⟨T8, h8, X8, e8, W8, st8⟩ := putF X7 hx hZS hownS (host := "") (Or.inl (oW hw 133 rfl)) Via.refl e7 Fo8 ((((((E_o0.ext E2).keep K3).wr W4).ext E5).keep K6).wr W7) (Or.inr ⟨(oW hw 134 rfl), rfl, hnm⟩) (oW hw 92 rfl) (ty := (.object "java/lang/String")) (by decide) rfl rfl (g := (mkF m 28 #[vR o0, vR o1, vI p2, vI p3, vR o4, .unset] [(.ref o1), (.ref o0)])) rfl rfl (hb hby d16_28)
  have C8 := C7.trans (CHr.wr W8 (Safe.exa hZS.alike ((((((E_o0.ext E2).keep K3).wr W4).ext E5).keep K6).wr W7) (by decide) (by decide)) C7.1)
  have O8 := O7.wr W8 g_o0
  have Fw8 := Fo8.same W8
  have N8 := Fr.snoc X8 N7 g_o0
  have e_o1_7_x := (((((((E_o1.ext E2).keep K3).wr W4).ext E5).keep K6).wr W7).wr W8)
  have f_o1_7_value := (((((((F_value_o1.ext E2).keep K3 (ninS (Nat.ne_of_lt (Nat.lt_of_lt_of_le F_value_o1.lt (Nat.le_of_eq g2.symm))) nin0)).other W4 (Or.inl ne1)).ext E5).keep K6 (ninS (Nat.ne_of_lt (Nat.lt_of_lt_of_le (Nat.lt_of_lt_of_le F_value_o1.lt (Nat.le_trans (Nat.le_trans E2.1 K3.1) (Keep.of_wr W4).1)) (Nat.le_of_eq g5.symm))) nin0)).other W7 (Or.inl ne1)).other W8 (Or.inl ne1))
  have f_o1_7_coder := (((((((F_coder_o1.ext E2).keep K3 (ninS (Nat.ne_of_lt (Nat.lt_of_lt_of_le F_coder_o1.lt (Nat.le_of_eq g2.symm))) nin0)).other W4 (Or.inl ne1)).ext E5).keep K6 (ninS (Nat.ne_of_lt (Nat.lt_of_lt_of_le (Nat.lt_of_lt_of_le F_coder_o1.lt (Nat.le_trans (Nat.le_trans E2.1 K3.1) (Keep.of_wr W4).1)) (Nat.le_of_eq g5.symm))) nin0)).other W7 (Or.inl ne1)).other W8 (Or.inl ne1))
  have v_tp_7_x := (((((((V_tp.ext E2).keep K3 (ninS (Nat.ne_of_lt (Nat.lt_of_lt_of_le V_tp.lt (Nat.le_of_eq g2.symm))) nin0)).other W4 (Ne.symm ne2)).ext E5).keep K6 (ninS (Nat.ne_of_lt (Nat.lt_of_lt_of_le (Nat.lt_of_lt_of_le V_tp.lt (Nat.le_trans (Nat.le_trans E2.1 K3.1) (Keep.of_wr W4).1)) (Nat.le_of_eq g5.symm))) nin0)).other W7 (Ne.symm ne2)).other W8 (Ne.symm ne2))
  obtain ⟨cq9, kq9, q9a, q9b, q9c⟩ := isOf hZS e8 e_o1_7_x
  obtain ⟨_, _, ⟨T9, L9, k9, n9⟩, -, X9, ⟨Lc9, hQ9, l9, y9, z9⟩, st9⟩ := X8.virtualBack hx (y := mN41) (z := mN41) hownS (mvT hZS (oW hw 135 rfl)) (mvT hZS (oW hw 136 rfl)) (notFace_of_selects (args := #[]) (mvT hZS (oW hw 138 rfl))) (mvT hZS (oW hw 138 rfl)) (mvT hZS (oW hw 137 rfl)) (by decide) (backOf (W := 1) (rmLI6 l Z a0 hw [] o1 tp kp zc h8 n0 O8  e_o1_7_x f_o1_7_value f_o1_7_coder v_tp_7_x S_CS hzc) hZS (oW hw 139 rfl) (oW hw 33 rfl) (by decide) (by decide)) q9a q9c (g := (mkF m 35 #[vR o0, vR o1, vI p2, vI p3, vR o4, .unset] [(.int 46), (.ref o1), (.ref o1)])) rfl (by rw [hml]; rfl) (Steps.refl _) (argsL := [(.int 46)]) (rest := [(.ref o1)]) (lenOf pd_33 rfl) rfl (by show 2 * 0 + _ ≤ _; exact Nat.le_of_eq rfl) (hb hby d16_35) (fun _ _ => ⟨rfl, e8, (by decide : 2 + 0 ≤ _), (by decide : 15 + 0 ≤ _)⟩)
  dsimp only [Pt.U, Pt.locs, Pt.cells, Pt.slots] at X9 l9 y9 z9 st9 hQ9
  subst l9 y9 z9
  obtain ⟨rfl, N9q, e9⟩ := hQ9
  have N9 := Fr.app N8 N9q
  obtain ⟨cq10, kq10, q10a, q10b, q10c⟩ := isOf hZS e9 e_o1_7_x
  obtain ⟨_, _, ⟨T10, L10, k10, n10⟩, -, X10, ⟨Lc10, hQ10, l10, y10, z10⟩, st10⟩ := X9.virtualBack hx (y := mN49) (z := mN49) hownS (mvT hZS (oW hw 169 rfl)) (mvT hZS (oW hw 170 rfl)) (notFace_of_selects (args := #[]) (mvT hZS (oW hw 172 rfl))) (mvT hZS (oW hw 172 rfl)) (mvT hZS (oW hw 171 rfl)) (by decide) (backOf (W := 0) (rmSS6 l Z a0 hw [] o1 tp kp zc fm h8 n0 O8 e_o1_7_x f_o1_7_value f_o1_7_coder v_tp_7_x S_CS hzc S_FM hfm) hZS (oW hw 173 rfl) (oW hw 33 rfl) (by decide) (by decide)) q10a q10c (g := (mkF m 40 #[vR o0, vR o1, vI p2, vI p3, vR o4, .unset] [(.int 2), (.ref o1)])) rfl (by rw [hml]; rfl) (Steps.refl _) (argsL := [(.int 2)]) (rest := []) (lenOf pd_34 rfl) rfl (by show 2 * 0 + _ ≤ _; exact Nat.le_of_eq rfl) (hb hby d16_40) (fun _ _ => ⟨rfl, e9, (by decide : 2 + 2 ≤ _), (by decide : 15 + 8 ≤ _)⟩)
  dsimp only [Pt.U, Pt.locs, Pt.cells, Pt.slots] at X10 l10 y10 z10 st10 hQ10
  subst l10 y10 z10
  obtain ⟨x10, t10, k910, rfl, N10q, K10, Ex10, Fv10, Fc10, Vt10⟩ := hQ10
  have N10 := Fr.app N9 N10q
  have C10 := C8.trans (CHr.keep K10 all0 C8.1)
  have O10 := O8.keep K10 all0
  have e_o0_8_x := ((((((((E_o0.ext E2).keep K3).wr W4).ext E5).keep K6).wr W7).wr W8).keep K10)
  have nx_x10 := Exa.ne Ex10 e_o0_8_x (by decide)
  have ny_x10 := Exa.neArv e_o0_8_x Vt10 (oW hw 92 rfl)
  obtain ⟨sa11, T11, h11, ks11, tb11, kb11, X11, e11, E11, Sn11, hk11, hZ11, hown11, Ea11, Fc11, Fv11, Vb11, la11, lb11, Cl11, Lt11, ns11, st11⟩ := ldcCH X10 hx hZS hownS (oW hw 207 rfl) (own_sa hw) rfl Sn0 (Nat.le_trans (Nat.zero_le _) (Nat.le_trans (Nat.le_trans (Nat.le_trans (Nat.le_trans (Nat.le_trans (Nat.le_trans (Nat.le_trans E2.1 K3.1) (Keep.of_wr W4).1) E5.1) K6.1) (Keep.of_wr W7).1) (Keep.of_wr W8).1) K10.1)) (own_EW hw) (by decide) C10.1 (vs := [(.int 91), (.int 120), (.int 93)]) (z := (3 : Int32)) ⟨by decide, rfl⟩ (by decide) (by decide) (g := (mkF m 48 #[vR o0, vR o1, vI p2, vI p3, vR o4, vR x10] [(.ref x10), (.ref o0)])) rfl (hb hby d16_48) (n := 12) (by decide) (by decide) (by decide) (by decide)
  have C11 := C10.trans Cl11
  have O11 := O10.ext E11
  have nx_sa11 := Exa.ne Ea11 (e_o0_8_x.ext E11) (by decide)
  have ny_sa11 := Exa.neArv (e_o0_8_x.ext E11) Vb11 (oW hw 92 rfl)
  obtain ⟨cq12, kq12, q12a, q12b, q12c⟩ := isOf hZ11 e11 (Ex10.ext E11)
  obtain ⟨_, _, ⟨T12, L12, k12, n12⟩, -, X12, ⟨Lc12, hQ12, l12, y12, z12⟩, st12⟩ := X11.virtualBack hx (y := mN52) (z := mN52) hown11 (mvT hZ11 (oW hw 208 rfl)) (mvT hZ11 (oW hw 209 rfl)) (notFace_of_selects (args := #[]) (mvT hZ11 (oW hw 211 rfl))) (mvT hZ11 (oW hw 211 rfl)) (mvT hZ11 (oW hw 210 rfl)) (by decide) (backOf (W := 1) (rmEW6 l Z a0 hw [] x10 sa11 t10 k910 tb11 kb11 zc h11 n0 O11 (Ex10.ext E11) (Fv10.ext E11) (Fc10.ext E11) (Vt10.ext E11) Ea11 Fv11 Fc11 Vb11 S_CS hzc) hZ11 (oW hw 212 rfl) (oW hw 33 rfl) (by decide) (by decide)) q12a q12c (g := (mkF m 50 #[vR o0, vR o1, vI p2, vI p3, vR o4, vR x10] [(.ref sa11), (.ref x10), (.ref o0)])) rfl (by rw [hml]; rfl) (Steps.refl _) (argsL := [(.ref sa11)]) (rest := [(.ref o0)]) (lenOf pd_35 rfl) rfl (by show 2 * 0 + _ ≤ _; exact Nat.le_of_eq rfl) (hb hby d16_50) (fun _ _ => ⟨rfl, e11, (by decide : 6 + 0 ≤ _), (by decide : 39 + 0 ≤ _)⟩)
  dsimp only [Pt.U, Pt.locs, Pt.cells, Pt.slots] at X12 l12 y12 z12 st12 hQ12
  subst l12 y12 z12
  obtain ⟨rfl, N12q, e12⟩ := hQ12
  have N12 := Fr.app N10 N12q
  have u_o0_9_x := (Unt.ext E11 ((Unt.wr W8 (Unt.wr W7 u_o0_5_x)).keep K10 nin0))
  obtain ⟨uo13, Fo13⟩ := fld_laid (e_o0_8_x.ext E11) (Unt.known u_o0_9_x) (oW hw 92 rfl) (Or.inr (oW hw 219 rfl))
  obtain ⟨T13, h13, X13, e13, W13, st13⟩ := putFN X12 hx hZ11 hown11 (oW hw 218 rfl) Via.refl e12 Fo13 (e_o0_8_x.ext E11) (Or.inr ⟨(oW hw 219 rfl), rfl, hnm⟩) (oW hw 92 rfl) (ty := .boolean) (v' := (.int 1)) (by decide) rfl (by decide) (g := (mkF m 53 #[vR o0, vR o1, vI p2, vI p3, vR o4, vR x10] [(.int 1), (.ref o0)])) rfl rfl (hb hby d16_53)
  have C13 := C11.trans (CHr.wr W13 (Safe.exa hZ11.alike (e_o0_8_x.ext E11) (by decide) (by decide)) C11.1)
  have O13 := O11.wr W13 g_o0
  have Fw13 := Fo13.same W13
  have N13 := Fr.snoc X13 N12 g_o0
  obtain ⟨T14, X14, e14, st14⟩ := getF X13 hx hZ11 hown11 (host := "") (Or.inl (oW hw 218 rfl)) Via.refl e13 Fw13 (g := (mkF m 58 #[vR o0, vR o1, vI p2, vI p3, vR o4, vR x10] [(.ref o0), (.ref o0)])) rfl rfl (hb hby d16_58)
  obtain ⟨cq15, kq15, q15a, q15b, q15c⟩ := isOf hZ11 e14 ((Ex10.ext E11).wr W13)
  obtain ⟨_, _, ⟨T15, L15, k15, n15⟩, -, X15, ⟨Lc15, hQ15, l15, y15, z15⟩, st15⟩ := X14.virtualBack hx (y := mN37) (z := mN37) hown11 (mvT hZ11 (oW hw 260 rfl)) (mvT hZ11 (oW hw 141 rfl)) (notFace_of_selects (args := #[]) (mvT hZ11 (oW hw 143 rfl))) (mvT hZ11 (oW hw 143 rfl)) (mvT hZ11 (oW hw 142 rfl)) (by decide) (backOf (W := 3) (rmLe l Z a0 hw [] x10 (4 : Int32) _ t10 k910 zc h13 n0 O13 ((Ex10.ext E11).wr W13) ((Fv10.ext E11).other W13 (Or.inl nx_x10)) ((Fc10.ext E11).other W13 (Or.inl nx_x10)) ((Vt10.ext E11).other W13 (Ne.symm ny_x10)) S_CS hzc) hZ11 (oW hw 144 rfl) (oW hw 33 rfl) (by decide) (by decide)) q15a q15c (g := (mkF m 69 #[vR o0, vR o1, vI p2, vI p3, vR o4, vR x10] [(.ref x10), (.int 0), (.ref x10), (.ref o0)])) rfl (by rw [hml]; rfl) (Steps.refl _) (argsL := []) (rest := [(.int 0), (.ref x10), (.ref o0)]) (lenOf pd_22 rfl) rfl (by show 2 * 0 + _ ≤ _; exact Nat.le_of_eq rfl) (hb hby d16_69) (fun _ _ => ⟨rfl, e14, (by decide : 6 + 0 ≤ _), (by decide : 39 + 0 ≤ _)⟩)
  dsimp only [Pt.U, Pt.locs, Pt.cells, Pt.slots] at X15 l15 y15 z15 st15 hQ15
  subst l15 y15 z15
  obtain ⟨rfl, N15q, e15⟩ := hQ15
  have N15 := Fr.app N13 N15q
  obtain ⟨sa16, T16, h16, ks16, tb16, kb16, X16, e16, E16, Sn16, hk16, hZ16, hown16, Ea16, Fc16, Fv16, Vb16, la16, lb16, Cl16, Lt16, ns16, st16⟩ := ldcCH X15 hx hZ11 hown11 (oW hw 207 rfl) (own_sa hw) e15 Sn11 (Nat.le_trans hk11 (Keep.of_wr W13).1) (own_EW hw) (by decide) C13.1 (vs := [(.int 91), (.int 120), (.int 93)]) (z := (3 : Int32)) ⟨by decide, rfl⟩ (by decide) (by decide) (g := (mkF m 72 #[vR o0, vR o1, vI p2, vI p3, vR o4, vR x10] [(.int 4), (.int 0), (.ref x10), (.ref o0)])) rfl (hb hby d16_72) (n := 12) (by decide) (by decide) (by decide) (by decide)
  have C16 := C13.trans Cl16
  have O16 := O13.ext E16
  obtain ⟨cq17, kq17, q17a, q17b, q17c⟩ := isOf hZ16 e16 Ea16
  obtain ⟨_, _, ⟨T17, L17, k17, n17⟩, -, X17, ⟨Lc17, hQ17, l17, y17, z17⟩, st17⟩ := X16.virtualBack hx (y := mN37) (z := mN37) hown16 (mvT hZ16 (oW hw 260 rfl)) (mvT hZ16 (oW hw 141 rfl)) (notFace_of_selects (args := #[]) (mvT hZ16 (oW hw 143 rfl))) (mvT hZ16 (oW hw 143 rfl)) (mvT hZ16 (oW hw 142 rfl)) (by decide) (backOf (W := 4) (rmLe l Z a0 hw [] sa16 (3 : Int32) _ tb16 kb16 zc h16 n0 O16 Ea16 Fv16 Fc16 Vb16 S_CS hzc) hZ16 (oW hw 144 rfl) (oW hw 33 rfl) (by decide) (by decide)) q17a q17c (g := (mkF m 74 #[vR o0, vR o1, vI p2, vI p3, vR o4, vR x10] [(.ref sa16), (.int 4), (.int 0), (.ref x10), (.ref o0)])) rfl (by rw [hml]; rfl) (Steps.refl _) (argsL := []) (rest := [(.int 4), (.int 0), (.ref x10), (.ref o0)]) (lenOf pd_22 rfl) rfl (by show 2 * 0 + _ ≤ _; exact Nat.le_of_eq rfl) (hb hby d16_74) (fun _ _ => ⟨rfl, e16, (by decide : 8 + 0 ≤ _), (by decide : 55 + 0 ≤ _)⟩)
  dsimp only [Pt.U, Pt.locs, Pt.cells, Pt.slots] at X17 l17 y17 z17 st17 hQ17
  subst l17 y17 z17
  obtain ⟨rfl, N17q, e17⟩ := hQ17
  have N17 := Fr.app N15 N17q
  obtain ⟨cq18, kq18, q18a, q18b, q18c⟩ := isOf hZ16 e17 (((Ex10.ext E11).wr W13).ext E16)
  obtain ⟨_, _, ⟨T18, L18, k18, n18⟩, -, X18, ⟨Lc18, hQ18, l18, y18, z18⟩, st18⟩ := X17.virtualBack hx (y := mN48) (z := mN48) hown16 (mvT hZ16 (oW hw 261 rfl)) (mvT hZ16 (oW hw 175 rfl)) (notFace_of_selects (args := #[]) (mvT hZ16 (oW hw 177 rfl))) (mvT hZ16 (oW hw 177 rfl)) (mvT hZ16 (oW hw 176 rfl)) (by decide) (backOf (W := 1) (rmSu4 l Z a0 hw [] x10 t10 k910 zc fm h16 n0 O16 (((Ex10.ext E11).wr W13).ext E16) (((Fv10.ext E11).other W13 (Or.inl nx_x10)).ext E16) (((Fc10.ext E11).other W13 (Or.inl nx_x10)).ext E16) (((Vt10.ext E11).other W13 (Ne.symm ny_x10)).ext E16) S_CS hzc S_FM hfm) hZ16 (oW hw 178 rfl) (oW hw 33 rfl) (by decide) (by decide)) q18a q18c (g := (mkF m 78 #[vR o0, vR o1, vI p2, vI p3, vR o4, vR x10] [(.int 1), (.int 0), (.ref x10), (.ref o0)])) rfl (by rw [hml]; rfl) (Steps.refl _) (argsL := [(.int 0), (.int 1)]) (rest := [(.ref o0)]) (lenOf pd_28 rfl) rfl (by show 2 * 0 + _ ≤ _; exact Nat.le_of_eq rfl) (hb hby d16_78) (fun _ _ => ⟨rfl, e17, (by decide : 8 + 2 ≤ _), (by decide : 55 + 5 ≤ _)⟩)
  dsimp only [Pt.U, Pt.locs, Pt.cells, Pt.slots] at X18 l18 y18 z18 st18 hQ18
  subst l18 y18 z18
  obtain ⟨x18, t18, k918, rfl, N18q, K18, Ex18, Fv18, Fc18, Vt18⟩ := hQ18
  have N18 := Fr.app N17 N18q
  have C18 := C16.trans (CHr.keep K18 all0 C16.1)
  have O18 := O16.keep K18 all0
  obtain ⟨uo19, Fo19⟩ := fld_laid ((((e_o0_8_x.ext E11).wr W13).ext E16).keep K18) (Unt.known ((Unt.ext E16 (Unt.wr W13 u_o0_9_x)).keep K18 nin0)) (oW hw 92 rfl) (Or.inr (oW hw 221 rfl))
  obtain ⟨T19, h19, X19, e19, W19, st19⟩ := putF X18 hx hZ16 hown16 (host := "") (Or.inl (oW hw 220 rfl)) Via.refl rfl Fo19 ((((e_o0_8_x.ext E11).wr W13).ext E16).keep K18) (Or.inr ⟨(oW hw 221 rfl), rfl, hnm⟩) (oW hw 92 rfl) (ty := (.object "java/lang/String")) (by decide) rfl rfl (g := (mkF m 86 #[vR o0, vR o1, vI p2, vI p3, vR o4, vR x10] [(.ref x18), (.ref o0)])) rfl rfl (hb hby d16_86)
  have C19 := C18.trans (CHr.wr W19 (Safe.exa hZ16.alike ((((e_o0_8_x.ext E11).wr W13).ext E16).keep K18) (by decide) (by decide)) C18.1)
  have O19 := O18.wr W19 g_o0
  have Fw19 := Fo19.same W19
  have N19 := Fr.snoc X19 N18 g_o0
  have u_o0_13_x := (Unt.wr W19 ((Unt.ext E16 (Unt.wr W13 u_o0_9_x)).keep K18 nin0))
  obtain ⟨uo20, Fo20⟩ := fld_laid (((((e_o0_8_x.ext E11).wr W13).ext E16).keep K18).wr W19) (Unt.known u_o0_13_x) (oW hw 92 rfl) (Or.inr (oW hw 223 rfl))
  obtain ⟨T20, h20, X20, e20, W20, st20⟩ := putF X19 hx hZ16 hown16 (host := "") (Or.inl (oW hw 222 rfl)) Via.refl e19 Fo20 (((((e_o0_8_x.ext E11).wr W13).ext E16).keep K18).wr W19) (Or.inr ⟨(oW hw 223 rfl), rfl, hnm⟩) (oW hw 92 rfl) (ty := .int) (by decide) rfl rfl (g := (mkF m 91 #[vR o0, vR o1, vI p2, vI p3, vR o4, vR x10] [(.int p2), (.ref o0)])) rfl rfl (hb hby d16_91)
  have C20 := C19.trans (CHr.wr W20 (Safe.exa hZ16.alike (((((e_o0_8_x.ext E11).wr W13).ext E16).keep K18).wr W19) (by decide) (by decide)) C19.1)
  have O20 := O19.wr W20 g_o0
  have Fw20 := Fo20.same W20
  have N20 := Fr.snoc X20 N19 g_o0
  have e_o0_14_x := ((((((e_o0_8_x.ext E11).wr W13).ext E16).keep K18).wr W19).wr W20)
  obtain ⟨uo21, Fo21⟩ := fld_laid e_o0_14_x (Unt.known (Unt.wr W20 u_o0_13_x)) (oW hw 92 rfl) (Or.inr (oW hw 225 rfl))
  obtain ⟨T21, h21, X21, e21, W21, st21⟩ := putF X20 hx hZ16 hown16 (host := "") (Or.inl (oW hw 224 rfl)) Via.refl e20 Fo21 e_o0_14_x (Or.inr ⟨(oW hw 225 rfl), rfl, hnm⟩) (oW hw 92 rfl) (ty := .int) (by decide) rfl rfl (g := (mkF m 96 #[vR o0, vR o1, vI p2, vI p3, vR o4, vR x10] [(.int p3), (.ref o0)])) rfl rfl (hb hby d16_96)
  have C21 := C20.trans (CHr.wr W21 (Safe.exa hZ16.alike e_o0_14_x (by decide) (by decide)) C20.1)
  have O21 := O20.wr W21 g_o0
  have Fw21 := Fo21.same W21
  have N21 := Fr.snoc X21 N20 g_o0
  have a_o4_15_ed := (((((((((((((((hal.ext E2).keep K3 (ninS (Nat.ne_of_lt (Nat.lt_of_lt_of_le hal.ltl (Nat.le_of_eq g2.symm))) nin0) (ninS (Nat.ne_of_lt (Nat.lt_of_lt_of_le hal.lte (Nat.le_of_eq g2.symm))) nin0)).other W4 ne3 ne4).ext E5).keep K6 (ninS (Nat.ne_of_lt (Nat.lt_of_lt_of_le (Nat.lt_of_lt_of_le hal.ltl (Nat.le_trans (Nat.le_trans E2.1 K3.1) (Keep.of_wr W4).1)) (Nat.le_of_eq g5.symm))) nin0) (ninS (Nat.ne_of_lt (Nat.lt_of_lt_of_le (Nat.lt_of_lt_of_le hal.lte (Nat.le_trans (Nat.le_trans E2.1 K3.1) (Keep.of_wr W4).1)) (Nat.le_of_eq g5.symm))) nin0)).other W7 ne3 ne4).other W8 ne3 ne4).keep K10 nin0 nin0).ext E11).other W13 ne3 ne4).ext E16).keep K18 nin0 nin0).other W19 ne3 ne4).other W20 ne3 ne4).other W21 ne3 ne4)
  obtain ⟨_, _, ⟨T22, L22, k22, n22⟩, -, X22, ⟨Lc22, hQ22, l22, y22, z22⟩, st22⟩ := Jvm.LawKit.callS X21 hx (y := mN31) hown16 (mvT hZ16 (oW hw 226 rfl)) (mvT hZ16 (oW hw 227 rfl)) (mvT hZ16 (oW hw 228 rfl)) (mvT hZ16 (oW hw 229 rfl)) (by decide) (backOf (W := 1) (rmCp l Z a0 hw [] o4 ad ed el em mr x1 x2 n h21 n0 O21 S_EMPTY_LIST S_EMPTY hmr a_o4_15_ed) hZ16 (oW hw 229 rfl) (oW hw 228 rfl) (by decide) (by decide)) (g := (mkF m 102 #[vR o0, vR o1, vI p2, vI p3, vR o4, vR x10] [(.ref o4), (.ref o0)])) rfl (by rw [hml]; rfl) (argsL := [(.ref o4)]) (rest := [(.ref o0)]) (lenOf pd_18 rfl) rfl (by show 2 * 0 + _ ≤ _; exact Nat.le_of_eq rfl) (hb hby d16_102) (fun _ _ => ⟨rfl, e21, (by decide : 10 + 2 ≤ _), (by decide : 60 + 4 ≤ _)⟩)
  dsimp only [Pt.U, Pt.locs, Pt.cells, Pt.slots] at X22 l22 y22 z22 st22 hQ22
  subst l22 y22 z22
  obtain ⟨b22, rfl, N22q, K22, Il22⟩ := hQ22
  have N22 := Fr.app N21 N22q
  have C22 := C21.trans (CHr.keep K22 all0 C21.1)
  have O22 := O21.keep K22 all0
  have neg := own_IL.neo Il22 hel ((e_o0_14_x.wr W21).keep K22) g_o0 (by decide)
  obtain ⟨uo23, Fo23⟩ := fld_laid ((e_o0_14_x.wr W21).keep K22) (Unt.known ((Unt.wr W21 (Unt.wr W20 u_o0_13_x)).keep K22 nin0)) (oW hw 92 rfl) (Or.inr (oW hw 254 rfl))
  obtain ⟨T23, h23, X23, e23, W23, st23⟩ := putF X22 hx hZ16 hown16 (host := "") (Or.inl (oW hw 253 rfl)) Via.refl rfl Fo23 ((e_o0_14_x.wr W21).keep K22) (Or.inr ⟨(oW hw 254 rfl), rfl, hnm⟩) (oW hw 92 rfl) (ty := (.object "java/util/List")) (by decide) rfl rfl (g := (mkF m 105 #[vR o0, vR o1, vI p2, vI p3, vR o4, vR x10] [(.ref b22), (.ref o0)])) rfl rfl (hb hby d16_105)
  have C23 := C22.trans (CHr.wr W23 (Safe.exa hZ16.alike ((e_o0_14_x.wr W21).keep K22) (by decide) (by decide)) C22.1)
  have O23 := O22.wr W23 g_o0
  have Fw23 := Fo23.same W23
  have N23 := Fr.snoc X23 N22 g_o0
  have f_o0_17_reused := (((((((((((((((((F_reused_o0.ext E2).keep K3 (ninS (Nat.ne_of_lt (Nat.lt_of_lt_of_le F_reused_o0.lt (Nat.le_of_eq g2.symm))) nin0)).other W4 (Or.inr (slot_ne (Or.inl (oW hw 323 rfl)) (Or.inr (oW hw 128 rfl)) (by decide) (t := (.object "com/example/graftwork/graftwork/ElementDefinition")) (t' := (.object "java/util/Map")) (by decide) (by decide)))).ext E5).keep K6 (ninS (Nat.ne_of_lt (Nat.lt_of_lt_of_le Fw4.lt (Nat.le_of_eq g5.symm))) nin0)).other W7 (Or.inr (slot_ne (Or.inl (oW hw 323 rfl)) (Or.inr (oW hw 132 rfl)) (by decide) (t := (.object "com/example/graftwork/graftwork/ElementDefinition")) (t' := (.object "java/util/List")) (by decide) (by decide)))).other W8 (Or.inr (slot_ne (Or.inl (oW hw 323 rfl)) (Or.inr (oW hw 134 rfl)) (by decide) (t := (.object "com/example/graftwork/graftwork/ElementDefinition")) (t' := (.object "java/lang/String")) (by decide) (by decide)))).keep K10 nin0).ext E11).other W13 (Or.inr (slot_ne (Or.inl (oW hw 323 rfl)) (Or.inr (oW hw 219 rfl)) (by decide) (t := (.object "com/example/graftwork/graftwork/ElementDefinition")) (t' := .boolean) (by decide) (by decide)))).ext E16).keep K18 nin0).other W19 (Or.inr (slot_ne (Or.inl (oW hw 323 rfl)) (Or.inr (oW hw 221 rfl)) (by decide) (t := (.object "com/example/graftwork/graftwork/ElementDefinition")) (t' := (.object "java/lang/String")) (by decide) (by decide)))).other W20 (Or.inr (slot_ne (Or.inl (oW hw 323 rfl)) (Or.inr (oW hw 223 rfl)) (by decide) (t := (.object "com/example/graftwork/graftwork/ElementDefinition")) (t' := .int) (by decide) (by decide)))).other W21 (Or.inr (slot_ne (Or.inl (oW hw 323 rfl)) (Or.inr (oW hw 225 rfl)) (by decide) (t := (.object "com/example/graftwork/graftwork/ElementDefinition")) (t' := .int) (by decide) (by decide)))).keep K22 nin0).other W23 (Or.inr (slot_ne (Or.inl (oW hw 323 rfl)) (Or.inr (oW hw 254 rfl)) (by decide) (t := (.object "com/example/graftwork/graftwork/ElementDefinition")) (t' := (.object "java/util/List")) (by decide) (by decide))))
  obtain ⟨fs, hr, hrun, hended, hRW⟩ := X23.leaveW Sn16 (by rw [e23]; exact (Nat.le_trans hk16 (Nat.le_trans (Nat.le_trans (Nat.le_trans (Nat.le_trans (Nat.le_trans K18.1 (Keep.of_wr W19).1) (Keep.of_wr W20).1) (Keep.of_wr W21).1) K22.1) (Keep.of_wr W23).1))) (v := none) (fun _ => rfl)
  have hCE : CHr Z own_EL s.vm h0 T23.vm h23 := C23.trans (CHv.at X23 hZ16 (own_EW hw) C23.1)
  refine ⟨_, _, pre0 _ ?_, hrun, hended, _, _, rfl, ?_, (by show CHr Z own_EL s.vm s.heap T23.vm T23.heap; rw [hh, e23]; exact hCE), hRW.1, hRW.2.1, hRW.2.2.1, hRW.2.2.2.mono (by decide) (by decide)⟩
  · show oS p e below s₁ m 0 #[vR o0, vR o1, vI p2, vI p3, vR o4, .unset] [] _
    refine XS.aloadN XS0.here hx rfl (hb hby d16_0) rfl rfl ?_
    show oS p e below s₁ m 1 #[vR o0, vR o1, vI p2, vI p3, vR o4, .unset] [(.ref o0)] _
    refine st1 _ ?_
    show oS p e below T1 m 4 #[vR o0, vR o1, vI p2, vI p3, vR o4, .unset] [] _
    refine XS.aloadN X1.here hx rfl (hb hby d16_4) rfl rfl ?_
    show oS p e below T1 m 5 #[vR o0, vR o1, vI p2, vI p3, vR o4, .unset] [(.ref o0)] _
    refine st2 _ ?_
    show oS p e below T2 m 8 #[vR o0, vR o1, vI p2, vI p3, vR o4, .unset] [(.ref b2), (.ref o0)] _
    refine XS.dup X2.here hx rfl (hb hby d16_8) rfl rfl ?_
    show oS p e below T2 m 9 #[vR o0, vR o1, vI p2, vI p3, vR o4, .unset] [(.ref b2), (.ref b2), (.ref o0)] _
    refine st3.trans ?_
    show oS p e below T3 m 12 #[vR o0, vR o1, vI p2, vI p3, vR o4, .unset] [(.ref b2), (.ref o0)] _
    refine st4 _ ?_
    show oS p e below T4 m 15 #[vR o0, vR o1, vI p2, vI p3, vR o4, .unset] [] _
    refine XS.aloadN X4.here hx rfl (hb hby d16_15) rfl rfl ?_
    show oS p e below T4 m 16 #[vR o0, vR o1, vI p2, vI p3, vR o4, .unset] [(.ref o0)] _
    refine st5 _ ?_
    show oS p e below T5 m 19 #[vR o0, vR o1, vI p2, vI p3, vR o4, .unset] [(.ref b5), (.ref o0)] _
    refine XS.dup X5.here hx rfl (hb hby d16_19) rfl rfl ?_
    show oS p e below T5 m 20 #[vR o0, vR o1, vI p2, vI p3, vR o4, .unset] [(.ref b5), (.ref b5), (.ref o0)] _
    refine st6.trans ?_
    show oS p e below T6 m 23 #[vR o0, vR o1, vI p2, vI p3, vR o4, .unset] [(.ref b5), (.ref o0)] _
    refine st7 _ ?_
    show oS p e below T7 m 26 #[vR o0, vR o1, vI p2, vI p3, vR o4, .unset] [] _
    refine XS.aloadN X7.here hx rfl (hb hby d16_26) rfl rfl ?_
    refine XS.aloadN X7.here hx rfl (hb hby d16_27) rfl rfl ?_
    show oS p e below T7 m 28 #[vR o0, vR o1, vI p2, vI p3, vR o4, .unset] [(.ref o1), (.ref o0)] _
    refine st8 _ ?_
    show oS p e below T8 m 31 #[vR o0, vR o1, vI p2, vI p3, vR o4, .unset] [] _
    refine XS.aloadN X8.here hx rfl (hb hby d16_31) rfl rfl ?_
    refine XS.aloadN X8.here hx rfl (hb hby d16_32) rfl rfl ?_
    refine XS.bipush X8.here hx rfl (hb hby d16_33) ?_
    show oS p e below T8 m 35 #[vR o0, vR o1, vI p2, vI p3, vR o4, .unset] [(.int 46), (.ref o1), (.ref o1)] _
    refine st9.trans ?_
    show oS p e below T9 m 38 #[vR o0, vR o1, vI p2, vI p3, vR o4, .unset] [(.int 1), (.ref o1)] _
    refine XS.iconst X9.here hx rfl (hb hby d16_38) ?_
    refine XS.iadd X9.here hx rfl (hb hby d16_39) rfl ?_
    show oS p e below T9 m 40 #[vR o0, vR o1, vI p2, vI p3, vR o4, .unset] [(.int 2), (.ref o1)] _
    refine st10.trans ?_
    show oS p e below T10 m 43 #[vR o0, vR o1, vI p2, vI p3, vR o4, .unset] [(.ref x10)] _
    refine XS.astore X10.here hx rfl (hb hby d16_43) rfl rfl (l' := #[vR o0, vR o1, vI p2, vI p3, vR o4, vR x10]) rfl ?_
    show oS p e below T10 m 45 #[vR o0, vR o1, vI p2, vI p3, vR o4, vR x10] [] _
    refine XS.aloadN X10.here hx rfl (hb hby d16_45) rfl rfl ?_
    refine XS.aload X10.here hx rfl (hb hby d16_46) rfl rfl ?_
    show oS p e below T10 m 48 #[vR o0, vR o1, vI p2, vI p3, vR o4, vR x10] [(.ref x10), (.ref o0)] _
    refine st11 _ ?_
    show oS p e below T11 m 50 #[vR o0, vR o1, vI p2, vI p3, vR o4, vR x10] [(.ref sa11), (.ref x10), (.ref o0)] _
    refine st12.trans ?_
    show oS p e below T12 m 53 #[vR o0, vR o1, vI p2, vI p3, vR o4, vR x10] [(.int 1), (.ref o0)] _
    refine st13 _ ?_
    show oS p e below T13 m 56 #[vR o0, vR o1, vI p2, vI p3, vR o4, vR x10] [] _
    refine XS.aloadN X13.here hx rfl (hb hby d16_56) rfl rfl ?_
    refine XS.aloadN X13.here hx rfl (hb hby d16_57) rfl rfl ?_
    show oS p e below T13 m 58 #[vR o0, vR o1, vI p2, vI p3, vR o4, vR x10] [(.ref o0), (.ref o0)] _
    refine st14 _ ?_
    show oS p e below T14 m 61 #[vR o0, vR o1, vI p2, vI p3, vR o4, vR x10] [(.int 1), (.ref o0)] _
    refine XS.ifNo X14.here hx rfl (hb hby d16_61) rfl ((if0 _ _).trans (feq (by decide : ¬ ((1 : Int32) = (0 : Int32)))).1) ?_
    show oS p e below T14 m 64 #[vR o0, vR o1, vI p2, vI p3, vR o4, vR x10] [(.ref o0)] _
    refine XS.aload X14.here hx rfl (hb hby d16_64) rfl rfl ?_
    refine XS.iconst X14.here hx rfl (hb hby d16_66) ?_
    refine XS.aload X14.here hx rfl (hb hby d16_67) rfl rfl ?_
    show oS p e below T14 m 69 #[vR o0, vR o1, vI p2, vI p3, vR o4, vR x10] [(.ref x10), (.int 0), (.ref x10), (.ref o0)] _
    refine st15.trans ?_
    show oS p e below T15 m 72 #[vR o0, vR o1, vI p2, vI p3, vR o4, vR x10] [(.int 4), (.int 0), (.ref x10), (.ref o0)] _
    refine st16 _ ?_
    show oS p e below T16 m 74 #[vR o0, vR o1, vI p2, vI p3, vR o4, vR x10] [(.ref sa16), (.int 4), (.int 0), (.ref x10), (.ref o0)] _
    refine st17.trans ?_
    show oS p e below T17 m 77 #[vR o0, vR o1, vI p2, vI p3, vR o4, vR x10] [(.int 3), (.int 4), (.int 0), (.ref x10), (.ref o0)] _
    refine XS.isub X17.here hx rfl (hb hby d16_77) rfl ?_
    show oS p e below T17 m 78 #[vR o0, vR o1, vI p2, vI p3, vR o4, vR x10] [(.int 1), (.int 0), (.ref x10), (.ref o0)] _
    refine st18.trans ?_
    show oS p e below T18 m 81 #[vR o0, vR o1, vI p2, vI p3, vR o4, vR x10] [(.ref x18), (.ref o0)] _
    refine XS.goto X18.here hx rfl (pc0 := 81) (pc' := 86) rfl (hb hby d16_81) (by decide) (by decide) ?_
    show oS p e below T18 m 86 #[vR o0, vR o1, vI p2, vI p3, vR o4, vR x10] [(.ref x18), (.ref o0)] _
    refine st19 _ ?_
    show oS p e below T19 m 89 #[vR o0, vR o1, vI p2, vI p3, vR o4, vR x10] [] _
    refine XS.aloadN X19.here hx rfl (hb hby d16_89) rfl rfl ?_
    refine XS.iloadN X19.here hx rfl (hb hby d16_90) rfl ?_
    show oS p e below T19 m 91 #[vR o0, vR o1, vI p2, vI p3, vR o4, vR x10] [(.int p2), (.ref o0)] _
    refine st20 _ ?_
    show oS p e below T20 m 94 #[vR o0, vR o1, vI p2, vI p3, vR o4, vR x10] [] _
    refine XS.aloadN X20.here hx rfl (hb hby d16_94) rfl rfl ?_
    refine XS.iloadN X20.here hx rfl (hb hby d16_95) rfl ?_
    show oS p e below T20 m 96 #[vR o0, vR o1, vI p2, vI p3, vR o4, vR x10] [(.int p3), (.ref o0)] _
    refine st21 _ ?_
    show oS p e below T21 m 99 #[vR o0, vR o1, vI p2, vI p3, vR o4, vR x10] [] _
    refine XS.aloadN X21.here hx rfl (hb hby d16_99) rfl rfl ?_
    refine XS.aload X21.here hx rfl (hb hby d16_100) rfl rfl ?_
    show oS p e below T21 m 102 #[vR o0, vR o1, vI p2, vI p3, vR o4, vR x10] [(.ref o4), (.ref o0)] _
    refine st22 _ ?_
    show oS p e below T22 m 105 #[vR o0, vR o1, vI p2, vI p3, vR o4, vR x10] [(.ref b22), (.ref o0)] _
    refine st23 _ ?_
    show oS p e below T23 m 108 #[vR o0, vR o1, vI p2, vI p3, vR o4, vR x10] [] _
    exact X23.returnOut hx Bd.returns (hb hby d16_108) hr
  · show own_QI Z o0 el em n x1 x2 h0 n0 _ T23.heap _
    rw [e23]
    exact ⟨b22, rfl, N23, ((((((((((((((((((Keep.refl h0 [o0]).ext E2).trans K3 (allS (Or.inr (Nat.le_of_eq g2.symm)) all0)).wr W4 (Or.inl (List.mem_of_getElem? (i := 0) rfl))).ext E5).trans K6 (allS (Or.inr (Nat.le_trans (Nat.le_trans (Nat.le_trans E2.1 K3.1) (Keep.of_wr W4).1) (Nat.le_of_eq g5.symm))) all0)).wr W7 (Or.inl (List.mem_of_getElem? (i := 0) rfl))).wr W8 (Or.inl (List.mem_of_getElem? (i := 0) rfl))).trans K10 all0).ext E11).wr W13 (Or.inl (List.mem_of_getElem? (i := 0) rfl))).ext E16).trans K18 all0).wr W19 (Or.inl (List.mem_of_getElem? (i := 0) rfl))).wr W20 (Or.inl (List.mem_of_getElem? (i := 0) rfl))).wr W21 (Or.inl (List.mem_of_getElem? (i := 0) rfl))).trans K22 all0).wr W23 (Or.inl (List.mem_of_getElem? (i := 0) rfl))), f_o0_17_reused, Fw23, (Il22.other W23 neg)⟩
theorem own_IL.ltg {Z : State} {h : Heap} {el em g x1 x2 : Addr} {n : Int32} (A : own_IL Z h el em g n x1 x2) (hel : el < h.size) : g < h.size := by
  rcases A with ⟨-, rfl⟩ | ⟨-, s1, -⟩ | ⟨-, s1, -⟩
  · exact hel
  · exact s1.lt
  · exact s1.lt
theorem own_AL.sep {Z : State} {h : Heap} {ad la ea xa ya lb eb xb yb : Addr} {na nb : Int32} {k : Nat} {kd : ClassId} (A : own_AL Z h ad la ea na xa ya) (B : own_AL Z h ad lb eb nb xb yb) (V : Arv Z h ad kd (.object "java/lang/Object") (0 : Int32) [] .null) (hs : nb = 0 ∨ k ≤ eb) (ha : ea < k) : (na = 0 ∨ eb ≠ ea) ∧ (nb = 0 ∨ ea ≠ eb) := by
  refine ⟨?_, hs.imp id fun q => Nat.ne_of_lt (Nat.lt_of_lt_of_le ha q)⟩
  rcases hs with hs | hs
  · obtain ⟨kb, mb, -, -, -, -, -, s⟩ := B
    have eb' : eb = ad := by
      rcases s with ⟨-, q⟩ | ⟨q, -⟩ | ⟨q, -⟩
      · exact q
      · exact absurd (hs.symm.trans q) (by decide)
      · exact absurd (hs.symm.trans q) (by decide)
    obtain ⟨ka, ma, -, -, -, -, -, s⟩ := A
    rcases s with ⟨q, -⟩ | ⟨-, s1, -⟩ | ⟨-, s1, -⟩
    · exact Or.inl q
    · exact Or.inr (by rw [eb']; exact own_ne0 V s1)
    · exact Or.inr (by rw [eb']; exact own_ne0 V s1)
  · exact Or.inr (Ne.symm (Nat.ne_of_lt (Nat.lt_of_lt_of_le ha hs)))
theorem own_LS.keepE {Z : State} {h h' : Heap} {l ed x1 x2 o : Addr} {n : Int32} {a0 : Array Value} {j : Nat} (A : own_LS Z h l ed n x1 x2) (K : Keep h h' [o]) (E : Exa Z h o "com/example/graftwork/graftwork/ElementDefinition") (w : (Jvm.Cond.instantiable "com/example/graftwork/graftwork/ElementDefinition" j).before a0 Z = true) : own_LS Z h' l ed n x1 x2 := by
  rcases A with A | ⟨k, m, a1, a2, a3, s⟩
  · exact Or.inl A
  · have hl : l ∉ [o] := ninS (a1.ne E (by decide)) nin0
    refine Or.inr ⟨k, m, a1.keep K, a2.keep K hl, a3.keep K hl, ?_⟩
    rcases s with ⟨q, r, y1, y2, s⟩ | ⟨q, r, y2, s⟩
    · exact Or.inl ⟨q, r, y1, y2, s.keep K (ninS (Ne.symm (E.neArv s w)) nin0)⟩
    · exact Or.inr ⟨q, r, y2, s.keep K (ninS (Ne.symm (E.neArv s w)) nin0)⟩
theorem own_wne {n : Int32} {l ed x : Addr} (h1 : x ≠ l) (h2 : n = 0 ∨ x ≠ ed) : x ≠ own_wa n l ed := by
  unfold own_wa
  by_cases q : n = 0
  · rw [if_pos q]
    exact h1
  · rw [if_neg q]
    exact h2.resolve_left q
theorem own_wge {n : Int32} {l ed : Addr} {n0 : Nat} (h1 : n0 ≤ l) (h2 : n = 0 ∨ n0 ≤ ed) : n0 ≤ own_wa n l ed := by
  unfold own_wa
  by_cases q : n = 0
  · rw [if_pos q]
    exact h1
  · rw [if_neg q]
    exact h2.resolve_left q
theorem own_AL.safeW {Z : State} {h : Heap} {ad l ed x1 x2 : Addr} {n : Int32} {vm : Vm} (hal : Z.vm.Alike vm) (A : own_AL Z h ad l ed n x1 x2) : Safe Z own_EL vm h (own_wa n l ed) := by
  unfold own_wa
  obtain ⟨k, mc, a1, -, -, -, -, s⟩ := A
  rcases s with ⟨q, -⟩ | ⟨q, s1, -⟩ | ⟨q, s1, -⟩
  · rw [if_pos q]
    exact Safe.exa hal a1 (by decide) (by decide)
  · rw [if_neg (by rw [q]; decide)]
    exact own_safeV hal s1 (by decide)
  · rw [if_neg (by rw [q]; decide)]
    exact own_safeV hal s1 (by decide)
theorem own_ilw {Z : State} {h : Heap} {ad el em g x1 x2 l ed y1 y2 : Addr} {n m : Int32} {n0 j : Nat} {a0 : Array Value} (I : own_IL Z h el em g m x1 x2) (hel : el < n0) (A : own_AL Z h ad l ed n y1 y2) (hl : n0 ≤ l) (he : n = 0 ∨ n0 ≤ ed) (w : (Jvm.Cond.instantiable "java/util/ImmutableCollections$List12" j).before a0 Z = true) : g ≠ own_wa n l ed := by
  refine own_wne (I.neo hel A.exa hl (by decide)) ?_
  obtain ⟨k, mc, -, -, -, -, -, s⟩ := A
  rcases s with ⟨q, -⟩ | ⟨q, s1, -⟩ | ⟨q, s1, -⟩
  · exact Or.inl q
  · exact Or.inr (I.nev hel s1 (he.resolve_left (by rw [q]; decide)) w)
  · exact Or.inr (I.nev hel s1 (he.resolve_left (by rw [q]; decide)) w)
def own_Ob (Z : State) (h : Heap) (n0 : Nat) (el em o g : Addr) (n : Int32) (x1 x2 : Addr) : Prop := Exa Z h o "com/example/graftwork/graftwork/ElementDefinition" ∧ Fld Z h o "com/example/graftwork/graftwork/ElementDefinition" "reused" "Lcom/example/graftwork/graftwork/ElementDefinition;" .null ∧ Fld Z h o "com/example/graftwork/graftwork/ElementDefinition" "types" "Ljava/util/List;" (.ref g) ∧ own_IL Z h el em g n x1 x2 ∧ n0 ≤ o
def own_W (Z : State) (h : Heap) (n0 : Nat) (ad el em la ea : Addr) (na : Int32) (xa ya lb eb : Addr) (nb : Int32) (xb yb lc ec : Addr) (nc : Int32) (xc yc oa ob oc ga gb gc : Addr) : Prop :=
  own_AL Z h ad la ea na xa ya ∧ own_AL Z h ad lb eb nb xb yb ∧ own_AL Z h ad lc ec nc xc yc ∧ (n0 ≤ la ∧ n0 ≤ lb ∧ n0 ≤ lc) ∧ ((na = 0 ∨ n0 ≤ ea) ∧ (nb = 0 ∨ n0 ≤ eb) ∧ (nc = 0 ∨ n0 ≤ ec)) ∧ (la ≠ lb ∧ la ≠ lc ∧ lb ≠ lc) ∧ (((na = 0 ∨ eb ≠ ea) ∧ (nb = 0 ∨ ea ≠ eb)) ∧ ((na = 0 ∨ ec ≠ ea) ∧ (nc = 0 ∨ ea ≠ ec)) ∧ ((nb = 0 ∨ ec ≠ eb) ∧ (nc = 0 ∨ eb ≠ ec))) ∧
  own_Ob Z h n0 el em oa ga na xa ya ∧ own_Ob Z h n0 el em ob gb nb xb yb ∧ own_Ob Z h n0 el em oc gc nc xc yc ∧ (oa ≠ ob ∧ oa ≠ oc ∧ ob ≠ oc)
def own_Y (Z : State) (h : Heap) (n0 : Nat) (el em la ea : Addr) (na : Int32) (xa ya lb eb : Addr) (nb : Int32) (xb yb lc ec : Addr) (nc : Int32) (xc yc oa ob oc ga gb gc : Addr) : Prop :=
  own_LS Z h la ea na xa ya ∧ own_LS Z h lb eb nb xb yb ∧ own_LS Z h lc ec nc xc yc ∧ own_Ob Z h n0 el em oa ga na xa ya ∧ own_Ob Z h n0 el em ob gb nb xb yb ∧ own_Ob Z h n0 el em oc gc nc xc yc ∧ (oa ≠ ob ∧ oa ≠ oc ∧ ob ≠ oc)
theorem pd_36 : parseMethodDescriptor "(I)Ljava/util/ArrayList;" = some ⟨[.int], some (.object "java/util/ArrayList")⟩ := by decide +kernel
theorem pd_37 : parseMethodDescriptor "(Ljava/lang/String;IILjava/util/List;)V" = some ⟨[(.object "java/lang/String"), .int, .int, (.object "java/util/List")], none⟩ := by decide +kernel
theorem lawP1 {p : Program} {l : Launch} {e : Env} {s : State} {m : MethodId} {below : List Frame} {meth : Method} {c : Code} {T0 : State} {Z : State} {a0 : Array Value} {p0 p1 p2 p3 : Int32} {ad el em mr : Addr} {kd : ClassId} {zc : Int32} {fm : Value} {h0 : Heap} {n0 : Nat} (X0 : Stand p l e room_1 s m #[(.int p0), (.int p1), (.int p2), (.int p3)] below meth c T0 [] 0 0) (hZ : Z.Warmed39 s.vm) (hown : s.vm.findClass "com/example/graftwork/graftwork/ElementDefinitionTypesPinLaw" = some m.cls) (hch : CHv Z own_EL s.vm h0) (hx : p.tables.exec = Jvm.exec) (hw : HW a0 Z) (hby : c.code = code) (hml : c.maxLocals = 19) (e0 : T0.heap = h0) (O0 : Old Z n0 h0) (S_DE : Sta Z Z.heap "java/util/ArrayList" "DEFAULTCAPACITY_EMPTY_ELEMENTDATA" "[Ljava/lang/Object;" (.ref ad)) (V_ad : Arv Z Z.heap ad kd (.object "java/lang/Object") (0 : Int32) [] .null) (S_CS : Sta Z Z.heap "java/lang/String" "COMPACT_STRINGS" "Z" (.int zc)) (hzc : ¬ zc = 0) (S_FM : Sta Z Z.heap "jdk/internal/util/Preconditions" "SIOOBE_FORMATTER" "Ljava/util/function/BiFunction;" fm) (hfm : fm.isRef = true) (E_el : Exa Z Z.heap el "java/util/ImmutableCollections$ListN") (S_EMPTY_LIST : Sta Z Z.heap "java/util/ImmutableCollections" "EMPTY_LIST" "Ljava/util/ImmutableCollections$ListN;" (.ref el)) (S_EMPTY : Sta Z Z.heap "java/util/ImmutableCollections" "EMPTY" "Ljava/lang/Object;" (.ref em)) (hmr : own_Mir Z "[Ljava/lang/Object;" mr) :
    ∃ (T' : State) (L' : List Loc) (k1 : Nat) (la : Addr) (ea : Addr) (na : Int32) (xa : Addr) (ya : Addr) (lb : Addr) (eb : Addr) (nb : Int32) (xb : Addr) (yb : Addr) (lc : Addr) (ec : Addr) (nc : Int32) (xc : Addr) (yc : Addr) (oa : Addr) (ob : Addr) (oc : Addr) (ga : Addr) (gb : Addr) (gc : Addr), Stand p l e room_1 (s.setVm T'.vm) m #[(.int p0), (.int p1), (.int p2), (.int p3)] below meth c T' L' 58 330 ∧ s.Since T'.vm k1 ∧ k1 ≤ T'.heap.size ∧ Z.Warmed39 (s.setVm T'.vm).vm ∧ (s.setVm T'.vm).vm.findClass "com/example/graftwork/graftwork/ElementDefinitionTypesPinLaw" = some m.cls ∧ CHv Z own_EL T'.vm T'.heap ∧ Old Z n0 T'.heap ∧ Fr n0 L' ∧ own_W Z T'.heap n0 ad el em la ea na xa ya lb eb nb xb yb lc ec nc xc yc oa ob oc ga gb gc ∧ ∀ target, Steps p.tables e below (T'.setTop (mkF m 85 #[vI p0, vI p1, vI p2, vI p3, vR la, vR lb, vR lc, vI na, vI nb, vI nc, vR oa, vR ob, vR oc, .unset, .unset, .unset, .unset, .unset, .unset] [])) target → Steps p.tables e below (T0.setTop (mkF m 0 #[vI p0, vI p1, vI p2, vI p3, .unset, .unset, .unset, .unset, .unset, .unset, .unset, .unset, .unset, .unset, .unset, .unset, .unset, .unset, .unset] [])) target := by
  have N0 := Fr.nil n0
  have Sn0 : s.Since s.vm 0 := (State.WarmedH.refl s).since 0
  have XS0 : Stand p l e room_1 (s.setVm s.vm) m #[(.int p0), (.int p1), (.int p2), (.int p3)] below meth c T0 [] 0 0 := X0
  have hZS : Z.Warmed39 s.vm := hZ
  have hownS : s.vm.findClass "com/example/graftwork/graftwork/ElementDefinitionTypesPinLaw" = some m.cls := hown
  have C0 : CHr Z own_EL s.vm h0 s.vm h0 := CHr.refl hch
  have hel : el < n0 := O0.1 ▸ E_el.lt
  obtain ⟨_, _, ⟨T1, L1, k1, n1⟩, -, X1, ⟨Lc1, hQ1, l1, y1, z1⟩, st1⟩ := Jvm.LawKit.callS XS0 hx (y := mN12) hownS (mvT hZS (oW hw 0 rfl)) (mvT hZS (oW hw 1 rfl)) (mvT hZS (oW hw 2 rfl)) (mvT hZS (oW hw 3 rfl)) (by decide) (backOf (W := 0) (rmDr l Z a0 hw [] p0 ad kd zc h0 n0 O0 S_DE V_ad S_CS hzc) hZS (oW hw 3 rfl) (oW hw 2 rfl) (by decide) (by decide)) (g := (mkF m 1 #[vI p0, vI p1, vI p2, vI p3, .unset, .unset, .unset, .unset, .unset, .unset, .unset, .unset, .unset, .unset, .unset, .unset, .unset, .unset, .unset] [(.int p0)])) rfl (by rw [hml]; rfl) (argsL := [(.int p0)]) (rest := []) (lenOf pd_36 rfl) rfl (by show 2 * 0 + _ ≤ _; exact Nat.le_of_eq rfl) (hb hby at_1) (fun _ _ => ⟨rfl, e0, (by decide : 0 + 7 ≤ _), (by decide : 0 + 33 ≤ _)⟩)
  dsimp only [Pt.U, Pt.locs, Pt.cells, Pt.slots] at X1 l1 y1 z1 st1 hQ1
  subst l1 y1 z1
  obtain ⟨vl1, ve1, vn1, vx1, vy1, rfl, N1q, K1, Al1, Sl1, Se1⟩ := hQ1
  have N1 := Fr.app N0 N1q
  have C1 := C0.trans (CHr.keep K1 all0 C0.1)
  have O1 := O0.keep K1 all0
  obtain ⟨_, _, ⟨T2, L2, k2, n2⟩, -, X2, ⟨Lc2, hQ2, l2, y2, z2⟩, st2⟩ := Jvm.LawKit.callS X1 hx (y := mN12) hownS (mvT hZS (oW hw 0 rfl)) (mvT hZS (oW hw 1 rfl)) (mvT hZS (oW hw 2 rfl)) (mvT hZS (oW hw 3 rfl)) (by decide) (backOf (W := 0) (rmDr l Z a0 hw [] p1 ad kd zc T1.heap n0 O1 S_DE V_ad S_CS hzc) hZS (oW hw 3 rfl) (oW hw 2 rfl) (by decide) (by decide)) (g := (mkF m 7 #[vI p0, vI p1, vI p2, vI p3, vR vl1, .unset, .unset, .unset, .unset, .unset, .unset, .unset, .unset, .unset, .unset, .unset, .unset, .unset, .unset] [(.int p1)])) rfl (by rw [hml]; rfl) (argsL := [(.int p1)]) (rest := []) (lenOf pd_36 rfl) rfl (by show 2 * 0 + _ ≤ _; exact Nat.le_of_eq rfl) (hb hby at_7) (fun _ _ => ⟨rfl, rfl, (by decide : 7 + 7 ≤ _), (by decide : 33 + 33 ≤ _)⟩)
  dsimp only [Pt.U, Pt.locs, Pt.cells, Pt.slots] at X2 l2 y2 z2 st2 hQ2
  subst l2 y2 z2
  obtain ⟨vl2, ve2, vn2, vx2, vy2, rfl, N2q, K2, Al2, Sl2, Se2⟩ := hQ2
  have N2 := Fr.app N1 N2q
  have C2 := C1.trans (CHr.keep K2 all0 C1.1)
  have O2 := O1.keep K2 all0
  obtain ⟨_, _, ⟨T3, L3, k3, n3⟩, -, X3, ⟨Lc3, hQ3, l3, y3, z3⟩, st3⟩ := Jvm.LawKit.callS X2 hx (y := mN12) hownS (mvT hZS (oW hw 0 rfl)) (mvT hZS (oW hw 1 rfl)) (mvT hZS (oW hw 2 rfl)) (mvT hZS (oW hw 3 rfl)) (by decide) (backOf (W := 0) (rmDr l Z a0 hw [] p2 ad kd zc T2.heap n0 O2 S_DE V_ad S_CS hzc) hZS (oW hw 3 rfl) (oW hw 2 rfl) (by decide) (by decide)) (g := (mkF m 13 #[vI p0, vI p1, vI p2, vI p3, vR vl1, vR vl2, .unset, .unset, .unset, .unset, .unset, .unset, .unset, .unset, .unset, .unset, .unset, .unset, .unset] [(.int p2)])) rfl (by rw [hml]; rfl) (argsL := [(.int p2)]) (rest := []) (lenOf pd_36 rfl) rfl (by show 2 * 0 + _ ≤ _; exact Nat.le_of_eq rfl) (hb hby at_13) (fun _ _ => ⟨rfl, rfl, (by decide : 14 + 7 ≤ _), (by decide : 66 + 33 ≤ _)⟩)
  dsimp only [Pt.U, Pt.locs, Pt.cells, Pt.slots] at X3 l3 y3 z3 st3 hQ3
  subst l3 y3 z3
  obtain ⟨vl3, ve3, vn3, vx3, vy3, rfl, N3q, K3, Al3, Sl3, Se3⟩ := hQ3
  have N3 := Fr.app N2 N3q
  have C3 := C2.trans (CHr.keep K3 all0 C2.1)
  have O3 := O2.keep K3 all0
  obtain ⟨cq4, kq4, q4a, q4b, q4c⟩ := isOf hZS rfl ((Al1.exa.keep K2).keep K3)
  obtain ⟨_, _, ⟨T4, L4, k4, n4⟩, -, X4, ⟨Lc4, hQ4, l4, y4, z4⟩, st4⟩ := X3.virtualBack hx (y := mN13) (z := mN13) hownS (mvT hZS (oW hw 86 rfl)) (mvT hZS (oW hw 87 rfl)) (notFace_of_selects (args := #[]) (mvT hZS (oW hw 89 rfl))) (mvT hZS (oW hw 89 rfl)) (mvT hZS (oW hw 88 rfl)) (by decide) (backOf (W := 0) (rmSz l Z a0 hw [] vl1 vn1 T3.heap n0 O3 (((Al1.keep K2 nin0 nin0).keep K3 nin0 nin0)).sz) hZS (oW hw 90 rfl) (oW hw 6 rfl) (by decide) (by decide)) q4a q4c (g := (mkF m 20 #[vI p0, vI p1, vI p2, vI p3, vR vl1, vR vl2, vR vl3, .unset, .unset, .unset, .unset, .unset, .unset, .unset, .unset, .unset, .unset, .unset, .unset] [(.ref vl1)])) rfl (by rw [hml]; rfl) (Steps.refl _) (argsL := []) (rest := []) (lenOf pd_22 rfl) rfl (by show 2 * 0 + _ ≤ _; exact Nat.le_of_eq rfl) (hb hby at_20) (fun _ _ => ⟨rfl, rfl, (by decide : 21 + 0 ≤ _), (by decide : 99 + 0 ≤ _)⟩)
  dsimp only [Pt.U, Pt.locs, Pt.cells, Pt.slots] at X4 l4 y4 z4 st4 hQ4
  subst l4 y4 z4
  obtain ⟨rfl, N4q, e4⟩ := hQ4
  have N4 := Fr.app N3 N4q
  obtain ⟨cq5, kq5, q5a, q5b, q5c⟩ := isOf hZS e4 (Al2.exa.keep K3)
  obtain ⟨_, _, ⟨T5, L5, k5, n5⟩, -, X5, ⟨Lc5, hQ5, l5, y5, z5⟩, st5⟩ := X4.virtualBack hx (y := mN13) (z := mN13) hownS (mvT hZS (oW hw 86 rfl)) (mvT hZS (oW hw 87 rfl)) (notFace_of_selects (args := #[]) (mvT hZS (oW hw 89 rfl))) (mvT hZS (oW hw 89 rfl)) (mvT hZS (oW hw 88 rfl)) (by decide) (backOf (W := 0) (rmSz l Z a0 hw [] vl2 vn2 T3.heap n0 O3 ((Al2.keep K3 nin0 nin0)).sz) hZS (oW hw 90 rfl) (oW hw 6 rfl) (by decide) (by decide)) q5a q5c (g := (mkF m 27 #[vI p0, vI p1, vI p2, vI p3, vR vl1, vR vl2, vR vl3, vI vn1, .unset, .unset, .unset, .unset, .unset, .unset, .unset, .unset, .unset, .unset, .unset] [(.ref vl2)])) rfl (by rw [hml]; rfl) (Steps.refl _) (argsL := []) (rest := []) (lenOf pd_22 rfl) rfl (by show 2 * 0 + _ ≤ _; exact Nat.le_of_eq rfl) (hb hby at_27) (fun _ _ => ⟨rfl, e4, (by decide : 21 + 0 ≤ _), (by decide : 99 + 0 ≤ _)⟩)
  dsimp only [Pt.U, Pt.locs, Pt.cells, Pt.slots] at X5 l5 y5 z5 st5 hQ5
  subst l5 y5 z5
  obtain ⟨rfl, N5q, e5⟩ := hQ5
  have N5 := Fr.app N4 N5q
  obtain ⟨cq6, kq6, q6a, q6b, q6c⟩ := isOf hZS e5 Al3.exa
  obtain ⟨_, _, ⟨T6, L6, k6, n6⟩, -, X6, ⟨Lc6, hQ6, l6, y6, z6⟩, st6⟩ := X5.virtualBack hx (y := mN13) (z := mN13) hownS (mvT hZS (oW hw 86 rfl)) (mvT hZS (oW hw 87 rfl)) (notFace_of_selects (args := #[]) (mvT hZS (oW hw 89 rfl))) (mvT hZS (oW hw 89 rfl)) (mvT hZS (oW hw 88 rfl)) (by decide) (backOf (W := 0) (rmSz l Z a0 hw [] vl3 vn3 T3.heap n0 O3 (Al3).sz) hZS (oW hw 90 rfl) (oW hw 6 rfl) (by decide) (by decide)) q6a q6c (g := (mkF m 34 #[vI p0, vI p1, vI p2, vI p3, vR vl1, vR vl2, vR vl3, vI vn1, vI vn2, .unset, .unset, .unset, .unset, .unset, .unset, .unset, .unset, .unset, .unset] [(.ref vl3)])) rfl (by rw [hml]; rfl) (Steps.refl _) (argsL := []) (rest := []) (lenOf pd_22 rfl) rfl (by show 2 * 0 + _ ≤ _; exact Nat.le_of_eq rfl) (hb hby at_34) (fun _ _ => ⟨rfl, e5, (by decide : 21 + 0 ≤ _), (by decide : 99 + 0 ≤ _)⟩)
  dsimp only [Pt.U, Pt.locs, Pt.cells, Pt.slots] at X6 l6 y6 z6 st6 hQ6
  subst l6 y6 z6
  obtain ⟨rfl, N6q, e6⟩ := hQ6
  have N6 := Fr.app N5 N6q
  obtain ⟨T7, h7, X7, e7, E7, A7, D7, U7, st7⟩ := newO X6 hx hZS hownS (oW hw 91 rfl) (oW hw 92 rfl) (oW hw 93 rfl) e6 (g := (mkF m 39 #[vI p0, vI p1, vI p2, vI p3, vR vl1, vR vl2, vR vl3, vI vn1, vI vn2, vI vn3, .unset, .unset, .unset, .unset, .unset, .unset, .unset, .unset, .unset] [])) rfl (hb hby at_39) (by decide) (by decide)
  obtain ⟨b7, g7⟩ : ∃ z, z = T3.heap.size := ⟨_, rfl⟩
  rw [← g7] at A7 D7 U7 st7
  have Ut7 : Unt h7 b7 := U7
  have g_b7 : n0 ≤ b7 := Nat.le_trans (own_le O3) (Nat.le_of_eq g7.symm)
  have C7 := C3.trans (CHr.ext E7 C3.1)
  have O7 := O3.ext E7
  have F_children_b7 : Fld Z h7 b7 "com/example/graftwork/graftwork/ElementDefinition" "children" "Ljava/util/Map;" .null := D7 (Or.inr (oW hw 128 rfl)) (ty := (.object "java/util/Map")) (by decide)
  have F_choices_b7 : Fld Z h7 b7 "com/example/graftwork/graftwork/ElementDefinition" "choices" "Ljava/util/List;" .null := D7 (Or.inr (oW hw 132 rfl)) (ty := (.object "java/util/List")) (by decide)
  have F_path_b7 : Fld Z h7 b7 "com/example/graftwork/graftwork/ElementDefinition" "path" "Ljava/lang/String;" .null := D7 (Or.inr (oW hw 134 rfl)) (ty := (.object "java/lang/String")) (by decide)
  have F_choice_b7 : Fld Z h7 b7 "com/example/graftwork/graftwork/ElementDefinition" "choice" "Z" (.int 0) := D7 (Or.inr (oW hw 219 rfl)) (ty := .boolean) (by decide)
  have F_name_b7 : Fld Z h7 b7 "com/example/graftwork/graftwork/ElementDefinition" "name" "Ljava/lang/String;" .null := D7 (Or.inr (oW hw 221 rfl)) (ty := (.object "java/lang/String")) (by decide)
  have F_min_b7 : Fld Z h7 b7 "com/example/graftwork/graftwork/ElementDefinition" "min" "I" (.int 0) := D7 (Or.inr (oW hw 223 rfl)) (ty := .int) (by decide)
  have F_max_b7 : Fld Z h7 b7 "com/example/graftwork/graftwork/ElementDefinition" "max" "I" (.int 0) := D7 (Or.inr (oW hw 225 rfl)) (ty := .int) (by decide)
  have F_types_b7 : Fld Z h7 b7 "com/example/graftwork/graftwork/ElementDefinition" "types" "Ljava/util/List;" .null := D7 (Or.inr (oW hw 254 rfl)) (ty := (.object "java/util/List")) (by decide)
  have F_reused_b7 : Fld Z h7 b7 "com/example/graftwork/graftwork/ElementDefinition" "reused" "Lcom/example/graftwork/graftwork/ElementDefinition;" .null := D7 (Or.inl (oW hw 323 rfl)) (ty := (.object "com/example/graftwork/graftwork/ElementDefinition")) (by decide)
  obtain ⟨sa8, T8, h8, ks8, tb8, kb8, X8, e8, E8, Sn8, hk8, hZ8, hown8, Ea8, Fc8, Fv8, Vb8, la8, lb8, Cl8, Lt8, ns8, st8⟩ := ldcCH X7 hx hZS hownS (oW hw 94 rfl) (own_sa hw) e7 Sn0 (Nat.le_trans (Nat.zero_le _) (Nat.le_trans (Nat.le_trans (Nat.le_trans K1.1 K2.1) K3.1) E7.1)) (own_EW hw) (by decide) C7.1 (vs := [(.int 82), (.int 46), (.int 97)]) (z := (3 : Int32)) ⟨by decide, rfl⟩ (by decide) (by decide) (g := (mkF m 43 #[vI p0, vI p1, vI p2, vI p3, vR vl1, vR vl2, vR vl3, vI vn1, vI vn2, vI vn3, .unset, .unset, .unset, .unset, .unset, .unset, .unset, .unset, .unset] [(.ref b7), (.ref b7)])) rfl (hb hby at_43) (n := 12) (by decide) (by decide) (by decide) (by decide)
  have C8 := C7.trans Cl8
  have O8 := O7.ext E8
  have a_vl1_5_ve1 := ((((Al1.keep K2 nin0 nin0).keep K3 nin0 nin0).ext E7).ext E8)
  obtain ⟨_, _, ⟨T9, L9, k9, n9⟩, -, Xq9, Sq9, sz9, ⟨Lc9, hQ9, l9, y9, z9, Cl9⟩, st9⟩ := X8.specialBackS hx (y := mN64) rfl hown8 (mvT hZ8 (oW hw 97 rfl)) (mvT hZ8 (oW hw 98 rfl)) (mvT hZ8 (oW hw 99 rfl)) (by decide) (backOfSH (W := 1) (rmI3 l Z a0 hw [] b7 sa8 (0 : Int32) (1 : Int32) vl1 (97 : Int32) tb8 kb8 ad kd zc fm el em ve1 mr vx1 vy1 vn1 h8 n0 O8 (A7.ext E8) (Unt.ext E8 Ut7) g_b7 (F_reused_b7.ext E8) (by decide) Ea8 Fv8 Fc8 Vb8 S_DE V_ad S_CS hzc S_FM hfm E_el S_EMPTY_LIST S_EMPTY hmr a_vl1_5_ve1) hZ8 (oW hw 99 rfl) (oW hw 93 rfl) (by decide) (by decide) (own_EW hw) C8.1) (g := (mkF m 49 #[vI p0, vI p1, vI p2, vI p3, vR vl1, vR vl2, vR vl3, vI vn1, vI vn2, vI vn3, .unset, .unset, .unset, .unset, .unset, .unset, .unset, .unset, .unset] [(.ref vl1), (.int 1), (.int 0), (.ref sa8), (.ref b7), (.ref b7)])) rfl (by rw [hml]; rfl) (Steps.refl _) (a := b7) (argsL := [(.ref sa8), (.int 0), (.int 1), (.ref vl1)]) (rest := [(.ref b7)]) (lenOf pd_37 rfl) rfl (by show 2 * 0 + _ ≤ _; exact Nat.le_of_eq rfl) (hb hby at_49) (fun _ _ => ⟨rfl, e8, (by decide : 24 + 8 ≤ _), (by decide : 124 + 40 ≤ _)⟩)
  dsimp only [Pt.U, Pt.locs, Pt.cells, Pt.slots] at Xq9 Sq9 sz9 Cl9
  have X9 : Stand p l e _ (s.setVm T9.vm) m _ below meth c T9 _ _ _ := Xq9
  have Sn9 := Sn8.trans Sq9 (Nat.le_trans hk8 (Nat.le_trans (Nat.le_of_eq (congrArg Array.size (e8).symm)) sz9))
  have hZ9 : Z.Warmed39 (s.setVm T9.vm).vm := State.Warmed39.trans hZ8 Sq9.1
  have hown9 : (s.setVm T9.vm).vm.findClass "com/example/graftwork/graftwork/ElementDefinitionTypesPinLaw" = some m.cls := by rw [show (s.setVm T9.vm).vm = T9.vm from rfl, Sq9.1.alike.findClass]; exact hown8
  dsimp only [Pt.U, Pt.locs, Pt.cells, Pt.slots] at X9 l9 y9 z9 st9 hQ9
  subst l9 y9 z9
  obtain ⟨vg9, rfl, N9q, K9, Fr9, Ft9, Il9⟩ := hQ9
  have N9 := Fr.app N6 N9q
  have O9 := O8.keep K9 (allS g_b7 all0)
  have C9 := C8.trans Cl9
  obtain ⟨T10, h10, X10, e10, E10, A10, D10, U10, st10⟩ := newO X9 hx hZ9 hown9 (oW hw 91 rfl) (oW hw 92 rfl) (oW hw 93 rfl) rfl (g := (mkF m 54 #[vI p0, vI p1, vI p2, vI p3, vR vl1, vR vl2, vR vl3, vI vn1, vI vn2, vI vn3, vR b7, .unset, .unset, .unset, .unset, .unset, .unset, .unset, .unset] [])) rfl (hb hby at_54) (by decide) (by decide)
  obtain ⟨b10, g10⟩ : ∃ z, z = T9.heap.size := ⟨_, rfl⟩
  rw [← g10] at A10 D10 U10 st10
  have Ut10 : Unt h10 b10 := U10
  have g_b10 : n0 ≤ b10 := Nat.le_trans (own_le O9) (Nat.le_of_eq g10.symm)
  have C10 := C9.trans (CHr.ext E10 C9.1)
  have O10 := O9.ext E10
  have F_children_b10 : Fld Z h10 b10 "com/example/graftwork/graftwork/ElementDefinition" "children" "Ljava/util/Map;" .null := D10 (Or.inr (oW hw 128 rfl)) (ty := (.object "java/util/Map")) (by decide)
  have F_choices_b10 : Fld Z h10 b10 "com/example/graftwork/graftwork/ElementDefinition" "choices" "Ljava/util/List;" .null := D10 (Or.inr (oW hw 132 rfl)) (ty := (.object "java/util/List")) (by decide)
  have F_path_b10 : Fld Z h10 b10 "com/example/graftwork/graftwork/ElementDefinition" "path" "Ljava/lang/String;" .null := D10 (Or.inr (oW hw 134 rfl)) (ty := (.object "java/lang/String")) (by decide)
  have F_choice_b10 : Fld Z h10 b10 "com/example/graftwork/graftwork/ElementDefinition" "choice" "Z" (.int 0) := D10 (Or.inr (oW hw 219 rfl)) (ty := .boolean) (by decide)
  have F_name_b10 : Fld Z h10 b10 "com/example/graftwork/graftwork/ElementDefinition" "name" "Ljava/lang/String;" .null := D10 (Or.inr (oW hw 221 rfl)) (ty := (.object "java/lang/String")) (by decide)
  have F_min_b10 : Fld Z h10 b10 "com/example/graftwork/graftwork/ElementDefinition" "min" "I" (.int 0) := D10 (Or.inr (oW hw 223 rfl)) (ty := .int) (by decide)
  have F_max_b10 : Fld Z h10 b10 "com/example/graftwork/graftwork/ElementDefinition" "max" "I" (.int 0) := D10 (Or.inr (oW hw 225 rfl)) (ty := .int) (by decide)
  have F_types_b10 : Fld Z h10 b10 "com/example/graftwork/graftwork/ElementDefinition" "types" "Ljava/util/List;" .null := D10 (Or.inr (oW hw 254 rfl)) (ty := (.object "java/util/List")) (by decide)
  have F_reused_b10 : Fld Z h10 b10 "com/example/graftwork/graftwork/ElementDefinition" "reused" "Lcom/example/graftwork/graftwork/ElementDefinition;" .null := D10 (Or.inl (oW hw 323 rfl)) (ty := (.object "com/example/graftwork/graftwork/ElementDefinition")) (by decide)
  obtain ⟨sa11, T11, h11, ks11, tb11, kb11, X11, e11, E11, Sn11, hk11, hZ11, hown11, Ea11, Fc11, Fv11, Vb11, la11, lb11, Cl11, Lt11, ns11, st11⟩ := ldcCH X10 hx hZ9 hown9 (oW hw 255 rfl) (own_sa hw) e10 Sn9 (Nat.le_trans (Nat.le_refl _) E10.1) (own_EW hw) (by decide) C10.1 (vs := [(.int 82), (.int 46), (.int 98), (.int 91), (.int 120), (.int 93)]) (z := (6 : Int32)) ⟨by decide, rfl⟩ (by decide) (by decide) (g := (mkF m 58 #[vI p0, vI p1, vI p2, vI p3, vR vl1, vR vl2, vR vl3, vI vn1, vI vn2, vI vn3, vR b7, .unset, .unset, .unset, .unset, .unset, .unset, .unset, .unset] [(.ref b10), (.ref b10)])) rfl (hb hby at_58) (n := 24) (by decide) (by decide) (by decide) (by decide)
  have C11 := C10.trans Cl11
  have O11 := O10.ext E11
  have a_vl2_8_ve2 := ((((((Al2.keep K3 nin0 nin0).ext E7).ext E8).keep K9 (ninS (Nat.ne_of_lt (Nat.lt_of_lt_of_le (Al2.exa.keep K3).lt (Nat.le_of_eq g7.symm))) nin0) (ninS (Nat.ne_of_lt (Nat.lt_of_lt_of_le (Nat.lt_of_lt_of_le Al2.lte K3.1) (Nat.le_of_eq g7.symm))) nin0)).ext E10).ext E11)
  obtain ⟨_, _, ⟨T12, L12, k12, n12⟩, -, Xq12, Sq12, sz12, ⟨Lc12, hQ12, l12, y12, z12, Cl12⟩, st12⟩ := X11.specialBackS hx (y := mN64) rfl hown11 (mvT hZ11 (oW hw 97 rfl)) (mvT hZ11 (oW hw 98 rfl)) (mvT hZ11 (oW hw 99 rfl)) (by decide) (backOfSH (W := 1) (rmI6 l Z a0 hw [] b10 sa11 (0 : Int32) (2147483647 : Int32) vl2 tb11 kb11 ad kd zc fm el em ve2 mr vx2 vy2 vn2 h11 n0 O11 (A10.ext E11) (Unt.ext E11 Ut10) g_b10 (F_reused_b10.ext E11) Ea11 Fv11 Fc11 Vb11 S_DE V_ad S_CS hzc S_FM hfm E_el S_EMPTY_LIST S_EMPTY hmr a_vl2_8_ve2) hZ11 (oW hw 99 rfl) (oW hw 93 rfl) (by decide) (by decide) (own_EW hw) C11.1) (g := (mkF m 65 #[vI p0, vI p1, vI p2, vI p3, vR vl1, vR vl2, vR vl3, vI vn1, vI vn2, vI vn3, vR b7, .unset, .unset, .unset, .unset, .unset, .unset, .unset, .unset] [(.ref vl2), (.int 2147483647), (.int 0), (.ref sa11), (.ref b10), (.ref b10)])) rfl (by rw [hml]; rfl) (Steps.refl _) (a := b10) (argsL := [(.ref sa11), (.int 0), (.int 2147483647), (.ref vl2)]) (rest := [(.ref b10)]) (lenOf pd_37 rfl) rfl (by show 2 * 0 + _ ≤ _; exact Nat.le_of_eq rfl) (hb hby at_65) (fun _ _ => ⟨rfl, e11, (by decide : 35 + 12 ≤ _), (by decide : 201 + 64 ≤ _)⟩)
  dsimp only [Pt.U, Pt.locs, Pt.cells, Pt.slots] at Xq12 Sq12 sz12 Cl12
  have X12 : Stand p l e _ (s.setVm T12.vm) m _ below meth c T12 _ _ _ := Xq12
  have Sn12 := Sn11.trans Sq12 (Nat.le_trans hk11 (Nat.le_trans (Nat.le_of_eq (congrArg Array.size (e11).symm)) sz12))
  have hZ12 : Z.Warmed39 (s.setVm T12.vm).vm := State.Warmed39.trans hZ11 Sq12.1
  have hown12 : (s.setVm T12.vm).vm.findClass "com/example/graftwork/graftwork/ElementDefinitionTypesPinLaw" = some m.cls := by rw [show (s.setVm T12.vm).vm = T12.vm from rfl, Sq12.1.alike.findClass]; exact hown11
  dsimp only [Pt.U, Pt.locs, Pt.cells, Pt.slots] at X12 l12 y12 z12 st12 hQ12
  subst l12 y12 z12
  obtain ⟨vg12, rfl, N12q, K12, Fr12, Ft12, Il12⟩ := hQ12
  have N12 := Fr.app N9 N12q
  have O12 := O11.keep K12 (allS g_b10 all0)
  have C12 := C11.trans Cl12
  obtain ⟨T13, h13, X13, e13, E13, A13, D13, U13, st13⟩ := newO X12 hx hZ12 hown12 (oW hw 91 rfl) (oW hw 92 rfl) (oW hw 93 rfl) rfl (g := (mkF m 70 #[vI p0, vI p1, vI p2, vI p3, vR vl1, vR vl2, vR vl3, vI vn1, vI vn2, vI vn3, vR b7, vR b10, .unset, .unset, .unset, .unset, .unset, .unset, .unset] [])) rfl (hb hby at_70) (by decide) (by decide)
  obtain ⟨b13, g13⟩ : ∃ z, z = T12.heap.size := ⟨_, rfl⟩
  rw [← g13] at A13 D13 U13 st13
  have Ut13 : Unt h13 b13 := U13
  have g_b13 : n0 ≤ b13 := Nat.le_trans (own_le O12) (Nat.le_of_eq g13.symm)
  have C13 := C12.trans (CHr.ext E13 C12.1)
  have O13 := O12.ext E13
  have F_children_b13 : Fld Z h13 b13 "com/example/graftwork/graftwork/ElementDefinition" "children" "Ljava/util/Map;" .null := D13 (Or.inr (oW hw 128 rfl)) (ty := (.object "java/util/Map")) (by decide)
  have F_choices_b13 : Fld Z h13 b13 "com/example/graftwork/graftwork/ElementDefinition" "choices" "Ljava/util/List;" .null := D13 (Or.inr (oW hw 132 rfl)) (ty := (.object "java/util/List")) (by decide)
  have F_path_b13 : Fld Z h13 b13 "com/example/graftwork/graftwork/ElementDefinition" "path" "Ljava/lang/String;" .null := D13 (Or.inr (oW hw 134 rfl)) (ty := (.object "java/lang/String")) (by decide)
  have F_choice_b13 : Fld Z h13 b13 "com/example/graftwork/graftwork/ElementDefinition" "choice" "Z" (.int 0) := D13 (Or.inr (oW hw 219 rfl)) (ty := .boolean) (by decide)
  have F_name_b13 : Fld Z h13 b13 "com/example/graftwork/graftwork/ElementDefinition" "name" "Ljava/lang/String;" .null := D13 (Or.inr (oW hw 221 rfl)) (ty := (.object "java/lang/String")) (by decide)
  have F_min_b13 : Fld Z h13 b13 "com/example/graftwork/graftwork/ElementDefinition" "min" "I" (.int 0) := D13 (Or.inr (oW hw 223 rfl)) (ty := .int) (by decide)
  have F_max_b13 : Fld Z h13 b13 "com/example/graftwork/graftwork/ElementDefinition" "max" "I" (.int 0) := D13 (Or.inr (oW hw 225 rfl)) (ty := .int) (by decide)
  have F_types_b13 : Fld Z h13 b13 "com/example/graftwork/graftwork/ElementDefinition" "types" "Ljava/util/List;" .null := D13 (Or.inr (oW hw 254 rfl)) (ty := (.object "java/util/List")) (by decide)
  have F_reused_b13 : Fld Z h13 b13 "com/example/graftwork/graftwork/ElementDefinition" "reused" "Lcom/example/graftwork/graftwork/ElementDefinition;" .null := D13 (Or.inl (oW hw 323 rfl)) (ty := (.object "com/example/graftwork/graftwork/ElementDefinition")) (by decide)
  obtain ⟨sa14, T14, h14, ks14, tb14, kb14, X14, e14, E14, Sn14, hk14, hZ14, hown14, Ea14, Fc14, Fv14, Vb14, la14, lb14, Cl14, Lt14, ns14, st14⟩ := ldcCH X13 hx hZ12 hown12 (oW hw 262 rfl) (own_sa hw) e13 Sn12 (Nat.le_trans (Nat.le_refl _) E13.1) (own_EW hw) (by decide) C13.1 (vs := [(.int 82), (.int 46), (.int 99)]) (z := (3 : Int32)) ⟨by decide, rfl⟩ (by decide) (by decide) (g := (mkF m 74 #[vI p0, vI p1, vI p2, vI p3, vR vl1, vR vl2, vR vl3, vI vn1, vI vn2, vI vn3, vR b7, vR b10, .unset, .unset, .unset, .unset, .unset, .unset, .unset] [(.ref b13), (.ref b13)])) rfl (hb hby at_74) (n := 12) (by decide) (by decide) (by decide) (by decide)
  have C14 := C13.trans Cl14
  have O14 := O13.ext E14
  have a_vl3_11_ve3 := ((((((((Al3.ext E7).ext E8).keep K9 (ninS (Nat.ne_of_lt (Nat.lt_of_lt_of_le Al3.exa.lt (Nat.le_of_eq g7.symm))) nin0) (ninS (Nat.ne_of_lt (Nat.lt_of_lt_of_le Al3.lte (Nat.le_of_eq g7.symm))) nin0)).ext E10).ext E11).keep K12 (ninS (Nat.ne_of_lt (Nat.lt_of_lt_of_le (Nat.lt_of_lt_of_le Al3.exa.lt (Nat.le_trans (Nat.le_trans E7.1 E8.1) K9.1)) (Nat.le_of_eq g10.symm))) nin0) (ninS (Nat.ne_of_lt (Nat.lt_of_lt_of_le (Nat.lt_of_lt_of_le Al3.lte (Nat.le_trans (Nat.le_trans E7.1 E8.1) K9.1)) (Nat.le_of_eq g10.symm))) nin0)).ext E13).ext E14)
  obtain ⟨_, _, ⟨T15, L15, k15, n15⟩, -, Xq15, Sq15, sz15, ⟨Lc15, hQ15, l15, y15, z15, Cl15⟩, st15⟩ := X14.specialBackS hx (y := mN64) rfl hown14 (mvT hZ14 (oW hw 97 rfl)) (mvT hZ14 (oW hw 98 rfl)) (mvT hZ14 (oW hw 99 rfl)) (by decide) (backOfSH (W := 1) (rmI3 l Z a0 hw [] b13 sa14 (1 : Int32) (1 : Int32) vl3 (99 : Int32) tb14 kb14 ad kd zc fm el em ve3 mr vx3 vy3 vn3 h14 n0 O14 (A13.ext E14) (Unt.ext E14 Ut13) g_b13 (F_reused_b13.ext E14) (by decide) Ea14 Fv14 Fc14 Vb14 S_DE V_ad S_CS hzc S_FM hfm E_el S_EMPTY_LIST S_EMPTY hmr a_vl3_11_ve3) hZ14 (oW hw 99 rfl) (oW hw 93 rfl) (by decide) (by decide) (own_EW hw) C14.1) (g := (mkF m 80 #[vI p0, vI p1, vI p2, vI p3, vR vl1, vR vl2, vR vl3, vI vn1, vI vn2, vI vn3, vR b7, vR b10, .unset, .unset, .unset, .unset, .unset, .unset, .unset] [(.ref vl3), (.int 1), (.int 1), (.ref sa14), (.ref b13), (.ref b13)])) rfl (by rw [hml]; rfl) (Steps.refl _) (a := b13) (argsL := [(.ref sa14), (.int 1), (.int 1), (.ref vl3)]) (rest := [(.ref b13)]) (lenOf pd_37 rfl) rfl (by show 2 * 0 + _ ≤ _; exact Nat.le_of_eq rfl) (hb hby at_80) (fun _ _ => ⟨rfl, e14, (by decide : 50 + 8 ≤ _), (by decide : 290 + 40 ≤ _)⟩)
  dsimp only [Pt.U, Pt.locs, Pt.cells, Pt.slots] at Xq15 Sq15 sz15 Cl15
  have X15 : Stand p l e _ (s.setVm T15.vm) m _ below meth c T15 _ _ _ := Xq15
  have Sn15 := Sn14.trans Sq15 (Nat.le_trans hk14 (Nat.le_trans (Nat.le_of_eq (congrArg Array.size (e14).symm)) sz15))
  have hZ15 : Z.Warmed39 (s.setVm T15.vm).vm := State.Warmed39.trans hZ14 Sq15.1
  have hown15 : (s.setVm T15.vm).vm.findClass "com/example/graftwork/graftwork/ElementDefinitionTypesPinLaw" = some m.cls := by rw [show (s.setVm T15.vm).vm = T15.vm from rfl, Sq15.1.alike.findClass]; exact hown14
  dsimp only [Pt.U, Pt.locs, Pt.cells, Pt.slots] at X15 l15 y15 z15 st15 hQ15
  subst l15 y15 z15
  obtain ⟨vg15, rfl, N15q, K15, Fr15, Ft15, Il15⟩ := hQ15
  have N15 := Fr.app N12 N15q
  have O15 := O14.keep K15 (allS g_b13 all0)
  have C15 := C14.trans Cl15
  have a_vl1_12_ve1 := (((((((a_vl1_5_ve1.keep K9 (ninS (Nat.ne_of_lt (Nat.lt_of_lt_of_le ((Al1.exa.keep K2).keep K3).lt (Nat.le_of_eq g7.symm))) nin0) (ninS (Nat.ne_of_lt (Nat.lt_of_lt_of_le (Nat.lt_of_lt_of_le Al1.lte (Nat.le_trans K2.1 K3.1)) (Nat.le_of_eq g7.symm))) nin0)).ext E10).ext E11).keep K12 (ninS (Nat.ne_of_lt (Nat.lt_of_lt_of_le (Nat.lt_of_lt_of_le ((Al1.exa.keep K2).keep K3).lt (Nat.le_trans (Nat.le_trans E7.1 E8.1) K9.1)) (Nat.le_of_eq g10.symm))) nin0) (ninS (Nat.ne_of_lt (Nat.lt_of_lt_of_le (Nat.lt_of_lt_of_le Al1.lte (Nat.le_trans (Nat.le_trans (Nat.le_trans (Nat.le_trans K2.1 K3.1) E7.1) E8.1) K9.1)) (Nat.le_of_eq g10.symm))) nin0)).ext E13).ext E14).keep K15 (ninS (Nat.ne_of_lt (Nat.lt_of_lt_of_le (Nat.lt_of_lt_of_le ((Al1.exa.keep K2).keep K3).lt (Nat.le_trans (Nat.le_trans (Nat.le_trans (Nat.le_trans (Nat.le_trans E7.1 E8.1) K9.1) E10.1) E11.1) K12.1)) (Nat.le_of_eq g13.symm))) nin0) (ninS (Nat.ne_of_lt (Nat.lt_of_lt_of_le (Nat.lt_of_lt_of_le Al1.lte (Nat.le_trans (Nat.le_trans (Nat.le_trans (Nat.le_trans (Nat.le_trans (Nat.le_trans (Nat.le_trans K2.1 K3.1) E7.1) E8.1) K9.1) E10.1) E11.1) K12.1)) (Nat.le_of_eq g13.symm))) nin0))
  have a_vl2_12_ve2 := ((((a_vl2_8_ve2.keep K12 (ninS (Nat.ne_of_lt (Nat.lt_of_lt_of_le (Nat.lt_of_lt_of_le (Al2.exa.keep K3).lt (Nat.le_trans (Nat.le_trans E7.1 E8.1) K9.1)) (Nat.le_of_eq g10.symm))) nin0) (ninS (Nat.ne_of_lt (Nat.lt_of_lt_of_le (Nat.lt_of_lt_of_le Al2.lte (Nat.le_trans (Nat.le_trans (Nat.le_trans K3.1 E7.1) E8.1) K9.1)) (Nat.le_of_eq g10.symm))) nin0)).ext E13).ext E14).keep K15 (ninS (Nat.ne_of_lt (Nat.lt_of_lt_of_le (Nat.lt_of_lt_of_le (Al2.exa.keep K3).lt (Nat.le_trans (Nat.le_trans (Nat.le_trans (Nat.le_trans (Nat.le_trans E7.1 E8.1) K9.1) E10.1) E11.1) K12.1)) (Nat.le_of_eq g13.symm))) nin0) (ninS (Nat.ne_of_lt (Nat.lt_of_lt_of_le (Nat.lt_of_lt_of_le Al2.lte (Nat.le_trans (Nat.le_trans (Nat.le_trans (Nat.le_trans (Nat.le_trans (Nat.le_trans K3.1 E7.1) E8.1) K9.1) E10.1) E11.1) K12.1)) (Nat.le_of_eq g13.symm))) nin0))
  have a_vl3_12_ve3 := (a_vl3_11_ve3.keep K15 (ninS (Nat.ne_of_lt (Nat.lt_of_lt_of_le (Nat.lt_of_lt_of_le Al3.exa.lt (Nat.le_trans (Nat.le_trans (Nat.le_trans (Nat.le_trans (Nat.le_trans E7.1 E8.1) K9.1) E10.1) E11.1) K12.1)) (Nat.le_of_eq g13.symm))) nin0) (ninS (Nat.ne_of_lt (Nat.lt_of_lt_of_le (Nat.lt_of_lt_of_le Al3.lte (Nat.le_trans (Nat.le_trans (Nat.le_trans (Nat.le_trans (Nat.le_trans E7.1 E8.1) K9.1) E10.1) E11.1) K12.1)) (Nat.le_of_eq g13.symm))) nin0))
  have V_adx := V_ad.ext O15.2
  have sp_ab := own_AL.sep a_vl1_12_ve1 a_vl2_12_ve2 V_adx Se2 Al1.lte
  have sp_ac := own_AL.sep a_vl1_12_ve1 a_vl3_12_ve3 V_adx Se3 (Nat.lt_of_lt_of_le Al1.lte K2.1)
  have sp_bc := own_AL.sep a_vl2_12_ve2 a_vl3_12_ve3 V_adx Se3 Al2.lte
  have e_b7_12_x := ((((((((A7.ext E8).keep K9).ext E10).ext E11).keep K12).ext E13).ext E14).keep K15)
  have f_b7_12_reused := ((((((Fr9.ext E10).ext E11).keep K12 (ninS (Nat.ne_of_lt (Nat.lt_of_lt_of_le Ft9.lt (Nat.le_of_eq g10.symm))) nin0)).ext E13).ext E14).keep K15 (ninS (Nat.ne_of_lt (Nat.lt_of_lt_of_le (Nat.lt_of_lt_of_le Ft9.lt (Nat.le_trans (Nat.le_trans E10.1 E11.1) K12.1)) (Nat.le_of_eq g13.symm))) nin0))
  have f_b7_12_types := ((((((Ft9.ext E10).ext E11).keep K12 (ninS (Nat.ne_of_lt (Nat.lt_of_lt_of_le Ft9.lt (Nat.le_of_eq g10.symm))) nin0)).ext E13).ext E14).keep K15 (ninS (Nat.ne_of_lt (Nat.lt_of_lt_of_le (Nat.lt_of_lt_of_le Ft9.lt (Nat.le_trans (Nat.le_trans E10.1 E11.1) K12.1)) (Nat.le_of_eq g13.symm))) nin0))
  have c_vg9_12_x := ((((((Il9.ext E10).ext E11).keep K12 (ninS (Nat.ne_of_lt (Nat.lt_of_lt_of_le (Il9.ltg (Nat.lt_of_lt_of_le hel (own_le O9))) (Nat.le_of_eq g10.symm))) nin0)).ext E13).ext E14).keep K15 (ninS (Nat.ne_of_lt (Nat.lt_of_lt_of_le (Nat.lt_of_lt_of_le (Il9.ltg (Nat.lt_of_lt_of_le hel (own_le O9))) (Nat.le_trans (Nat.le_trans E10.1 E11.1) K12.1)) (Nat.le_of_eq g13.symm))) nin0))
  have f_b10_12_reused := (((Fr12.ext E13).ext E14).keep K15 (ninS (Nat.ne_of_lt (Nat.lt_of_lt_of_le Ft12.lt (Nat.le_of_eq g13.symm))) nin0))
  have f_b10_12_types := (((Ft12.ext E13).ext E14).keep K15 (ninS (Nat.ne_of_lt (Nat.lt_of_lt_of_le Ft12.lt (Nat.le_of_eq g13.symm))) nin0))
  have c_vg12_12_x := (((Il12.ext E13).ext E14).keep K15 (ninS (Nat.ne_of_lt (Nat.lt_of_lt_of_le (Il12.ltg (Nat.lt_of_lt_of_le hel (own_le O12))) (Nat.le_of_eq g13.symm))) nin0))
  have hCE := C15.trans (CHv.at X15 hZ15 (own_EW hw) C15.1)
  refine ⟨T15, _, _, vl1, ve1, vn1, vx1, vy1, vl2, ve2, vn2, vx2, vy2, vl3, ve3, vn3, vx3, vy3, b7, b10, b13, vg9, vg12, vg15, X15, Sn15, (Nat.le_refl _), hZ15, hown15, C15.1, O15, N15, ⟨a_vl1_12_ve1, a_vl2_12_ve2, a_vl3_12_ve3, ⟨(Nat.le_trans (own_le O0) Sl1), (Nat.le_trans (own_le O1) Sl2), (Nat.le_trans (own_le O2) Sl3)⟩, ⟨(Se1.imp id (Nat.le_trans (own_le O0))), (Se2.imp id (Nat.le_trans (own_le O1))), (Se3.imp id (Nat.le_trans (own_le O2)))⟩, ⟨(Nat.ne_of_lt (Nat.lt_of_lt_of_le Al1.ltl Sl2)), (Nat.ne_of_lt (Nat.lt_of_lt_of_le (Nat.lt_of_lt_of_le Al1.ltl K2.1) Sl3)), (Nat.ne_of_lt (Nat.lt_of_lt_of_le Al2.ltl Sl3))⟩, ⟨sp_ab, sp_ac, sp_bc⟩, ⟨e_b7_12_x, f_b7_12_reused, f_b7_12_types, c_vg9_12_x, g_b7⟩, ⟨(((((A10.ext E11).keep K12).ext E13).ext E14).keep K15), f_b10_12_reused, f_b10_12_types, c_vg12_12_x, g_b10⟩, ⟨((A13.ext E14).keep K15), Fr15, Ft15, Il15, g_b13⟩, ⟨(Nat.ne_of_lt (Nat.lt_of_lt_of_le (Nat.lt_of_lt_of_le F_children_b7.lt (Nat.le_trans E8.1 K9.1)) (Nat.le_of_eq g10.symm))), (Nat.ne_of_lt (Nat.lt_of_lt_of_le (Nat.lt_of_lt_of_le F_children_b7.lt (Nat.le_trans (Nat.le_trans (Nat.le_trans (Nat.le_trans E8.1 K9.1) E10.1) E11.1) K12.1)) (Nat.le_of_eq g13.symm))), (Nat.ne_of_lt (Nat.lt_of_lt_of_le (Nat.lt_of_lt_of_le F_children_b10.lt (Nat.le_trans E11.1 K12.1)) (Nat.le_of_eq g13.symm)))⟩⟩, fun target kt => ?_⟩
  show oS p e below T0 m 0 #[vI p0, vI p1, vI p2, vI p3, .unset, .unset, .unset, .unset, .unset, .unset, .unset, .unset, .unset, .unset, .unset, .unset, .unset, .unset, .unset] [] _
  refine XS.iloadN XS0.here hx rfl (hb hby at_0) rfl ?_
  show oS p e below T0 m 1 #[vI p0, vI p1, vI p2, vI p3, .unset, .unset, .unset, .unset, .unset, .unset, .unset, .unset, .unset, .unset, .unset, .unset, .unset, .unset, .unset] [(.int p0)] _
  refine st1 _ ?_
  show oS p e below T1 m 4 #[vI p0, vI p1, vI p2, vI p3, .unset, .unset, .unset, .unset, .unset, .unset, .unset, .unset, .unset, .unset, .unset, .unset, .unset, .unset, .unset] [(.ref vl1)] _
  refine XS.astore X1.here hx rfl (hb hby at_4) rfl rfl (l' := #[vI p0, vI p1, vI p2, vI p3, vR vl1, .unset, .unset, .unset, .unset, .unset, .unset, .unset, .unset, .unset, .unset, .unset, .unset, .unset, .unset]) rfl ?_
  show oS p e below T1 m 6 #[vI p0, vI p1, vI p2, vI p3, vR vl1, .unset, .unset, .unset, .unset, .unset, .unset, .unset, .unset, .unset, .unset, .unset, .unset, .unset, .unset] [] _
  refine XS.iloadN X1.here hx rfl (hb hby at_6) rfl ?_
  show oS p e below T1 m 7 #[vI p0, vI p1, vI p2, vI p3, vR vl1, .unset, .unset, .unset, .unset, .unset, .unset, .unset, .unset, .unset, .unset, .unset, .unset, .unset, .unset] [(.int p1)] _
  refine st2 _ ?_
  show oS p e below T2 m 10 #[vI p0, vI p1, vI p2, vI p3, vR vl1, .unset, .unset, .unset, .unset, .unset, .unset, .unset, .unset, .unset, .unset, .unset, .unset, .unset, .unset] [(.ref vl2)] _
  refine XS.astore X2.here hx rfl (hb hby at_10) rfl rfl (l' := #[vI p0, vI p1, vI p2, vI p3, vR vl1, vR vl2, .unset, .unset, .unset, .unset, .unset, .unset, .unset, .unset, .unset, .unset, .unset, .unset, .unset]) rfl ?_
  show oS p e below T2 m 12 #[vI p0, vI p1, vI p2, vI p3, vR vl1, vR vl2, .unset, .unset, .unset, .unset, .unset, .unset, .unset, .unset, .unset, .unset, .unset, .unset, .unset] [] _
  refine XS.iloadN X2.here hx rfl (hb hby at_12) rfl ?_
  show oS p e below T2 m 13 #[vI p0, vI p1, vI p2, vI p3, vR vl1, vR vl2, .unset, .unset, .unset, .unset, .unset, .unset, .unset, .unset, .unset, .unset, .unset, .unset, .unset] [(.int p2)] _
  refine st3 _ ?_
  show oS p e below T3 m 16 #[vI p0, vI p1, vI p2, vI p3, vR vl1, vR vl2, .unset, .unset, .unset, .unset, .unset, .unset, .unset, .unset, .unset, .unset, .unset, .unset, .unset] [(.ref vl3)] _
  refine XS.astore X3.here hx rfl (hb hby at_16) rfl rfl (l' := #[vI p0, vI p1, vI p2, vI p3, vR vl1, vR vl2, vR vl3, .unset, .unset, .unset, .unset, .unset, .unset, .unset, .unset, .unset, .unset, .unset, .unset]) rfl ?_
  show oS p e below T3 m 18 #[vI p0, vI p1, vI p2, vI p3, vR vl1, vR vl2, vR vl3, .unset, .unset, .unset, .unset, .unset, .unset, .unset, .unset, .unset, .unset, .unset, .unset] [] _
  refine XS.aload X3.here hx rfl (hb hby at_18) rfl rfl ?_
  show oS p e below T3 m 20 #[vI p0, vI p1, vI p2, vI p3, vR vl1, vR vl2, vR vl3, .unset, .unset, .unset, .unset, .unset, .unset, .unset, .unset, .unset, .unset, .unset, .unset] [(.ref vl1)] _
  refine st4.trans ?_
  show oS p e below T4 m 23 #[vI p0, vI p1, vI p2, vI p3, vR vl1, vR vl2, vR vl3, .unset, .unset, .unset, .unset, .unset, .unset, .unset, .unset, .unset, .unset, .unset, .unset] [(.int vn1)] _
  refine XS.istore X4.here hx rfl (hb hby at_23) rfl (l' := #[vI p0, vI p1, vI p2, vI p3, vR vl1, vR vl2, vR vl3, vI vn1, .unset, .unset, .unset, .unset, .unset, .unset, .unset, .unset, .unset, .unset, .unset]) rfl ?_
  show oS p e below T4 m 25 #[vI p0, vI p1, vI p2, vI p3, vR vl1, vR vl2, vR vl3, vI vn1, .unset, .unset, .unset, .unset, .unset, .unset, .unset, .unset, .unset, .unset, .unset] [] _
  refine XS.aload X4.here hx rfl (hb hby at_25) rfl rfl ?_
  show oS p e below T4 m 27 #[vI p0, vI p1, vI p2, vI p3, vR vl1, vR vl2, vR vl3, vI vn1, .unset, .unset, .unset, .unset, .unset, .unset, .unset, .unset, .unset, .unset, .unset] [(.ref vl2)] _
  refine st5.trans ?_
  show oS p e below T5 m 30 #[vI p0, vI p1, vI p2, vI p3, vR vl1, vR vl2, vR vl3, vI vn1, .unset, .unset, .unset, .unset, .unset, .unset, .unset, .unset, .unset, .unset, .unset] [(.int vn2)] _
  refine XS.istore X5.here hx rfl (hb hby at_30) rfl (l' := #[vI p0, vI p1, vI p2, vI p3, vR vl1, vR vl2, vR vl3, vI vn1, vI vn2, .unset, .unset, .unset, .unset, .unset, .unset, .unset, .unset, .unset, .unset]) rfl ?_
  show oS p e below T5 m 32 #[vI p0, vI p1, vI p2, vI p3, vR vl1, vR vl2, vR vl3, vI vn1, vI vn2, .unset, .unset, .unset, .unset, .unset, .unset, .unset, .unset, .unset, .unset] [] _
  refine XS.aload X5.here hx rfl (hb hby at_32) rfl rfl ?_
  show oS p e below T5 m 34 #[vI p0, vI p1, vI p2, vI p3, vR vl1, vR vl2, vR vl3, vI vn1, vI vn2, .unset, .unset, .unset, .unset, .unset, .unset, .unset, .unset, .unset, .unset] [(.ref vl3)] _
  refine st6.trans ?_
  show oS p e below T6 m 37 #[vI p0, vI p1, vI p2, vI p3, vR vl1, vR vl2, vR vl3, vI vn1, vI vn2, .unset, .unset, .unset, .unset, .unset, .unset, .unset, .unset, .unset, .unset] [(.int vn3)] _
  refine XS.istore X6.here hx rfl (hb hby at_37) rfl (l' := #[vI p0, vI p1, vI p2, vI p3, vR vl1, vR vl2, vR vl3, vI vn1, vI vn2, vI vn3, .unset, .unset, .unset, .unset, .unset, .unset, .unset, .unset, .unset]) rfl ?_
  show oS p e below T6 m 39 #[vI p0, vI p1, vI p2, vI p3, vR vl1, vR vl2, vR vl3, vI vn1, vI vn2, vI vn3, .unset, .unset, .unset, .unset, .unset, .unset, .unset, .unset, .unset] [] _
  refine st7 _ ?_
  show oS p e below T7 m 42 #[vI p0, vI p1, vI p2, vI p3, vR vl1, vR vl2, vR vl3, vI vn1, vI vn2, vI vn3, .unset, .unset, .unset, .unset, .unset, .unset, .unset, .unset, .unset] [(.ref b7)] _
  refine XS.dup X7.here hx rfl (hb hby at_42) rfl rfl ?_
  show oS p e below T7 m 43 #[vI p0, vI p1, vI p2, vI p3, vR vl1, vR vl2, vR vl3, vI vn1, vI vn2, vI vn3, .unset, .unset, .unset, .unset, .unset, .unset, .unset, .unset, .unset] [(.ref b7), (.ref b7)] _
  refine st8 _ ?_
  show oS p e below T8 m 45 #[vI p0, vI p1, vI p2, vI p3, vR vl1, vR vl2, vR vl3, vI vn1, vI vn2, vI vn3, .unset, .unset, .unset, .unset, .unset, .unset, .unset, .unset, .unset] [(.ref sa8), (.ref b7), (.ref b7)] _
  refine XS.iconst X8.here hx rfl (hb hby at_45) ?_
  refine XS.iconst X8.here hx rfl (hb hby at_46) ?_
  refine XS.aload X8.here hx rfl (hb hby at_47) rfl rfl ?_
  show oS p e below T8 m 49 #[vI p0, vI p1, vI p2, vI p3, vR vl1, vR vl2, vR vl3, vI vn1, vI vn2, vI vn3, .unset, .unset, .unset, .unset, .unset, .unset, .unset, .unset, .unset] [(.ref vl1), (.int 1), (.int 0), (.ref sa8), (.ref b7), (.ref b7)] _
  refine st9.trans ?_
  show oS p e below T9 m 52 #[vI p0, vI p1, vI p2, vI p3, vR vl1, vR vl2, vR vl3, vI vn1, vI vn2, vI vn3, .unset, .unset, .unset, .unset, .unset, .unset, .unset, .unset, .unset] [(.ref b7)] _
  refine XS.astore X9.here hx rfl (hb hby at_52) rfl rfl (l' := #[vI p0, vI p1, vI p2, vI p3, vR vl1, vR vl2, vR vl3, vI vn1, vI vn2, vI vn3, vR b7, .unset, .unset, .unset, .unset, .unset, .unset, .unset, .unset]) rfl ?_
  show oS p e below T9 m 54 #[vI p0, vI p1, vI p2, vI p3, vR vl1, vR vl2, vR vl3, vI vn1, vI vn2, vI vn3, vR b7, .unset, .unset, .unset, .unset, .unset, .unset, .unset, .unset] [] _
  refine st10 _ ?_
  show oS p e below T10 m 57 #[vI p0, vI p1, vI p2, vI p3, vR vl1, vR vl2, vR vl3, vI vn1, vI vn2, vI vn3, vR b7, .unset, .unset, .unset, .unset, .unset, .unset, .unset, .unset] [(.ref b10)] _
  refine XS.dup X10.here hx rfl (hb hby at_57) rfl rfl ?_
  show oS p e below T10 m 58 #[vI p0, vI p1, vI p2, vI p3, vR vl1, vR vl2, vR vl3, vI vn1, vI vn2, vI vn3, vR b7, .unset, .unset, .unset, .unset, .unset, .unset, .unset, .unset] [(.ref b10), (.ref b10)] _
  refine st11 _ ?_
  show oS p e below T11 m 60 #[vI p0, vI p1, vI p2, vI p3, vR vl1, vR vl2, vR vl3, vI vn1, vI vn2, vI vn3, vR b7, .unset, .unset, .unset, .unset, .unset, .unset, .unset, .unset] [(.ref sa11), (.ref b10), (.ref b10)] _
  refine XS.iconst X11.here hx rfl (hb hby at_60) ?_
  show oS p e below T11 m 61 #[vI p0, vI p1, vI p2, vI p3, vR vl1, vR vl2, vR vl3, vI vn1, vI vn2, vI vn3, vR b7, .unset, .unset, .unset, .unset, .unset, .unset, .unset, .unset] [(.int 0), (.ref sa11), (.ref b10), (.ref b10)] _
  refine X11.ldcInt hx hown11 (mvT hZ11 (oW hw 30 rfl)) (g := (mkF m 61 #[vI p0, vI p1, vI p2, vI p3, vR vl1, vR vl2, vR vl3, vI vn1, vI vn2, vI vn3, vR b7, .unset, .unset, .unset, .unset, .unset, .unset, .unset, .unset] [(.int 0), (.ref sa11), (.ref b10), (.ref b10)])) rfl (hb hby at_61) _ ?_
  show oS p e below T11 m 63 #[vI p0, vI p1, vI p2, vI p3, vR vl1, vR vl2, vR vl3, vI vn1, vI vn2, vI vn3, vR b7, .unset, .unset, .unset, .unset, .unset, .unset, .unset, .unset] [(.int 2147483647), (.int 0), (.ref sa11), (.ref b10), (.ref b10)] _
  refine XS.aload X11.here hx rfl (hb hby at_63) rfl rfl ?_
  show oS p e below T11 m 65 #[vI p0, vI p1, vI p2, vI p3, vR vl1, vR vl2, vR vl3, vI vn1, vI vn2, vI vn3, vR b7, .unset, .unset, .unset, .unset, .unset, .unset, .unset, .unset] [(.ref vl2), (.int 2147483647), (.int 0), (.ref sa11), (.ref b10), (.ref b10)] _
  refine st12.trans ?_
  show oS p e below T12 m 68 #[vI p0, vI p1, vI p2, vI p3, vR vl1, vR vl2, vR vl3, vI vn1, vI vn2, vI vn3, vR b7, .unset, .unset, .unset, .unset, .unset, .unset, .unset, .unset] [(.ref b10)] _
  refine XS.astore X12.here hx rfl (hb hby at_68) rfl rfl (l' := #[vI p0, vI p1, vI p2, vI p3, vR vl1, vR vl2, vR vl3, vI vn1, vI vn2, vI vn3, vR b7, vR b10, .unset, .unset, .unset, .unset, .unset, .unset, .unset]) rfl ?_
  show oS p e below T12 m 70 #[vI p0, vI p1, vI p2, vI p3, vR vl1, vR vl2, vR vl3, vI vn1, vI vn2, vI vn3, vR b7, vR b10, .unset, .unset, .unset, .unset, .unset, .unset, .unset] [] _
  refine st13 _ ?_
  show oS p e below T13 m 73 #[vI p0, vI p1, vI p2, vI p3, vR vl1, vR vl2, vR vl3, vI vn1, vI vn2, vI vn3, vR b7, vR b10, .unset, .unset, .unset, .unset, .unset, .unset, .unset] [(.ref b13)] _
  refine XS.dup X13.here hx rfl (hb hby at_73) rfl rfl ?_
  show oS p e below T13 m 74 #[vI p0, vI p1, vI p2, vI p3, vR vl1, vR vl2, vR vl3, vI vn1, vI vn2, vI vn3, vR b7, vR b10, .unset, .unset, .unset, .unset, .unset, .unset, .unset] [(.ref b13), (.ref b13)] _
  refine st14 _ ?_
  show oS p e below T14 m 76 #[vI p0, vI p1, vI p2, vI p3, vR vl1, vR vl2, vR vl3, vI vn1, vI vn2, vI vn3, vR b7, vR b10, .unset, .unset, .unset, .unset, .unset, .unset, .unset] [(.ref sa14), (.ref b13), (.ref b13)] _
  refine XS.iconst X14.here hx rfl (hb hby at_76) ?_
  refine XS.iconst X14.here hx rfl (hb hby at_77) ?_
  refine XS.aload X14.here hx rfl (hb hby at_78) rfl rfl ?_
  show oS p e below T14 m 80 #[vI p0, vI p1, vI p2, vI p3, vR vl1, vR vl2, vR vl3, vI vn1, vI vn2, vI vn3, vR b7, vR b10, .unset, .unset, .unset, .unset, .unset, .unset, .unset] [(.ref vl3), (.int 1), (.int 1), (.ref sa14), (.ref b13), (.ref b13)] _
  refine st15.trans ?_
  show oS p e below T15 m 83 #[vI p0, vI p1, vI p2, vI p3, vR vl1, vR vl2, vR vl3, vI vn1, vI vn2, vI vn3, vR b7, vR b10, .unset, .unset, .unset, .unset, .unset, .unset, .unset] [(.ref b13)] _
  refine XS.astore X15.here hx rfl (hb hby at_83) rfl rfl (l' := #[vI p0, vI p1, vI p2, vI p3, vR vl1, vR vl2, vR vl3, vI vn1, vI vn2, vI vn3, vR b7, vR b10, vR b13, .unset, .unset, .unset, .unset, .unset, .unset]) rfl ?_
  exact kt
theorem lawP2a {p : Program} {l : Launch} {e : Env} {s : State} {m : MethodId} {below : List Frame} {meth : Method} {c : Code} {T0 : State} {Z : State} {a0 : Array Value} {p0 p1 p2 p3 : Int32} {ad el em : Addr} {kd : ClassId} {na nb nc : Int32} {la ea xa ya lb eb xb yb lc ec xc yc oa ob oc ga gb gc : Addr} {vm0 : Vm} {locs : List Loc} {k0 : Nat} {h0 : Heap} {n0 : Nat} (X0 : Stand p l e room_1 (s.setVm vm0) m #[(.int p0), (.int p1), (.int p2), (.int p3)] below meth c T0 locs 58 330) (hS : s.Since vm0 k0) (hk0 : k0 ≤ h0.size) (hZ : Z.Warmed39 (s.setVm vm0).vm) (hown : (s.setVm vm0).vm.findClass "com/example/graftwork/graftwork/ElementDefinitionTypesPinLaw" = some m.cls) (hch : CHv Z own_EL vm0 h0) (N0 : Fr n0 locs) (hx : p.tables.exec = Jvm.exec) (hw : HW a0 Z) (hby : c.code = code) (hml : c.maxLocals = 19) (e0 : T0.heap = h0) (O0 : Old Z n0 h0) (S_DE : Sta Z Z.heap "java/util/ArrayList" "DEFAULTCAPACITY_EMPTY_ELEMENTDATA" "[Ljava/lang/Object;" (.ref ad)) (V_ad : Arv Z Z.heap ad kd (.object "java/lang/Object") (0 : Int32) [] .null) (E_el : Exa Z Z.heap el "java/util/ImmutableCollections$ListN") (hW : own_W Z h0 n0 ad el em la ea na xa ya lb eb nb xb yb lc ec nc xc yc oa ob oc ga gb gc) (hm4 : ¬ ((p3 &&& (4 : Int32)) = (0 : Int32))) :
    ∃ (T' : State) (L' : List Loc) (vm1 : Vm) (k1 : Nat), Stand p l e room_1 (s.setVm vm1) m #[(.int p0), (.int p1), (.int p2), (.int p3)] below meth c T' L' 67 384 ∧ s.Since vm1 k1 ∧ k1 ≤ T'.heap.size ∧ Z.Warmed39 (s.setVm vm1).vm ∧ (s.setVm vm1).vm.findClass "com/example/graftwork/graftwork/ElementDefinitionTypesPinLaw" = some m.cls ∧ Old Z n0 T'.heap ∧ Fr n0 L' ∧ own_Y Z T'.heap n0 el em la ea na xa ya lb eb nb xb yb lc ec nc xc yc oa ob oc ga gb gc ∧ ∀ target, Steps p.tables e below (T'.setTop (mkF m 115 #[vI p0, vI p1, vI p2, vI p3, vR la, vR lb, vR lc, vI na, vI nb, vI nc, vR oa, vR ob, vR oc, .unset, .unset, .unset, .unset, .unset, .unset] [])) target → Steps p.tables e below (T0.setTop (mkF m 85 #[vI p0, vI p1, vI p2, vI p3, vR la, vR lb, vR lc, vI na, vI nb, vI nc, vR oa, vR ob, vR oc, .unset, .unset, .unset, .unset, .unset, .unset] [])) target := by
  have C0 : CHr Z own_EL vm0 h0 vm0 h0 := CHr.refl hch
  have hel : el < n0 := O0.1 ▸ E_el.lt
  have V_ad0 := V_ad.ext O0.2
  obtain ⟨Aa, Ab, Ac, ⟨u1, u2, u3⟩, ⟨u4, u5, u6⟩, ⟨u7, u8, u9⟩, ⟨⟨v1, v2⟩, ⟨v3, v4⟩, ⟨v5, v6⟩⟩, ⟨Ea, Ra, Ta, Ia, oa_⟩, ⟨Eb, Rb, Tb, Ib, ob_⟩, ⟨Ec, Rc, Tc, Ic, oc_⟩, ⟨r1, r2, r3⟩⟩ := hW
  have f4aa : ga ≠ la := Ia.neo hel Aa.exa u1 (by decide)
  have f5aa : ga ≠ (own_wa na la ea) := own_ilw Ia hel Aa u1 u4 (oW hw 289 rfl)
  have f6aa : oa ≠ la := Exa.ne Ea Aa.exa (by decide)
  have f7aa : oa ≠ (own_wa na la ea) := own_wne f6aa (Or.inr (Ne.symm (Aa.nee V_ad0 Ea (oW hw 92 rfl))))
  have f1ba : lb ≠ (own_wa na la ea) := own_wne (Ne.symm u7) (Or.inr (Ne.symm (Aa.nee V_ad0 Ab.exa (oW hw 5 rfl))))
  have f2ba : eb ≠ la := Ab.nee V_ad0 Aa.exa (oW hw 5 rfl)
  have f3ba : eb ≠ (own_wa na la ea) := own_wne f2ba v1
  have f4ba : gb ≠ la := Ib.neo hel Aa.exa u1 (by decide)
  have f5ba : gb ≠ (own_wa na la ea) := own_ilw Ib hel Aa u1 u4 (oW hw 289 rfl)
  have f6ba : ob ≠ la := Exa.ne Eb Aa.exa (by decide)
  have f7ba : ob ≠ (own_wa na la ea) := own_wne f6ba (Or.inr (Ne.symm (Aa.nee V_ad0 Eb (oW hw 92 rfl))))
  have f1ca : lc ≠ (own_wa na la ea) := own_wne (Ne.symm u8) (Or.inr (Ne.symm (Aa.nee V_ad0 Ac.exa (oW hw 5 rfl))))
  have f2ca : ec ≠ la := Ac.nee V_ad0 Aa.exa (oW hw 5 rfl)
  have f3ca : ec ≠ (own_wa na la ea) := own_wne f2ca v3
  have f4ca : gc ≠ la := Ic.neo hel Aa.exa u1 (by decide)
  have f5ca : gc ≠ (own_wa na la ea) := own_ilw Ic hel Aa u1 u4 (oW hw 289 rfl)
  have f6ca : oc ≠ la := Exa.ne Ec Aa.exa (by decide)
  have f7ca : oc ≠ (own_wa na la ea) := own_wne f6ca (Or.inr (Ne.symm (Aa.nee V_ad0 Ec (oW hw 92 rfl))))
  have f1ab : la ≠ (own_wa nb lb eb) := own_wne u7 (Or.inr (Ne.symm (Ab.nee V_ad0 Aa.exa (oW hw 5 rfl))))
  have f2ab : ea ≠ lb := Aa.nee V_ad0 Ab.exa (oW hw 5 rfl)
  have f3ab : ea ≠ (own_wa nb lb eb) := own_wne f2ab v2
  have f4ab : ga ≠ lb := Ia.neo hel Ab.exa u2 (by decide)
  have f5ab : ga ≠ (own_wa nb lb eb) := own_ilw Ia hel Ab u2 u5 (oW hw 289 rfl)
  have f6ab : oa ≠ lb := Exa.ne Ea Ab.exa (by decide)
  have f7ab : oa ≠ (own_wa nb lb eb) := own_wne f6ab (Or.inr (Ne.symm (Ab.nee V_ad0 Ea (oW hw 92 rfl))))
  have f4bb : gb ≠ lb := Ib.neo hel Ab.exa u2 (by decide)
  have f5bb : gb ≠ (own_wa nb lb eb) := own_ilw Ib hel Ab u2 u5 (oW hw 289 rfl)
  have f6bb : ob ≠ lb := Exa.ne Eb Ab.exa (by decide)
  have f7bb : ob ≠ (own_wa nb lb eb) := own_wne f6bb (Or.inr (Ne.symm (Ab.nee V_ad0 Eb (oW hw 92 rfl))))
  have f1cb : lc ≠ (own_wa nb lb eb) := own_wne (Ne.symm u9) (Or.inr (Ne.symm (Ab.nee V_ad0 Ac.exa (oW hw 5 rfl))))
  have f2cb : ec ≠ lb := Ac.nee V_ad0 Ab.exa (oW hw 5 rfl)
  have f3cb : ec ≠ (own_wa nb lb eb) := own_wne f2cb v5
  have f4cb : gc ≠ lb := Ic.neo hel Ab.exa u2 (by decide)
  have f5cb : gc ≠ (own_wa nb lb eb) := own_ilw Ic hel Ab u2 u5 (oW hw 289 rfl)
  have f6cb : oc ≠ lb := Exa.ne Ec Ab.exa (by decide)
  have f7cb : oc ≠ (own_wa nb lb eb) := own_wne f6cb (Or.inr (Ne.symm (Ab.nee V_ad0 Ec (oW hw 92 rfl))))
  have f1ac : la ≠ (own_wa nc lc ec) := own_wne u8 (Or.inr (Ne.symm (Ac.nee V_ad0 Aa.exa (oW hw 5 rfl))))
  have f2ac : ea ≠ lc := Aa.nee V_ad0 Ac.exa (oW hw 5 rfl)
  have f3ac : ea ≠ (own_wa nc lc ec) := own_wne f2ac v4
  have f4ac : ga ≠ lc := Ia.neo hel Ac.exa u3 (by decide)
  have f5ac : ga ≠ (own_wa nc lc ec) := own_ilw Ia hel Ac u3 u6 (oW hw 289 rfl)
  have f6ac : oa ≠ lc := Exa.ne Ea Ac.exa (by decide)
  have f7ac : oa ≠ (own_wa nc lc ec) := own_wne f6ac (Or.inr (Ne.symm (Ac.nee V_ad0 Ea (oW hw 92 rfl))))
  have f1bc : lb ≠ (own_wa nc lc ec) := own_wne u9 (Or.inr (Ne.symm (Ac.nee V_ad0 Ab.exa (oW hw 5 rfl))))
  have f2bc : eb ≠ lc := Ab.nee V_ad0 Ac.exa (oW hw 5 rfl)
  have f3bc : eb ≠ (own_wa nc lc ec) := own_wne f2bc v6
  have f4bc : gb ≠ lc := Ib.neo hel Ac.exa u3 (by decide)
  have f5bc : gb ≠ (own_wa nc lc ec) := own_ilw Ib hel Ac u3 u6 (oW hw 289 rfl)
  have f6bc : ob ≠ lc := Exa.ne Eb Ac.exa (by decide)
  have f7bc : ob ≠ (own_wa nc lc ec) := own_wne f6bc (Or.inr (Ne.symm (Ac.nee V_ad0 Eb (oW hw 92 rfl))))
  have f4cc : gc ≠ lc := Ic.neo hel Ac.exa u3 (by decide)
  have f5cc : gc ≠ (own_wa nc lc ec) := own_ilw Ic hel Ac u3 u6 (oW hw 289 rfl)
  have f6cc : oc ≠ lc := Exa.ne Ec Ac.exa (by decide)
  have f7cc : oc ≠ (own_wa nc lc ec) := own_wne f6cc (Or.inr (Ne.symm (Ac.nee V_ad0 Ec (oW hw 92 rfl))))
  obtain ⟨sa1, T1, h1, ks1, tb1, kb1, X1, e1, E1, Sn1, hk1, hZ1, hown1, Ea1, Fc1, Fv1, Vb1, la1, lb1, Cl1, Lt1, ns1, st1⟩ := ldcCH X0 hx hZ hown (oW hw 386 rfl) (own_sa hw) e0 hS hk0 (own_EW hw) (by decide) C0.1 (vs := [(.int 113)]) (z := (1 : Int32)) ⟨by decide, rfl⟩ (by decide) (by decide) (g := (mkF m 93 #[vI p0, vI p1, vI p2, vI p3, vR la, vR lb, vR lc, vI na, vI nb, vI nc, vR oa, vR ob, vR oc, .unset, .unset, .unset, .unset, .unset, .unset] [(.ref la)])) rfl (hb hby at_93) (n := 4) (by decide) (by decide) (by decide) (by decide)
  have C1 := C0.trans Cl1
  have O1 := O0.ext E1
  obtain ⟨cq2, kq2, q2a, q2b, q2c⟩ := isOf hZ1 e1 (Aa.exa.ext E1)
  obtain ⟨_, _, ⟨T2, L2, k2, n2⟩, -, X2, ⟨Lc2, hQ2, l2, y2, z2⟩, st2⟩ := X1.virtualBack hx (y := mN11) (z := mN11) hown1 (mvT hZ1 (oW hw 55 rfl)) (mvT hZ1 (oW hw 56 rfl)) (notFace_of_selects (args := #[]) (mvT hZ1 (oW hw 58 rfl))) (mvT hZ1 (oW hw 58 rfl)) (mvT hZ1 (oW hw 57 rfl)) (by decide) (backOf (W := 0) (rmAq l Z a0 hw [] la sa1 ad ea xa ya kd na h1 n0 O1 S_DE V_ad (Aa.ext E1) u1 u4 Ea1) hZ1 (oW hw 59 rfl) (oW hw 6 rfl) (by decide) (by decide)) q2a q2c (g := (mkF m 95 #[vI p0, vI p1, vI p2, vI p3, vR la, vR lb, vR lc, vI na, vI nb, vI nc, vR oa, vR ob, vR oc, .unset, .unset, .unset, .unset, .unset, .unset] [(.ref sa1), (.ref la)])) rfl (by rw [hml]; rfl) (Steps.refl _) (argsL := [(.ref sa1)]) (rest := []) (lenOf pd_9 rfl) rfl (by show 2 * 0 + _ ≤ _; exact Nat.le_of_eq rfl) (hb hby at_95) (fun _ _ => ⟨rfl, e1, (by decide : 60 + 1 ≤ _), (by decide : 338 + 10 ≤ _)⟩)
  dsimp only [Pt.U, Pt.locs, Pt.cells, Pt.slots] at X2 l2 y2 z2 st2 hQ2
  subst l2 y2 z2
  obtain ⟨rfl, N2q, K2, Ls2⟩ := hQ2
  have N2 := Fr.app N0 N2q
  have C2 := C1.trans (CHr.keep K2 (allS (Safe.exa hZ1.alike (Aa.exa.ext E1) (by decide) (by decide)) (allS (own_AL.safeW hZ1.alike (Aa.ext E1)) all0)) C1.1)
  have O2 := O1.keep K2 (allS u1 (allS (own_wge u1 u4) all0))
  obtain ⟨sa3, T3, h3, ks3, tb3, kb3, X3, e3, E3, Sn3, hk3, hZ3, hown3, Ea3, Fc3, Fv3, Vb3, la3, lb3, Cl3, Lt3, ns3, st3⟩ := ldcCH X2 hx hZ1 hown1 (oW hw 386 rfl) (own_sa hw) rfl Sn1 (Nat.le_trans hk1 K2.1) (own_EW hw) (by decide) C2.1 (vs := [(.int 113)]) (z := (1 : Int32)) ⟨by decide, rfl⟩ (by decide) (by decide) (g := (mkF m 101 #[vI p0, vI p1, vI p2, vI p3, vR la, vR lb, vR lc, vI na, vI nb, vI nc, vR oa, vR ob, vR oc, .unset, .unset, .unset, .unset, .unset, .unset] [(.ref lb)])) rfl (hb hby at_101) (n := 4) (by decide) (by decide) (by decide) (by decide)
  have C3 := C2.trans Cl3
  have O3 := O2.ext E3
  have a_lb_3_eb := (((Ab.ext E1).keep K2 (ninS (Ne.symm u7) (ninS f1ba nin0)) (ninS f2ba (ninS f3ba nin0))).ext E3)
  obtain ⟨cq4, kq4, q4a, q4b, q4c⟩ := isOf hZ3 e3 (((Ab.exa.ext E1).keep K2).ext E3)
  obtain ⟨_, _, ⟨T4, L4, k4, n4⟩, -, X4, ⟨Lc4, hQ4, l4, y4, z4⟩, st4⟩ := X3.virtualBack hx (y := mN11) (z := mN11) hown3 (mvT hZ3 (oW hw 55 rfl)) (mvT hZ3 (oW hw 56 rfl)) (notFace_of_selects (args := #[]) (mvT hZ3 (oW hw 58 rfl))) (mvT hZ3 (oW hw 58 rfl)) (mvT hZ3 (oW hw 57 rfl)) (by decide) (backOf (W := 0) (rmAq l Z a0 hw [] lb sa3 ad eb xb yb kd nb h3 n0 O3 S_DE V_ad a_lb_3_eb u2 u5 Ea3) hZ3 (oW hw 59 rfl) (oW hw 6 rfl) (by decide) (by decide)) q4a q4c (g := (mkF m 103 #[vI p0, vI p1, vI p2, vI p3, vR la, vR lb, vR lc, vI na, vI nb, vI nc, vR oa, vR ob, vR oc, .unset, .unset, .unset, .unset, .unset, .unset] [(.ref sa3), (.ref lb)])) rfl (by rw [hml]; rfl) (Steps.refl _) (argsL := [(.ref sa3)]) (rest := []) (lenOf pd_9 rfl) rfl (by show 2 * 0 + _ ≤ _; exact Nat.le_of_eq rfl) (hb hby at_103) (fun _ _ => ⟨rfl, e3, (by decide : 63 + 1 ≤ _), (by decide : 356 + 10 ≤ _)⟩)
  dsimp only [Pt.U, Pt.locs, Pt.cells, Pt.slots] at X4 l4 y4 z4 st4 hQ4
  subst l4 y4 z4
  obtain ⟨rfl, N4q, K4, Ls4⟩ := hQ4
  have N4 := Fr.app N2 N4q
  have C4 := C3.trans (CHr.keep K4 (allS (Safe.exa hZ3.alike (((Ab.exa.ext E1).keep K2).ext E3) (by decide) (by decide)) (allS (own_AL.safeW hZ3.alike a_lb_3_eb) all0)) C3.1)
  have O4 := O3.keep K4 (allS u2 (allS (own_wge u2 u5) all0))
  obtain ⟨sa5, T5, h5, ks5, tb5, kb5, X5, e5, E5, Sn5, hk5, hZ5, hown5, Ea5, Fc5, Fv5, Vb5, la5, lb5, Cl5, Lt5, ns5, st5⟩ := ldcCH X4 hx hZ3 hown3 (oW hw 386 rfl) (own_sa hw) rfl Sn3 (Nat.le_trans hk3 K4.1) (own_EW hw) (by decide) C4.1 (vs := [(.int 113)]) (z := (1 : Int32)) ⟨by decide, rfl⟩ (by decide) (by decide) (g := (mkF m 109 #[vI p0, vI p1, vI p2, vI p3, vR la, vR lb, vR lc, vI na, vI nb, vI nc, vR oa, vR ob, vR oc, .unset, .unset, .unset, .unset, .unset, .unset] [(.ref lc)])) rfl (hb hby at_109) (n := 4) (by decide) (by decide) (by decide) (by decide)
  have C5 := C4.trans Cl5
  have O5 := O4.ext E5
  have a_lc_5_ec := (((((Ac.ext E1).keep K2 (ninS (Ne.symm u8) (ninS f1ca nin0)) (ninS f2ca (ninS f3ca nin0))).ext E3).keep K4 (ninS (Ne.symm u9) (ninS f1cb nin0)) (ninS f2cb (ninS f3cb nin0))).ext E5)
  obtain ⟨cq6, kq6, q6a, q6b, q6c⟩ := isOf hZ5 e5 (((((Ac.exa.ext E1).keep K2).ext E3).keep K4).ext E5)
  obtain ⟨_, _, ⟨T6, L6, k6, n6⟩, -, X6, ⟨Lc6, hQ6, l6, y6, z6⟩, st6⟩ := X5.virtualBack hx (y := mN11) (z := mN11) hown5 (mvT hZ5 (oW hw 55 rfl)) (mvT hZ5 (oW hw 56 rfl)) (notFace_of_selects (args := #[]) (mvT hZ5 (oW hw 58 rfl))) (mvT hZ5 (oW hw 58 rfl)) (mvT hZ5 (oW hw 57 rfl)) (by decide) (backOf (W := 0) (rmAq l Z a0 hw [] lc sa5 ad ec xc yc kd nc h5 n0 O5 S_DE V_ad a_lc_5_ec u3 u6 Ea5) hZ5 (oW hw 59 rfl) (oW hw 6 rfl) (by decide) (by decide)) q6a q6c (g := (mkF m 111 #[vI p0, vI p1, vI p2, vI p3, vR la, vR lb, vR lc, vI na, vI nb, vI nc, vR oa, vR ob, vR oc, .unset, .unset, .unset, .unset, .unset, .unset] [(.ref sa5), (.ref lc)])) rfl (by rw [hml]; rfl) (Steps.refl _) (argsL := [(.ref sa5)]) (rest := []) (lenOf pd_9 rfl) rfl (by show 2 * 0 + _ ≤ _; exact Nat.le_of_eq rfl) (hb hby at_111) (fun _ _ => ⟨rfl, e5, (by decide : 66 + 1 ≤ _), (by decide : 374 + 10 ≤ _)⟩)
  dsimp only [Pt.U, Pt.locs, Pt.cells, Pt.slots] at X6 l6 y6 z6 st6 hQ6
  subst l6 y6 z6
  obtain ⟨rfl, N6q, K6, Ls6⟩ := hQ6
  have N6 := Fr.app N4 N6q
  have C6 := C5.trans (CHr.keep K6 (allS (Safe.exa hZ5.alike (((((Ac.exa.ext E1).keep K2).ext E3).keep K4).ext E5) (by decide) (by decide)) (allS (own_AL.safeW hZ5.alike a_lc_5_ec) all0)) C5.1)
  have O6 := O5.keep K6 (allS u3 (allS (own_wge u3 u6) all0))
  have a_la_6_ea := ((((Ls2.ext E3).keep K4 (ninS u7 (ninS f1ab nin0)) (ninS f2ab (ninS f3ab nin0))).ext E5).keep K6 (ninS u8 (ninS f1ac nin0)) (ninS f2ac (ninS f3ac nin0)))
  have a_lb_6_eb := ((Ls4.ext E5).keep K6 (ninS u9 (ninS f1bc nin0)) (ninS f2bc (ninS f3bc nin0)))
  have f_oa_6_reused := ((((((Ra.ext E1).keep K2 (ninS f6aa (ninS f7aa nin0))).ext E3).keep K4 (ninS f6ab (ninS f7ab nin0))).ext E5).keep K6 (ninS f6ac (ninS f7ac nin0)))
  have f_oa_6_types := ((((((Ta.ext E1).keep K2 (ninS f6aa (ninS f7aa nin0))).ext E3).keep K4 (ninS f6ab (ninS f7ab nin0))).ext E5).keep K6 (ninS f6ac (ninS f7ac nin0)))
  have c_ga_6_x := ((((((Ia.ext E1).keep K2 (ninS f4aa (ninS f5aa nin0))).ext E3).keep K4 (ninS f4ab (ninS f5ab nin0))).ext E5).keep K6 (ninS f4ac (ninS f5ac nin0)))
  have f_ob_6_reused := ((((((Rb.ext E1).keep K2 (ninS f6ba (ninS f7ba nin0))).ext E3).keep K4 (ninS f6bb (ninS f7bb nin0))).ext E5).keep K6 (ninS f6bc (ninS f7bc nin0)))
  have f_ob_6_types := ((((((Tb.ext E1).keep K2 (ninS f6ba (ninS f7ba nin0))).ext E3).keep K4 (ninS f6bb (ninS f7bb nin0))).ext E5).keep K6 (ninS f6bc (ninS f7bc nin0)))
  have c_gb_6_x := ((((((Ib.ext E1).keep K2 (ninS f4ba (ninS f5ba nin0))).ext E3).keep K4 (ninS f4bb (ninS f5bb nin0))).ext E5).keep K6 (ninS f4bc (ninS f5bc nin0)))
  have f_oc_6_reused := ((((((Rc.ext E1).keep K2 (ninS f6ca (ninS f7ca nin0))).ext E3).keep K4 (ninS f6cb (ninS f7cb nin0))).ext E5).keep K6 (ninS f6cc (ninS f7cc nin0)))
  have f_oc_6_types := ((((((Tc.ext E1).keep K2 (ninS f6ca (ninS f7ca nin0))).ext E3).keep K4 (ninS f6cb (ninS f7cb nin0))).ext E5).keep K6 (ninS f6cc (ninS f7cc nin0)))
  have c_gc_6_x := ((((((Ic.ext E1).keep K2 (ninS f4ca (ninS f5ca nin0))).ext E3).keep K4 (ninS f4cb (ninS f5cb nin0))).ext E5).keep K6 (ninS f4cc (ninS f5cc nin0)))
  refine ⟨T6, _, T5.vm, _, X6, Sn5, (Nat.le_trans hk5 K6.1), hZ5, hown5, O6, N6, ⟨a_la_6_ea, a_lb_6_eb, Ls6, ⟨((((((Ea.ext E1).keep K2).ext E3).keep K4).ext E5).keep K6), f_oa_6_reused, f_oa_6_types, c_ga_6_x, oa_⟩, ⟨((((((Eb.ext E1).keep K2).ext E3).keep K4).ext E5).keep K6), f_ob_6_reused, f_ob_6_types, c_gb_6_x, ob_⟩, ⟨((((((Ec.ext E1).keep K2).ext E3).keep K4).ext E5).keep K6), f_oc_6_reused, f_oc_6_types, c_gc_6_x, oc_⟩, ⟨r1, r2, r3⟩⟩, fun target kt => ?_⟩
  show oS p e below T0 m 85 #[vI p0, vI p1, vI p2, vI p3, vR la, vR lb, vR lc, vI na, vI nb, vI nc, vR oa, vR ob, vR oc, .unset, .unset, .unset, .unset, .unset, .unset] [] _
  refine XS.iloadN X0.here hx rfl (hb hby at_85) rfl ?_
  refine XS.iconst X0.here hx rfl (hb hby at_86) ?_
  refine XS.iand X0.here hx rfl (hb hby at_87) rfl ?_
  show oS p e below T0 m 88 #[vI p0, vI p1, vI p2, vI p3, vR la, vR lb, vR lc, vI na, vI nb, vI nc, vR oa, vR ob, vR oc, .unset, .unset, .unset, .unset, .unset, .unset] [(.int (p3 &&& (4 : Int32)))] _
  refine XS.ifNo X0.here hx rfl (hb hby at_88) rfl ((if0 _ _).trans (feq hm4).1) ?_
  show oS p e below T0 m 91 #[vI p0, vI p1, vI p2, vI p3, vR la, vR lb, vR lc, vI na, vI nb, vI nc, vR oa, vR ob, vR oc, .unset, .unset, .unset, .unset, .unset, .unset] [] _
  refine XS.aload X0.here hx rfl (hb hby at_91) rfl rfl ?_
  show oS p e below T0 m 93 #[vI p0, vI p1, vI p2, vI p3, vR la, vR lb, vR lc, vI na, vI nb, vI nc, vR oa, vR ob, vR oc, .unset, .unset, .unset, .unset, .unset, .unset] [(.ref la)] _
  refine st1 _ ?_
  show oS p e below T1 m 95 #[vI p0, vI p1, vI p2, vI p3, vR la, vR lb, vR lc, vI na, vI nb, vI nc, vR oa, vR ob, vR oc, .unset, .unset, .unset, .unset, .unset, .unset] [(.ref sa1), (.ref la)] _
  refine st2.trans ?_
  show oS p e below T2 m 98 #[vI p0, vI p1, vI p2, vI p3, vR la, vR lb, vR lc, vI na, vI nb, vI nc, vR oa, vR ob, vR oc, .unset, .unset, .unset, .unset, .unset, .unset] [(.int 1)] _
  refine XS.pop X2.here hx rfl (hb hby at_98) rfl rfl ?_
  show oS p e below T2 m 99 #[vI p0, vI p1, vI p2, vI p3, vR la, vR lb, vR lc, vI na, vI nb, vI nc, vR oa, vR ob, vR oc, .unset, .unset, .unset, .unset, .unset, .unset] [] _
  refine XS.aload X2.here hx rfl (hb hby at_99) rfl rfl ?_
  show oS p e below T2 m 101 #[vI p0, vI p1, vI p2, vI p3, vR la, vR lb, vR lc, vI na, vI nb, vI nc, vR oa, vR ob, vR oc, .unset, .unset, .unset, .unset, .unset, .unset] [(.ref lb)] _
  refine st3 _ ?_
  show oS p e below T3 m 103 #[vI p0, vI p1, vI p2, vI p3, vR la, vR lb, vR lc, vI na, vI nb, vI nc, vR oa, vR ob, vR oc, .unset, .unset, .unset, .unset, .unset, .unset] [(.ref sa3), (.ref lb)] _
  refine st4.trans ?_
  show oS p e below T4 m 106 #[vI p0, vI p1, vI p2, vI p3, vR la, vR lb, vR lc, vI na, vI nb, vI nc, vR oa, vR ob, vR oc, .unset, .unset, .unset, .unset, .unset, .unset] [(.int 1)] _
  refine XS.pop X4.here hx rfl (hb hby at_106) rfl rfl ?_
  show oS p e below T4 m 107 #[vI p0, vI p1, vI p2, vI p3, vR la, vR lb, vR lc, vI na, vI nb, vI nc, vR oa, vR ob, vR oc, .unset, .unset, .unset, .unset, .unset, .unset] [] _
  refine XS.aload X4.here hx rfl (hb hby at_107) rfl rfl ?_
  show oS p e below T4 m 109 #[vI p0, vI p1, vI p2, vI p3, vR la, vR lb, vR lc, vI na, vI nb, vI nc, vR oa, vR ob, vR oc, .unset, .unset, .unset, .unset, .unset, .unset] [(.ref lc)] _
  refine st5 _ ?_
  show oS p e below T5 m 111 #[vI p0, vI p1, vI p2, vI p3, vR la, vR lb, vR lc, vI na, vI nb, vI nc, vR oa, vR ob, vR oc, .unset, .unset, .unset, .unset, .unset, .unset] [(.ref sa5), (.ref lc)] _
  refine st6.trans ?_
  show oS p e below T6 m 114 #[vI p0, vI p1, vI p2, vI p3, vR la, vR lb, vR lc, vI na, vI nb, vI nc, vR oa, vR ob, vR oc, .unset, .unset, .unset, .unset, .unset, .unset] [(.int 1)] _
  refine XS.pop X6.here hx rfl (hb hby at_114) rfl rfl ?_
  show oS p e below T6 m 115 #[vI p0, vI p1, vI p2, vI p3, vR la, vR lb, vR lc, vI na, vI nb, vI nc, vR oa, vR ob, vR oc, .unset, .unset, .unset, .unset, .unset, .unset] [] _
  exact kt
theorem lawP2b {p : Program} {l : Launch} {e : Env} {s : State} {m : MethodId} {below : List Frame} {meth : Method} {c : Code} {T0 : State} {Z : State} {a0 : Array Value} {p0 p1 p2 p3 : Int32} {ad el em : Addr} {kd : ClassId} {na nb nc : Int32} {la ea xa ya lb eb xb yb lc ec xc yc oa ob oc ga gb gc : Addr} {vm0 : Vm} {locs : List Loc} {k0 : Nat} {h0 : Heap} {n0 : Nat} (X0 : Stand p l e room_1 (s.setVm vm0) m #[(.int p0), (.int p1), (.int p2), (.int p3)] below meth c T0 locs 58 330) (hS : s.Since vm0 k0) (hk0 : k0 ≤ h0.size) (hZ : Z.Warmed39 (s.setVm vm0).vm) (hown : (s.setVm vm0).vm.findClass "com/example/graftwork/graftwork/ElementDefinitionTypesPinLaw" = some m.cls) (hch : CHv Z own_EL vm0 h0) (N0 : Fr n0 locs) (hx : p.tables.exec = Jvm.exec) (hw : HW a0 Z) (hby : c.code = code) (hml : c.maxLocals = 19) (e0 : T0.heap = h0) (O0 : Old Z n0 h0) (S_DE : Sta Z Z.heap "java/util/ArrayList" "DEFAULTCAPACITY_EMPTY_ELEMENTDATA" "[Ljava/lang/Object;" (.ref ad)) (V_ad : Arv Z Z.heap ad kd (.object "java/lang/Object") (0 : Int32) [] .null) (E_el : Exa Z Z.heap el "java/util/ImmutableCollections$ListN") (hW : own_W Z h0 n0 ad el em la ea na xa ya lb eb nb xb yb lc ec nc xc yc oa ob oc ga gb gc) (hm4 : (p3 &&& (4 : Int32)) = (0 : Int32)) :
    ∃ (T' : State) (L' : List Loc) (vm1 : Vm) (k1 : Nat), Stand p l e room_1 (s.setVm vm1) m #[(.int p0), (.int p1), (.int p2), (.int p3)] below meth c T' L' 67 384 ∧ s.Since vm1 k1 ∧ k1 ≤ T'.heap.size ∧ Z.Warmed39 (s.setVm vm1).vm ∧ (s.setVm vm1).vm.findClass "com/example/graftwork/graftwork/ElementDefinitionTypesPinLaw" = some m.cls ∧ Old Z n0 T'.heap ∧ Fr n0 L' ∧ own_Y Z T'.heap n0 el em la ea na xa ya lb eb nb xb yb lc ec nc xc yc oa ob oc ga gb gc ∧ ∀ target, Steps p.tables e below (T'.setTop (mkF m 115 #[vI p0, vI p1, vI p2, vI p3, vR la, vR lb, vR lc, vI na, vI nb, vI nc, vR oa, vR ob, vR oc, .unset, .unset, .unset, .unset, .unset, .unset] [])) target → Steps p.tables e below (T0.setTop (mkF m 85 #[vI p0, vI p1, vI p2, vI p3, vR la, vR lb, vR lc, vI na, vI nb, vI nc, vR oa, vR ob, vR oc, .unset, .unset, .unset, .unset, .unset, .unset] [])) target := by
  have C0 : CHr Z own_EL vm0 h0 vm0 h0 := CHr.refl hch
  have hel : el < n0 := O0.1 ▸ E_el.lt
  have V_ad0 := V_ad.ext O0.2
  obtain ⟨Aa, Ab, Ac, ⟨u1, u2, u3⟩, ⟨u4, u5, u6⟩, ⟨u7, u8, u9⟩, ⟨⟨v1, v2⟩, ⟨v3, v4⟩, ⟨v5, v6⟩⟩, ⟨Ea, Ra, Ta, Ia, oa_⟩, ⟨Eb, Rb, Tb, Ib, ob_⟩, ⟨Ec, Rc, Tc, Ic, oc_⟩, ⟨r1, r2, r3⟩⟩ := hW
  subst e0
  refine ⟨T0, _, vm0, _, X0.mono (by decide) (by decide), hS, hk0, hZ, hown, O0, N0, ⟨Aa.ls, Ab.ls, Ac.ls, ⟨Ea, Ra, Ta, Ia, oa_⟩, ⟨Eb, Rb, Tb, Ib, ob_⟩, ⟨Ec, Rc, Tc, Ic, oc_⟩, ⟨r1, r2, r3⟩⟩, fun target kt => ?_⟩
  show oS p e below T0 m 85 #[vI p0, vI p1, vI p2, vI p3, vR la, vR lb, vR lc, vI na, vI nb, vI nc, vR oa, vR ob, vR oc, .unset, .unset, .unset, .unset, .unset, .unset] [] _
  refine XS.iloadN X0.here hx rfl (hb hby at_85) rfl ?_
  refine XS.iconst X0.here hx rfl (hb hby at_86) ?_
  refine XS.iand X0.here hx rfl (hb hby at_87) rfl ?_
  show oS p e below T0 m 88 #[vI p0, vI p1, vI p2, vI p3, vR la, vR lb, vR lc, vI na, vI nb, vI nc, vR oa, vR ob, vR oc, .unset, .unset, .unset, .unset, .unset, .unset] [(.int (p3 &&& (4 : Int32)))] _
  refine XS.ifYes X0.here hx rfl (pc0 := 88) (pc' := 115) rfl (hb hby at_88) rfl ((if0 _ _).trans (teq hm4).1) (by decide) (by decide) ?_
  show oS p e below T0 m 115 #[vI p0, vI p1, vI p2, vI p3, vR la, vR lb, vR lc, vI na, vI nb, vI nc, vR oa, vR ob, vR oc, .unset, .unset, .unset, .unset, .unset, .unset] [] _
  exact kt
theorem lawP2 {p : Program} {l : Launch} {e : Env} {s : State} {m : MethodId} {below : List Frame} {meth : Method} {c : Code} {T0 : State} {Z : State} {a0 : Array Value} {p0 p1 p2 p3 : Int32} {ad el em : Addr} {kd : ClassId} {na nb nc : Int32} {la ea xa ya lb eb xb yb lc ec xc yc oa ob oc ga gb gc : Addr} {vm0 : Vm} {locs : List Loc} {k0 : Nat} {h0 : Heap} {n0 : Nat} (X0 : Stand p l e room_1 (s.setVm vm0) m #[(.int p0), (.int p1), (.int p2), (.int p3)] below meth c T0 locs 58 330) (hS : s.Since vm0 k0) (hk0 : k0 ≤ h0.size) (hZ : Z.Warmed39 (s.setVm vm0).vm) (hown : (s.setVm vm0).vm.findClass "com/example/graftwork/graftwork/ElementDefinitionTypesPinLaw" = some m.cls) (hch : CHv Z own_EL vm0 h0) (N0 : Fr n0 locs) (hx : p.tables.exec = Jvm.exec) (hw : HW a0 Z) (hby : c.code = code) (hml : c.maxLocals = 19) (e0 : T0.heap = h0) (O0 : Old Z n0 h0) (S_DE : Sta Z Z.heap "java/util/ArrayList" "DEFAULTCAPACITY_EMPTY_ELEMENTDATA" "[Ljava/lang/Object;" (.ref ad)) (V_ad : Arv Z Z.heap ad kd (.object "java/lang/Object") (0 : Int32) [] .null) (E_el : Exa Z Z.heap el "java/util/ImmutableCollections$ListN") (hW : own_W Z h0 n0 ad el em la ea na xa ya lb eb nb xb yb lc ec nc xc yc oa ob oc ga gb gc) :
    ∃ (T' : State) (L' : List Loc) (vm1 : Vm) (k1 : Nat), Stand p l e room_1 (s.setVm vm1) m #[(.int p0), (.int p1), (.int p2), (.int p3)] below meth c T' L' 67 384 ∧ s.Since vm1 k1 ∧ k1 ≤ T'.heap.size ∧ Z.Warmed39 (s.setVm vm1).vm ∧ (s.setVm vm1).vm.findClass "com/example/graftwork/graftwork/ElementDefinitionTypesPinLaw" = some m.cls ∧ Old Z n0 T'.heap ∧ Fr n0 L' ∧ own_Y Z T'.heap n0 el em la ea na xa ya lb eb nb xb yb lc ec nc xc yc oa ob oc ga gb gc ∧ ∀ target, Steps p.tables e below (T'.setTop (mkF m 115 #[vI p0, vI p1, vI p2, vI p3, vR la, vR lb, vR lc, vI na, vI nb, vI nc, vR oa, vR ob, vR oc, .unset, .unset, .unset, .unset, .unset, .unset] [])) target → Steps p.tables e below (T0.setTop (mkF m 85 #[vI p0, vI p1, vI p2, vI p3, vR la, vR lb, vR lc, vI na, vI nb, vI nc, vR oa, vR ob, vR oc, .unset, .unset, .unset, .unset, .unset, .unset] [])) target := by
  by_cases hm4 : (p3 &&& (4 : Int32)) = (0 : Int32)
  · exact lawP2b X0 hS hk0 hZ hown hch N0 hx hw hby hml e0 O0 S_DE V_ad E_el hW hm4
  · exact lawP2a X0 hS hk0 hZ hown hch N0 hx hw hby hml e0 O0 S_DE V_ad E_el hW hm4
theorem pd_38 : parseMethodDescriptor "(Ljava/util/List;Ljava/util/List;I)Z" = some ⟨[(.object "java/util/List"), (.object "java/util/List"), .int], some .boolean⟩ := by decide +kernel
theorem lawP3 {p : Program} {l : Launch} {e : Env} {s : State} {m : MethodId} {below : List Frame} {meth : Method} {c : Code} {T0 : State} {Z : State} {a0 : Array Value} {p0 p1 p2 p3 va vb : Int32} {el em ee : Addr} {ke : ClassId} {na nb nc : Int32} {la ea xa ya lb eb xb yb lc ec xc yc oa ob oc ga gb gc : Addr} {vm0 : Vm} {locs : List Loc} {h0 : Heap} {n0 : Nat} (X0 : Stand p l e room_1 (s.setVm vm0) m #[(.int p0), (.int p1), (.int p2), (.int p3)] below meth c T0 locs 67 384) (hZ : Z.Warmed39 (s.setVm vm0).vm) (hown : (s.setVm vm0).vm.findClass "com/example/graftwork/graftwork/ElementDefinitionTypesPinLaw" = some m.cls) (N0 : Fr n0 locs) (hx : p.tables.exec = Jvm.exec) (hw : HW a0 Z) (hby : c.code = code) (hml : c.maxLocals = 19) (e0 : T0.heap = h0) (O0 : Old Z n0 h0) (E_el : Exa Z Z.heap el "java/util/ImmutableCollections$ListN") (S_EMPTY : Sta Z Z.heap "java/util/ImmutableCollections" "EMPTY" "Ljava/lang/Object;" (.ref em)) (E_em : Exa Z Z.heap em "java/lang/Object") (F_el : Fld Z Z.heap el "java/util/ImmutableCollections$ListN" "elements" "[Ljava/lang/Object;" (.ref ee)) (V_ee : Arv Z Z.heap ee ke (.object "java/lang/Object") (0 : Int32) [] .null) (hva : ((p3 &&& (1 : Int32)) = (0 : Int32) ∧ va = 0) ∨ (¬ ((p3 &&& (1 : Int32)) = (0 : Int32)) ∧ va = 1)) (hvb : ((p3 &&& (2 : Int32)) = (0 : Int32) ∧ vb = 0) ∨ (¬ ((p3 &&& (2 : Int32)) = (0 : Int32)) ∧ vb = 1)) (hY : own_Y Z h0 n0 el em la ea na xa ya lb eb nb xb yb lc ec nc xc yc oa ob oc ga gb gc) :
    ∃ (T' : State) (L' : List Loc), Stand p l e room_1 (s.setVm vm0) m #[(.int p0), (.int p1), (.int p2), (.int p3)] below meth c T' L' 67 384 ∧ T'.heap = h0 ∧ Fr n0 L' ∧ ∀ target, Steps p.tables e below (T'.setTop (mkF m 158 #[vI p0, vI p1, vI p2, vI p3, vR la, vR lb, vR lc, vI na, vI nb, vI nc, vR oa, vR ob, vR oc, vI va, vI vb, .unset, .unset, .unset, .unset] [])) target → Steps p.tables e below (T0.setTop (mkF m 115 #[vI p0, vI p1, vI p2, vI p3, vR la, vR lb, vR lc, vI na, vI nb, vI nc, vR oa, vR ob, vR oc, .unset, .unset, .unset, .unset, .unset, .unset] [])) target := by
  obtain ⟨La, Lb, Lc, ⟨Ea, Ra, Ta, Ia, oa_⟩, ⟨Eb, Rb, Tb, Ib, ob_⟩, ⟨Ec, Rc, Tc, Ic, oc_⟩, ⟨r1, r2, r3⟩⟩ := hY
  have fk1 : ∀ target, Steps p.tables e below (T0.setTop (mkF m 128 #[vI p0, vI p1, vI p2, vI p3, vR la, vR lb, vR lc, vI na, vI nb, vI nc, vR oa, vR ob, vR oc, vI va, .unset, .unset, .unset, .unset, .unset] [])) target → Steps p.tables e below (T0.setTop (mkF m 115 #[vI p0, vI p1, vI p2, vI p3, vR la, vR lb, vR lc, vI na, vI nb, vI nc, vR oa, vR ob, vR oc, .unset, .unset, .unset, .unset, .unset, .unset] [])) target := by
    intro target kt
    rcases hva with ⟨hq, rfl⟩ | ⟨hq, rfl⟩
    · show oS p e below T0 m 115 #[vI p0, vI p1, vI p2, vI p3, vR la, vR lb, vR lc, vI na, vI nb, vI nc, vR oa, vR ob, vR oc, .unset, .unset, .unset, .unset, .unset, .unset] [] _
      refine XS.iloadN X0.here hx rfl (hb hby at_115) rfl ?_
      refine XS.iconst X0.here hx rfl (hb hby at_116) ?_
      refine XS.iand X0.here hx rfl (hb hby at_117) rfl ?_
      show oS p e below T0 m 118 #[vI p0, vI p1, vI p2, vI p3, vR la, vR lb, vR lc, vI na, vI nb, vI nc, vR oa, vR ob, vR oc, .unset, .unset, .unset, .unset, .unset, .unset] [(.int (p3 &&& (1 : Int32)))] _
      refine XS.ifYes X0.here hx rfl (pc0 := 118) (pc' := 125) rfl (hb hby at_118) rfl ((if0 _ _).trans (teq hq).1) (by decide) (by decide) ?_
      show oS p e below T0 m 125 #[vI p0, vI p1, vI p2, vI p3, vR la, vR lb, vR lc, vI na, vI nb, vI nc, vR oa, vR ob, vR oc, .unset, .unset, .unset, .unset, .unset, .unset] [] _
      refine XS.iconst X0.here hx rfl (hb hby at_125) ?_
      refine XS.istore X0.here hx rfl (hb hby at_126) rfl (l' := #[vI p0, vI p1, vI p2, vI p3, vR la, vR lb, vR lc, vI na, vI nb, vI nc, vR oa, vR ob, vR oc, vI 0, .unset, .unset, .unset, .unset, .unset]) rfl ?_
      show oS p e below T0 m 128 #[vI p0, vI p1, vI p2, vI p3, vR la, vR lb, vR lc, vI na, vI nb, vI nc, vR oa, vR ob, vR oc, vI 0, .unset, .unset, .unset, .unset, .unset] [] _
      exact kt
    · show oS p e below T0 m 115 #[vI p0, vI p1, vI p2, vI p3, vR la, vR lb, vR lc, vI na, vI nb, vI nc, vR oa, vR ob, vR oc, .unset, .unset, .unset, .unset, .unset, .unset] [] _
      refine XS.iloadN X0.here hx rfl (hb hby at_115) rfl ?_
      refine XS.iconst X0.here hx rfl (hb hby at_116) ?_
      refine XS.iand X0.here hx rfl (hb hby at_117) rfl ?_
      show oS p e below T0 m 118 #[vI p0, vI p1, vI p2, vI p3, vR la, vR lb, vR lc, vI na, vI nb, vI nc, vR oa, vR ob, vR oc, .unset, .unset, .unset, .unset, .unset, .unset] [(.int (p3 &&& (1 : Int32)))] _
      refine XS.ifNo X0.here hx rfl (hb hby at_118) rfl ((if0 _ _).trans (feq hq).1) ?_
      show oS p e below T0 m 121 #[vI p0, vI p1, vI p2, vI p3, vR la, vR lb, vR lc, vI na, vI nb, vI nc, vR oa, vR ob, vR oc, .unset, .unset, .unset, .unset, .unset, .unset] [] _
      refine XS.iconst X0.here hx rfl (hb hby at_121) ?_
      refine XS.goto X0.here hx rfl (pc0 := 122) (pc' := 126) rfl (hb hby at_122) (by decide) (by decide) ?_
      show oS p e below T0 m 126 #[vI p0, vI p1, vI p2, vI p3, vR la, vR lb, vR lc, vI na, vI nb, vI nc, vR oa, vR ob, vR oc, .unset, .unset, .unset, .unset, .unset, .unset] [(.int 1)] _
      refine XS.istore X0.here hx rfl (hb hby at_126) rfl (l' := #[vI p0, vI p1, vI p2, vI p3, vR la, vR lb, vR lc, vI na, vI nb, vI nc, vR oa, vR ob, vR oc, vI 1, .unset, .unset, .unset, .unset, .unset]) rfl ?_
      show oS p e below T0 m 128 #[vI p0, vI p1, vI p2, vI p3, vR la, vR lb, vR lc, vI na, vI nb, vI nc, vR oa, vR ob, vR oc, vI 1, .unset, .unset, .unset, .unset, .unset] [] _
      exact kt
  have fk2 : ∀ target, Steps p.tables e below (T0.setTop (mkF m 141 #[vI p0, vI p1, vI p2, vI p3, vR la, vR lb, vR lc, vI na, vI nb, vI nc, vR oa, vR ob, vR oc, vI va, vI vb, .unset, .unset, .unset, .unset] [])) target → Steps p.tables e below (T0.setTop (mkF m 128 #[vI p0, vI p1, vI p2, vI p3, vR la, vR lb, vR lc, vI na, vI nb, vI nc, vR oa, vR ob, vR oc, vI va, .unset, .unset, .unset, .unset, .unset] [])) target := by
    intro target kt
    rcases hvb with ⟨hq, rfl⟩ | ⟨hq, rfl⟩
    · show oS p e below T0 m 128 #[vI p0, vI p1, vI p2, vI p3, vR la, vR lb, vR lc, vI na, vI nb, vI nc, vR oa, vR ob, vR oc, vI va, .unset, .unset, .unset, .unset, .unset] [] _
      refine XS.iloadN X0.here hx rfl (hb hby at_128) rfl ?_
      refine XS.iconst X0.here hx rfl (hb hby at_129) ?_
      refine XS.iand X0.here hx rfl (hb hby at_130) rfl ?_
      show oS p e below T0 m 131 #[vI p0, vI p1, vI p2, vI p3, vR la, vR lb, vR lc, vI na, vI nb, vI nc, vR oa, vR ob, vR oc, vI va, .unset, .unset, .unset, .unset, .unset] [(.int (p3 &&& (2 : Int32)))] _
      refine XS.ifYes X0.here hx rfl (pc0 := 131) (pc' := 138) rfl (hb hby at_131) rfl ((if0 _ _).trans (teq hq).1) (by decide) (by decide) ?_
      show oS p e below T0 m 138 #[vI p0, vI p1, vI p2, vI p3, vR la, vR lb, vR lc, vI na, vI nb, vI nc, vR oa, vR ob, vR oc, vI va, .unset, .unset, .unset, .unset, .unset] [] _
      refine XS.iconst X0.here hx rfl (hb hby at_138) ?_
      refine XS.istore X0.here hx rfl (hb hby at_139) rfl (l' := #[vI p0, vI p1, vI p2, vI p3, vR la, vR lb, vR lc, vI na, vI nb, vI nc, vR oa, vR ob, vR oc, vI va, vI 0, .unset, .unset, .unset, .unset]) rfl ?_
      show oS p e below T0 m 141 #[vI p0, vI p1, vI p2, vI p3, vR la, vR lb, vR lc, vI na, vI nb, vI nc, vR oa, vR ob, vR oc, vI va, vI 0, .unset, .unset, .unset, .unset] [] _
      exact kt
    · show oS p e below T0 m 128 #[vI p0, vI p1, vI p2, vI p3, vR la, vR lb, vR lc, vI na, vI nb, vI nc, vR oa, vR ob, vR oc, vI va, .unset, .unset, .unset, .unset, .unset] [] _
      refine XS.iloadN X0.here hx rfl (hb hby at_128) rfl ?_
      refine XS.iconst X0.here hx rfl (hb hby at_129) ?_
      refine XS.iand X0.here hx rfl (hb hby at_130) rfl ?_
      show oS p e below T0 m 131 #[vI p0, vI p1, vI p2, vI p3, vR la, vR lb, vR lc, vI na, vI nb, vI nc, vR oa, vR ob, vR oc, vI va, .unset, .unset, .unset, .unset, .unset] [(.int (p3 &&& (2 : Int32)))] _
      refine XS.ifNo X0.here hx rfl (hb hby at_131) rfl ((if0 _ _).trans (feq hq).1) ?_
      show oS p e below T0 m 134 #[vI p0, vI p1, vI p2, vI p3, vR la, vR lb, vR lc, vI na, vI nb, vI nc, vR oa, vR ob, vR oc, vI va, .unset, .unset, .unset, .unset, .unset] [] _
      refine XS.iconst X0.here hx rfl (hb hby at_134) ?_
      refine XS.goto X0.here hx rfl (pc0 := 135) (pc' := 139) rfl (hb hby at_135) (by decide) (by decide) ?_
      show oS p e below T0 m 139 #[vI p0, vI p1, vI p2, vI p3, vR la, vR lb, vR lc, vI na, vI nb, vI nc, vR oa, vR ob, vR oc, vI va, .unset, .unset, .unset, .unset, .unset] [(.int 1)] _
      refine XS.istore X0.here hx rfl (hb hby at_139) rfl (l' := #[vI p0, vI p1, vI p2, vI p3, vR la, vR lb, vR lc, vI na, vI nb, vI nc, vR oa, vR ob, vR oc, vI va, vI 1, .unset, .unset, .unset, .unset]) rfl ?_
      show oS p e below T0 m 141 #[vI p0, vI p1, vI p2, vI p3, vR la, vR lb, vR lc, vI na, vI nb, vI nc, vR oa, vR ob, vR oc, vI va, vI 1, .unset, .unset, .unset, .unset] [] _
      exact kt
  obtain ⟨cq3, kq3, q3a, q3b, q3c⟩ := isOf hZ e0 Ea
  obtain ⟨_, _, ⟨T3, L3, k3, n3⟩, -, X3, ⟨Lc3, hQ3, l3, y3, z3⟩, st3⟩ := X0.virtualBack hx (y := mN53) (z := mN53) hown (mvT hZ (oW hw 317 rfl)) (mvT hZ (oW hw 318 rfl)) (notFace_of_selects (args := #[]) (mvT hZ (oW hw 320 rfl))) (mvT hZ (oW hw 320 rfl)) (mvT hZ (oW hw 319 rfl)) (by decide) (backOf (W := 0) (rmT0 l Z a0 hw [] oa ga h0 n0 O0 Ra Ta) hZ (oW hw 321 rfl) (oW hw 93 rfl) (by decide) (by decide)) q3a q3c (g := (mkF m 143 #[vI p0, vI p1, vI p2, vI p3, vR la, vR lb, vR lc, vI na, vI nb, vI nc, vR oa, vR ob, vR oc, vI va, vI vb, .unset, .unset, .unset, .unset] [(.ref oa)])) rfl (by rw [hml]; rfl) (Steps.refl _) (argsL := []) (rest := []) (lenOf pd_16 rfl) rfl (by show 2 * 0 + _ ≤ _; exact Nat.le_of_eq rfl) (hb hby at_143) (fun _ _ => ⟨rfl, e0, (by decide : 67 + 0 ≤ _), (by decide : 384 + 0 ≤ _)⟩)
  dsimp only [Pt.U, Pt.locs, Pt.cells, Pt.slots] at X3 l3 y3 z3 st3 hQ3
  subst l3 y3 z3
  obtain ⟨rfl, N3q, e3⟩ := hQ3
  have N3 := Fr.app N0 N3q
  obtain ⟨_, _, ⟨T4, L4, k4, n4⟩, -, X4, ⟨Lc4, hQ4, l4, y4, z4⟩, st4⟩ := Jvm.LawKit.callS X3 hx (y := mN61) hown (mvT hZ (oW hw 324 rfl)) (mvT hZ (oW hw 325 rfl)) (mvT hZ (oW hw 2 rfl)) (mvT hZ (oW hw 326 rfl)) (by decide) (backOf (W := 0) (rmSa l Z a0 hw [] ga la na ea el em ee xa ya ke h0 n0 O0 S_EMPTY E_em E_el F_el V_ee Ia La) hZ (oW hw 326 rfl) (oW hw 2 rfl) (by decide) (by decide)) (g := (mkF m 150 #[vI p0, vI p1, vI p2, vI p3, vR la, vR lb, vR lc, vI na, vI nb, vI nc, vR oa, vR ob, vR oc, vI va, vI vb, .unset, .unset, .unset, .unset] [(.int na), (.ref la), (.ref ga)])) rfl (by rw [hml]; rfl) (argsL := [(.ref ga), (.ref la), (.int na)]) (rest := []) (lenOf pd_38 rfl) rfl (by show 2 * 0 + _ ≤ _; exact Nat.le_of_eq rfl) (hb hby at_150) (fun _ _ => ⟨rfl, e3, (by decide : 67 + 0 ≤ _), (by decide : 384 + 0 ≤ _)⟩)
  dsimp only [Pt.U, Pt.locs, Pt.cells, Pt.slots] at X4 l4 y4 z4 st4 hQ4
  subst l4 y4 z4
  obtain ⟨rfl, N4q, e4⟩ := hQ4
  have N4 := Fr.app N3 N4q
  refine ⟨T4, _, X4, e4, N4, fun target kt => ?_⟩
  show oS p e below T0 m 115 #[vI p0, vI p1, vI p2, vI p3, vR la, vR lb, vR lc, vI na, vI nb, vI nc, vR oa, vR ob, vR oc, .unset, .unset, .unset, .unset, .unset, .unset] [] _
  refine fk1 _ ?_
  show oS p e below T0 m 128 #[vI p0, vI p1, vI p2, vI p3, vR la, vR lb, vR lc, vI na, vI nb, vI nc, vR oa, vR ob, vR oc, vI va, .unset, .unset, .unset, .unset, .unset] [] _
  refine fk2 _ ?_
  show oS p e below T0 m 141 #[vI p0, vI p1, vI p2, vI p3, vR la, vR lb, vR lc, vI na, vI nb, vI nc, vR oa, vR ob, vR oc, vI va, vI vb, .unset, .unset, .unset, .unset] [] _
  refine XS.aload X0.here hx rfl (hb hby at_141) rfl rfl ?_
  show oS p e below T0 m 143 #[vI p0, vI p1, vI p2, vI p3, vR la, vR lb, vR lc, vI na, vI nb, vI nc, vR oa, vR ob, vR oc, vI va, vI vb, .unset, .unset, .unset, .unset] [(.ref oa)] _
  refine st3.trans ?_
  show oS p e below T3 m 146 #[vI p0, vI p1, vI p2, vI p3, vR la, vR lb, vR lc, vI na, vI nb, vI nc, vR oa, vR ob, vR oc, vI va, vI vb, .unset, .unset, .unset, .unset] [(.ref ga)] _
  refine XS.aload X3.here hx rfl (hb hby at_146) rfl rfl ?_
  refine XS.iload X3.here hx rfl (hb hby at_148) rfl ?_
  show oS p e below T3 m 150 #[vI p0, vI p1, vI p2, vI p3, vR la, vR lb, vR lc, vI na, vI nb, vI nc, vR oa, vR ob, vR oc, vI va, vI vb, .unset, .unset, .unset, .unset] [(.int na), (.ref la), (.ref ga)] _
  refine st4 _ ?_
  show oS p e below T4 m 153 #[vI p0, vI p1, vI p2, vI p3, vR la, vR lb, vR lc, vI na, vI nb, vI nc, vR oa, vR ob, vR oc, vI va, vI vb, .unset, .unset, .unset, .unset] [(.int 1)] _
  refine XS.ifYes X4.here hx rfl (pc0 := 153) (pc' := 158) rfl (hb hby at_153) rfl ((if0 _ _).trans (feq (by decide : ¬ ((1 : Int32) = (0 : Int32)))).2) (by decide) (by decide) ?_
  show oS p e below T4 m 158 #[vI p0, vI p1, vI p2, vI p3, vR la, vR lb, vR lc, vI na, vI nb, vI nc, vR oa, vR ob, vR oc, vI va, vI vb, .unset, .unset, .unset, .unset] [] _
  exact kt
theorem lawP4 {p : Program} {l : Launch} {e : Env} {s : State} {m : MethodId} {below : List Frame} {meth : Method} {c : Code} {T0 : State} {Z : State} {a0 : Array Value} {p0 p1 p2 p3 va vb na nb nc nA nB : Int32} {el em ee la lb lc oa ob oc gA lA eA xA yA gB lB eB xB yB gc ec xc yc : Addr} {ke : ClassId} {vm0 : Vm} {locs : List Loc} {h0 : Heap} {n0 : Nat} (X0 : Stand p l e room_1 (s.setVm vm0) m #[(.int p0), (.int p1), (.int p2), (.int p3)] below meth c T0 locs 67 384) (hZ : Z.Warmed39 (s.setVm vm0).vm) (hown : (s.setVm vm0).vm.findClass "com/example/graftwork/graftwork/ElementDefinitionTypesPinLaw" = some m.cls) (N0 : Fr n0 locs) (hx : p.tables.exec = Jvm.exec) (hw : HW a0 Z) (hby : c.code = code) (hml : c.maxLocals = 19) (e0 : T0.heap = h0) (O0 : Old Z n0 h0) (E_el : Exa Z Z.heap el "java/util/ImmutableCollections$ListN") (S_EMPTY : Sta Z Z.heap "java/util/ImmutableCollections" "EMPTY" "Ljava/lang/Object;" (.ref em)) (E_em : Exa Z Z.heap em "java/lang/Object") (F_el : Fld Z Z.heap el "java/util/ImmutableCollections$ListN" "elements" "[Ljava/lang/Object;" (.ref ee)) (V_ee : Arv Z Z.heap ee ke (.object "java/lang/Object") (0 : Int32) [] .null) (Ea : Exa Z h0 oa "com/example/graftwork/graftwork/ElementDefinition") (Eb : Exa Z h0 ob "com/example/graftwork/graftwork/ElementDefinition") (Ec : Exa Z h0 oc "com/example/graftwork/graftwork/ElementDefinition") (hTa : MetFree l mN53 (head1 (Jvm.Cond.code mN53 prog_6_method_6_code 1 (some (.object "java/util/List")) :: []) (rM 2 0 0 24)) (fun a U => a = #[(.ref oa)] ∧ Z.Warmed39 U.vm ∧ U.heap = h0) (fun _ _ _ _ _ => True) (fun _ U o U' => ∃ v L, o = .returned v ∧ own_Q (.ref gA) h0 n0 v U'.heap L ∧ FrameEnd U o U' L (rM 2 0 0 24).cells (rM 2 0 0 24).slots)) (hTb : MetFree l mN53 (head1 (Jvm.Cond.code mN53 prog_6_method_6_code 1 (some (.object "java/util/List")) :: []) (rM 2 0 0 24)) (fun a U => a = #[(.ref ob)] ∧ Z.Warmed39 U.vm ∧ U.heap = h0) (fun _ _ _ _ _ => True) (fun _ U o U' => ∃ v L, o = .returned v ∧ own_Q (.ref gB) h0 n0 v U'.heap L ∧ FrameEnd U o U' L (rM 2 0 0 24).cells (rM 2 0 0 24).slots)) (hTc : MetFree l mN53 (head1 (Jvm.Cond.code mN53 prog_6_method_6_code 1 (some (.object "java/util/List")) :: []) (rM 2 0 0 24)) (fun a U => a = #[(.ref oc)] ∧ Z.Warmed39 U.vm ∧ U.heap = h0) (fun _ _ _ _ _ => True) (fun _ U o U' => ∃ v L, o = .returned v ∧ own_Q (.ref gc) h0 n0 v U'.heap L ∧ FrameEnd U o U' L (rM 2 0 0 24).cells (rM 2 0 0 24).slots)) (IA : own_IL Z h0 el em gA nA xA yA) (LA : own_LS Z h0 lA eA nA xA yA) (IB : own_IL Z h0 el em gB nB xB yB) (LB : own_LS Z h0 lB eB nB xB yB) (Ic : own_IL Z h0 el em gc nc xc yc) (Lc : own_LS Z h0 lc ec nc xc yc) :
    ∃ (T' : State) (L' : List Loc), Stand p l e room_1 (s.setVm vm0) m #[(.int p0), (.int p1), (.int p2), (.int p3)] below meth c T' L' 67 384 ∧ T'.heap = h0 ∧ Fr n0 L' ∧ ∀ target, Steps p.tables e below (T'.setTop (mkF m 288 #[vI p0, vI p1, vI p2, vI p3, vR la, vR lb, vR lc, vI na, vI nb, vI nc, vR oa, vR ob, vR oc, vI va, vI vb, vR lB, vI nB, vR lA, vI nA] [(.int 1)])) target → Steps p.tables e below (T0.setTop (mkF m 238 #[vI p0, vI p1, vI p2, vI p3, vR la, vR lb, vR lc, vI na, vI nb, vI nc, vR oa, vR ob, vR oc, vI va, vI vb, vR lB, vI nB, vR lA, vI nA] [])) target := by
  obtain ⟨cq1, kq1, q1a, q1b, q1c⟩ := isOf hZ e0 Ea
  obtain ⟨_, _, ⟨T1, L1, k1, n1⟩, -, X1, ⟨Lc1, hQ1, l1, y1, z1⟩, st1⟩ := X0.virtualBack hx (y := mN53) (z := mN53) hown (mvT hZ (oW hw 317 rfl)) (mvT hZ (oW hw 318 rfl)) (notFace_of_selects (args := #[]) (mvT hZ (oW hw 320 rfl))) (mvT hZ (oW hw 320 rfl)) (mvT hZ (oW hw 319 rfl)) (by decide) (backOf (W := 0) hTa hZ (oW hw 321 rfl) (oW hw 93 rfl) (by decide) (by decide)) q1a q1c (g := (mkF m 240 #[vI p0, vI p1, vI p2, vI p3, vR la, vR lb, vR lc, vI na, vI nb, vI nc, vR oa, vR ob, vR oc, vI va, vI vb, vR lB, vI nB, vR lA, vI nA] [(.ref oa)])) rfl (by rw [hml]; rfl) (Steps.refl _) (argsL := []) (rest := []) (lenOf pd_16 rfl) rfl (by show 2 * 0 + _ ≤ _; exact Nat.le_of_eq rfl) (hb hby at_240) (fun _ _ => ⟨rfl, e0, (by decide : 67 + 0 ≤ _), (by decide : 384 + 0 ≤ _)⟩)
  dsimp only [Pt.U, Pt.locs, Pt.cells, Pt.slots] at X1 l1 y1 z1 st1 hQ1
  subst l1 y1 z1
  obtain ⟨rfl, N1q, e1⟩ := hQ1
  have N1 := Fr.app N0 N1q
  obtain ⟨_, _, ⟨T2, L2, k2, n2⟩, -, X2, ⟨Lc2, hQ2, l2, y2, z2⟩, st2⟩ := Jvm.LawKit.callS X1 hx (y := mN61) hown (mvT hZ (oW hw 324 rfl)) (mvT hZ (oW hw 325 rfl)) (mvT hZ (oW hw 2 rfl)) (mvT hZ (oW hw 326 rfl)) (by decide) (backOf (W := 0) (rmSa l Z a0 hw [] gA lA nA eA el em ee xA yA ke h0 n0 O0 S_EMPTY E_em E_el F_el V_ee IA LA) hZ (oW hw 326 rfl) (oW hw 2 rfl) (by decide) (by decide)) (g := (mkF m 247 #[vI p0, vI p1, vI p2, vI p3, vR la, vR lb, vR lc, vI na, vI nb, vI nc, vR oa, vR ob, vR oc, vI va, vI vb, vR lB, vI nB, vR lA, vI nA] [(.int nA), (.ref lA), (.ref gA)])) rfl (by rw [hml]; rfl) (argsL := [(.ref gA), (.ref lA), (.int nA)]) (rest := []) (lenOf pd_38 rfl) rfl (by show 2 * 0 + _ ≤ _; exact Nat.le_of_eq rfl) (hb hby at_247) (fun _ _ => ⟨rfl, e1, (by decide : 67 + 0 ≤ _), (by decide : 384 + 0 ≤ _)⟩)
  dsimp only [Pt.U, Pt.locs, Pt.cells, Pt.slots] at X2 l2 y2 z2 st2 hQ2
  subst l2 y2 z2
  obtain ⟨rfl, N2q, e2⟩ := hQ2
  have N2 := Fr.app N1 N2q
  obtain ⟨cq3, kq3, q3a, q3b, q3c⟩ := isOf hZ e2 Eb
  obtain ⟨_, _, ⟨T3, L3, k3, n3⟩, -, X3, ⟨Lc3, hQ3, l3, y3, z3⟩, st3⟩ := X2.virtualBack hx (y := mN53) (z := mN53) hown (mvT hZ (oW hw 317 rfl)) (mvT hZ (oW hw 318 rfl)) (notFace_of_selects (args := #[]) (mvT hZ (oW hw 320 rfl))) (mvT hZ (oW hw 320 rfl)) (mvT hZ (oW hw 319 rfl)) (by decide) (backOf (W := 0) hTb hZ (oW hw 321 rfl) (oW hw 93 rfl) (by decide) (by decide)) q3a q3c (g := (mkF m 255 #[vI p0, vI p1, vI p2, vI p3, vR la, vR lb, vR lc, vI na, vI nb, vI nc, vR oa, vR ob, vR oc, vI va, vI vb, vR lB, vI nB, vR lA, vI nA] [(.ref ob)])) rfl (by rw [hml]; rfl) (Steps.refl _) (argsL := []) (rest := []) (lenOf pd_16 rfl) rfl (by show 2 * 0 + _ ≤ _; exact Nat.le_of_eq rfl) (hb hby at_255) (fun _ _ => ⟨rfl, e2, (by decide : 67 + 0 ≤ _), (by decide : 384 + 0 ≤ _)⟩)
  dsimp only [Pt.U, Pt.locs, Pt.cells, Pt.slots] at X3 l3 y3 z3 st3 hQ3
  subst l3 y3 z3
  obtain ⟨rfl, N3q, e3⟩ := hQ3
  have N3 := Fr.app N2 N3q
  obtain ⟨_, _, ⟨T4, L4, k4, n4⟩, -, X4, ⟨Lc4, hQ4, l4, y4, z4⟩, st4⟩ := Jvm.LawKit.callS X3 hx (y := mN61) hown (mvT hZ (oW hw 324 rfl)) (mvT hZ (oW hw 325 rfl)) (mvT hZ (oW hw 2 rfl)) (mvT hZ (oW hw 326 rfl)) (by decide) (backOf (W := 0) (rmSa l Z a0 hw [] gB lB nB eB el em ee xB yB ke h0 n0 O0 S_EMPTY E_em E_el F_el V_ee IB LB) hZ (oW hw 326 rfl) (oW hw 2 rfl) (by decide) (by decide)) (g := (mkF m 262 #[vI p0, vI p1, vI p2, vI p3, vR la, vR lb, vR lc, vI na, vI nb, vI nc, vR oa, vR ob, vR oc, vI va, vI vb, vR lB, vI nB, vR lA, vI nA] [(.int nB), (.ref lB), (.ref gB)])) rfl (by rw [hml]; rfl) (argsL := [(.ref gB), (.ref lB), (.int nB)]) (rest := []) (lenOf pd_38 rfl) rfl (by show 2 * 0 + _ ≤ _; exact Nat.le_of_eq rfl) (hb hby at_262) (fun _ _ => ⟨rfl, e3, (by decide : 67 + 0 ≤ _), (by decide : 384 + 0 ≤ _)⟩)
  dsimp only [Pt.U, Pt.locs, Pt.cells, Pt.slots] at X4 l4 y4 z4 st4 hQ4
  subst l4 y4 z4
  obtain ⟨rfl, N4q, e4⟩ := hQ4
  have N4 := Fr.app N3 N4q
  obtain ⟨cq5, kq5, q5a, q5b, q5c⟩ := isOf hZ e4 Ec
  obtain ⟨_, _, ⟨T5, L5, k5, n5⟩, -, X5, ⟨Lc5, hQ5, l5, y5, z5⟩, st5⟩ := X4.virtualBack hx (y := mN53) (z := mN53) hown (mvT hZ (oW hw 317 rfl)) (mvT hZ (oW hw 318 rfl)) (notFace_of_selects (args := #[]) (mvT hZ (oW hw 320 rfl))) (mvT hZ (oW hw 320 rfl)) (mvT hZ (oW hw 319 rfl)) (by decide) (backOf (W := 0) hTc hZ (oW hw 321 rfl) (oW hw 93 rfl) (by decide) (by decide)) q5a q5c (g := (mkF m 270 #[vI p0, vI p1, vI p2, vI p3, vR la, vR lb, vR lc, vI na, vI nb, vI nc, vR oa, vR ob, vR oc, vI va, vI vb, vR lB, vI nB, vR lA, vI nA] [(.ref oc)])) rfl (by rw [hml]; rfl) (Steps.refl _) (argsL := []) (rest := []) (lenOf pd_16 rfl) rfl (by show 2 * 0 + _ ≤ _; exact Nat.le_of_eq rfl) (hb hby at_270) (fun _ _ => ⟨rfl, e4, (by decide : 67 + 0 ≤ _), (by decide : 384 + 0 ≤ _)⟩)
  dsimp only [Pt.U, Pt.locs, Pt.cells, Pt.slots] at X5 l5 y5 z5 st5 hQ5
  subst l5 y5 z5
  obtain ⟨rfl, N5q, e5⟩ := hQ5
  have N5 := Fr.app N4 N5q
  obtain ⟨_, _, ⟨T6, L6, k6, n6⟩, -, X6, ⟨Lc6, hQ6, l6, y6, z6⟩, st6⟩ := Jvm.LawKit.callS X5 hx (y := mN61) hown (mvT hZ (oW hw 324 rfl)) (mvT hZ (oW hw 325 rfl)) (mvT hZ (oW hw 2 rfl)) (mvT hZ (oW hw 326 rfl)) (by decide) (backOf (W := 0) (rmSa l Z a0 hw [] gc lc nc ec el em ee xc yc ke h0 n0 O0 S_EMPTY E_em E_el F_el V_ee Ic Lc) hZ (oW hw 326 rfl) (oW hw 2 rfl) (by decide) (by decide)) (g := (mkF m 277 #[vI p0, vI p1, vI p2, vI p3, vR la, vR lb, vR lc, vI na, vI nb, vI nc, vR oa, vR ob, vR oc, vI va, vI vb, vR lB, vI nB, vR lA, vI nA] [(.int nc), (.ref lc), (.ref gc)])) rfl (by rw [hml]; rfl) (argsL := [(.ref gc), (.ref lc), (.int nc)]) (rest := []) (lenOf pd_38 rfl) rfl (by show 2 * 0 + _ ≤ _; exact Nat.le_of_eq rfl) (hb hby at_277) (fun _ _ => ⟨rfl, e5, (by decide : 67 + 0 ≤ _), (by decide : 384 + 0 ≤ _)⟩)
  dsimp only [Pt.U, Pt.locs, Pt.cells, Pt.slots] at X6 l6 y6 z6 st6 hQ6
  subst l6 y6 z6
  obtain ⟨rfl, N6q, e6⟩ := hQ6
  have N6 := Fr.app N5 N6q
  refine ⟨T6, _, X6, e6, N6, fun target kt => ?_⟩
  show oS p e below T0 m 238 #[vI p0, vI p1, vI p2, vI p3, vR la, vR lb, vR lc, vI na, vI nb, vI nc, vR oa, vR ob, vR oc, vI va, vI vb, vR lB, vI nB, vR lA, vI nA] [] _
  refine XS.aload X0.here hx rfl (hb hby at_238) rfl rfl ?_
  show oS p e below T0 m 240 #[vI p0, vI p1, vI p2, vI p3, vR la, vR lb, vR lc, vI na, vI nb, vI nc, vR oa, vR ob, vR oc, vI va, vI vb, vR lB, vI nB, vR lA, vI nA] [(.ref oa)] _
  refine st1.trans ?_
  show oS p e below T1 m 243 #[vI p0, vI p1, vI p2, vI p3, vR la, vR lb, vR lc, vI na, vI nb, vI nc, vR oa, vR ob, vR oc, vI va, vI vb, vR lB, vI nB, vR lA, vI nA] [(.ref gA)] _
  refine XS.aload X1.here hx rfl (hb hby at_243) rfl rfl ?_
  refine XS.iload X1.here hx rfl (hb hby at_245) rfl ?_
  show oS p e below T1 m 247 #[vI p0, vI p1, vI p2, vI p3, vR la, vR lb, vR lc, vI na, vI nb, vI nc, vR oa, vR ob, vR oc, vI va, vI vb, vR lB, vI nB, vR lA, vI nA] [(.int nA), (.ref lA), (.ref gA)] _
  refine st2 _ ?_
  show oS p e below T2 m 250 #[vI p0, vI p1, vI p2, vI p3, vR la, vR lb, vR lc, vI na, vI nb, vI nc, vR oa, vR ob, vR oc, vI va, vI vb, vR lB, vI nB, vR lA, vI nA] [(.int 1)] _
  refine XS.ifNo X2.here hx rfl (hb hby at_250) rfl ((if0 _ _).trans (feq (by decide : ¬ ((1 : Int32) = (0 : Int32)))).1) ?_
  show oS p e below T2 m 253 #[vI p0, vI p1, vI p2, vI p3, vR la, vR lb, vR lc, vI na, vI nb, vI nc, vR oa, vR ob, vR oc, vI va, vI vb, vR lB, vI nB, vR lA, vI nA] [] _
  refine XS.aload X2.here hx rfl (hb hby at_253) rfl rfl ?_
  show oS p e below T2 m 255 #[vI p0, vI p1, vI p2, vI p3, vR la, vR lb, vR lc, vI na, vI nb, vI nc, vR oa, vR ob, vR oc, vI va, vI vb, vR lB, vI nB, vR lA, vI nA] [(.ref ob)] _
  refine st3.trans ?_
  show oS p e below T3 m 258 #[vI p0, vI p1, vI p2, vI p3, vR la, vR lb, vR lc, vI na, vI nb, vI nc, vR oa, vR ob, vR oc, vI va, vI vb, vR lB, vI nB, vR lA, vI nA] [(.ref gB)] _
  refine XS.aload X3.here hx rfl (hb hby at_258) rfl rfl ?_
  refine XS.iload X3.here hx rfl (hb hby at_260) rfl ?_
  show oS p e below T3 m 262 #[vI p0, vI p1, vI p2, vI p3, vR la, vR lb, vR lc, vI na, vI nb, vI nc, vR oa, vR ob, vR oc, vI va, vI vb, vR lB, vI nB, vR lA, vI nA] [(.int nB), (.ref lB), (.ref gB)] _
  refine st4 _ ?_
  show oS p e below T4 m 265 #[vI p0, vI p1, vI p2, vI p3, vR la, vR lb, vR lc, vI na, vI nb, vI nc, vR oa, vR ob, vR oc, vI va, vI vb, vR lB, vI nB, vR lA, vI nA] [(.int 1)] _
  refine XS.ifNo X4.here hx rfl (hb hby at_265) rfl ((if0 _ _).trans (feq (by decide : ¬ ((1 : Int32) = (0 : Int32)))).1) ?_
  show oS p e below T4 m 268 #[vI p0, vI p1, vI p2, vI p3, vR la, vR lb, vR lc, vI na, vI nb, vI nc, vR oa, vR ob, vR oc, vI va, vI vb, vR lB, vI nB, vR lA, vI nA] [] _
  refine XS.aload X4.here hx rfl (hb hby at_268) rfl rfl ?_
  show oS p e below T4 m 270 #[vI p0, vI p1, vI p2, vI p3, vR la, vR lb, vR lc, vI na, vI nb, vI nc, vR oa, vR ob, vR oc, vI va, vI vb, vR lB, vI nB, vR lA, vI nA] [(.ref oc)] _
  refine st5.trans ?_
  show oS p e below T5 m 273 #[vI p0, vI p1, vI p2, vI p3, vR la, vR lb, vR lc, vI na, vI nb, vI nc, vR oa, vR ob, vR oc, vI va, vI vb, vR lB, vI nB, vR lA, vI nA] [(.ref gc)] _
  refine XS.aload X5.here hx rfl (hb hby at_273) rfl rfl ?_
  refine XS.iload X5.here hx rfl (hb hby at_275) rfl ?_
  show oS p e below T5 m 277 #[vI p0, vI p1, vI p2, vI p3, vR la, vR lb, vR lc, vI na, vI nb, vI nc, vR oa, vR ob, vR oc, vI va, vI vb, vR lB, vI nB, vR lA, vI nA] [(.int nc), (.ref lc), (.ref gc)] _
  refine st6 _ ?_
  show oS p e below T6 m 280 #[vI p0, vI p1, vI p2, vI p3, vR la, vR lb, vR lc, vI na, vI nb, vI nc, vR oa, vR ob, vR oc, vI va, vI vb, vR lB, vI nB, vR lA, vI nA] [(.int 1)] _
  refine XS.ifNo X6.here hx rfl (hb hby at_280) rfl ((if0 _ _).trans (feq (by decide : ¬ ((1 : Int32) = (0 : Int32)))).1) ?_
  show oS p e below T6 m 283 #[vI p0, vI p1, vI p2, vI p3, vR la, vR lb, vR lc, vI na, vI nb, vI nc, vR oa, vR ob, vR oc, vI va, vI vb, vR lB, vI nB, vR lA, vI nA] [] _
  refine XS.iconst X6.here hx rfl (hb hby at_283) ?_
  refine XS.goto X6.here hx rfl (pc0 := 284) (pc' := 288) rfl (hb hby at_284) (by decide) (by decide) ?_
  show oS p e below T6 m 288 #[vI p0, vI p1, vI p2, vI p3, vR la, vR lb, vR lc, vI na, vI nb, vI nc, vR oa, vR ob, vR oc, vI va, vI vb, vR lB, vI nB, vR lA, vI nA] [(.int 1)] _
  exact kt
theorem ef_0 (m : MethodId) (x0 : Int32) (x1 : Int32) (x2 : Int32) (x3 : Int32) : entryFrame m #[(.int x0), (.int x1), (.int x2), (.int x3)] maxLocals = mkF m 0 #[.val (.int x0), .val (.int x1), .val (.int x2), .val (.int x3), .unset, .unset, .unset, .unset, .unset, .unset, .unset, .unset, .unset, .unset, .unset, .unset, .unset, .unset, .unset] [] := by first | (simp [entryFrame, mkF, argsToLocals, Value.category, maxLocals]; done) | rfl
theorem pn_0 : plainName "com/example/graftwork/graftwork/ElementDefinitionTypesPinLaw" = true := by first | (simp [plainName, overriddenIn]; done) | decide +kernel
theorem rm0_00 (l : Launch) (Z : State) (a0 : Array Value) (hw : HW a0 Z) (ws : List Jvm.Cond) (p0 : Int32) (p1 : Int32) (p2 : Int32) (p3 : Int32) (ad el em mr ee : Addr) (kd ke : ClassId) (zc : Int32) (fm : Value) (h0 : Heap) (n0 : Nat) (O0 : Old Z n0 h0) (S_DE : Sta Z Z.heap "java/util/ArrayList" "DEFAULTCAPACITY_EMPTY_ELEMENTDATA" "[Ljava/lang/Object;" (.ref ad)) (V_ad : Arv Z Z.heap ad kd (.object "java/lang/Object") (0 : Int32) [] .null) (S_CS : Sta Z Z.heap "java/lang/String" "COMPACT_STRINGS" "Z" (.int zc)) (hzc : ¬ zc = 0) (S_FM : Sta Z Z.heap "jdk/internal/util/Preconditions" "SIOOBE_FORMATTER" "Ljava/util/function/BiFunction;" fm) (hfm : fm.isRef = true) (E_el : Exa Z Z.heap el "java/util/ImmutableCollections$ListN") (S_EMPTY_LIST : Sta Z Z.heap "java/util/ImmutableCollections" "EMPTY_LIST" "Ljava/util/ImmutableCollections$ListN;" (.ref el)) (S_EMPTY : Sta Z Z.heap "java/util/ImmutableCollections" "EMPTY" "Ljava/lang/Object;" (.ref em)) (hmr : own_Mir Z "[Ljava/lang/Object;" mr) (E_em : Exa Z Z.heap em "java/lang/Object") (F_el : Fld Z Z.heap el "java/util/ImmutableCollections$ListN" "elements" "[Ljava/lang/Object;" (.ref ee)) (V_ee : Arv Z Z.heap ee ke (.object "java/lang/Object") (0 : Int32) [] .null) (hm1 : (p3 &&& (1 : Int32)) = (0 : Int32)) (hm2 : (p3 &&& (2 : Int32)) = (0 : Int32)) :
    MetFree l x (head1 (Jvm.Cond.code x code maxLocals ret :: ws) room_1) (fun a U => a = #[(.int p0), (.int p1), (.int p2), (.int p3)] ∧ Z.Warmed39 U.vm ∧ U.heap = h0 ∧ CHv Z own_EL U.vm h0) (fun _ _ _ _ _ => True) (fun _ U o U' => ∃ v L, o = .returned v ∧ own_R n0 v U'.heap L ∧ ReturnedEndW U o U' L room_1.cells room_1.slots) := by
  refine MetFree.of_bodySF (plainFor_of_name pn_0) hisR ?_
  intro p e s m args below meth c s₁ Bd hml0 hP hK
  obtain ⟨rfl, hZ, hh, hch⟩ := hP
  have hx := Bd.exec
  have hby := Bd.bytes
  have hml : c.maxLocals = 19 := hml0
  have hown : s.vm.findClass "com/example/graftwork/graftwork/ElementDefinitionTypesPinLaw" = some m.cls := findClass_of_methodNamed Bd.named
  have X0 : Stand p l e room_1 s m #[(.int p0), (.int p1), (.int p2), (.int p3)] below meth c s₁ [] 0 0 := Stand.of_body Bd
  have e0 : s₁.heap = h0 := by rw [← hh, Bd.state]; rfl
  have N0 := Fr.nil n0
  have pre0 := fun t (k : oS p e below s₁ m 0 #[vI p0, vI p1, vI p2, vI p3, .unset, .unset, .unset, .unset, .unset, .unset, .unset, .unset, .unset, .unset, .unset, .unset, .unset, .unset, .unset] [] t) => castTop (ef_0 m p0 p1 p2 p3) k
  have hel : el < n0 := O0.1 ▸ E_el.lt
  obtain ⟨T1, L1, k1, la, ea, na, xa, ya, lb, eb, nb, xb, yb, lc, ec, nc, xc, yc, oa, ob, oc, ga, gb, gc, X1, Sn1, hk1, hZ1, hown1, hch1, O1, N1, hW1, st1⟩ := lawP1 X0 hZ hown hch hx hw hby hml e0 O0 S_DE V_ad S_CS hzc S_FM hfm E_el S_EMPTY_LIST S_EMPTY hmr
  obtain ⟨T2, L2, vm2, k2, X2, Sn2, hk2, hZ2, hown2, O2, N2, hY, st2⟩ := lawP2 X1 Sn1 hk1 hZ1 hown1 hch1 N1 hx hw hby hml rfl O1 S_DE V_ad E_el hW1
  obtain ⟨T3, L3, X3, e3, N3, st3⟩ := lawP3 (va := 0) (vb := 0) X2 hZ2 hown2 N2 hx hw hby hml rfl O2 E_el S_EMPTY E_em F_el V_ee (Or.inl ⟨hm1, rfl⟩) (Or.inl ⟨hm2, rfl⟩) hY
  obtain ⟨La, Lb, Lc, ⟨Ea, Ra, Ta, Ia, oa_⟩, ⟨Eb, Rb, Tb, Ib, ob_⟩, ⟨Ec, Rc, Tc, Ic, oc_⟩, ⟨r1, r2, r3⟩⟩ := hY
  obtain ⟨T9, L9, X9, e9, N9, st9⟩ := lawP4 (na := na) (nb := nb) (la := la) (lb := lb) (va := 0) (vb := 0) X3 hZ2 hown2 N3 hx hw hby hml e3 O2 E_el S_EMPTY E_em F_el V_ee Ea Eb Ec (rmT0w l Z a0 hw [] oa ga T2.heap n0 O2 Ra Ta) (rmT0w l Z a0 hw [] ob gb T2.heap n0 O2 Rb Tb) (rmT0w l Z a0 hw [] oc gc T2.heap n0 O2 Rc Tc) Ia La Ib Lb Ic Lc
  obtain ⟨fs, hr, hrun, hended, hRW⟩ := X9.leaveW Sn2 (by rw [e9]; exact hk2) (v := some (.int 1)) (fun h => by rw [Bd.returns] at h; cases h)
  refine ⟨_, _, pre0 _ ?_, hrun, hended, _, _, rfl, ?_, hRW.1, hRW.2.1, hRW.2.2.1, hRW.2.2.2.mono (by decide) (by decide)⟩
  · show oS p e below s₁ m 0 #[vI p0, vI p1, vI p2, vI p3, .unset, .unset, .unset, .unset, .unset, .unset, .unset, .unset, .unset, .unset, .unset, .unset, .unset, .unset, .unset] [] _
    refine st1 _ ?_
    refine st2 _ ?_
    refine st3 _ ?_
    show oS p e below T3 m 158 #[vI p0, vI p1, vI p2, vI p3, vR la, vR lb, vR lc, vI na, vI nb, vI nc, vR oa, vR ob, vR oc, vI 0, vI 0, .unset, .unset, .unset, .unset] [] _
    refine XS.iload X3.here hx rfl (hb hby at_158) rfl ?_
    refine XS.ifYes X3.here hx rfl (pc0 := 160) (pc' := 170) rfl (hb hby at_160) rfl ((if0 _ _).trans (teq (by decide : (0 : Int32) = (0 : Int32))).1) (by decide) (by decide) ?_
    show oS p e below T3 m 170 #[vI p0, vI p1, vI p2, vI p3, vR la, vR lb, vR lc, vI na, vI nb, vI nc, vR oa, vR ob, vR oc, vI 0, vI 0, .unset, .unset, .unset, .unset] [] _
    refine XS.iload X3.here hx rfl (hb hby at_170) rfl ?_
    refine XS.ifYes X3.here hx rfl (pc0 := 172) (pc' := 182) rfl (hb hby at_172) rfl ((if0 _ _).trans (teq (by decide : (0 : Int32) = (0 : Int32))).1) (by decide) (by decide) ?_
    show oS p e below T3 m 182 #[vI p0, vI p1, vI p2, vI p3, vR la, vR lb, vR lc, vI na, vI nb, vI nc, vR oa, vR ob, vR oc, vI 0, vI 0, .unset, .unset, .unset, .unset] [] _
    refine XS.iload X3.here hx rfl (hb hby at_182) rfl ?_
    refine XS.ifYes X3.here hx rfl (pc0 := 184) (pc' := 192) rfl (hb hby at_184) rfl ((if0 _ _).trans (teq (by decide : (0 : Int32) = (0 : Int32))).1) (by decide) (by decide) ?_
    show oS p e below T3 m 192 #[vI p0, vI p1, vI p2, vI p3, vR la, vR lb, vR lc, vI na, vI nb, vI nc, vR oa, vR ob, vR oc, vI 0, vI 0, .unset, .unset, .unset, .unset] [] _
    refine XS.aload X3.here hx rfl (hb hby at_192) rfl rfl ?_
    refine XS.astore X3.here hx rfl (hb hby at_194) rfl rfl (l' := #[vI p0, vI p1, vI p2, vI p3, vR la, vR lb, vR lc, vI na, vI nb, vI nc, vR oa, vR ob, vR oc, vI 0, vI 0, vR lb, .unset, .unset, .unset]) rfl ?_
    show oS p e below T3 m 196 #[vI p0, vI p1, vI p2, vI p3, vR la, vR lb, vR lc, vI na, vI nb, vI nc, vR oa, vR ob, vR oc, vI 0, vI 0, vR lb, .unset, .unset, .unset] [] _
    refine XS.iload X3.here hx rfl (hb hby at_196) rfl ?_
    refine XS.ifYes X3.here hx rfl (pc0 := 198) (pc' := 206) rfl (hb hby at_198) rfl ((if0 _ _).trans (teq (by decide : (0 : Int32) = (0 : Int32))).1) (by decide) (by decide) ?_
    show oS p e below T3 m 206 #[vI p0, vI p1, vI p2, vI p3, vR la, vR lb, vR lc, vI na, vI nb, vI nc, vR oa, vR ob, vR oc, vI 0, vI 0, vR lb, .unset, .unset, .unset] [] _
    refine XS.iload X3.here hx rfl (hb hby at_206) rfl ?_
    refine XS.istore X3.here hx rfl (hb hby at_208) rfl (l' := #[vI p0, vI p1, vI p2, vI p3, vR la, vR lb, vR lc, vI na, vI nb, vI nc, vR oa, vR ob, vR oc, vI 0, vI 0, vR lb, vI nb, .unset, .unset]) rfl ?_
    show oS p e below T3 m 210 #[vI p0, vI p1, vI p2, vI p3, vR la, vR lb, vR lc, vI na, vI nb, vI nc, vR oa, vR ob, vR oc, vI 0, vI 0, vR lb, vI nb, .unset, .unset] [] _
    refine XS.iload X3.here hx rfl (hb hby at_210) rfl ?_
    refine XS.ifYes X3.here hx rfl (pc0 := 212) (pc' := 220) rfl (hb hby at_212) rfl ((if0 _ _).trans (teq (by decide : (0 : Int32) = (0 : Int32))).1) (by decide) (by decide) ?_
    show oS p e below T3 m 220 #[vI p0, vI p1, vI p2, vI p3, vR la, vR lb, vR lc, vI na, vI nb, vI nc, vR oa, vR ob, vR oc, vI 0, vI 0, vR lb, vI nb, .unset, .unset] [] _
    refine XS.aload X3.here hx rfl (hb hby at_220) rfl rfl ?_
    refine XS.astore X3.here hx rfl (hb hby at_222) rfl rfl (l' := #[vI p0, vI p1, vI p2, vI p3, vR la, vR lb, vR lc, vI na, vI nb, vI nc, vR oa, vR ob, vR oc, vI 0, vI 0, vR lb, vI nb, vR la, .unset]) rfl ?_
    show oS p e below T3 m 224 #[vI p0, vI p1, vI p2, vI p3, vR la, vR lb, vR lc, vI na, vI nb, vI nc, vR oa, vR ob, vR oc, vI 0, vI 0, vR lb, vI nb, vR la, .unset] [] _
    refine XS.iload X3.here hx rfl (hb hby at_224) rfl ?_
    refine XS.ifYes X3.here hx rfl (pc0 := 226) (pc' := 234) rfl (hb hby at_226) rfl ((if0 _ _).trans (teq (by decide : (0 : Int32) = (0 : Int32))).1) (by decide) (by decide) ?_
    show oS p e below T3 m 234 #[vI p0, vI p1, vI p2, vI p3, vR la, vR lb, vR lc, vI na, vI nb, vI nc, vR oa, vR ob, vR oc, vI 0, vI 0, vR lb, vI nb, vR la, .unset] [] _
    refine XS.iload X3.here hx rfl (hb hby at_234) rfl ?_
    refine XS.istore X3.here hx rfl (hb hby at_236) rfl (l' := #[vI p0, vI p1, vI p2, vI p3, vR la, vR lb, vR lc, vI na, vI nb, vI nc, vR oa, vR ob, vR oc, vI 0, vI 0, vR lb, vI nb, vR la, vI na]) rfl ?_
    show oS p e below T3 m 238 #[vI p0, vI p1, vI p2, vI p3, vR la, vR lb, vR lc, vI na, vI nb, vI nc, vR oa, vR ob, vR oc, vI 0, vI 0, vR lb, vI nb, vR la, vI na] [] _
    refine st9 _ ?_
    show oS p e below T9 m 288 #[vI p0, vI p1, vI p2, vI p3, vR la, vR lb, vR lc, vI na, vI nb, vI nc, vR oa, vR ob, vR oc, vI 0, vI 0, vR lb, vI nb, vR la, vI na] [(.int 1)] _
    exact retN X9 hx (t := .boolean) Bd.returns (by simp) (hb hby at_288) hr
  · show own_R n0 _ T9.heap _
    rw [e9]
    exact ⟨rfl, N9⟩
theorem pd_39 : parseMethodDescriptor "(Lcom/example/graftwork/graftwork/ElementDefinition;)V" = some ⟨[(.object "com/example/graftwork/graftwork/ElementDefinition")], none⟩ := by decide +kernel
theorem rm0_01 (l : Launch) (Z : State) (a0 : Array Value) (hw : HW a0 Z) (ws : List Jvm.Cond) (p0 : Int32) (p1 : Int32) (p2 : Int32) (p3 : Int32) (ad el em mr ee : Addr) (kd ke : ClassId) (zc : Int32) (fm : Value) (h0 : Heap) (n0 : Nat) (O0 : Old Z n0 h0) (S_DE : Sta Z Z.heap "java/util/ArrayList" "DEFAULTCAPACITY_EMPTY_ELEMENTDATA" "[Ljava/lang/Object;" (.ref ad)) (V_ad : Arv Z Z.heap ad kd (.object "java/lang/Object") (0 : Int32) [] .null) (S_CS : Sta Z Z.heap "java/lang/String" "COMPACT_STRINGS" "Z" (.int zc)) (hzc : ¬ zc = 0) (S_FM : Sta Z Z.heap "jdk/internal/util/Preconditions" "SIOOBE_FORMATTER" "Ljava/util/function/BiFunction;" fm) (hfm : fm.isRef = true) (E_el : Exa Z Z.heap el "java/util/ImmutableCollections$ListN") (S_EMPTY_LIST : Sta Z Z.heap "java/util/ImmutableCollections" "EMPTY_LIST" "Ljava/util/ImmutableCollections$ListN;" (.ref el)) (S_EMPTY : Sta Z Z.heap "java/util/ImmutableCollections" "EMPTY" "Ljava/lang/Object;" (.ref em)) (hmr : own_Mir Z "[Ljava/lang/Object;" mr) (E_em : Exa Z Z.heap em "java/lang/Object") (F_el : Fld Z Z.heap el "java/util/ImmutableCollections$ListN" "elements" "[Ljava/lang/Object;" (.ref ee)) (V_ee : Arv Z Z.heap ee ke (.object "java/lang/Object") (0 : Int32) [] .null) (hm1 : (p3 &&& (1 : Int32)) = (0 : Int32)) (hm2 : ¬ ((p3 &&& (2 : Int32)) = (0 : Int32))) :
    MetFree l x (head1 (Jvm.Cond.code x code maxLocals ret :: ws) room_1) (fun a U => a = #[(.int p0), (.int p1), (.int p2), (.int p3)] ∧ Z.Warmed39 U.vm ∧ U.heap = h0 ∧ CHv Z own_EL U.vm h0) (fun _ _ _ _ _ => True) (fun _ U o U' => ∃ v L, o = .returned v ∧ own_R n0 v U'.heap L ∧ ReturnedEndW U o U' L room_1.cells room_1.slots) := by
  refine MetFree.of_bodySF (plainFor_of_name pn_0) hisR ?_
  intro p e s m args below meth c s₁ Bd hml0 hP hK
  obtain ⟨rfl, hZ, hh, hch⟩ := hP
  have hx := Bd.exec
  have hby := Bd.bytes
  have hml : c.maxLocals = 19 := hml0
  have hown : s.vm.findClass "com/example/graftwork/graftwork/ElementDefinitionTypesPinLaw" = some m.cls := findClass_of_methodNamed Bd.named
  have X0 : Stand p l e room_1 s m #[(.int p0), (.int p1), (.int p2), (.int p3)] below meth c s₁ [] 0 0 := Stand.of_body Bd
  have e0 : s₁.heap = h0 := by rw [← hh, Bd.state]; rfl
  have N0 := Fr.nil n0
  have pre0 := fun t (k : oS p e below s₁ m 0 #[vI p0, vI p1, vI p2, vI p3, .unset, .unset, .unset, .unset, .unset, .unset, .unset, .unset, .unset, .unset, .unset, .unset, .unset, .unset, .unset] [] t) => castTop (ef_0 m p0 p1 p2 p3) k
  have hel : el < n0 := O0.1 ▸ E_el.lt
  obtain ⟨T1, L1, k1, la, ea, na, xa, ya, lb, eb, nb, xb, yb, lc, ec, nc, xc, yc, oa, ob, oc, ga, gb, gc, X1, Sn1, hk1, hZ1, hown1, hch1, O1, N1, hW1, st1⟩ := lawP1 X0 hZ hown hch hx hw hby hml e0 O0 S_DE V_ad S_CS hzc S_FM hfm E_el S_EMPTY_LIST S_EMPTY hmr
  obtain ⟨T2, L2, vm2, k2, X2, Sn2, hk2, hZ2, hown2, O2, N2, hY, st2⟩ := lawP2 X1 Sn1 hk1 hZ1 hown1 hch1 N1 hx hw hby hml rfl O1 S_DE V_ad E_el hW1
  obtain ⟨T3, L3, X3, e3, N3, st3⟩ := lawP3 (va := 0) (vb := 1) X2 hZ2 hown2 N2 hx hw hby hml rfl O2 E_el S_EMPTY E_em F_el V_ee (Or.inl ⟨hm1, rfl⟩) (Or.inr ⟨hm2, rfl⟩) hY
  obtain ⟨La, Lb, Lc, ⟨Ea, Ra, Ta, Ia, oa_⟩, ⟨Eb, Rb, Tb, Ib, ob_⟩, ⟨Ec, Rc, Tc, Ic, oc_⟩, ⟨r1, r2, r3⟩⟩ := hY
  obtain ⟨cq21, kq21, q21a, q21b, q21c⟩ := isOf hZ2 e3 Eb
  obtain ⟨_, _, ⟨T21, L21, k21, n21⟩, -, X21, ⟨Lc21, hQ21, l21, y21, z21⟩, st21⟩ := X3.virtualBack hx (y := mN54) (z := mN54) hown2 (mvT hZ2 (oW hw 339 rfl)) (mvT hZ2 (oW hw 340 rfl)) (notFace_of_selects (args := #[]) (mvT hZ2 (oW hw 342 rfl))) (mvT hZ2 (oW hw 342 rfl)) (mvT hZ2 (oW hw 341 rfl)) (by decide) (backOf (W := 0) (rmRe l Z a0 hw [] ob oc gb T2.heap n0 O2 Eb Rb Tb ob_) hZ2 (oW hw 343 rfl) (oW hw 93 rfl) (by decide) (by decide)) q21a q21c (g := (mkF m 179 #[vI p0, vI p1, vI p2, vI p3, vR la, vR lb, vR lc, vI na, vI nb, vI nc, vR oa, vR ob, vR oc, vI 0, vI 1, .unset, .unset, .unset, .unset] [(.ref oc), (.ref ob)])) rfl (by rw [hml]; rfl) (Steps.refl _) (argsL := [(.ref oc)]) (rest := []) (lenOf pd_39 rfl) rfl (by show 2 * 0 + _ ≤ _; exact Nat.le_of_eq rfl) (hb hby at_179) (fun _ _ => ⟨rfl, e3, (by decide : 67 + 0 ≤ _), (by decide : 384 + 0 ≤ _)⟩)
  dsimp only [Pt.U, Pt.locs, Pt.cells, Pt.slots] at X21 l21 y21 z21 st21 hQ21
  subst l21 y21 z21
  obtain ⟨rfl, N21q, K21, Fr21, Ft21⟩ := hQ21
  have N21 := Fr.app N3 N21q
  have O21 := O2.keep K21 (allS ob_ all0)
  have Lka21 := own_LS.keepE La K21 Eb (oW hw 92 rfl)
  have Ika21 := own_IL.keep Ia K21 (ninS (own_IL.neo Ia hel Eb ob_ (by decide)) nin0)
  have Lkb21 := own_LS.keepE Lb K21 Eb (oW hw 92 rfl)
  have Ikb21 := own_IL.keep Ib K21 (ninS (own_IL.neo Ib hel Eb ob_ (by decide)) nin0)
  have Lkc21 := own_LS.keepE Lc K21 Eb (oW hw 92 rfl)
  have Ikc21 := own_IL.keep Ic K21 (ninS (own_IL.neo Ic hel Eb ob_ (by decide)) nin0)
  obtain ⟨T9, L9, X9, e9, N9, st9⟩ := lawP4 (na := na) (nb := nb) (la := la) (lb := lb) (va := 0) (vb := 1) X21 hZ2 hown2 N21 hx hw hby hml rfl O21 E_el S_EMPTY E_em F_el V_ee (Ea.keep K21) (Eb.keep K21) (Ec.keep K21) (rmT0w l Z a0 hw [] oa ga T21.heap n0 O21 (Ra.keep K21 (ninS r1 nin0)) (Ta.keep K21 (ninS r1 nin0))) (rmT1w l Z a0 hw [] ob oc gc T21.heap n0 O21 Fr21 (Ec.keep K21) (Rc.keep K21 (ninS (Ne.symm r3) nin0)) (Tc.keep K21 (ninS (Ne.symm r3) nin0))) (rmT0w l Z a0 hw [] oc gc T21.heap n0 O21 (Rc.keep K21 (ninS (Ne.symm r3) nin0)) (Tc.keep K21 (ninS (Ne.symm r3) nin0))) Ika21 Lka21 Ikc21 Lkc21 Ikc21 Lkc21
  obtain ⟨fs, hr, hrun, hended, hRW⟩ := X9.leaveW Sn2 (by rw [e9]; exact (Nat.le_trans hk2 K21.1)) (v := some (.int 1)) (fun h => by rw [Bd.returns] at h; cases h)
  refine ⟨_, _, pre0 _ ?_, hrun, hended, _, _, rfl, ?_, hRW.1, hRW.2.1, hRW.2.2.1, hRW.2.2.2.mono (by decide) (by decide)⟩
  · show oS p e below s₁ m 0 #[vI p0, vI p1, vI p2, vI p3, .unset, .unset, .unset, .unset, .unset, .unset, .unset, .unset, .unset, .unset, .unset, .unset, .unset, .unset, .unset] [] _
    refine st1 _ ?_
    refine st2 _ ?_
    refine st3 _ ?_
    show oS p e below T3 m 158 #[vI p0, vI p1, vI p2, vI p3, vR la, vR lb, vR lc, vI na, vI nb, vI nc, vR oa, vR ob, vR oc, vI 0, vI 1, .unset, .unset, .unset, .unset] [] _
    refine XS.iload X3.here hx rfl (hb hby at_158) rfl ?_
    refine XS.ifYes X3.here hx rfl (pc0 := 160) (pc' := 170) rfl (hb hby at_160) rfl ((if0 _ _).trans (teq (by decide : (0 : Int32) = (0 : Int32))).1) (by decide) (by decide) ?_
    show oS p e below T3 m 170 #[vI p0, vI p1, vI p2, vI p3, vR la, vR lb, vR lc, vI na, vI nb, vI nc, vR oa, vR ob, vR oc, vI 0, vI 1, .unset, .unset, .unset, .unset] [] _
    refine XS.iload X3.here hx rfl (hb hby at_170) rfl ?_
    refine XS.ifNo X3.here hx rfl (hb hby at_172) rfl ((if0 _ _).trans (feq (by decide : ¬ ((1 : Int32) = (0 : Int32)))).1) ?_
    show oS p e below T3 m 175 #[vI p0, vI p1, vI p2, vI p3, vR la, vR lb, vR lc, vI na, vI nb, vI nc, vR oa, vR ob, vR oc, vI 0, vI 1, .unset, .unset, .unset, .unset] [] _
    refine XS.aload X3.here hx rfl (hb hby at_175) rfl rfl ?_
    refine XS.aload X3.here hx rfl (hb hby at_177) rfl rfl ?_
    show oS p e below T3 m 179 #[vI p0, vI p1, vI p2, vI p3, vR la, vR lb, vR lc, vI na, vI nb, vI nc, vR oa, vR ob, vR oc, vI 0, vI 1, .unset, .unset, .unset, .unset] [(.ref oc), (.ref ob)] _
    refine st21.trans ?_
    show oS p e below T21 m 182 #[vI p0, vI p1, vI p2, vI p3, vR la, vR lb, vR lc, vI na, vI nb, vI nc, vR oa, vR ob, vR oc, vI 0, vI 1, .unset, .unset, .unset, .unset] [] _
    refine XS.iload X21.here hx rfl (hb hby at_182) rfl ?_
    refine XS.ifNo X21.here hx rfl (hb hby at_184) rfl ((if0 _ _).trans (feq (by decide : ¬ ((1 : Int32) = (0 : Int32)))).1) ?_
    show oS p e below T21 m 187 #[vI p0, vI p1, vI p2, vI p3, vR la, vR lb, vR lc, vI na, vI nb, vI nc, vR oa, vR ob, vR oc, vI 0, vI 1, .unset, .unset, .unset, .unset] [] _
    refine XS.aload X21.here hx rfl (hb hby at_187) rfl rfl ?_
    refine XS.goto X21.here hx rfl (pc0 := 189) (pc' := 194) rfl (hb hby at_189) (by decide) (by decide) ?_
    show oS p e below T21 m 194 #[vI p0, vI p1, vI p2, vI p3, vR la, vR lb, vR lc, vI na, vI nb, vI nc, vR oa, vR ob, vR oc, vI 0, vI 1, .unset, .unset, .unset, .unset] [(.ref lc)] _
    refine XS.astore X21.here hx rfl (hb hby at_194) rfl rfl (l' := #[vI p0, vI p1, vI p2, vI p3, vR la, vR lb, vR lc, vI na, vI nb, vI nc, vR oa, vR ob, vR oc, vI 0, vI 1, vR lc, .unset, .unset, .unset]) rfl ?_
    show oS p e below T21 m 196 #[vI p0, vI p1, vI p2, vI p3, vR la, vR lb, vR lc, vI na, vI nb, vI nc, vR oa, vR ob, vR oc, vI 0, vI 1, vR lc, .unset, .unset, .unset] [] _
    refine XS.iload X21.here hx rfl (hb hby at_196) rfl ?_
    refine XS.ifNo X21.here hx rfl (hb hby at_198) rfl ((if0 _ _).trans (feq (by decide : ¬ ((1 : Int32) = (0 : Int32)))).1) ?_
    show oS p e below T21 m 201 #[vI p0, vI p1, vI p2, vI p3, vR la, vR lb, vR lc, vI na, vI nb, vI nc, vR oa, vR ob, vR oc, vI 0, vI 1, vR lc, .unset, .unset, .unset] [] _
    refine XS.iload X21.here hx rfl (hb hby at_201) rfl ?_
    refine XS.goto X21.here hx rfl (pc0 := 203) (pc' := 208) rfl (hb hby at_203) (by decide) (by decide) ?_
    show oS p e below T21 m 208 #[vI p0, vI p1, vI p2, vI p3, vR la, vR lb, vR lc, vI na, vI nb, vI nc, vR oa, vR ob, vR oc, vI 0, vI 1, vR lc, .unset, .unset, .unset] [(.int nc)] _
    refine XS.istore X21.here hx rfl (hb hby at_208) rfl (l' := #[vI p0, vI p1, vI p2, vI p3, vR la, vR lb, vR lc, vI na, vI nb, vI nc, vR oa, vR ob, vR oc, vI 0, vI 1, vR lc, vI nc, .unset, .unset]) rfl ?_
    show oS p e below T21 m 210 #[vI p0, vI p1, vI p2, vI p3, vR la, vR lb, vR lc, vI na, vI nb, vI nc, vR oa, vR ob, vR oc, vI 0, vI 1, vR lc, vI nc, .unset, .unset] [] _
    refine XS.iload X21.here hx rfl (hb hby at_210) rfl ?_
    refine XS.ifYes X21.here hx rfl (pc0 := 212) (pc' := 220) rfl (hb hby at_212) rfl ((if0 _ _).trans (teq (by decide : (0 : Int32) = (0 : Int32))).1) (by decide) (by decide) ?_
    show oS p e below T21 m 220 #[vI p0, vI p1, vI p2, vI p3, vR la, vR lb, vR lc, vI na, vI nb, vI nc, vR oa, vR ob, vR oc, vI 0, vI 1, vR lc, vI nc, .unset, .unset] [] _
    refine XS.aload X21.here hx rfl (hb hby at_220) rfl rfl ?_
    refine XS.astore X21.here hx rfl (hb hby at_222) rfl rfl (l' := #[vI p0, vI p1, vI p2, vI p3, vR la, vR lb, vR lc, vI na, vI nb, vI nc, vR oa, vR ob, vR oc, vI 0, vI 1, vR lc, vI nc, vR la, .unset]) rfl ?_
    show oS p e below T21 m 224 #[vI p0, vI p1, vI p2, vI p3, vR la, vR lb, vR lc, vI na, vI nb, vI nc, vR oa, vR ob, vR oc, vI 0, vI 1, vR lc, vI nc, vR la, .unset] [] _
    refine XS.iload X21.here hx rfl (hb hby at_224) rfl ?_
    refine XS.ifYes X21.here hx rfl (pc0 := 226) (pc' := 234) rfl (hb hby at_226) rfl ((if0 _ _).trans (teq (by decide : (0 : Int32) = (0 : Int32))).1) (by decide) (by decide) ?_
    show oS p e below T21 m 234 #[vI p0, vI p1, vI p2, vI p3, vR la, vR lb, vR lc, vI na, vI nb, vI nc, vR oa, vR ob, vR oc, vI 0, vI 1, vR lc, vI nc, vR la, .unset] [] _
    refine XS.iload X21.here hx rfl (hb hby at_234) rfl ?_
    refine XS.istore X21.here hx rfl (hb hby at_236) rfl (l' := #[vI p0, vI p1, vI p2, vI p3, vR la, vR lb, vR lc, vI na, vI nb, vI nc, vR oa, vR ob, vR oc, vI 0, vI 1, vR lc, vI nc, vR la, vI na]) rfl ?_
    show oS p e below T21 m 238 #[vI p0, vI p1, vI p2, vI p3, vR la, vR lb, vR lc, vI na, vI nb, vI nc, vR oa, vR ob, vR oc, vI 0, vI 1, vR lc, vI nc, vR la, vI na] [] _
    refine st9 _ ?_
    show oS p e below T9 m 288 #[vI p0, vI p1, vI p2, vI p3, vR la, vR lb, vR lc, vI na, vI nb, vI nc, vR oa, vR ob, vR oc, vI 0, vI 1, vR lc, vI nc, vR la, vI na] [(.int 1)] _
    exact retN X9 hx (t := .boolean) Bd.returns (by simp) (hb hby at_288) hr
  · show own_R n0 _ T9.heap _
    rw [e9]
    exact ⟨rfl, N9⟩
theorem rm0_10 (l : Launch) (Z : State) (a0 : Array Value) (hw : HW a0 Z) (ws : List Jvm.Cond) (p0 : Int32) (p1 : Int32) (p2 : Int32) (p3 : Int32) (ad el em mr ee : Addr) (kd ke : ClassId) (zc : Int32) (fm : Value) (h0 : Heap) (n0 : Nat) (O0 : Old Z n0 h0) (S_DE : Sta Z Z.heap "java/util/ArrayList" "DEFAULTCAPACITY_EMPTY_ELEMENTDATA" "[Ljava/lang/Object;" (.ref ad)) (V_ad : Arv Z Z.heap ad kd (.object "java/lang/Object") (0 : Int32) [] .null) (S_CS : Sta Z Z.heap "java/lang/String" "COMPACT_STRINGS" "Z" (.int zc)) (hzc : ¬ zc = 0) (S_FM : Sta Z Z.heap "jdk/internal/util/Preconditions" "SIOOBE_FORMATTER" "Ljava/util/function/BiFunction;" fm) (hfm : fm.isRef = true) (E_el : Exa Z Z.heap el "java/util/ImmutableCollections$ListN") (S_EMPTY_LIST : Sta Z Z.heap "java/util/ImmutableCollections" "EMPTY_LIST" "Ljava/util/ImmutableCollections$ListN;" (.ref el)) (S_EMPTY : Sta Z Z.heap "java/util/ImmutableCollections" "EMPTY" "Ljava/lang/Object;" (.ref em)) (hmr : own_Mir Z "[Ljava/lang/Object;" mr) (E_em : Exa Z Z.heap em "java/lang/Object") (F_el : Fld Z Z.heap el "java/util/ImmutableCollections$ListN" "elements" "[Ljava/lang/Object;" (.ref ee)) (V_ee : Arv Z Z.heap ee ke (.object "java/lang/Object") (0 : Int32) [] .null) (hm1 : ¬ ((p3 &&& (1 : Int32)) = (0 : Int32))) (hm2 : (p3 &&& (2 : Int32)) = (0 : Int32)) :
    MetFree l x (head1 (Jvm.Cond.code x code maxLocals ret :: ws) room_1) (fun a U => a = #[(.int p0), (.int p1), (.int p2), (.int p3)] ∧ Z.Warmed39 U.vm ∧ U.heap = h0 ∧ CHv Z own_EL U.vm h0) (fun _ _ _ _ _ => True) (fun _ U o U' => ∃ v L, o = .returned v ∧ own_R n0 v U'.heap L ∧ ReturnedEndW U o U' L room_1.cells room_1.slots) := by
  refine MetFree.of_bodySF (plainFor_of_name pn_0) hisR ?_
  intro p e s m args below meth c s₁ Bd hml0 hP hK
  obtain ⟨rfl, hZ, hh, hch⟩ := hP
  have hx := Bd.exec
  have hby := Bd.bytes
  have hml : c.maxLocals = 19 := hml0
  have hown : s.vm.findClass "com/example/graftwork/graftwork/ElementDefinitionTypesPinLaw" = some m.cls := findClass_of_methodNamed Bd.named
  have X0 : Stand p l e room_1 s m #[(.int p0), (.int p1), (.int p2), (.int p3)] below meth c s₁ [] 0 0 := Stand.of_body Bd
  have e0 : s₁.heap = h0 := by rw [← hh, Bd.state]; rfl
  have N0 := Fr.nil n0
  have pre0 := fun t (k : oS p e below s₁ m 0 #[vI p0, vI p1, vI p2, vI p3, .unset, .unset, .unset, .unset, .unset, .unset, .unset, .unset, .unset, .unset, .unset, .unset, .unset, .unset, .unset] [] t) => castTop (ef_0 m p0 p1 p2 p3) k
  have hel : el < n0 := O0.1 ▸ E_el.lt
  obtain ⟨T1, L1, k1, la, ea, na, xa, ya, lb, eb, nb, xb, yb, lc, ec, nc, xc, yc, oa, ob, oc, ga, gb, gc, X1, Sn1, hk1, hZ1, hown1, hch1, O1, N1, hW1, st1⟩ := lawP1 X0 hZ hown hch hx hw hby hml e0 O0 S_DE V_ad S_CS hzc S_FM hfm E_el S_EMPTY_LIST S_EMPTY hmr
  obtain ⟨T2, L2, vm2, k2, X2, Sn2, hk2, hZ2, hown2, O2, N2, hY, st2⟩ := lawP2 X1 Sn1 hk1 hZ1 hown1 hch1 N1 hx hw hby hml rfl O1 S_DE V_ad E_el hW1
  obtain ⟨T3, L3, X3, e3, N3, st3⟩ := lawP3 (va := 1) (vb := 0) X2 hZ2 hown2 N2 hx hw hby hml rfl O2 E_el S_EMPTY E_em F_el V_ee (Or.inr ⟨hm1, rfl⟩) (Or.inl ⟨hm2, rfl⟩) hY
  obtain ⟨La, Lb, Lc, ⟨Ea, Ra, Ta, Ia, oa_⟩, ⟨Eb, Rb, Tb, Ib, ob_⟩, ⟨Ec, Rc, Tc, Ic, oc_⟩, ⟨r1, r2, r3⟩⟩ := hY
  obtain ⟨cq21, kq21, q21a, q21b, q21c⟩ := isOf hZ2 e3 Ea
  obtain ⟨_, _, ⟨T21, L21, k21, n21⟩, -, X21, ⟨Lc21, hQ21, l21, y21, z21⟩, st21⟩ := X3.virtualBack hx (y := mN54) (z := mN54) hown2 (mvT hZ2 (oW hw 339 rfl)) (mvT hZ2 (oW hw 340 rfl)) (notFace_of_selects (args := #[]) (mvT hZ2 (oW hw 342 rfl))) (mvT hZ2 (oW hw 342 rfl)) (mvT hZ2 (oW hw 341 rfl)) (by decide) (backOf (W := 0) (rmRe l Z a0 hw [] oa ob ga T2.heap n0 O2 Ea Ra Ta oa_) hZ2 (oW hw 343 rfl) (oW hw 93 rfl) (by decide) (by decide)) q21a q21c (g := (mkF m 167 #[vI p0, vI p1, vI p2, vI p3, vR la, vR lb, vR lc, vI na, vI nb, vI nc, vR oa, vR ob, vR oc, vI 1, vI 0, .unset, .unset, .unset, .unset] [(.ref ob), (.ref oa)])) rfl (by rw [hml]; rfl) (Steps.refl _) (argsL := [(.ref ob)]) (rest := []) (lenOf pd_39 rfl) rfl (by show 2 * 0 + _ ≤ _; exact Nat.le_of_eq rfl) (hb hby at_167) (fun _ _ => ⟨rfl, e3, (by decide : 67 + 0 ≤ _), (by decide : 384 + 0 ≤ _)⟩)
  dsimp only [Pt.U, Pt.locs, Pt.cells, Pt.slots] at X21 l21 y21 z21 st21 hQ21
  subst l21 y21 z21
  obtain ⟨rfl, N21q, K21, Fr21, Ft21⟩ := hQ21
  have N21 := Fr.app N3 N21q
  have O21 := O2.keep K21 (allS oa_ all0)
  have Lka21 := own_LS.keepE La K21 Ea (oW hw 92 rfl)
  have Ika21 := own_IL.keep Ia K21 (ninS (own_IL.neo Ia hel Ea oa_ (by decide)) nin0)
  have Lkb21 := own_LS.keepE Lb K21 Ea (oW hw 92 rfl)
  have Ikb21 := own_IL.keep Ib K21 (ninS (own_IL.neo Ib hel Ea oa_ (by decide)) nin0)
  have Lkc21 := own_LS.keepE Lc K21 Ea (oW hw 92 rfl)
  have Ikc21 := own_IL.keep Ic K21 (ninS (own_IL.neo Ic hel Ea oa_ (by decide)) nin0)
  obtain ⟨T9, L9, X9, e9, N9, st9⟩ := lawP4 (na := na) (nb := nb) (la := la) (lb := lb) (va := 1) (vb := 0) X21 hZ2 hown2 N21 hx hw hby hml rfl O21 E_el S_EMPTY E_em F_el V_ee (Ea.keep K21) (Eb.keep K21) (Ec.keep K21) (rmT1w l Z a0 hw [] oa ob gb T21.heap n0 O21 Fr21 (Eb.keep K21) (Rb.keep K21 (ninS (Ne.symm r1) nin0)) (Tb.keep K21 (ninS (Ne.symm r1) nin0))) (rmT0w l Z a0 hw [] ob gb T21.heap n0 O21 (Rb.keep K21 (ninS (Ne.symm r1) nin0)) (Tb.keep K21 (ninS (Ne.symm r1) nin0))) (rmT0w l Z a0 hw [] oc gc T21.heap n0 O21 (Rc.keep K21 (ninS (Ne.symm r2) nin0)) (Tc.keep K21 (ninS (Ne.symm r2) nin0))) Ikb21 Lkb21 Ikb21 Lkb21 Ikc21 Lkc21
  obtain ⟨fs, hr, hrun, hended, hRW⟩ := X9.leaveW Sn2 (by rw [e9]; exact (Nat.le_trans hk2 K21.1)) (v := some (.int 1)) (fun h => by rw [Bd.returns] at h; cases h)
  refine ⟨_, _, pre0 _ ?_, hrun, hended, _, _, rfl, ?_, hRW.1, hRW.2.1, hRW.2.2.1, hRW.2.2.2.mono (by decide) (by decide)⟩
  · show oS p e below s₁ m 0 #[vI p0, vI p1, vI p2, vI p3, .unset, .unset, .unset, .unset, .unset, .unset, .unset, .unset, .unset, .unset, .unset, .unset, .unset, .unset, .unset] [] _
    refine st1 _ ?_
    refine st2 _ ?_
    refine st3 _ ?_
    show oS p e below T3 m 158 #[vI p0, vI p1, vI p2, vI p3, vR la, vR lb, vR lc, vI na, vI nb, vI nc, vR oa, vR ob, vR oc, vI 1, vI 0, .unset, .unset, .unset, .unset] [] _
    refine XS.iload X3.here hx rfl (hb hby at_158) rfl ?_
    refine XS.ifNo X3.here hx rfl (hb hby at_160) rfl ((if0 _ _).trans (feq (by decide : ¬ ((1 : Int32) = (0 : Int32)))).1) ?_
    show oS p e below T3 m 163 #[vI p0, vI p1, vI p2, vI p3, vR la, vR lb, vR lc, vI na, vI nb, vI nc, vR oa, vR ob, vR oc, vI 1, vI 0, .unset, .unset, .unset, .unset] [] _
    refine XS.aload X3.here hx rfl (hb hby at_163) rfl rfl ?_
    refine XS.aload X3.here hx rfl (hb hby at_165) rfl rfl ?_
    show oS p e below T3 m 167 #[vI p0, vI p1, vI p2, vI p3, vR la, vR lb, vR lc, vI na, vI nb, vI nc, vR oa, vR ob, vR oc, vI 1, vI 0, .unset, .unset, .unset, .unset] [(.ref ob), (.ref oa)] _
    refine st21.trans ?_
    show oS p e below T21 m 170 #[vI p0, vI p1, vI p2, vI p3, vR la, vR lb, vR lc, vI na, vI nb, vI nc, vR oa, vR ob, vR oc, vI 1, vI 0, .unset, .unset, .unset, .unset] [] _
    refine XS.iload X21.here hx rfl (hb hby at_170) rfl ?_
    refine XS.ifYes X21.here hx rfl (pc0 := 172) (pc' := 182) rfl (hb hby at_172) rfl ((if0 _ _).trans (teq (by decide : (0 : Int32) = (0 : Int32))).1) (by decide) (by decide) ?_
    show oS p e below T21 m 182 #[vI p0, vI p1, vI p2, vI p3, vR la, vR lb, vR lc, vI na, vI nb, vI nc, vR oa, vR ob, vR oc, vI 1, vI 0, .unset, .unset, .unset, .unset] [] _
    refine XS.iload X21.here hx rfl (hb hby at_182) rfl ?_
    refine XS.ifYes X21.here hx rfl (pc0 := 184) (pc' := 192) rfl (hb hby at_184) rfl ((if0 _ _).trans (teq (by decide : (0 : Int32) = (0 : Int32))).1) (by decide) (by decide) ?_
    show oS p e below T21 m 192 #[vI p0, vI p1, vI p2, vI p3, vR la, vR lb, vR lc, vI na, vI nb, vI nc, vR oa, vR ob, vR oc, vI 1, vI 0, .unset, .unset, .unset, .unset] [] _
    refine XS.aload X21.here hx rfl (hb hby at_192) rfl rfl ?_
    refine XS.astore X21.here hx rfl (hb hby at_194) rfl rfl (l' := #[vI p0, vI p1, vI p2, vI p3, vR la, vR lb, vR lc, vI na, vI nb, vI nc, vR oa, vR ob, vR oc, vI 1, vI 0, vR lb, .unset, .unset, .unset]) rfl ?_
    show oS p e below T21 m 196 #[vI p0, vI p1, vI p2, vI p3, vR la, vR lb, vR lc, vI na, vI nb, vI nc, vR oa, vR ob, vR oc, vI 1, vI 0, vR lb, .unset, .unset, .unset] [] _
    refine XS.iload X21.here hx rfl (hb hby at_196) rfl ?_
    refine XS.ifYes X21.here hx rfl (pc0 := 198) (pc' := 206) rfl (hb hby at_198) rfl ((if0 _ _).trans (teq (by decide : (0 : Int32) = (0 : Int32))).1) (by decide) (by decide) ?_
    show oS p e below T21 m 206 #[vI p0, vI p1, vI p2, vI p3, vR la, vR lb, vR lc, vI na, vI nb, vI nc, vR oa, vR ob, vR oc, vI 1, vI 0, vR lb, .unset, .unset, .unset] [] _
    refine XS.iload X21.here hx rfl (hb hby at_206) rfl ?_
    refine XS.istore X21.here hx rfl (hb hby at_208) rfl (l' := #[vI p0, vI p1, vI p2, vI p3, vR la, vR lb, vR lc, vI na, vI nb, vI nc, vR oa, vR ob, vR oc, vI 1, vI 0, vR lb, vI nb, .unset, .unset]) rfl ?_
    show oS p e below T21 m 210 #[vI p0, vI p1, vI p2, vI p3, vR la, vR lb, vR lc, vI na, vI nb, vI nc, vR oa, vR ob, vR oc, vI 1, vI 0, vR lb, vI nb, .unset, .unset] [] _
    refine XS.iload X21.here hx rfl (hb hby at_210) rfl ?_
    refine XS.ifNo X21.here hx rfl (hb hby at_212) rfl ((if0 _ _).trans (feq (by decide : ¬ ((1 : Int32) = (0 : Int32)))).1) ?_
    show oS p e below T21 m 215 #[vI p0, vI p1, vI p2, vI p3, vR la, vR lb, vR lc, vI na, vI nb, vI nc, vR oa, vR ob, vR oc, vI 1, vI 0, vR lb, vI nb, .unset, .unset] [] _
    refine XS.aload X21.here hx rfl (hb hby at_215) rfl rfl ?_
    refine XS.goto X21.here hx rfl (pc0 := 217) (pc' := 222) rfl (hb hby at_217) (by decide) (by decide) ?_
    show oS p e below T21 m 222 #[vI p0, vI p1, vI p2, vI p3, vR la, vR lb, vR lc, vI na, vI nb, vI nc, vR oa, vR ob, vR oc, vI 1, vI 0, vR lb, vI nb, .unset, .unset] [(.ref lb)] _
    refine XS.astore X21.here hx rfl (hb hby at_222) rfl rfl (l' := #[vI p0, vI p1, vI p2, vI p3, vR la, vR lb, vR lc, vI na, vI nb, vI nc, vR oa, vR ob, vR oc, vI 1, vI 0, vR lb, vI nb, vR lb, .unset]) rfl ?_
    show oS p e below T21 m 224 #[vI p0, vI p1, vI p2, vI p3, vR la, vR lb, vR lc, vI na, vI nb, vI nc, vR oa, vR ob, vR oc, vI 1, vI 0, vR lb, vI nb, vR lb, .unset] [] _
    refine XS.iload X21.here hx rfl (hb hby at_224) rfl ?_
    refine XS.ifNo X21.here hx rfl (hb hby at_226) rfl ((if0 _ _).trans (feq (by decide : ¬ ((1 : Int32) = (0 : Int32)))).1) ?_
    show oS p e below T21 m 229 #[vI p0, vI p1, vI p2, vI p3, vR la, vR lb, vR lc, vI na, vI nb, vI nc, vR oa, vR ob, vR oc, vI 1, vI 0, vR lb, vI nb, vR lb, .unset] [] _
    refine XS.iload X21.here hx rfl (hb hby at_229) rfl ?_
    refine XS.goto X21.here hx rfl (pc0 := 231) (pc' := 236) rfl (hb hby at_231) (by decide) (by decide) ?_
    show oS p e below T21 m 236 #[vI p0, vI p1, vI p2, vI p3, vR la, vR lb, vR lc, vI na, vI nb, vI nc, vR oa, vR ob, vR oc, vI 1, vI 0, vR lb, vI nb, vR lb, .unset] [(.int nb)] _
    refine XS.istore X21.here hx rfl (hb hby at_236) rfl (l' := #[vI p0, vI p1, vI p2, vI p3, vR la, vR lb, vR lc, vI na, vI nb, vI nc, vR oa, vR ob, vR oc, vI 1, vI 0, vR lb, vI nb, vR lb, vI nb]) rfl ?_
    show oS p e below T21 m 238 #[vI p0, vI p1, vI p2, vI p3, vR la, vR lb, vR lc, vI na, vI nb, vI nc, vR oa, vR ob, vR oc, vI 1, vI 0, vR lb, vI nb, vR lb, vI nb] [] _
    refine st9 _ ?_
    show oS p e below T9 m 288 #[vI p0, vI p1, vI p2, vI p3, vR la, vR lb, vR lc, vI na, vI nb, vI nc, vR oa, vR ob, vR oc, vI 1, vI 0, vR lb, vI nb, vR lb, vI nb] [(.int 1)] _
    exact retN X9 hx (t := .boolean) Bd.returns (by simp) (hb hby at_288) hr
  · show own_R n0 _ T9.heap _
    rw [e9]
    exact ⟨rfl, N9⟩
theorem rm0_11 (l : Launch) (Z : State) (a0 : Array Value) (hw : HW a0 Z) (ws : List Jvm.Cond) (p0 : Int32) (p1 : Int32) (p2 : Int32) (p3 : Int32) (ad el em mr ee : Addr) (kd ke : ClassId) (zc : Int32) (fm : Value) (h0 : Heap) (n0 : Nat) (O0 : Old Z n0 h0) (S_DE : Sta Z Z.heap "java/util/ArrayList" "DEFAULTCAPACITY_EMPTY_ELEMENTDATA" "[Ljava/lang/Object;" (.ref ad)) (V_ad : Arv Z Z.heap ad kd (.object "java/lang/Object") (0 : Int32) [] .null) (S_CS : Sta Z Z.heap "java/lang/String" "COMPACT_STRINGS" "Z" (.int zc)) (hzc : ¬ zc = 0) (S_FM : Sta Z Z.heap "jdk/internal/util/Preconditions" "SIOOBE_FORMATTER" "Ljava/util/function/BiFunction;" fm) (hfm : fm.isRef = true) (E_el : Exa Z Z.heap el "java/util/ImmutableCollections$ListN") (S_EMPTY_LIST : Sta Z Z.heap "java/util/ImmutableCollections" "EMPTY_LIST" "Ljava/util/ImmutableCollections$ListN;" (.ref el)) (S_EMPTY : Sta Z Z.heap "java/util/ImmutableCollections" "EMPTY" "Ljava/lang/Object;" (.ref em)) (hmr : own_Mir Z "[Ljava/lang/Object;" mr) (E_em : Exa Z Z.heap em "java/lang/Object") (F_el : Fld Z Z.heap el "java/util/ImmutableCollections$ListN" "elements" "[Ljava/lang/Object;" (.ref ee)) (V_ee : Arv Z Z.heap ee ke (.object "java/lang/Object") (0 : Int32) [] .null) (hm1 : ¬ ((p3 &&& (1 : Int32)) = (0 : Int32))) (hm2 : ¬ ((p3 &&& (2 : Int32)) = (0 : Int32))) :
    MetFree l x (head1 (Jvm.Cond.code x code maxLocals ret :: ws) room_1) (fun a U => a = #[(.int p0), (.int p1), (.int p2), (.int p3)] ∧ Z.Warmed39 U.vm ∧ U.heap = h0 ∧ CHv Z own_EL U.vm h0) (fun _ _ _ _ _ => True) (fun _ U o U' => ∃ v L, o = .returned v ∧ own_R n0 v U'.heap L ∧ ReturnedEndW U o U' L room_1.cells room_1.slots) := by
  refine MetFree.of_bodySF (plainFor_of_name pn_0) hisR ?_
  intro p e s m args below meth c s₁ Bd hml0 hP hK
  obtain ⟨rfl, hZ, hh, hch⟩ := hP
  have hx := Bd.exec
  have hby := Bd.bytes
  have hml : c.maxLocals = 19 := hml0
  have hown : s.vm.findClass "com/example/graftwork/graftwork/ElementDefinitionTypesPinLaw" = some m.cls := findClass_of_methodNamed Bd.named
  have X0 : Stand p l e room_1 s m #[(.int p0), (.int p1), (.int p2), (.int p3)] below meth c s₁ [] 0 0 := Stand.of_body Bd
  have e0 : s₁.heap = h0 := by rw [← hh, Bd.state]; rfl
  have N0 := Fr.nil n0
  have pre0 := fun t (k : oS p e below s₁ m 0 #[vI p0, vI p1, vI p2, vI p3, .unset, .unset, .unset, .unset, .unset, .unset, .unset, .unset, .unset, .unset, .unset, .unset, .unset, .unset, .unset] [] t) => castTop (ef_0 m p0 p1 p2 p3) k
  have hel : el < n0 := O0.1 ▸ E_el.lt
  obtain ⟨T1, L1, k1, la, ea, na, xa, ya, lb, eb, nb, xb, yb, lc, ec, nc, xc, yc, oa, ob, oc, ga, gb, gc, X1, Sn1, hk1, hZ1, hown1, hch1, O1, N1, hW1, st1⟩ := lawP1 X0 hZ hown hch hx hw hby hml e0 O0 S_DE V_ad S_CS hzc S_FM hfm E_el S_EMPTY_LIST S_EMPTY hmr
  obtain ⟨T2, L2, vm2, k2, X2, Sn2, hk2, hZ2, hown2, O2, N2, hY, st2⟩ := lawP2 X1 Sn1 hk1 hZ1 hown1 hch1 N1 hx hw hby hml rfl O1 S_DE V_ad E_el hW1
  obtain ⟨T3, L3, X3, e3, N3, st3⟩ := lawP3 (va := 1) (vb := 1) X2 hZ2 hown2 N2 hx hw hby hml rfl O2 E_el S_EMPTY E_em F_el V_ee (Or.inr ⟨hm1, rfl⟩) (Or.inr ⟨hm2, rfl⟩) hY
  obtain ⟨La, Lb, Lc, ⟨Ea, Ra, Ta, Ia, oa_⟩, ⟨Eb, Rb, Tb, Ib, ob_⟩, ⟨Ec, Rc, Tc, Ic, oc_⟩, ⟨r1, r2, r3⟩⟩ := hY
  obtain ⟨cq21, kq21, q21a, q21b, q21c⟩ := isOf hZ2 e3 Ea
  obtain ⟨_, _, ⟨T21, L21, k21, n21⟩, -, X21, ⟨Lc21, hQ21, l21, y21, z21⟩, st21⟩ := X3.virtualBack hx (y := mN54) (z := mN54) hown2 (mvT hZ2 (oW hw 339 rfl)) (mvT hZ2 (oW hw 340 rfl)) (notFace_of_selects (args := #[]) (mvT hZ2 (oW hw 342 rfl))) (mvT hZ2 (oW hw 342 rfl)) (mvT hZ2 (oW hw 341 rfl)) (by decide) (backOf (W := 0) (rmRe l Z a0 hw [] oa ob ga T2.heap n0 O2 Ea Ra Ta oa_) hZ2 (oW hw 343 rfl) (oW hw 93 rfl) (by decide) (by decide)) q21a q21c (g := (mkF m 167 #[vI p0, vI p1, vI p2, vI p3, vR la, vR lb, vR lc, vI na, vI nb, vI nc, vR oa, vR ob, vR oc, vI 1, vI 1, .unset, .unset, .unset, .unset] [(.ref ob), (.ref oa)])) rfl (by rw [hml]; rfl) (Steps.refl _) (argsL := [(.ref ob)]) (rest := []) (lenOf pd_39 rfl) rfl (by show 2 * 0 + _ ≤ _; exact Nat.le_of_eq rfl) (hb hby at_167) (fun _ _ => ⟨rfl, e3, (by decide : 67 + 0 ≤ _), (by decide : 384 + 0 ≤ _)⟩)
  dsimp only [Pt.U, Pt.locs, Pt.cells, Pt.slots] at X21 l21 y21 z21 st21 hQ21
  subst l21 y21 z21
  obtain ⟨rfl, N21q, K21, Fr21, Ft21⟩ := hQ21
  have N21 := Fr.app N3 N21q
  have O21 := O2.keep K21 (allS oa_ all0)
  have Lka21 := own_LS.keepE La K21 Ea (oW hw 92 rfl)
  have Ika21 := own_IL.keep Ia K21 (ninS (own_IL.neo Ia hel Ea oa_ (by decide)) nin0)
  have Lkb21 := own_LS.keepE Lb K21 Ea (oW hw 92 rfl)
  have Ikb21 := own_IL.keep Ib K21 (ninS (own_IL.neo Ib hel Ea oa_ (by decide)) nin0)
  have Lkc21 := own_LS.keepE Lc K21 Ea (oW hw 92 rfl)
  have Ikc21 := own_IL.keep Ic K21 (ninS (own_IL.neo Ic hel Ea oa_ (by decide)) nin0)
  obtain ⟨cq22, kq22, q22a, q22b, q22c⟩ := isOf hZ2 rfl (Eb.keep K21)
  obtain ⟨_, _, ⟨T22, L22, k22, n22⟩, -, X22, ⟨Lc22, hQ22, l22, y22, z22⟩, st22⟩ := X21.virtualBack hx (y := mN54) (z := mN54) hown2 (mvT hZ2 (oW hw 339 rfl)) (mvT hZ2 (oW hw 340 rfl)) (notFace_of_selects (args := #[]) (mvT hZ2 (oW hw 342 rfl))) (mvT hZ2 (oW hw 342 rfl)) (mvT hZ2 (oW hw 341 rfl)) (by decide) (backOf (W := 0) (rmRe l Z a0 hw [] ob oc gb T21.heap n0 O21 (Eb.keep K21) (Rb.keep K21 (ninS (Ne.symm r1) nin0)) (Tb.keep K21 (ninS (Ne.symm r1) nin0)) ob_) hZ2 (oW hw 343 rfl) (oW hw 93 rfl) (by decide) (by decide)) q22a q22c (g := (mkF m 179 #[vI p0, vI p1, vI p2, vI p3, vR la, vR lb, vR lc, vI na, vI nb, vI nc, vR oa, vR ob, vR oc, vI 1, vI 1, .unset, .unset, .unset, .unset] [(.ref oc), (.ref ob)])) rfl (by rw [hml]; rfl) (Steps.refl _) (argsL := [(.ref oc)]) (rest := []) (lenOf pd_39 rfl) rfl (by show 2 * 0 + _ ≤ _; exact Nat.le_of_eq rfl) (hb hby at_179) (fun _ _ => ⟨rfl, rfl, (by decide : 67 + 0 ≤ _), (by decide : 384 + 0 ≤ _)⟩)
  dsimp only [Pt.U, Pt.locs, Pt.cells, Pt.slots] at X22 l22 y22 z22 st22 hQ22
  subst l22 y22 z22
  obtain ⟨rfl, N22q, K22, Fr22, Ft22⟩ := hQ22
  have N22 := Fr.app N21 N22q
  have O22 := O21.keep K22 (allS ob_ all0)
  have Lka22 := own_LS.keepE Lka21 K22 (Eb.keep K21) (oW hw 92 rfl)
  have Ika22 := own_IL.keep Ika21 K22 (ninS (own_IL.neo Ika21 hel (Eb.keep K21) ob_ (by decide)) nin0)
  have Lkb22 := own_LS.keepE Lkb21 K22 (Eb.keep K21) (oW hw 92 rfl)
  have Ikb22 := own_IL.keep Ikb21 K22 (ninS (own_IL.neo Ikb21 hel (Eb.keep K21) ob_ (by decide)) nin0)
  have Lkc22 := own_LS.keepE Lkc21 K22 (Eb.keep K21) (oW hw 92 rfl)
  have Ikc22 := own_IL.keep Ikc21 K22 (ninS (own_IL.neo Ikc21 hel (Eb.keep K21) ob_ (by decide)) nin0)
  have f_oc_2_reused := ((Rc.keep K21 (ninS (Ne.symm r2) nin0)).keep K22 (ninS (Ne.symm r3) nin0))
  have f_oc_2_types := ((Tc.keep K21 (ninS (Ne.symm r2) nin0)).keep K22 (ninS (Ne.symm r3) nin0))
  obtain ⟨T9, L9, X9, e9, N9, st9⟩ := lawP4 (na := na) (nb := nb) (la := la) (lb := lb) (va := 1) (vb := 1) X22 hZ2 hown2 N22 hx hw hby hml rfl O22 E_el S_EMPTY E_em F_el V_ee ((Ea.keep K21).keep K22) ((Eb.keep K21).keep K22) ((Ec.keep K21).keep K22) (rmT2 l Z a0 hw [] oa ob oc gc T22.heap n0 O22 (Fr21.keep K22 (ninS r1 nin0)) ((Eb.keep K21).keep K22) Fr22 ((Ec.keep K21).keep K22) f_oc_2_reused f_oc_2_types) (rmT1w l Z a0 hw [] ob oc gc T22.heap n0 O22 Fr22 ((Ec.keep K21).keep K22) f_oc_2_reused f_oc_2_types) (rmT0w l Z a0 hw [] oc gc T22.heap n0 O22 f_oc_2_reused f_oc_2_types) Ikc22 Lkc22 Ikc22 Lkc22 Ikc22 Lkc22
  obtain ⟨fs, hr, hrun, hended, hRW⟩ := X9.leaveW Sn2 (by rw [e9]; exact (Nat.le_trans hk2 (Nat.le_trans K21.1 K22.1))) (v := some (.int 1)) (fun h => by rw [Bd.returns] at h; cases h)
  refine ⟨_, _, pre0 _ ?_, hrun, hended, _, _, rfl, ?_, hRW.1, hRW.2.1, hRW.2.2.1, hRW.2.2.2.mono (by decide) (by decide)⟩
  · show oS p e below s₁ m 0 #[vI p0, vI p1, vI p2, vI p3, .unset, .unset, .unset, .unset, .unset, .unset, .unset, .unset, .unset, .unset, .unset, .unset, .unset, .unset, .unset] [] _
    refine st1 _ ?_
    refine st2 _ ?_
    refine st3 _ ?_
    show oS p e below T3 m 158 #[vI p0, vI p1, vI p2, vI p3, vR la, vR lb, vR lc, vI na, vI nb, vI nc, vR oa, vR ob, vR oc, vI 1, vI 1, .unset, .unset, .unset, .unset] [] _
    refine XS.iload X3.here hx rfl (hb hby at_158) rfl ?_
    refine XS.ifNo X3.here hx rfl (hb hby at_160) rfl ((if0 _ _).trans (feq (by decide : ¬ ((1 : Int32) = (0 : Int32)))).1) ?_
    show oS p e below T3 m 163 #[vI p0, vI p1, vI p2, vI p3, vR la, vR lb, vR lc, vI na, vI nb, vI nc, vR oa, vR ob, vR oc, vI 1, vI 1, .unset, .unset, .unset, .unset] [] _
    refine XS.aload X3.here hx rfl (hb hby at_163) rfl rfl ?_
    refine XS.aload X3.here hx rfl (hb hby at_165) rfl rfl ?_
    show oS p e below T3 m 167 #[vI p0, vI p1, vI p2, vI p3, vR la, vR lb, vR lc, vI na, vI nb, vI nc, vR oa, vR ob, vR oc, vI 1, vI 1, .unset, .unset, .unset, .unset] [(.ref ob), (.ref oa)] _
    refine st21.trans ?_
    show oS p e below T21 m 170 #[vI p0, vI p1, vI p2, vI p3, vR la, vR lb, vR lc, vI na, vI nb, vI nc, vR oa, vR ob, vR oc, vI 1, vI 1, .unset, .unset, .unset, .unset] [] _
    refine XS.iload X21.here hx rfl (hb hby at_170) rfl ?_
    refine XS.ifNo X21.here hx rfl (hb hby at_172) rfl ((if0 _ _).trans (feq (by decide : ¬ ((1 : Int32) = (0 : Int32)))).1) ?_
    show oS p e below T21 m 175 #[vI p0, vI p1, vI p2, vI p3, vR la, vR lb, vR lc, vI na, vI nb, vI nc, vR oa, vR ob, vR oc, vI 1, vI 1, .unset, .unset, .unset, .unset] [] _
    refine XS.aload X21.here hx rfl (hb hby at_175) rfl rfl ?_
    refine XS.aload X21.here hx rfl (hb hby at_177) rfl rfl ?_
    show oS p e below T21 m 179 #[vI p0, vI p1, vI p2, vI p3, vR la, vR lb, vR lc, vI na, vI nb, vI nc, vR oa, vR ob, vR oc, vI 1, vI 1, .unset, .unset, .unset, .unset] [(.ref oc), (.ref ob)] _
    refine st22.trans ?_
    show oS p e below T22 m 182 #[vI p0, vI p1, vI p2, vI p3, vR la, vR lb, vR lc, vI na, vI nb, vI nc, vR oa, vR ob, vR oc, vI 1, vI 1, .unset, .unset, .unset, .unset] [] _
    refine XS.iload X22.here hx rfl (hb hby at_182) rfl ?_
    refine XS.ifNo X22.here hx rfl (hb hby at_184) rfl ((if0 _ _).trans (feq (by decide : ¬ ((1 : Int32) = (0 : Int32)))).1) ?_
    show oS p e below T22 m 187 #[vI p0, vI p1, vI p2, vI p3, vR la, vR lb, vR lc, vI na, vI nb, vI nc, vR oa, vR ob, vR oc, vI 1, vI 1, .unset, .unset, .unset, .unset] [] _
    refine XS.aload X22.here hx rfl (hb hby at_187) rfl rfl ?_
    refine XS.goto X22.here hx rfl (pc0 := 189) (pc' := 194) rfl (hb hby at_189) (by decide) (by decide) ?_
    show oS p e below T22 m 194 #[vI p0, vI p1, vI p2, vI p3, vR la, vR lb, vR lc, vI na, vI nb, vI nc, vR oa, vR ob, vR oc, vI 1, vI 1, .unset, .unset, .unset, .unset] [(.ref lc)] _
    refine XS.astore X22.here hx rfl (hb hby at_194) rfl rfl (l' := #[vI p0, vI p1, vI p2, vI p3, vR la, vR lb, vR lc, vI na, vI nb, vI nc, vR oa, vR ob, vR oc, vI 1, vI 1, vR lc, .unset, .unset, .unset]) rfl ?_
    show oS p e below T22 m 196 #[vI p0, vI p1, vI p2, vI p3, vR la, vR lb, vR lc, vI na, vI nb, vI nc, vR oa, vR ob, vR oc, vI 1, vI 1, vR lc, .unset, .unset, .unset] [] _
    refine XS.iload X22.here hx rfl (hb hby at_196) rfl ?_
    refine XS.ifNo X22.here hx rfl (hb hby at_198) rfl ((if0 _ _).trans (feq (by decide : ¬ ((1 : Int32) = (0 : Int32)))).1) ?_
    show oS p e below T22 m 201 #[vI p0, vI p1, vI p2, vI p3, vR la, vR lb, vR lc, vI na, vI nb, vI nc, vR oa, vR ob, vR oc, vI 1, vI 1, vR lc, .unset, .unset, .unset] [] _
    refine XS.iload X22.here hx rfl (hb hby at_201) rfl ?_
    refine XS.goto X22.here hx rfl (pc0 := 203) (pc' := 208) rfl (hb hby at_203) (by decide) (by decide) ?_
    show oS p e below T22 m 208 #[vI p0, vI p1, vI p2, vI p3, vR la, vR lb, vR lc, vI na, vI nb, vI nc, vR oa, vR ob, vR oc, vI 1, vI 1, vR lc, .unset, .unset, .unset] [(.int nc)] _
    refine XS.istore X22.here hx rfl (hb hby at_208) rfl (l' := #[vI p0, vI p1, vI p2, vI p3, vR la, vR lb, vR lc, vI na, vI nb, vI nc, vR oa, vR ob, vR oc, vI 1, vI 1, vR lc, vI nc, .unset, .unset]) rfl ?_
    show oS p e below T22 m 210 #[vI p0, vI p1, vI p2, vI p3, vR la, vR lb, vR lc, vI na, vI nb, vI nc, vR oa, vR ob, vR oc, vI 1, vI 1, vR lc, vI nc, .unset, .unset] [] _
    refine XS.iload X22.here hx rfl (hb hby at_210) rfl ?_
    refine XS.ifNo X22.here hx rfl (hb hby at_212) rfl ((if0 _ _).trans (feq (by decide : ¬ ((1 : Int32) = (0 : Int32)))).1) ?_
    show oS p e below T22 m 215 #[vI p0, vI p1, vI p2, vI p3, vR la, vR lb, vR lc, vI na, vI nb, vI nc, vR oa, vR ob, vR oc, vI 1, vI 1, vR lc, vI nc, .unset, .unset] [] _
    refine XS.aload X22.here hx rfl (hb hby at_215) rfl rfl ?_
    refine XS.goto X22.here hx rfl (pc0 := 217) (pc' := 222) rfl (hb hby at_217) (by decide) (by decide) ?_
    show oS p e below T22 m 222 #[vI p0, vI p1, vI p2, vI p3, vR la, vR lb, vR lc, vI na, vI nb, vI nc, vR oa, vR ob, vR oc, vI 1, vI 1, vR lc, vI nc, .unset, .unset] [(.ref lc)] _
    refine XS.astore X22.here hx rfl (hb hby at_222) rfl rfl (l' := #[vI p0, vI p1, vI p2, vI p3, vR la, vR lb, vR lc, vI na, vI nb, vI nc, vR oa, vR ob, vR oc, vI 1, vI 1, vR lc, vI nc, vR lc, .unset]) rfl ?_
    show oS p e below T22 m 224 #[vI p0, vI p1, vI p2, vI p3, vR la, vR lb, vR lc, vI na, vI nb, vI nc, vR oa, vR ob, vR oc, vI 1, vI 1, vR lc, vI nc, vR lc, .unset] [] _
    refine XS.iload X22.here hx rfl (hb hby at_224) rfl ?_
    refine XS.ifNo X22.here hx rfl (hb hby at_226) rfl ((if0 _ _).trans (feq (by decide : ¬ ((1 : Int32) = (0 : Int32)))).1) ?_
    show oS p e below T22 m 229 #[vI p0, vI p1, vI p2, vI p3, vR la, vR lb, vR lc, vI na, vI nb, vI nc, vR oa, vR ob, vR oc, vI 1, vI 1, vR lc, vI nc, vR lc, .unset] [] _
    refine XS.iload X22.here hx rfl (hb hby at_229) rfl ?_
    refine XS.goto X22.here hx rfl (pc0 := 231) (pc' := 236) rfl (hb hby at_231) (by decide) (by decide) ?_
    show oS p e below T22 m 236 #[vI p0, vI p1, vI p2, vI p3, vR la, vR lb, vR lc, vI na, vI nb, vI nc, vR oa, vR ob, vR oc, vI 1, vI 1, vR lc, vI nc, vR lc, .unset] [(.int nc)] _
    refine XS.istore X22.here hx rfl (hb hby at_236) rfl (l' := #[vI p0, vI p1, vI p2, vI p3, vR la, vR lb, vR lc, vI na, vI nb, vI nc, vR oa, vR ob, vR oc, vI 1, vI 1, vR lc, vI nc, vR lc, vI nc]) rfl ?_
    show oS p e below T22 m 238 #[vI p0, vI p1, vI p2, vI p3, vR la, vR lb, vR lc, vI na, vI nb, vI nc, vR oa, vR ob, vR oc, vI 1, vI 1, vR lc, vI nc, vR lc, vI nc] [] _
    refine st9 _ ?_
    show oS p e below T9 m 288 #[vI p0, vI p1, vI p2, vI p3, vR la, vR lb, vR lc, vI na, vI nb, vI nc, vR oa, vR ob, vR oc, vI 1, vI 1, vR lc, vI nc, vR lc, vI nc] [(.int 1)] _
    exact retN X9 hx (t := .boolean) Bd.returns (by simp) (hb hby at_288) hr
  · show own_R n0 _ T9.heap _
    rw [e9]
    exact ⟨rfl, N9⟩
theorem own_len {args : Array Value} {s : State} {t : Term} {a : Addr} {cl : Cell} {v : Value} (ht : t.eval args s none [] s = some (.ref a)) (ha : s.arrayAt? a = some cl) (h : (Term.length t).eval args s none [] s = some v) : cl.slots.size < 2 ^ 31 := by
  have e31 : (2 : Nat) ^ 31 = 2147483648 := by decide
  rw [e31]
  by_cases q : cl.slots.size < 2147483648
  · exact q
  · simp [Term.eval, ht, ha, q] at h
theorem own_arv {args : Array Value} {s : State} {t : Term} {a : Addr} {cl : Cell} {ty : FieldType} {z : Int32} {vs : List Value} {dv : Value} (hf : Fit s) (ht : t.eval args s none [] s = some (.ref a)) (A : Arr s s.heap a cl ty) (hl : (Term.length t).eval args s none [] s = some (.int z)) (hz : ¬ z < 0) (hv : z.toNatClampNeg = vs.length) (H : HasL cl 0 vs) : Arv s s.heap a cl.cls ty z vs dv := by
  have q := own_len ht (A.fin (Vm.Alike.refl _)) hl
  have e : cl.slots.size.toInt32 = z := by
    have q2 := (len_f ht (A.fin (Vm.Alike.refl _)) q).symm.trans hl
    injection q2 with q2; injection q2
  exact Arv.start hf A q e hz hv H
theorem comes_1 {Post : Tables → Env → Array Value → State → Outcome → State → Prop} (hpost : ∀ tb e args s v u, (limb_1_1.after args s (.returned v) u = true ∧ limb_1_2.after args s (.returned v) u = true ∧ True) → ReturnedEndW s (.returned v) u (Jvm.fieldLocs frame_1_writes args s ++ Jvm.arrayLocs frame_1_arrays args s ++ Jvm.staticLocs frame_1_statics s) 104 5568 → Post tb e args s (.returned v) u) :
    ArmFor flags0 classFile x code maxLocals ret World_1 tables_1 room_1 Calls_1 rest_1 Pre_1 Post := by
  intro l hfl _ _ p e ha hc hk s m args below hf hA hF happ hP
  obtain ⟨hcalls, hrest, hpre⟩ := hP
  obtain ⟨-, -, -, hnamed, -, -, -, hat⟩ := (Spec.applies_iff hf).mp happ
  obtain ⟨hg, hn⟩ := and_e (Cond.before_iff.mp (show (Jvm.Cond.and given_1 narrow_1).before args s = true from hpre))
  obtain ⟨gc, gr0⟩ := and_e hg
  obtain ⟨ga0, gr1⟩ := and_e gr0
  obtain ⟨ga1, gr2⟩ := and_e gr1
  obtain ⟨ga2, gr3⟩ := and_e gr2
  obtain ⟨w0, w1, w2, w3, rfl⟩ : ∃ w0 w1 w2 w3 : Value, args = #[w0, w1, w2, w3] := by
    have hs : args.size = 4 := by simpa [Cond.value, given_1] using gc
    obtain ⟨L⟩ := args
    match L, hs with
    | [w0, w1, w2, w3], _ => exact ⟨w0, w1, w2, w3, rfl⟩
  have hw := fun d (hd : d ∈ tables_1) => atoms_spec (ws := Jvm.Cond.code x code maxLocals ret :: tables_1) hat d (List.mem_cons_of_mem _ hd)
  have hfit : Fit s := fun {y c} hc i hi => by
    obtain ⟨ha, rfl⟩ := Array.getElem?_eq_some_iff.mp hc
    have q := List.all_eq_true.mp ((Array.all_eq_true_iff_forall_mem.mp hF) _ (Array.getElem_mem ha)) i (List.mem_range.mpr hi)
    simpa [Array.getElem?_eq_getElem hi] using q
  obtain ⟨hsets, hown0⟩ := atoms_of _ (rest_1_c_eq ▸ (show rest_1_c.before _ s = true from hrest))
  obtain ⟨i0, ei0⟩ := is_v ga0
  obtain rfl : w0 = (.int i0) := Option.some.inj ei0
  obtain ⟨i1, ei1⟩ := is_v ga1
  obtain rfl : w1 = (.int i1) := Option.some.inj ei1
  obtain ⟨i2, ei2⟩ := is_v ga2
  obtain rfl : w2 = (.int i2) := Option.some.inj ei2
  obtain ⟨i3, ei3⟩ := is_v gr3
  obtain rfl : w3 = (.int i3) := Option.some.inj ei3
  obtain ⟨zc, evz⟩ := is_v (Cond.before_iff.mp (hsets _ (List.mem_of_getElem? (i := 10) rfl)))
  have S_CS := Sta.start evz (Or.inl (hsets _ (List.mem_of_getElem? (i := 9) rfl)))
  have hzc : ¬ zc = 0 := gotF (Cond.eq_ints evz (Term.int_eval 0)) (not_v (Cond.before_iff.mp (hsets _ (List.mem_of_getElem? (i := 11) rfl))))
  have hcw : Jvm.Lit.compactW.before _ s = true := (hsets _ (List.mem_of_getElem? (i := 11) rfl))
  obtain ⟨fm, evf, hfm⟩ := isR_v (Cond.before_iff.mp (hsets _ (List.mem_of_getElem? (i := 17) rfl)))
  have S_FM := Sta.start evf (Or.inl (hsets _ (List.mem_of_getElem? (i := 16) rfl)))
  obtain ⟨ad, evd⟩ := exa_v (Cond.before_iff.mp (hsets _ (List.mem_of_getElem? (i := 7) rfl)))
  have S_DE := Sta.start evd (Or.inr ⟨(oW hw 6 rfl), (hsets _ (List.mem_of_getElem? (i := 2) rfl))⟩)
  obtain ⟨cd, Ad⟩ := Arr.start evd (Cond.before_iff.mp (hsets _ (List.mem_of_getElem? (i := 6) rfl)))
  have V_ad := own_arv hfit evd Ad (eqv_i (Term.int_eval (0 : Int32)) (Cond.before_iff.mp (hsets _ (List.mem_of_getElem? (i := 8) rfl)))) (by decide) (vs := []) (dv := .null) rfl trivial
  obtain ⟨el, evl⟩ := exa_v (Cond.before_iff.mp (hsets _ (List.mem_of_getElem? (i := 20) rfl)))
  have S_EMPTY_LIST := Sta.start evl (Or.inl (hsets _ (List.mem_of_getElem? (i := 19) rfl)))
  have E_el := Exa.start evl (Cond.before_iff.mp (hsets _ (List.mem_of_getElem? (i := 20) rfl)))
  obtain ⟨ee, evee⟩ := exa_v (Cond.before_iff.mp (hsets _ (List.mem_of_getElem? (i := 22) rfl)))
  have F_el := Fld.start ((fld_at evl).symm.trans evee)
  obtain ⟨ce, Ae⟩ := Arr.start evee (Cond.before_iff.mp (hsets _ (List.mem_of_getElem? (i := 21) rfl)))
  have V_ee := own_arv hfit evee Ae (eqv_i (Term.int_eval (0 : Int32)) (Cond.before_iff.mp (hsets _ (List.mem_of_getElem? (i := 23) rfl)))) (by decide) (vs := []) (dv := .null) rfl trivial
  obtain ⟨em, evm⟩ := exa_v (Cond.before_iff.mp (hsets _ (List.mem_of_getElem? (i := 27) rfl)))
  have S_EMPTY := Sta.start evm (Or.inl (hsets _ (List.mem_of_getElem? (i := 26) rfl)))
  have E_em := Exa.start evm (Cond.before_iff.mp (hsets _ (List.mem_of_getElem? (i := 27) rfl)))
  obtain ⟨cm, km, mr, mi1, mi2, mi3, -⟩ := hcalls.1
  have hmr : own_Mir s "[Ljava/lang/Object;" mr := ⟨cm, km, mi1, mi2, mi3⟩
  have hch : CHv s own_EL s.vm s.heap := CHv.start (own_EW hw) (fun p hp => hcalls.2.1 p hp) hcw (oW hw 45 rfl) (oW hw 41 rfl)
  have key : MetFree l x (head1 (Jvm.Cond.code x code maxLocals ret :: tables_1) room_1) (fun a U => a = #[(.int i0), (.int i1), (.int i2), (.int i3)] ∧ s.Warmed39 U.vm ∧ U.heap = s.heap ∧ CHv s own_EL U.vm s.heap) (fun _ _ _ _ _ => True) (fun _ U o U' => ∃ v L, o = .returned v ∧ own_R s.heap.size v U'.heap L ∧ ReturnedEndW U o U' L room_1.cells room_1.slots) := by
    by_cases hm1 : (i3 &&& (1 : Int32)) = (0 : Int32)
    · by_cases hm2 : (i3 &&& (2 : Int32)) = (0 : Int32)
      · exact rm0_00 l s _ hw tables_1 i0 i1 i2 i3 ad el em mr ee _ _ zc fm s.heap s.heap.size (Old.start s) S_DE V_ad S_CS hzc S_FM hfm E_el S_EMPTY_LIST S_EMPTY hmr E_em F_el V_ee hm1 hm2
      · exact rm0_01 l s _ hw tables_1 i0 i1 i2 i3 ad el em mr ee _ _ zc fm s.heap s.heap.size (Old.start s) S_DE V_ad S_CS hzc S_FM hfm E_el S_EMPTY_LIST S_EMPTY hmr E_em F_el V_ee hm1 hm2
    · by_cases hm2 : (i3 &&& (2 : Int32)) = (0 : Int32)
      · exact rm0_10 l s _ hw tables_1 i0 i1 i2 i3 ad el em mr ee _ _ zc fm s.heap s.heap.size (Old.start s) S_DE V_ad S_CS hzc S_FM hfm E_el S_EMPTY_LIST S_EMPTY hmr E_em F_el V_ee hm1 hm2
      · exact rm0_11 l s _ hw tables_1 i0 i1 i2 i3 ad el em mr ee _ _ zc fm s.heap s.heap.size (Old.start s) S_DE V_ad S_CS hzc S_FM hfm E_el S_EMPTY_LIST S_EMPTY hmr E_em F_el V_ee hm1 hm2
  obtain ⟨n, o, h1, h2, h3, _, L, rfl, ⟨rfl, N⟩, hq⟩ := key p e ha hc hk s m _ below hf ((Spec.applies_iff_loose hf).mp happ).1 ⟨rfl, State.Warmed39.refl s, rfl, hch⟩ trivial
  refine ⟨n, _, h1, h2, h3, hpost _ _ _ _ _ _ ⟨Cond.after_iff.mpr rfl, Cond.after_iff.mpr (eq_i res_at (Term.int_eval (1)) rfl), trivial⟩ ⟨hq.1, hq.2.1, hq.2.2.1, (hq.2.2.2.sift fun y hy => Or.inr (N y hy)).mono (by decide) (by decide)⟩⟩
theorem main_1_1 : Claimed_1_1 := comes_1 fun _ _ _ _ _ _ h hF => ⟨h.1, hF⟩
theorem main_1_2 : Claimed_1_2 := comes_1 fun _ _ _ _ _ _ h hF => ⟨h.2.1, hF⟩
end Jvm.Pilot.@@N@@
namespace Jvm.Pilot.@@N@@
open Jvm Jvm.ClassFile Sem Op Lib Jvm.Free Jvm.Stand Jvm.Pilot.@@N@@.Jvm.D
/-! MADE BY PROGRAM (witnessworld.py) out of the Statement's table words and the real class files: 41 classes; the members and pool entries that the words name. The judged class is class 1, her method 3. -/
namespace start1
open Jvm.ClassFile
def u (s : String) : CpInfo := .utf8 (stringToUtf16 s)
/-- a pool by its gaps: so many unusable entries, then the entry; so many at the end -/
def gap : Nat → List CpInfo → List CpInfo
  | 0, r => r
  | n + 1, r => .unusable :: gap n r
def poolList (es : List (Nat × CpInfo)) (last : Nat) : List CpInfo := es.foldr (fun e r => gap e.1 (e.2 :: r)) (gap last [])
def pool (es : List (Nat × CpInfo)) (last : Nat) : Array CpInfo := ⟨poolList es last⟩
def fileOf (pool : Array CpInfo) (this : Nat) (attrs : Array Attribute := #[]) (ms : Array MethodInfo := #[]) (fl : Nat := 33) (sup : Nat := 0) (ifs : Array Nat := #[]) (fds : Array FieldInfo := #[]) : ClassFile where
  minorVersion := 0
  majorVersion := 65
  constantPool := pool
  accessFlags := fl
  thisClass := this
  superClass := sup
  interfaces := ifs
  fields := fds
  methods := ms
  attributes := attrs
def plain (name : String) (sup : Option ClassId) : Class where
  name := name
  kind := .ordinary
  loader := none
  accessFlags := 33
  super := sup
  interfaces := #[]
  cf := none
  fields := #[]
  methods := #[]
  instanceTypes := #[]
  staticTypes := #[]
  resolved := #[]
  callSites := []
  init := .initialized
  statics := none
  mirror := none

def pool0 : Array CpInfo := pool [(5, u "<init>"), (0, u "()V"), (1, .class_ 10), (1, u "java/lang/Object"), (0, u "getClass"), (0, u "()Ljava/lang/Class;")] 111

def k0c0 : Code := { maxStack := 0, maxLocals := 1, code := object_method_1_code, exceptionTable := #[], attributes := #[] }
def k0m0 : Method := { name := "<init>", desc := "()V", sig := { parameters := [], returnType := none }, accessFlags := 1, code := some k0c0 }
def k0m1 : Method := { name := "getClass", desc := "()Ljava/lang/Class;", sig := { parameters := [], returnType := some (.object "java/lang/Class") }, accessFlags := 273, code := none }
/-- java/lang/Object -/
def k0 : Class := { plain "java/lang/Object" none with
  accessFlags := 33
  interfaces := #[]
  cf := some (fileOf pool0 8 #[] #[{ accessFlags := 1, nameIndex := 5, descriptorIndex := 6, attributes := #[] }, { accessFlags := 273, nameIndex := 11, descriptorIndex := 12, attributes := #[] }] 33 0 #[] #[])
  fields := #[]
  methods := #[k0m0, k0m1]
  instanceTypes := #[]
  staticTypes := #[]
  resolved := Array.replicate 124 none
  statics := none }

def pool1 : Array CpInfo := pool [(2, .class_ 4), (0, .nameAndType 5 6), (0, u "java/lang/Object"), (0, u "<init>"), (0, u "()V"), (0, .class_ 8), (0, u "java/util/ArrayList"), (0, .methodref 7 3), (0, .integer 2147483647), (0, .methodref 12 13), (0, .class_ 14), (0, .nameAndType 15 16), (0, u "java/lang/String"), (0, u "valueOf"), (0, u "(C)Ljava/lang/String;"), (0, .methodref 7 18), (0, .nameAndType 19 20), (0, u "add"), (0, u "(Ljava/lang/Object;)Z"), (0, .interfaceMethodref 22 23), (0, .class_ 24), (0, .nameAndType 25 26), (0, u "java/util/List"), (0, u "size"), (0, u "()I"), (0, .interfaceMethodref 22 28), (0, .nameAndType 29 30), (0, u "get"), (0, u "(I)Ljava/lang/Object;"), (0, .methodref 12 32), (0, .nameAndType 33 20), (0, u "equals"), (0, .methodref 35 36), (0, .class_ 37), (0, .nameAndType 38 39), (0, u "com/example/graftwork/graftwork/ElementDefinitionTypesPinLaw"), (0, u "draw"), (0, u "(I)Ljava/util/ArrayList;"), (0, .methodref 7 23), (0, .class_ 42), (0, u "com/example/graftwork/graftwork/ElementDefinition"), (0, .string 44), (0, u "R.a"), (0, .methodref 41 46), (0, .nameAndType 5 47), (0, u "(Ljava/lang/String;IILjava/util/List;)V"), (0, .string 49), (0, u "R.b[x]"), (0, .string 51), (0, u "R.c"), (0, .string 53), (0, u "q"), (0, .methodref 41 55), (0, .nameAndType 56 57), (0, u "types"), (0, u "()Ljava/util/List;"), (0, .methodref 35 59), (0, .nameAndType 60 61), (0, u "same"), (0, u "(Ljava/util/List;Ljava/util/List;I)Z"), (0, .methodref 41 63), (0, .nameAndType 64 65), (0, u "reuse"), (0, u "(Lcom/example/graftwork/graftwork/ElementDefinition;)V"), (6, u "law"), (0, u "(IIII)Z")] 2

def k1m0 : Method := { name := "<init>", desc := "()V", sig := { parameters := [], returnType := none }, accessFlags := 1, code := none }
def k1c1 : Code := { maxStack := 3, maxLocals := 3, code := method_2_code, exceptionTable := #[], attributes := #[] }
def k1m1 : Method := { name := "draw", desc := "(I)Ljava/util/ArrayList;", sig := { parameters := [.int], returnType := some (.object "java/util/ArrayList") }, accessFlags := 10, code := some k1c1 }
def k1c2 : Code := { maxStack := 3, maxLocals := 3, code := method_3_code, exceptionTable := #[], attributes := #[] }
def k1m2 : Method := { name := "same", desc := "(Ljava/util/List;Ljava/util/List;I)Z", sig := { parameters := [(.object "java/util/List"), (.object "java/util/List"), .int], returnType := some .boolean }, accessFlags := 10, code := some k1c2 }
def k1c3 : Code := { maxStack := 6, maxLocals := 19, code := code, exceptionTable := #[], attributes := #[] }
def k1m3 : Method := { name := "law", desc := "(IIII)Z", sig := { parameters := [.int, .int, .int, .int], returnType := some .boolean }, accessFlags := 9, code := some k1c3 }
/-- com/example/graftwork/graftwork/ElementDefinitionTypesPinLaw -/
def k1 : Class := { plain "com/example/graftwork/graftwork/ElementDefinitionTypesPinLaw" (some 0) with
  accessFlags := 49
  interfaces := #[]
  cf := some (fileOf pool1 35 #[] #[{ accessFlags := 1, nameIndex := 5, descriptorIndex := 6, attributes := #[] }, { accessFlags := 10, nameIndex := 38, descriptorIndex := 39, attributes := #[] }, { accessFlags := 10, nameIndex := 60, descriptorIndex := 61, attributes := #[] }, { accessFlags := 9, nameIndex := 72, descriptorIndex := 73, attributes := #[] }] 49 2 #[] #[])
  fields := #[]
  methods := #[k1m0, k1m1, k1m2, k1m3]
  instanceTypes := #[]
  staticTypes := #[]
  resolved := Array.replicate 76 none
  statics := none }

def pool2 : Array CpInfo := pool [(8, .class_ 10), (1, u "java/lang/Iterable"), (24, .class_ 36), (0, u "java/lang/Object")] 25

/-- java/lang/Iterable -/
def k2 : Class := { plain "java/lang/Iterable" (some 0) with
  accessFlags := 1537
  interfaces := #[]
  cf := some (fileOf pool2 8 #[] #[] 1537 35 #[] #[])
  fields := #[]
  methods := #[]
  instanceTypes := #[]
  staticTypes := #[]
  resolved := Array.replicate 62 none
  statics := none }

def pool3 : Array CpInfo := pool [(10, .class_ 12), (1, u "java/util/Collection"), (0, u "toArray"), (16, u "()Z"), (29, .class_ 61), (0, u "java/lang/Object"), (0, .class_ 63), (0, u "java/lang/Iterable"), (2, u "isEmpty"), (3, u "()[Ljava/lang/Object;")] 44

def k3m0 : Method := { name := "isEmpty", desc := "()Z", sig := { parameters := [], returnType := some .boolean }, accessFlags := 1025, code := none }
def k3m1 : Method := { name := "toArray", desc := "()[Ljava/lang/Object;", sig := { parameters := [], returnType := some (.array (.object "java/lang/Object")) }, accessFlags := 1025, code := none }
/-- java/util/Collection -/
def k3 : Class := { plain "java/util/Collection" (some 0) with
  accessFlags := 1537
  interfaces := #[2]
  cf := some (fileOf pool3 10 #[] #[{ accessFlags := 1025, nameIndex := 66, descriptorIndex := 30, attributes := #[] }, { accessFlags := 1025, nameIndex := 13, descriptorIndex := 70, attributes := #[] }] 1537 60 #[62] #[])
  fields := #[]
  methods := #[k3m0, k3m1]
  instanceTypes := #[]
  staticTypes := #[]
  resolved := Array.replicate 115 none
  statics := none }

def pool4 : Array CpInfo := pool [(1, .methodref 2 3), (0, .class_ 4), (0, .nameAndType 5 6), (0, u "java/lang/Object"), (0, u "<init>"), (0, u "()V"), (1, .class_ 10), (1, u "java/util/AbstractCollection"), (66, .class_ 78), (0, u "java/util/Collection")] 81

def k4c0 : Code := { maxStack := 1, maxLocals := 1, code := jdk_22_method_1_code, exceptionTable := #[], attributes := #[] }
def k4m0 : Method := { name := "<init>", desc := "()V", sig := { parameters := [], returnType := none }, accessFlags := 4, code := some k4c0 }
/-- java/util/AbstractCollection -/
def k4 : Class := { plain "java/util/AbstractCollection" (some 0) with
  accessFlags := 1057
  interfaces := #[3]
  cf := some (fileOf pool4 8 #[] #[{ accessFlags := 4, nameIndex := 5, descriptorIndex := 6, attributes := #[] }] 1057 2 #[77] #[])
  fields := #[]
  methods := #[k4m0]
  instanceTypes := #[]
  staticTypes := #[]
  resolved := Array.replicate 160 none
  statics := none }

def pool5 : Array CpInfo := pool [(8, .class_ 10), (1, u "java/util/SequencedCollection"), (15, .class_ 27), (0, u "java/lang/Object"), (0, .class_ 29), (0, u "java/util/Collection")] 27

/-- java/util/SequencedCollection -/
def k5 : Class := { plain "java/util/SequencedCollection" (some 0) with
  accessFlags := 1537
  interfaces := #[3]
  cf := some (fileOf pool5 8 #[] #[] 1537 26 #[28] #[])
  fields := #[]
  methods := #[]
  instanceTypes := #[]
  staticTypes := #[]
  resolved := Array.replicate 57 none
  statics := none }

def pool6 : Array CpInfo := pool [(8, .class_ 10), (1, u "java/util/List"), (20, u "(Ljava/lang/Object;)V"), (16, u "<init>"), (26, u "get"), (0, u "(I)Ljava/lang/Object;"), (2, u "size"), (0, u "()I"), (7, u "of"), (1, .fieldref 91 92), (0, .class_ 93), (0, .nameAndType 94 95), (0, u "java/util/ImmutableCollections"), (0, u "EMPTY_LIST"), (0, u "Ljava/util/ImmutableCollections$ListN;"), (0, .class_ 97), (0, u "java/util/ImmutableCollections$List12"), (0, .methodref 96 99), (0, .nameAndType 48 31), (0, .methodref 96 101), (0, .nameAndType 48 102), (0, u "(Ljava/lang/Object;Ljava/lang/Object;)V"), (0, .class_ 104), (0, u "java/lang/Object"), (3, u "([Ljava/lang/Object;)Ljava/util/List;"), (3, .methodref 91 113), (0, .nameAndType 114 115), (0, u "listCopy"), (0, u "(Ljava/util/Collection;)Ljava/util/List;"), (3, u "()Ljava/util/List;"), (0, .class_ 121), (0, u "java/util/SequencedCollection"), (112, u "copyOf")] 16

def k6m0 : Method := { name := "size", desc := "()I", sig := { parameters := [], returnType := some .int }, accessFlags := 1025, code := none }
def k6m1 : Method := { name := "get", desc := "(I)Ljava/lang/Object;", sig := { parameters := [.int], returnType := some (.object "java/lang/Object") }, accessFlags := 1025, code := none }
def k6c2 : Code := { maxStack := 1, maxLocals := 0, code := jdk_40_method_36_code, exceptionTable := #[], attributes := #[] }
def k6m2 : Method := { name := "of", desc := "()Ljava/util/List;", sig := { parameters := [], returnType := some (.object "java/util/List") }, accessFlags := 9, code := some k6c2 }
def k6c3 : Code := { maxStack := 5, maxLocals := 2, code := jdk_40_method_47_code, exceptionTable := #[], attributes := #[] }
def k6m3 : Method := { name := "of", desc := "([Ljava/lang/Object;)Ljava/util/List;", sig := { parameters := [(.array (.object "java/lang/Object"))], returnType := some (.object "java/util/List") }, accessFlags := 137, code := some k6c3 }
def k6c4 : Code := { maxStack := 1, maxLocals := 1, code := jdk_40_method_48_code, exceptionTable := #[], attributes := #[] }
def k6m4 : Method := { name := "copyOf", desc := "(Ljava/util/Collection;)Ljava/util/List;", sig := { parameters := [(.object "java/util/Collection")], returnType := some (.object "java/util/List") }, accessFlags := 9, code := some k6c4 }
/-- java/util/List -/
def k6 : Class := { plain "java/util/List" (some 0) with
  accessFlags := 1537
  interfaces := #[5]
  cf := some (fileOf pool6 8 #[] #[{ accessFlags := 1025, nameIndex := 79, descriptorIndex := 80, attributes := #[] }, { accessFlags := 1025, nameIndex := 75, descriptorIndex := 76, attributes := #[] }, { accessFlags := 9, nameIndex := 88, descriptorIndex := 119, attributes := #[] }, { accessFlags := 137, nameIndex := 88, descriptorIndex := 108, attributes := #[] }, { accessFlags := 9, nameIndex := 234, descriptorIndex := 115, attributes := #[] }] 1537 103 #[120] #[])
  fields := #[]
  methods := #[k6m0, k6m1, k6m2, k6m3, k6m4]
  instanceTypes := #[]
  staticTypes := #[]
  resolved := Array.replicate 251 none
  statics := none }

def pool7 : Array CpInfo := pool [(1, .methodref 2 3), (0, .class_ 4), (0, .nameAndType 5 6), (0, u "java/util/AbstractCollection"), (0, u "<init>"), (0, u "()V"), (0, .fieldref 8 9), (0, .class_ 10), (0, .nameAndType 11 12), (0, u "java/util/AbstractList"), (0, u "modCount"), (0, u "I"), (64, .class_ 78), (0, u "java/util/AbstractList$Itr"), (3, .class_ 83), (0, u "java/util/AbstractList$ListItr"), (9, .class_ 94), (0, u "java/util/AbstractList$RandomAccessSubList"), (3, .class_ 99), (0, u "java/util/AbstractList$SubList"), (33, .class_ 134), (0, u "java/util/List"), (73, .class_ 209), (0, u "java/util/AbstractList$SubList$1"), (0, .class_ 211), (0, u "java/util/AbstractList$RandomAccessSpliterator")] 6

def k7c0 : Code := { maxStack := 2, maxLocals := 1, code := jdk_39_method_1_code, exceptionTable := #[], attributes := #[] }
def k7m0 : Method := { name := "<init>", desc := "()V", sig := { parameters := [], returnType := none }, accessFlags := 4, code := some k7c0 }
/-- java/util/AbstractList -/
def k7 : Class := { plain "java/util/AbstractList" (some 4) with
  accessFlags := 1057
  interfaces := #[6]
  cf := some (fileOf pool7 8 #[.nestMembers #[93, 98, 208, 210, 82, 77]] #[{ accessFlags := 4, nameIndex := 5, descriptorIndex := 6, attributes := #[] }] 1057 2 #[133] #[{ accessFlags := 132, nameIndex := 11, descriptorIndex := 12, attributes := #[] }])
  fields := #[{ name := "modCount", type := .int, accessFlags := 132, slot := 0, constantValue := 0 }]
  methods := #[k7m0]
  instanceTypes := #[.int]
  staticTypes := #[]
  resolved := Array.replicate 218 none
  statics := none }

def pool8 : Array CpInfo := pool [(1, .class_ 2), (0, u "java/util/RandomAccess"), (0, .class_ 4), (0, u "java/lang/Object")] 2

/-- java/util/RandomAccess -/
def k8 : Class := { plain "java/util/RandomAccess" (some 0) with
  accessFlags := 1537
  interfaces := #[]
  cf := some (fileOf pool8 1 #[] #[] 1537 3 #[] #[])
  fields := #[]
  methods := #[]
  instanceTypes := #[]
  staticTypes := #[]
  resolved := Array.replicate 7 none
  statics := none }

def pool9 : Array CpInfo := pool [(1, .class_ 2), (0, u "java/lang/Cloneable"), (0, .class_ 4), (0, u "java/lang/Object")] 2

/-- java/lang/Cloneable -/
def k9 : Class := { plain "java/lang/Cloneable" (some 0) with
  accessFlags := 1537
  interfaces := #[]
  cf := some (fileOf pool9 1 #[] #[] 1537 3 #[] #[])
  fields := #[]
  methods := #[]
  instanceTypes := #[]
  staticTypes := #[]
  resolved := Array.replicate 7 none
  statics := none }

def pool10 : Array CpInfo := pool [(1, .class_ 2), (0, u "java/io/Serializable"), (0, .class_ 4), (0, u "java/lang/Object")] 2

/-- java/io/Serializable -/
def k10 : Class := { plain "java/io/Serializable" (some 0) with
  accessFlags := 1537
  interfaces := #[]
  cf := some (fileOf pool10 1 #[] #[] 1537 3 #[] #[])
  fields := #[]
  methods := #[]
  instanceTypes := #[]
  staticTypes := #[]
  resolved := Array.replicate 7 none
  statics := none }

def pool11 : Array CpInfo := pool [(1, .methodref 2 3), (0, .class_ 4), (0, .nameAndType 5 6), (0, u "java/util/AbstractList"), (0, u "<init>"), (0, u "()V"), (0, .class_ 8), (0, u "java/lang/Object"), (0, .fieldref 10 11), (0, .class_ 12), (0, .nameAndType 13 14), (0, u "java/util/ArrayList"), (0, u "elementData"), (0, u "[Ljava/lang/Object;"), (2, u "EMPTY_ELEMENTDATA"), (21, .fieldref 10 40), (0, .nameAndType 41 14), (0, u "DEFAULTCAPACITY_EMPTY_ELEMENTDATA"), (4, u "toArray"), (0, u "()[Ljava/lang/Object;"), (0, .fieldref 10 49), (0, .nameAndType 50 51), (0, u "size"), (0, u "I"), (6, .class_ 60), (1, u "java/util/Arrays"), (0, u "copyOf"), (1, .fieldref 10 64), (0, .nameAndType 65 51), (0, u "modCount"), (0, .methodref 58 67), (0, .nameAndType 61 68), (0, u "([Ljava/lang/Object;I)[Ljava/lang/Object;"), (0, .methodref 10 70), (0, .nameAndType 71 72), (0, u "grow"), (0, u "(I)[Ljava/lang/Object;"), (6, .methodref 80 81), (0, .class_ 82), (0, .nameAndType 83 84), (0, u "java/lang/Math"), (0, u "max"), (0, u "(II)I"), (11, u "(Ljava/lang/Object;)Z"), (21, .methodref 119 120), (0, .class_ 121), (0, .nameAndType 122 84), (0, u "java/util/Objects"), (0, u "checkIndex"), (0, .methodref 10 124), (0, .nameAndType 13 125), (0, u "(I)Ljava/lang/Object;"), (3, .methodref 10 130), (0, .nameAndType 71 47), (0, .methodref 10 132), (0, .nameAndType 133 134), (0, u "add"), (0, u "(Ljava/lang/Object;[Ljava/lang/Object;I)V"), (13, .class_ 149), (0, u "java/util/List"), (23, u "()Z"), (12, u "()I"), (75, .class_ 263), (0, u "java/util/ArrayList$ListItr"), (3, .class_ 268), (0, u "java/util/ArrayList$Itr"), (7, .class_ 277), (0, u "java/util/ArrayList$SubList"), (12, .class_ 291), (0, u "java/util/ArrayList$ArrayListSpliterator"), (37, .class_ 330), (0, u "java/util/RandomAccess"), (0, .class_ 332), (0, u "java/lang/Cloneable"), (0, .class_ 334), (0, u "java/io/Serializable"), (0, u "serialVersionUID"), (0, u "J"), (3, u "DEFAULT_CAPACITY"), (22, u "isEmpty"), (17, u "get"), (118, .class_ 501), (0, u "java/util/ArrayList$SubList$2"), (0, .class_ 503), (0, u "java/util/ArrayList$SubList$1")] 5

def k11c0 : Code := { maxStack := 2, maxLocals := 1, code := jdk_38_method_2_code, exceptionTable := #[], attributes := #[] }
def k11m0 : Method := { name := "<init>", desc := "()V", sig := { parameters := [], returnType := none }, accessFlags := 1, code := some k11c0 }
def k11c1 : Code := { maxStack := 4, maxLocals := 4, code := jdk_38_method_6_code, exceptionTable := #[], attributes := #[] }
def k11m1 : Method := { name := "grow", desc := "(I)[Ljava/lang/Object;", sig := { parameters := [.int], returnType := some (.array (.object "java/lang/Object")) }, accessFlags := 2, code := some k11c1 }
def k11c2 : Code := { maxStack := 3, maxLocals := 1, code := jdk_38_method_7_code, exceptionTable := #[], attributes := #[] }
def k11m2 : Method := { name := "grow", desc := "()[Ljava/lang/Object;", sig := { parameters := [], returnType := some (.array (.object "java/lang/Object")) }, accessFlags := 2, code := some k11c2 }
def k11c3 : Code := { maxStack := 1, maxLocals := 1, code := jdk_38_method_8_code, exceptionTable := #[], attributes := #[] }
def k11m3 : Method := { name := "size", desc := "()I", sig := { parameters := [], returnType := some .int }, accessFlags := 1, code := some k11c3 }
def k11c4 : Code := { maxStack := 1, maxLocals := 1, code := jdk_38_method_9_code, exceptionTable := #[], attributes := #[] }
def k11m4 : Method := { name := "isEmpty", desc := "()Z", sig := { parameters := [], returnType := some .boolean }, accessFlags := 1, code := some k11c4 }
def k11c5 : Code := { maxStack := 2, maxLocals := 1, code := jdk_38_method_16_code, exceptionTable := #[], attributes := #[] }
def k11m5 : Method := { name := "toArray", desc := "()[Ljava/lang/Object;", sig := { parameters := [], returnType := some (.array (.object "java/lang/Object")) }, accessFlags := 1, code := some k11c5 }
def k11c6 : Code := { maxStack := 2, maxLocals := 2, code := jdk_38_method_18_code, exceptionTable := #[], attributes := #[] }
def k11m6 : Method := { name := "elementData", desc := "(I)Ljava/lang/Object;", sig := { parameters := [.int], returnType := some (.object "java/lang/Object") }, accessFlags := 0, code := some k11c6 }
def k11c7 : Code := { maxStack := 2, maxLocals := 2, code := jdk_38_method_20_code, exceptionTable := #[], attributes := #[] }
def k11m7 : Method := { name := "get", desc := "(I)Ljava/lang/Object;", sig := { parameters := [.int], returnType := some (.object "java/lang/Object") }, accessFlags := 1, code := some k11c7 }
def k11c8 : Code := { maxStack := 3, maxLocals := 4, code := jdk_38_method_24_code, exceptionTable := #[], attributes := #[] }
def k11m8 : Method := { name := "add", desc := "(Ljava/lang/Object;[Ljava/lang/Object;I)V", sig := { parameters := [(.object "java/lang/Object"), (.array (.object "java/lang/Object")), .int], returnType := none }, accessFlags := 2, code := some k11c8 }
def k11c9 : Code := { maxStack := 4, maxLocals := 2, code := jdk_38_method_25_code, exceptionTable := #[], attributes := #[] }
def k11m9 : Method := { name := "add", desc := "(Ljava/lang/Object;)Z", sig := { parameters := [(.object "java/lang/Object")], returnType := some .boolean }, accessFlags := 1, code := some k11c9 }
/-- java/util/ArrayList -/
def k11 : Class := { plain "java/util/ArrayList" (some 7) with
  accessFlags := 33
  interfaces := #[6, 8, 9, 10]
  cf := some (fileOf pool11 10 #[.nestMembers #[290, 276, 500, 502, 262, 267]] #[{ accessFlags := 1, nameIndex := 5, descriptorIndex := 6, attributes := #[] }, { accessFlags := 2, nameIndex := 71, descriptorIndex := 72, attributes := #[] }, { accessFlags := 2, nameIndex := 71, descriptorIndex := 47, attributes := #[] }, { accessFlags := 1, nameIndex := 50, descriptorIndex := 186, attributes := #[] }, { accessFlags := 1, nameIndex := 363, descriptorIndex := 173, attributes := #[] }, { accessFlags := 1, nameIndex := 46, descriptorIndex := 47, attributes := #[] }, { accessFlags := 0, nameIndex := 13, descriptorIndex := 125, attributes := #[] }, { accessFlags := 1, nameIndex := 381, descriptorIndex := 125, attributes := #[] }, { accessFlags := 2, nameIndex := 133, descriptorIndex := 134, attributes := #[] }, { accessFlags := 1, nameIndex := 133, descriptorIndex := 96, attributes := #[] }] 33 2 #[148, 329, 331, 333] #[{ accessFlags := 26, nameIndex := 335, descriptorIndex := 336, attributes := #[] }, { accessFlags := 26, nameIndex := 340, descriptorIndex := 51, attributes := #[] }, { accessFlags := 26, nameIndex := 17, descriptorIndex := 14, attributes := #[] }, { accessFlags := 26, nameIndex := 41, descriptorIndex := 14, attributes := #[] }, { accessFlags := 128, nameIndex := 13, descriptorIndex := 14, attributes := #[] }, { accessFlags := 2, nameIndex := 50, descriptorIndex := 51, attributes := #[] }])
  fields := #[{ name := "serialVersionUID", type := .long, accessFlags := 26, slot := 0, constantValue := 0 }, { name := "DEFAULT_CAPACITY", type := .int, accessFlags := 26, slot := 1, constantValue := 0 }, { name := "EMPTY_ELEMENTDATA", type := (.array (.object "java/lang/Object")), accessFlags := 26, slot := 2, constantValue := 0 }, { name := "DEFAULTCAPACITY_EMPTY_ELEMENTDATA", type := (.array (.object "java/lang/Object")), accessFlags := 26, slot := 3, constantValue := 0 }, { name := "elementData", type := (.array (.object "java/lang/Object")), accessFlags := 128, slot := 1, constantValue := 0 }, { name := "size", type := .int, accessFlags := 2, slot := 2, constantValue := 0 }]
  methods := #[k11m0, k11m1, k11m2, k11m3, k11m4, k11m5, k11m6, k11m7, k11m8, k11m9]
  instanceTypes := #[.int, (.array (.object "java/lang/Object")), .int]
  staticTypes := #[.long, .int, (.array (.object "java/lang/Object")), (.array (.object "java/lang/Object"))]
  resolved := Array.replicate 509 none
  statics := some 0 }

def pool12 : Array CpInfo := pool [(1, .class_ 2), (0, u "java/lang/Comparable"), (0, .class_ 4), (0, u "java/lang/Object")] 7

/-- java/lang/Comparable -/
def k12 : Class := { plain "java/lang/Comparable" (some 0) with
  accessFlags := 1537
  interfaces := #[]
  cf := some (fileOf pool12 1 #[] #[] 1537 3 #[] #[])
  fields := #[]
  methods := #[]
  instanceTypes := #[]
  staticTypes := #[]
  resolved := Array.replicate 12 none
  statics := none }

def pool13 : Array CpInfo := pool [(2, .class_ 4), (1, u "java/lang/CharSequence"), (42, .class_ 48), (0, u "java/lang/CharSequence$1CodePointIterator"), (10, .class_ 60), (0, u "java/lang/CharSequence$1CharIterator"), (5, .class_ 67), (0, u "java/lang/Object")] 63

/-- java/lang/CharSequence -/
def k13 : Class := { plain "java/lang/CharSequence" (some 0) with
  accessFlags := 1537
  interfaces := #[]
  cf := some (fileOf pool13 2 #[.nestMembers #[47, 59]] #[] 1537 66 #[] #[])
  fields := #[]
  methods := #[]
  instanceTypes := #[]
  staticTypes := #[]
  resolved := Array.replicate 131 none
  statics := none }

def pool14 : Array CpInfo := pool [(1, .class_ 2), (0, u "java/lang/constant/Constable"), (0, .class_ 4), (0, u "java/lang/Object")] 6

/-- java/lang/constant/Constable -/
def k14 : Class := { plain "java/lang/constant/Constable" (some 0) with
  accessFlags := 1537
  interfaces := #[]
  cf := some (fileOf pool14 1 #[] #[] 1537 3 #[] #[])
  fields := #[]
  methods := #[]
  instanceTypes := #[]
  staticTypes := #[]
  resolved := Array.replicate 11 none
  statics := none }

def pool15 : Array CpInfo := pool [(1, .class_ 2), (0, u "java/lang/constant/ConstantDesc"), (0, .class_ 4), (0, u "java/lang/Object")] 32

/-- java/lang/constant/ConstantDesc -/
def k15 : Class := { plain "java/lang/constant/ConstantDesc" (some 0) with
  accessFlags := 1537
  interfaces := #[]
  cf := some (fileOf pool15 1 #[] #[] 1537 3 #[] #[])
  fields := #[]
  methods := #[]
  instanceTypes := #[]
  staticTypes := #[]
  resolved := Array.replicate 37 none
  statics := none }

def pool16 : Array CpInfo := pool [(1, .methodref 2 3), (0, .class_ 4), (0, .nameAndType 5 6), (0, u "java/lang/Object"), (0, u "<init>"), (0, u "()V"), (2, .fieldref 10 11), (0, .class_ 12), (0, .nameAndType 13 14), (0, u "java/lang/String"), (0, u "value"), (0, u "[B"), (0, .fieldref 10 16), (0, .nameAndType 17 18), (0, u "coder"), (0, u "B"), (2, u "hash"), (0, u "I"), (2, u "hashIsZero"), (0, u "Z"), (11, .fieldref 10 39), (0, .nameAndType 40 26), (0, u "COMPACT_STRINGS"), (12, u "toBytes"), (43, u "([BII)I"), (9, .class_ 109), (1, u "java/lang/StringLatin1"), (32, u "()Z"), (66, .methodref 10 210), (0, .nameAndType 5 211), (0, u "([BB)V"), (122, u "()I"), (0, .methodref 10 336), (0, .nameAndType 17 337), (0, u "()B"), (31, u "(C)Z"), (6, u "([BI[BII)I"), (115, .methodref 10 493), (0, .nameAndType 494 142), (0, u "isLatin1"), (10, .methodref 10 506), (0, .nameAndType 507 334), (0, u "length"), (5, u "checkFromToIndex"), (7, .methodref 10 522), (0, .nameAndType 523 524), (0, u "checkBoundsBeginEnd"), (0, u "(III)V"), (18, u "equals"), (15, .class_ 561), (1, u "jdk/internal/util/ArraysSupport"), (0, u "mismatch"), (10, u "(Ljava/lang/Object;)Z"), (1, .class_ 576), (0, u "java/lang/CharSequence"), (22, u "CASE_INSENSITIVE_ORDER"), (0, u "Ljava/util/Comparator;"), (6, .methodref 559 608), (0, .nameAndType 562 376), (15, .methodref 10 625), (0, .nameAndType 626 627), (0, u "startsWith"), (0, u "(Ljava/lang/String;I)Z"), (8, u "(II)I"), (4, .methodref 10 642), (0, .nameAndType 643 636), (0, u "lastIndexOf"), (0, .methodref 107 645), (0, .nameAndType 643 97), (35, .methodref 10 682), (0, .nameAndType 683 684), (0, u "substring"), (0, u "(II)Ljava/lang/String;"), (0, .methodref 107 686), (0, .nameAndType 687 688), (0, u "newString"), (0, u "([BII)Ljava/lang/String;"), (76, u "(I)I"), (16, u "valueOf"), (0, u "(C)Ljava/lang/String;"), (108, u "(I)Ljava/lang/String;"), (122, .methodref 107 1016), (0, .nameAndType 1017 369), (0, u "canEncode"), (0, .methodref 107 1019), (0, .nameAndType 53 1020), (0, u "(C)[B"), (32, .fieldref 1054 1055), (0, .class_ 1056), (0, .nameAndType 1057 1058), (0, u "jdk/internal/util/Preconditions"), (0, u "SIOOBE_FORMATTER"), (0, u "Ljava/util/function/BiFunction;"), (3, .methodref 1054 1063), (0, .nameAndType 513 1064), (0, u "(IIILjava/util/function/BiFunction;)I"), (36, u "serialPersistentFields"), (0, u "[Ljava/io/ObjectStreamField;"), (0, .class_ 1104), (0, u "java/lang/String$CaseInsensitiveComparator"), (1, .class_ 1107), (0, u "java/io/Serializable"), (0, .class_ 1109), (0, u "java/lang/Comparable"), (0, .class_ 1111), (0, u "java/lang/constant/Constable"), (0, .class_ 1113), (0, u "java/lang/constant/ConstantDesc"), (2, u "serialVersionUID"), (0, u "J"), (3, u "REPL"), (0, u "C"), (2, u "LATIN1"), (1, u "UTF16"), (129, u "(Ljava/lang/String;)Z"), (14, u "endsWith")] 178

def k16m0 : Method := { name := "<init>", desc := "()V", sig := { parameters := [], returnType := none }, accessFlags := 1, code := none }
def k16c1 : Code := { maxStack := 2, maxLocals := 1, code := jdk_42_method_54_code, exceptionTable := #[], attributes := #[] }
def k16m1 : Method := { name := "length", desc := "()I", sig := { parameters := [], returnType := some .int }, accessFlags := 1, code := some k16c1 }
def k16c2 : Code := { maxStack := 2, maxLocals := 3, code := jdk_42_method_66_code, exceptionTable := #[], attributes := #[] }
def k16m2 : Method := { name := "equals", desc := "(Ljava/lang/Object;)Z", sig := { parameters := [(.object "java/lang/Object")], returnType := some .boolean }, accessFlags := 1, code := some k16c2 }
def k16c3 : Code := { maxStack := 5, maxLocals := 8, code := jdk_42_method_75_code, exceptionTable := #[], attributes := #[] }
def k16m3 : Method := { name := "startsWith", desc := "(Ljava/lang/String;I)Z", sig := { parameters := [(.object "java/lang/String"), .int], returnType := some .boolean }, accessFlags := 1, code := some k16c3 }
def k16c4 : Code := { maxStack := 4, maxLocals := 2, code := jdk_42_method_77_code, exceptionTable := #[], attributes := #[] }
def k16m4 : Method := { name := "endsWith", desc := "(Ljava/lang/String;)Z", sig := { parameters := [(.object "java/lang/String")], returnType := some .boolean }, accessFlags := 1, code := some k16c4 }
def k16c5 : Code := { maxStack := 4, maxLocals := 2, code := jdk_42_method_82_code, exceptionTable := #[], attributes := #[] }
def k16m5 : Method := { name := "lastIndexOf", desc := "(I)I", sig := { parameters := [.int], returnType := some .int }, accessFlags := 1, code := some k16c5 }
def k16c6 : Code := { maxStack := 3, maxLocals := 3, code := jdk_42_method_83_code, exceptionTable := #[], attributes := #[] }
def k16m6 : Method := { name := "lastIndexOf", desc := "(II)I", sig := { parameters := [.int, .int], returnType := some .int }, accessFlags := 1, code := some k16c6 }
def k16c7 : Code := { maxStack := 3, maxLocals := 2, code := jdk_42_method_91_code, exceptionTable := #[], attributes := #[] }
def k16m7 : Method := { name := "substring", desc := "(I)Ljava/lang/String;", sig := { parameters := [.int], returnType := some (.object "java/lang/String") }, accessFlags := 1, code := some k16c7 }
def k16c8 : Code := { maxStack := 3, maxLocals := 5, code := jdk_42_method_92_code, exceptionTable := #[], attributes := #[] }
def k16m8 : Method := { name := "substring", desc := "(II)Ljava/lang/String;", sig := { parameters := [.int, .int], returnType := some (.object "java/lang/String") }, accessFlags := 1, code := some k16c8 }
def k16c9 : Code := { maxStack := 4, maxLocals := 1, code := jdk_42_method_139_code, exceptionTable := #[], attributes := #[] }
def k16m9 : Method := { name := "valueOf", desc := "(C)Ljava/lang/String;", sig := { parameters := [.char], returnType := some (.object "java/lang/String") }, accessFlags := 9, code := some k16c9 }
def k16c10 : Code := { maxStack := 2, maxLocals := 3, code := jdk_42_method_151_code, exceptionTable := #[], attributes := #[] }
def k16m10 : Method := { name := "<init>", desc := "([BB)V", sig := { parameters := [(.array .byte), .byte], returnType := none }, accessFlags := 0, code := some k16c10 }
def k16c11 : Code := { maxStack := 1, maxLocals := 1, code := jdk_42_method_152_code, exceptionTable := #[], attributes := #[] }
def k16m11 : Method := { name := "coder", desc := "()B", sig := { parameters := [], returnType := some .byte }, accessFlags := 0, code := some k16c11 }
def k16c12 : Code := { maxStack := 1, maxLocals := 1, code := jdk_42_method_154_code, exceptionTable := #[], attributes := #[] }
def k16m12 : Method := { name := "isLatin1", desc := "()Z", sig := { parameters := [], returnType := some .boolean }, accessFlags := 0, code := some k16c12 }
def k16c13 : Code := { maxStack := 4, maxLocals := 3, code := jdk_42_method_158_code, exceptionTable := #[], attributes := #[] }
def k16m13 : Method := { name := "checkBoundsBeginEnd", desc := "(III)V", sig := { parameters := [.int, .int, .int], returnType := none }, accessFlags := 8, code := some k16c13 }
/-- java/lang/String -/
def k16 : Class := { plain "java/lang/String" (some 0) with
  accessFlags := 49
  interfaces := #[10, 12, 13, 14, 15]
  cf := some (fileOf pool16 10 #[.nestMembers #[1103]] #[{ accessFlags := 1, nameIndex := 5, descriptorIndex := 6, attributes := #[] }, { accessFlags := 1, nameIndex := 507, descriptorIndex := 334, attributes := #[] }, { accessFlags := 1, nameIndex := 543, descriptorIndex := 573, attributes := #[] }, { accessFlags := 1, nameIndex := 626, descriptorIndex := 627, attributes := #[] }, { accessFlags := 1, nameIndex := 1272, descriptorIndex := 1257, attributes := #[] }, { accessFlags := 1, nameIndex := 643, descriptorIndex := 765, attributes := #[] }, { accessFlags := 1, nameIndex := 643, descriptorIndex := 636, attributes := #[] }, { accessFlags := 1, nameIndex := 683, descriptorIndex := 892, attributes := #[] }, { accessFlags := 1, nameIndex := 683, descriptorIndex := 684, attributes := #[] }, { accessFlags := 9, nameIndex := 782, descriptorIndex := 783, attributes := #[] }, { accessFlags := 0, nameIndex := 5, descriptorIndex := 211, attributes := #[] }, { accessFlags := 0, nameIndex := 17, descriptorIndex := 337, attributes := #[] }, { accessFlags := 0, nameIndex := 494, descriptorIndex := 142, attributes := #[] }, { accessFlags := 8, nameIndex := 523, descriptorIndex := 524, attributes := #[] }] 49 2 #[1106, 1108, 575, 1110, 1112] #[{ accessFlags := 18, nameIndex := 13, descriptorIndex := 14, attributes := #[] }, { accessFlags := 18, nameIndex := 17, descriptorIndex := 18, attributes := #[] }, { accessFlags := 2, nameIndex := 21, descriptorIndex := 22, attributes := #[] }, { accessFlags := 2, nameIndex := 25, descriptorIndex := 26, attributes := #[] }, { accessFlags := 26, nameIndex := 1116, descriptorIndex := 1117, attributes := #[] }, { accessFlags := 24, nameIndex := 40, descriptorIndex := 26, attributes := #[] }, { accessFlags := 26, nameIndex := 1101, descriptorIndex := 1102, attributes := #[] }, { accessFlags := 26, nameIndex := 1121, descriptorIndex := 1122, attributes := #[] }, { accessFlags := 25, nameIndex := 599, descriptorIndex := 600, attributes := #[] }, { accessFlags := 24, nameIndex := 1125, descriptorIndex := 18, attributes := #[] }, { accessFlags := 24, nameIndex := 1127, descriptorIndex := 18, attributes := #[] }])
  fields := #[{ name := "value", type := (.array .byte), accessFlags := 18, slot := 0, constantValue := 0 }, { name := "coder", type := .byte, accessFlags := 18, slot := 1, constantValue := 0 }, { name := "hash", type := .int, accessFlags := 2, slot := 2, constantValue := 0 }, { name := "hashIsZero", type := .boolean, accessFlags := 2, slot := 3, constantValue := 0 }, { name := "serialVersionUID", type := .long, accessFlags := 26, slot := 0, constantValue := 0 }, { name := "COMPACT_STRINGS", type := .boolean, accessFlags := 24, slot := 1, constantValue := 0 }, { name := "serialPersistentFields", type := (.array (.object "java/io/ObjectStreamField")), accessFlags := 26, slot := 2, constantValue := 0 }, { name := "REPL", type := .char, accessFlags := 26, slot := 3, constantValue := 0 }, { name := "CASE_INSENSITIVE_ORDER", type := (.object "java/util/Comparator"), accessFlags := 25, slot := 4, constantValue := 0 }, { name := "LATIN1", type := .byte, accessFlags := 24, slot := 5, constantValue := 0 }, { name := "UTF16", type := .byte, accessFlags := 24, slot := 6, constantValue := 0 }]
  methods := #[k16m0, k16m1, k16m2, k16m3, k16m4, k16m5, k16m6, k16m7, k16m8, k16m9, k16m10, k16m11, k16m12, k16m13]
  instanceTypes := #[(.array .byte), .byte, .int, .boolean]
  staticTypes := #[.long, .boolean, (.array (.object "java/io/ObjectStreamField")), .char, (.object "java/util/Comparator"), .byte, .byte]
  resolved := Array.replicate 1451 none
  statics := some 1 }

def pool17 : Array CpInfo := pool [(1, .class_ 2), (0, u "java/lang/String"), (1, .class_ 6), (1, u "java/lang/Object"), (0, u "<init>"), (0, u "()V"), (5, .class_ 16), (1, u "java/lang/StringLatin1"), (21, .methodref 39 40), (0, .class_ 41), (0, .nameAndType 42 43), (0, u "java/lang/Math"), (0, u "min"), (0, u "(II)I"), (44, .methodref 14 89), (0, .nameAndType 90 91), (0, u "canEncode"), (0, u "(I)Z"), (13, u "(C)Z"), (6, .methodref 1 113), (0, .nameAndType 7 114), (0, u "([BB)V"), (6, u "$assertionsDisabled"), (0, u "Z"), (8, .class_ 133), (1, u "java/util/Arrays"), (62, u "newString"), (0, u "([BII)Ljava/lang/String;"), (23, .class_ 223), (1, u "java/lang/StringLatin1$LinesSpliterator"), (8, .methodref 131 233), (0, .nameAndType 234 235), (0, u "copyOfRange"), (0, u "([BII)[B"), (25, u "([BII)I"), (47, u "lastIndexOf"), (70, u "toBytes"), (1, u "(C)[B"), (7, .class_ 391), (0, u "java/lang/StringLatin1$CharsSpliterator")] 3

def k17m0 : Method := { name := "<init>", desc := "()V", sig := { parameters := [], returnType := none }, accessFlags := 0, code := none }
def k17c1 : Code := { maxStack := 2, maxLocals := 1, code := jdk_43_method_3_code, exceptionTable := #[], attributes := #[] }
def k17m1 : Method := { name := "canEncode", desc := "(C)Z", sig := { parameters := [.char], returnType := some .boolean }, accessFlags := 9, code := some k17c1 }
def k17c2 : Code := { maxStack := 2, maxLocals := 1, code := jdk_43_method_4_code, exceptionTable := #[], attributes := #[] }
def k17m2 : Method := { name := "canEncode", desc := "(I)Z", sig := { parameters := [.int], returnType := some .boolean }, accessFlags := 9, code := some k17c2 }
def k17c3 : Code := { maxStack := 3, maxLocals := 4, code := jdk_43_method_27_code, exceptionTable := #[], attributes := #[] }
def k17m3 : Method := { name := "lastIndexOf", desc := "([BII)I", sig := { parameters := [(.array .byte), .int, .int], returnType := some .int }, accessFlags := 9, code := some k17c3 }
def k17c4 : Code := { maxStack := 4, maxLocals := 1, code := jdk_43_method_46_code, exceptionTable := #[], attributes := #[] }
def k17m4 : Method := { name := "toBytes", desc := "(C)[B", sig := { parameters := [.char], returnType := some (.array .byte) }, accessFlags := 9, code := some k17c4 }
def k17c5 : Code := { maxStack := 6, maxLocals := 3, code := jdk_43_method_47_code, exceptionTable := #[], attributes := #[] }
def k17m5 : Method := { name := "newString", desc := "([BII)Ljava/lang/String;", sig := { parameters := [(.array .byte), .int, .int], returnType := some (.object "java/lang/String") }, accessFlags := 9, code := some k17c5 }
/-- java/lang/StringLatin1 -/
def k17 : Class := { plain "java/lang/StringLatin1" (some 0) with
  accessFlags := 48
  interfaces := #[]
  cf := some (fileOf pool17 14 #[.nestMembers #[390, 221]] #[{ accessFlags := 0, nameIndex := 7, descriptorIndex := 8, attributes := #[] }, { accessFlags := 9, nameIndex := 90, descriptorIndex := 105, attributes := #[] }, { accessFlags := 9, nameIndex := 90, descriptorIndex := 91, attributes := #[] }, { accessFlags := 9, nameIndex := 309, descriptorIndex := 261, attributes := #[] }, { accessFlags := 9, nameIndex := 380, descriptorIndex := 382, attributes := #[] }, { accessFlags := 9, nameIndex := 196, descriptorIndex := 197, attributes := #[] }] 48 4 #[] #[{ accessFlags := 4120, nameIndex := 121, descriptorIndex := 122, attributes := #[] }])
  fields := #[{ name := "$assertionsDisabled", type := .boolean, accessFlags := 4120, slot := 0, constantValue := 0 }]
  methods := #[k17m0, k17m1, k17m2, k17m3, k17m4, k17m5]
  instanceTypes := #[]
  staticTypes := #[.boolean]
  resolved := Array.replicate 395 none
  statics := none }

def pool18 : Array CpInfo := pool [(1, .class_ 2), (0, u "java/lang/Math"), (1, .class_ 6), (1, u "java/lang/Object"), (0, u "<init>"), (0, u "()V"), (89, .class_ 100), (1, u "java/lang/Math$RandomNumberGeneratorHolder"), (71, u "negativeZeroFloatBits"), (0, u "J"), (2, u "negativeZeroDoubleBits"), (21, u "max"), (2, u "min"), (43, u "$assertionsDisabled"), (0, u "Z"), (88, u "(II)I"), (2, u "twoToTheDoubleScaleDown"), (0, u "D"), (4, u "twoToTheDoubleScaleUp"), (9, u "E"), (3, u "PI"), (2, u "TAU"), (2, u "DEGREES_TO_RADIANS"), (0, u "RADIANS_TO_DEGREES")] 94

def k18m0 : Method := { name := "<init>", desc := "()V", sig := { parameters := [], returnType := none }, accessFlags := 2, code := none }
def k18c1 : Code := { maxStack := 2, maxLocals := 2, code := jdk_29_method_65_code, exceptionTable := #[], attributes := #[] }
def k18m1 : Method := { name := "max", desc := "(II)I", sig := { parameters := [.int, .int], returnType := some .int }, accessFlags := 9, code := some k18c1 }
def k18c2 : Code := { maxStack := 2, maxLocals := 2, code := jdk_29_method_69_code, exceptionTable := #[], attributes := #[] }
def k18m2 : Method := { name := "min", desc := "(II)I", sig := { parameters := [.int, .int], returnType := some .int }, accessFlags := 9, code := some k18c2 }
/-- java/lang/Math -/
def k18 : Class := { plain "java/lang/Math" (some 0) with
  accessFlags := 49
  interfaces := #[]
  cf := some (fileOf pool18 1 #[.nestMembers #[98]] #[{ accessFlags := 2, nameIndex := 7, descriptorIndex := 8, attributes := #[] }, { accessFlags := 9, nameIndex := 198, descriptorIndex := 335, attributes := #[] }, { accessFlags := 9, nameIndex := 201, descriptorIndex := 335, attributes := #[] }] 49 4 #[] #[{ accessFlags := 25, nameIndex := 354, descriptorIndex := 339, attributes := #[] }, { accessFlags := 25, nameIndex := 358, descriptorIndex := 339, attributes := #[] }, { accessFlags := 25, nameIndex := 361, descriptorIndex := 339, attributes := #[] }, { accessFlags := 26, nameIndex := 364, descriptorIndex := 339, attributes := #[] }, { accessFlags := 26, nameIndex := 365, descriptorIndex := 339, attributes := #[] }, { accessFlags := 26, nameIndex := 172, descriptorIndex := 173, attributes := #[] }, { accessFlags := 26, nameIndex := 176, descriptorIndex := 173, attributes := #[] }, { accessFlags := 8, nameIndex := 344, descriptorIndex := 339, attributes := #[] }, { accessFlags := 8, nameIndex := 338, descriptorIndex := 339, attributes := #[] }, { accessFlags := 4120, nameIndex := 245, descriptorIndex := 246, attributes := #[] }])
  fields := #[{ name := "E", type := .double, accessFlags := 25, slot := 0, constantValue := 0 }, { name := "PI", type := .double, accessFlags := 25, slot := 1, constantValue := 0 }, { name := "TAU", type := .double, accessFlags := 25, slot := 2, constantValue := 0 }, { name := "DEGREES_TO_RADIANS", type := .double, accessFlags := 26, slot := 3, constantValue := 0 }, { name := "RADIANS_TO_DEGREES", type := .double, accessFlags := 26, slot := 4, constantValue := 0 }, { name := "negativeZeroFloatBits", type := .long, accessFlags := 26, slot := 5, constantValue := 0 }, { name := "negativeZeroDoubleBits", type := .long, accessFlags := 26, slot := 6, constantValue := 0 }, { name := "twoToTheDoubleScaleUp", type := .double, accessFlags := 8, slot := 7, constantValue := 0 }, { name := "twoToTheDoubleScaleDown", type := .double, accessFlags := 8, slot := 8, constantValue := 0 }, { name := "$assertionsDisabled", type := .boolean, accessFlags := 4120, slot := 9, constantValue := 0 }]
  methods := #[k18m0, k18m1, k18m2]
  instanceTypes := #[]
  staticTypes := #[.double, .double, .double, .double, .double, .long, .long, .double, .double, .boolean]
  resolved := Array.replicate 460 none
  statics := none }

def pool19 : Array CpInfo := pool [(3, .methodref 4 5), (0, .class_ 6), (0, .nameAndType 7 8), (0, u "java/lang/Object"), (0, u "<init>"), (0, u "()V"), (0, .class_ 10), (0, u "java/util/LinkedHashMap"), (0, .methodref 9 5), (0, .fieldref 13 14), (0, .class_ 15), (0, .nameAndType 16 17), (0, u "com/example/graftwork/graftwork/ElementDefinition"), (0, u "children"), (0, u "Ljava/util/Map;"), (0, .class_ 19), (0, u "java/util/ArrayList"), (0, .methodref 18 5), (0, .fieldref 13 22), (0, .nameAndType 23 24), (0, u "choices"), (0, u "Ljava/util/List;"), (0, .fieldref 13 26), (0, .nameAndType 27 28), (0, u "path"), (0, u "Ljava/lang/String;"), (0, .methodref 30 31), (0, .class_ 32), (0, .nameAndType 33 34), (0, u "java/lang/String"), (0, u "lastIndexOf"), (0, u "(I)I"), (0, .methodref 30 36), (0, .nameAndType 37 38), (0, u "substring"), (0, u "(I)Ljava/lang/String;"), (0, .string 40), (0, u "[x]"), (0, .methodref 30 42), (0, .nameAndType 43 44), (0, u "endsWith"), (0, u "(Ljava/lang/String;)Z"), (0, .fieldref 13 46), (0, .nameAndType 47 48), (0, u "choice"), (0, u "Z"), (0, .methodref 30 50), (0, .nameAndType 51 52), (0, u "length"), (0, u "()I"), (0, .methodref 30 54), (0, .nameAndType 37 55), (0, u "(II)Ljava/lang/String;"), (0, .fieldref 13 57), (0, .nameAndType 58 28), (0, u "name"), (0, .fieldref 13 60), (0, .nameAndType 61 62), (0, u "min"), (0, u "I"), (0, .fieldref 13 64), (0, .nameAndType 65 62), (0, u "max"), (0, .interfaceMethodref 67 68), (0, .class_ 69), (0, .nameAndType 70 71), (0, u "java/util/List"), (0, u "copyOf"), (0, u "(Ljava/util/Collection;)Ljava/util/List;"), (0, .fieldref 13 73), (0, .nameAndType 74 24), (0, u "types"), (0, .fieldref 13 76), (0, .nameAndType 77 78), (0, u "reused"), (0, u "Lcom/example/graftwork/graftwork/ElementDefinition;"), (0, .methodref 13 80), (0, .nameAndType 74 81), (0, u "()Ljava/util/List;"), (25, .class_ 108), (0, u "com/example/graftwork/graftwork/ElementDefinition$Member"), (64, u "UNBOUNDED"), (2, u "CHOICE_ENDING"), (4, u "(Ljava/lang/String;IILjava/util/List;)V"), (8, u "(Lcom/example/graftwork/graftwork/ElementDefinition;)V"), (0, u "reuse")] 20

def k19c0 : Code := { maxStack := 5, maxLocals := 6, code := prog_6_method_1_code, exceptionTable := #[], attributes := #[] }
def k19m0 : Method := { name := "<init>", desc := "(Ljava/lang/String;IILjava/util/List;)V", sig := { parameters := [(.object "java/lang/String"), .int, .int, (.object "java/util/List")], returnType := none }, accessFlags := 0, code := some k19c0 }
def k19c1 : Code := { maxStack := 1, maxLocals := 1, code := prog_6_method_6_code, exceptionTable := #[], attributes := #[] }
def k19m1 : Method := { name := "types", desc := "()Ljava/util/List;", sig := { parameters := [], returnType := some (.object "java/util/List") }, accessFlags := 0, code := some k19c1 }
def k19c2 : Code := { maxStack := 2, maxLocals := 2, code := prog_6_method_13_code, exceptionTable := #[], attributes := #[] }
def k19m2 : Method := { name := "reuse", desc := "(Lcom/example/graftwork/graftwork/ElementDefinition;)V", sig := { parameters := [(.object "com/example/graftwork/graftwork/ElementDefinition")], returnType := none }, accessFlags := 0, code := some k19c2 }
/-- com/example/graftwork/graftwork/ElementDefinition -/
def k19 : Class := { plain "com/example/graftwork/graftwork/ElementDefinition" (some 0) with
  accessFlags := 48
  interfaces := #[]
  cf := some (fileOf pool19 13 #[.nestMembers #[107]] #[{ accessFlags := 0, nameIndex := 7, descriptorIndex := 181, attributes := #[] }, { accessFlags := 0, nameIndex := 74, descriptorIndex := 81, attributes := #[] }, { accessFlags := 0, nameIndex := 191, descriptorIndex := 190, attributes := #[] }] 48 4 #[] #[{ accessFlags := 24, nameIndex := 173, descriptorIndex := 62, attributes := #[] }, { accessFlags := 26, nameIndex := 176, descriptorIndex := 28, attributes := #[] }, { accessFlags := 18, nameIndex := 27, descriptorIndex := 28, attributes := #[] }, { accessFlags := 18, nameIndex := 58, descriptorIndex := 28, attributes := #[] }, { accessFlags := 18, nameIndex := 47, descriptorIndex := 48, attributes := #[] }, { accessFlags := 18, nameIndex := 61, descriptorIndex := 62, attributes := #[] }, { accessFlags := 18, nameIndex := 65, descriptorIndex := 62, attributes := #[] }, { accessFlags := 18, nameIndex := 74, descriptorIndex := 24, attributes := #[] }, { accessFlags := 18, nameIndex := 16, descriptorIndex := 17, attributes := #[] }, { accessFlags := 18, nameIndex := 23, descriptorIndex := 24, attributes := #[] }, { accessFlags := 2, nameIndex := 77, descriptorIndex := 78, attributes := #[] }])
  fields := #[{ name := "UNBOUNDED", type := .int, accessFlags := 24, slot := 0, constantValue := 0 }, { name := "CHOICE_ENDING", type := (.object "java/lang/String"), accessFlags := 26, slot := 1, constantValue := 0 }, { name := "path", type := (.object "java/lang/String"), accessFlags := 18, slot := 0, constantValue := 0 }, { name := "name", type := (.object "java/lang/String"), accessFlags := 18, slot := 1, constantValue := 0 }, { name := "choice", type := .boolean, accessFlags := 18, slot := 2, constantValue := 0 }, { name := "min", type := .int, accessFlags := 18, slot := 3, constantValue := 0 }, { name := "max", type := .int, accessFlags := 18, slot := 4, constantValue := 0 }, { name := "types", type := (.object "java/util/List"), accessFlags := 18, slot := 5, constantValue := 0 }, { name := "children", type := (.object "java/util/Map"), accessFlags := 18, slot := 6, constantValue := 0 }, { name := "choices", type := (.object "java/util/List"), accessFlags := 18, slot := 7, constantValue := 0 }, { name := "reused", type := (.object "com/example/graftwork/graftwork/ElementDefinition"), accessFlags := 2, slot := 8, constantValue := 0 }]
  methods := #[k19m0, k19m1, k19m2]
  instanceTypes := #[(.object "java/lang/String"), (.object "java/lang/String"), .boolean, .int, .int, (.object "java/util/List"), (.object "java/util/Map"), (.object "java/util/List"), (.object "com/example/graftwork/graftwork/ElementDefinition")]
  staticTypes := #[.int, (.object "java/lang/String")]
  resolved := Array.replicate 212 none
  statics := none }

def pool20 : Array CpInfo := pool [(2, .class_ 4), (1, u "java/util/Map"), (31, .class_ 37), (0, u "java/util/Map$Entry"), (55, .class_ 94), (0, u "java/lang/Object")] 168

/-- java/util/Map -/
def k20 : Class := { plain "java/util/Map" (some 0) with
  accessFlags := 1537
  interfaces := #[]
  cf := some (fileOf pool20 2 #[.nestMembers #[36]] #[] 1537 93 #[] #[])
  fields := #[]
  methods := #[]
  instanceTypes := #[]
  staticTypes := #[]
  resolved := Array.replicate 263 none
  statics := none }

def pool21 : Array CpInfo := pool [(1, .methodref 2 3), (0, .class_ 4), (0, .nameAndType 5 6), (0, u "java/lang/Object"), (0, u "<init>"), (0, u "()V"), (1, .class_ 10), (1, u "java/util/AbstractMap"), (42, .class_ 54), (0, u "java/util/Map"), (9, u "keySet"), (0, u "Ljava/util/Set;"), (0, .class_ 67), (0, u "java/util/AbstractMap$1"), (5, u "values"), (0, u "Ljava/util/Collection;"), (0, .class_ 76), (0, u "java/util/AbstractMap$2"), (104, .class_ 182), (0, u "java/util/AbstractMap$ViewCollection"), (0, .class_ 184), (0, u "java/util/AbstractMap$SimpleImmutableEntry"), (0, .class_ 186), (0, u "java/util/AbstractMap$SimpleEntry"), (0, .class_ 188), (0, u "java/util/AbstractMap$2$1"), (0, .class_ 190), (0, u "java/util/AbstractMap$1$1")] 5

def k21c0 : Code := { maxStack := 1, maxLocals := 1, code := jdk_71_method_1_code, exceptionTable := #[], attributes := #[] }
def k21m0 : Method := { name := "<init>", desc := "()V", sig := { parameters := [], returnType := none }, accessFlags := 4, code := some k21c0 }
/-- java/util/AbstractMap -/
def k21 : Class := { plain "java/util/AbstractMap" (some 0) with
  accessFlags := 1057
  interfaces := #[20]
  cf := some (fileOf pool21 8 #[.nestMembers #[181, 183, 185, 75, 187, 66, 189]] #[{ accessFlags := 4, nameIndex := 5, descriptorIndex := 6, attributes := #[] }] 1057 2 #[53] #[{ accessFlags := 128, nameIndex := 64, descriptorIndex := 65, attributes := #[] }, { accessFlags := 128, nameIndex := 73, descriptorIndex := 74, attributes := #[] }])
  fields := #[{ name := "keySet", type := (.object "java/util/Set"), accessFlags := 128, slot := 0, constantValue := 0 }, { name := "values", type := (.object "java/util/Collection"), accessFlags := 128, slot := 1, constantValue := 0 }]
  methods := #[k21m0]
  instanceTypes := #[(.object "java/util/Set"), (.object "java/util/Collection")]
  staticTypes := #[]
  resolved := Array.replicate 196 none
  statics := none }

def pool22 : Array CpInfo := pool [(40, .class_ 41), (0, u "java/util/HashMap"), (1, .methodref 44 45), (0, .class_ 46), (0, .nameAndType 47 48), (0, u "java/util/AbstractMap"), (0, u "<init>"), (0, u "()V"), (32, .fieldref 40 82), (0, .nameAndType 83 84), (0, u "loadFactor"), (0, u "F"), (5, u "threshold"), (0, u "I"), (0, .float 1061158912), (8, .class_ 103), (1, u "java/util/Map"), (0, u "size"), (2, u "table"), (0, u "[Ljava/util/HashMap$Node;"), (14, u "entrySet"), (39, .class_ 165), (1, u "java/util/HashMap$Node"), (14, .class_ 181), (0, u "java/util/HashMap$TreeNode"), (22, u "modCount"), (37, u "Ljava/util/Set;"), (0, .class_ 244), (0, u "java/util/HashMap$KeySet"), (18, .class_ 264), (0, u "java/util/HashMap$Values"), (3, .class_ 269), (0, u "java/util/HashMap$EntrySet"), (76, .class_ 348), (1, u "java/util/HashMap$UnsafeHolder"), (43, .class_ 393), (0, u "java/lang/Cloneable"), (0, .class_ 395), (0, u "java/io/Serializable"), (0, u "serialVersionUID"), (0, u "J"), (3, u "DEFAULT_INITIAL_CAPACITY"), (1, u "MAXIMUM_CAPACITY"), (0, u "DEFAULT_LOAD_FACTOR"), (0, u "TREEIFY_THRESHOLD"), (1, u "UNTREEIFY_THRESHOLD"), (1, u "MIN_TREEIFY_CAPACITY"), (186, .class_ 597), (0, u "java/util/HashMap$EntrySpliterator"), (0, .class_ 599), (0, u "java/util/HashMap$ValueSpliterator"), (0, .class_ 601), (0, u "java/util/HashMap$KeySpliterator"), (0, .class_ 603), (0, u "java/util/HashMap$HashMapSpliterator"), (0, .class_ 605), (0, u "java/util/HashMap$EntryIterator"), (0, .class_ 607), (0, u "java/util/HashMap$ValueIterator"), (0, .class_ 609), (0, u "java/util/HashMap$KeyIterator"), (0, .class_ 611), (0, u "java/util/HashMap$HashIterator")] 17

def k22c0 : Code := { maxStack := 2, maxLocals := 1, code := jdk_69_method_7_code, exceptionTable := #[], attributes := #[] }
def k22m0 : Method := { name := "<init>", desc := "()V", sig := { parameters := [], returnType := none }, accessFlags := 1, code := some k22c0 }
/-- java/util/HashMap -/
def k22 : Class := { plain "java/util/HashMap" (some 21) with
  accessFlags := 33
  interfaces := #[20, 9, 10]
  cf := some (fileOf pool22 40 #[.nestMembers #[180, 596, 598, 600, 602, 604, 606, 608, 610, 346, 268, 263, 243, 163]] #[{ accessFlags := 1, nameIndex := 47, descriptorIndex := 48, attributes := #[] }] 33 44 #[101, 392, 394] #[{ accessFlags := 26, nameIndex := 396, descriptorIndex := 397, attributes := #[] }, { accessFlags := 24, nameIndex := 401, descriptorIndex := 91, attributes := #[] }, { accessFlags := 24, nameIndex := 403, descriptorIndex := 91, attributes := #[] }, { accessFlags := 24, nameIndex := 404, descriptorIndex := 84, attributes := #[] }, { accessFlags := 24, nameIndex := 405, descriptorIndex := 91, attributes := #[] }, { accessFlags := 24, nameIndex := 407, descriptorIndex := 91, attributes := #[] }, { accessFlags := 24, nameIndex := 409, descriptorIndex := 91, attributes := #[] }, { accessFlags := 128, nameIndex := 107, descriptorIndex := 108, attributes := #[] }, { accessFlags := 128, nameIndex := 123, descriptorIndex := 242, attributes := #[] }, { accessFlags := 128, nameIndex := 104, descriptorIndex := 91, attributes := #[] }, { accessFlags := 128, nameIndex := 204, descriptorIndex := 91, attributes := #[] }, { accessFlags := 0, nameIndex := 90, descriptorIndex := 91, attributes := #[] }, { accessFlags := 16, nameIndex := 83, descriptorIndex := 84, attributes := #[] }])
  fields := #[{ name := "serialVersionUID", type := .long, accessFlags := 26, slot := 0, constantValue := 0 }, { name := "DEFAULT_INITIAL_CAPACITY", type := .int, accessFlags := 24, slot := 1, constantValue := 0 }, { name := "MAXIMUM_CAPACITY", type := .int, accessFlags := 24, slot := 2, constantValue := 0 }, { name := "DEFAULT_LOAD_FACTOR", type := .float, accessFlags := 24, slot := 3, constantValue := 0 }, { name := "TREEIFY_THRESHOLD", type := .int, accessFlags := 24, slot := 4, constantValue := 0 }, { name := "UNTREEIFY_THRESHOLD", type := .int, accessFlags := 24, slot := 5, constantValue := 0 }, { name := "MIN_TREEIFY_CAPACITY", type := .int, accessFlags := 24, slot := 6, constantValue := 0 }, { name := "table", type := (.array (.object "java/util/HashMap$Node")), accessFlags := 128, slot := 2, constantValue := 0 }, { name := "entrySet", type := (.object "java/util/Set"), accessFlags := 128, slot := 3, constantValue := 0 }, { name := "size", type := .int, accessFlags := 128, slot := 4, constantValue := 0 }, { name := "modCount", type := .int, accessFlags := 128, slot := 5, constantValue := 0 }, { name := "threshold", type := .int, accessFlags := 0, slot := 6, constantValue := 0 }, { name := "loadFactor", type := .float, accessFlags := 16, slot := 7, constantValue := 0 }]
  methods := #[k22m0]
  instanceTypes := #[(.object "java/util/Set"), (.object "java/util/Collection"), (.array (.object "java/util/HashMap$Node")), (.object "java/util/Set"), .int, .int, .int, .float]
  staticTypes := #[.long, .int, .int, .float, .int, .int, .int]
  resolved := Array.replicate 629 none
  statics := none }

def pool23 : Array CpInfo := pool [(2, .class_ 4), (1, u "java/util/SequencedMap"), (38, .class_ 44), (0, u "java/util/SequencedMap$1SeqKeySet"), (3, .class_ 49), (0, u "java/util/SequencedMap$1SeqValues"), (1, .class_ 52), (0, u "java/util/SequencedMap$1SeqEntrySet"), (1, .class_ 55), (0, u "java/lang/Object"), (0, .class_ 57), (0, u "java/util/Map")] 48

/-- java/util/SequencedMap -/
def k23 : Class := { plain "java/util/SequencedMap" (some 0) with
  accessFlags := 1537
  interfaces := #[20]
  cf := some (fileOf pool23 2 #[.nestMembers #[51, 48, 43]] #[] 1537 54 #[56] #[])
  fields := #[]
  methods := #[]
  instanceTypes := #[]
  staticTypes := #[]
  resolved := Array.replicate 106 none
  statics := none }

def pool24 : Array CpInfo := pool [(1, .fieldref 2 3), (0, .class_ 4), (0, .nameAndType 5 6), (0, u "java/util/LinkedHashMap"), (0, u "putMode"), (0, u "I"), (2, u "head"), (0, u "Ljava/util/LinkedHashMap$Entry;"), (2, u "tail"), (1, .class_ 17), (1, u "java/util/LinkedHashMap$Entry"), (5, .class_ 25), (1, u "java/util/HashMap"), (1, u "()V"), (2, u "<init>"), (33, .fieldref 2 65), (0, .nameAndType 66 67), (0, u "accessOrder"), (0, u "Z"), (19, .methodref 23 88), (0, .nameAndType 30 27), (32, .class_ 122), (0, u "java/util/LinkedHashMap$LinkedKeySet"), (20, .class_ 144), (0, u "java/util/LinkedHashMap$LinkedValues"), (9, .class_ 155), (0, u "java/util/LinkedHashMap$LinkedEntrySet"), (44, .class_ 201), (0, u "java/util/LinkedHashMap$ReversedLinkedHashMapView"), (3, .class_ 206), (0, u "java/util/SequencedMap"), (0, u "serialVersionUID"), (0, u "J"), (5, u "PUT_NORM"), (1, u "PUT_FIRST"), (1, u "PUT_LAST"), (143, .class_ 363), (0, u "java/util/LinkedHashMap$LinkedEntryIterator"), (0, .class_ 365), (0, u "java/util/LinkedHashMap$LinkedValueIterator"), (0, .class_ 367), (0, u "java/util/LinkedHashMap$LinkedKeyIterator"), (0, .class_ 369), (0, u "java/util/LinkedHashMap$LinkedHashIterator")] 16

def k24c0 : Code := { maxStack := 2, maxLocals := 1, code := jdk_94_method_16_code, exceptionTable := #[], attributes := #[] }
def k24m0 : Method := { name := "<init>", desc := "()V", sig := { parameters := [], returnType := none }, accessFlags := 1, code := some k24c0 }
/-- java/util/LinkedHashMap -/
def k24 : Class := { plain "java/util/LinkedHashMap" (some 22) with
  accessFlags := 33
  interfaces := #[23]
  cf := some (fileOf pool24 2 #[.nestMembers #[200, 362, 364, 366, 368, 154, 143, 121, 15]] #[{ accessFlags := 1, nameIndex := 30, descriptorIndex := 27, attributes := #[] }] 33 23 #[205] #[{ accessFlags := 26, nameIndex := 207, descriptorIndex := 208, attributes := #[] }, { accessFlags := 128, nameIndex := 9, descriptorIndex := 10, attributes := #[] }, { accessFlags := 128, nameIndex := 13, descriptorIndex := 10, attributes := #[] }, { accessFlags := 16, nameIndex := 66, descriptorIndex := 67, attributes := #[] }, { accessFlags := 24, nameIndex := 214, descriptorIndex := 6, attributes := #[] }, { accessFlags := 24, nameIndex := 216, descriptorIndex := 6, attributes := #[] }, { accessFlags := 24, nameIndex := 218, descriptorIndex := 6, attributes := #[] }, { accessFlags := 128, nameIndex := 5, descriptorIndex := 6, attributes := #[] }])
  fields := #[{ name := "serialVersionUID", type := .long, accessFlags := 26, slot := 0, constantValue := 0 }, { name := "head", type := (.object "java/util/LinkedHashMap$Entry"), accessFlags := 128, slot := 8, constantValue := 0 }, { name := "tail", type := (.object "java/util/LinkedHashMap$Entry"), accessFlags := 128, slot := 9, constantValue := 0 }, { name := "accessOrder", type := .boolean, accessFlags := 16, slot := 10, constantValue := 0 }, { name := "PUT_NORM", type := .int, accessFlags := 24, slot := 1, constantValue := 0 }, { name := "PUT_FIRST", type := .int, accessFlags := 24, slot := 2, constantValue := 0 }, { name := "PUT_LAST", type := .int, accessFlags := 24, slot := 3, constantValue := 0 }, { name := "putMode", type := .int, accessFlags := 128, slot := 11, constantValue := 0 }]
  methods := #[k24m0]
  instanceTypes := #[(.object "java/util/Set"), (.object "java/util/Collection"), (.array (.object "java/util/HashMap$Node")), (.object "java/util/Set"), .int, .int, .int, .float, (.object "java/util/LinkedHashMap$Entry"), (.object "java/util/LinkedHashMap$Entry"), .boolean, .int]
  staticTypes := #[.long, .int, .int, .int]
  resolved := Array.replicate 386 none
  statics := none }

def pool25 : Array CpInfo := pool [(2, .class_ 4), (1, u "java/lang/Object"), (0, u "<init>"), (0, u "()V"), (17, .class_ 26), (1, u "jdk/internal/util/Preconditions"), (6, u "checkIndex"), (13, u "checkFromToIndex"), (7, .class_ 56), (0, u "jdk/internal/util/Preconditions$4"), (57, .class_ 115), (0, u "jdk/internal/util/Preconditions$1"), (7, u "SIOOBE_FORMATTER"), (0, u "Ljava/util/function/BiFunction;"), (0, .class_ 126), (0, u "jdk/internal/util/Preconditions$2"), (3, u "AIOOBE_FORMATTER"), (0, .class_ 132), (0, u "jdk/internal/util/Preconditions$3"), (3, u "IOOBE_FORMATTER"), (41, u "(IILjava/util/function/BiFunction;)I"), (4, u "(IIILjava/util/function/BiFunction;)I")] 10

def k25m0 : Method := { name := "<init>", desc := "()V", sig := { parameters := [], returnType := none }, accessFlags := 1, code := none }
def k25c1 : Code := { maxStack := 3, maxLocals := 3, code := jdk_41_method_11_code, exceptionTable := #[], attributes := #[] }
def k25m1 : Method := { name := "checkIndex", desc := "(IILjava/util/function/BiFunction;)I", sig := { parameters := [.int, .int, (.object "java/util/function/BiFunction")], returnType := some .int }, accessFlags := 9, code := some k25c1 }
def k25c2 : Code := { maxStack := 4, maxLocals := 4, code := jdk_41_method_12_code, exceptionTable := #[], attributes := #[] }
def k25m2 : Method := { name := "checkFromToIndex", desc := "(IIILjava/util/function/BiFunction;)I", sig := { parameters := [.int, .int, .int, (.object "java/util/function/BiFunction")], returnType := some .int }, accessFlags := 9, code := some k25c2 }
/-- jdk/internal/util/Preconditions -/
def k25 : Class := { plain "jdk/internal/util/Preconditions" (some 0) with
  accessFlags := 33
  interfaces := #[]
  cf := some (fileOf pool25 24 #[.nestMembers #[55, 131, 125, 114]] #[{ accessFlags := 1, nameIndex := 5, descriptorIndex := 6, attributes := #[] }, { accessFlags := 9, nameIndex := 33, descriptorIndex := 178, attributes := #[] }, { accessFlags := 9, nameIndex := 47, descriptorIndex := 183, attributes := #[] }] 33 2 #[] #[{ accessFlags := 25, nameIndex := 123, descriptorIndex := 124, attributes := #[] }, { accessFlags := 25, nameIndex := 130, descriptorIndex := 124, attributes := #[] }, { accessFlags := 25, nameIndex := 136, descriptorIndex := 124, attributes := #[] }])
  fields := #[{ name := "SIOOBE_FORMATTER", type := (.object "java/util/function/BiFunction"), accessFlags := 25, slot := 0, constantValue := 0 }, { name := "AIOOBE_FORMATTER", type := (.object "java/util/function/BiFunction"), accessFlags := 25, slot := 1, constantValue := 0 }, { name := "IOOBE_FORMATTER", type := (.object "java/util/function/BiFunction"), accessFlags := 25, slot := 2, constantValue := 0 }]
  methods := #[k25m0, k25m1, k25m2]
  instanceTypes := #[]
  staticTypes := #[(.object "java/util/function/BiFunction"), (.object "java/util/function/BiFunction"), (.object "java/util/function/BiFunction")]
  resolved := Array.replicate 194 none
  statics := some 2 }

def pool26 : Array CpInfo := pool [(2, .class_ 4), (1, u "java/lang/Object"), (0, u "<init>"), (0, u "()V"), (7, .class_ 16), (1, u "java/util/Arrays"), (57, .class_ 76), (1, u "java/util/Arrays$NaturalOrder"), (9, .methodref 2 87), (0, .nameAndType 88 89), (0, u "getClass"), (0, u "()Ljava/lang/Class;"), (20, .class_ 111), (0, u "[Ljava/lang/Object;"), (1, .class_ 115), (1, u "java/util/Arrays$LegacyMergeSort"), (1, u "Z"), (21, u "copyOfRange"), (10, .methodref 151 152), (0, .class_ 153), (0, .nameAndType 154 155), (0, u "java/lang/System"), (0, u "arraycopy"), (0, u "(Ljava/lang/Object;ILjava/lang/Object;II)V"), (144, .methodref 14 301), (0, .nameAndType 302 303), (0, u "copyOf"), (0, u "([Ljava/lang/Object;ILjava/lang/Class;)[Ljava/lang/Object;"), (0, .methodref 305 306), (0, .class_ 307), (0, .nameAndType 308 309), (0, u "java/lang/Math"), (0, u "min"), (0, u "(II)I"), (29, .methodref 14 340), (0, .nameAndType 341 342), (0, u "copyOfRangeByte"), (0, u "([BII)[B"), (0, .methodref 14 344), (0, .nameAndType 345 346), (0, u "checkLength"), (0, u "(II)V"), (28, .class_ 376), (0, u "java/util/Arrays$ArrayList"), (68, u "$assertionsDisabled"), (269, u "MIN_ARRAY_SORT_GRAN"), (0, u "I"), (2, u "INSERTIONSORT_THRESHOLD"), (140, u "([Ljava/lang/Object;I)[Ljava/lang/Object;"), (114, .class_ 976), (0, u "java/util/Arrays$ArrayItr")] 52

def k26m0 : Method := { name := "<init>", desc := "()V", sig := { parameters := [], returnType := none }, accessFlags := 2, code := none }
def k26c1 : Code := { maxStack := 3, maxLocals := 2, code := jdk_65_method_119_code, exceptionTable := #[], attributes := #[] }
def k26m1 : Method := { name := "copyOf", desc := "([Ljava/lang/Object;I)[Ljava/lang/Object;", sig := { parameters := [(.array (.object "java/lang/Object")), .int], returnType := some (.array (.object "java/lang/Object")) }, accessFlags := 9, code := some k26c1 }
def k26c2 : Code := { maxStack := 6, maxLocals := 4, code := jdk_65_method_120_code, exceptionTable := #[], attributes := #[] }
def k26m2 : Method := { name := "copyOf", desc := "([Ljava/lang/Object;ILjava/lang/Class;)[Ljava/lang/Object;", sig := { parameters := [(.array (.object "java/lang/Object")), .int, (.object "java/lang/Class")], returnType := some (.array (.object "java/lang/Object")) }, accessFlags := 9, code := some k26c2 }
def k26c3 : Code := { maxStack := 4, maxLocals := 2, code := jdk_65_method_131_code, exceptionTable := #[], attributes := #[] }
def k26m3 : Method := { name := "checkLength", desc := "(II)V", sig := { parameters := [.int, .int], returnType := none }, accessFlags := 10, code := some k26c3 }
def k26c4 : Code := { maxStack := 3, maxLocals := 3, code := jdk_65_method_132_code, exceptionTable := #[], attributes := #[] }
def k26m4 : Method := { name := "copyOfRange", desc := "([BII)[B", sig := { parameters := [(.array .byte), .int, .int], returnType := some (.array .byte) }, accessFlags := 9, code := some k26c4 }
def k26c5 : Code := { maxStack := 6, maxLocals := 5, code := jdk_65_method_133_code, exceptionTable := #[], attributes := #[] }
def k26m5 : Method := { name := "copyOfRangeByte", desc := "([BII)[B", sig := { parameters := [(.array .byte), .int, .int], returnType := some (.array .byte) }, accessFlags := 10, code := some k26c5 }
/-- java/util/Arrays -/
def k26 : Class := { plain "java/util/Arrays" (some 0) with
  accessFlags := 49
  interfaces := #[]
  cf := some (fileOf pool26 14 #[.nestMembers #[975, 375, 113, 74]] #[{ accessFlags := 2, nameIndex := 5, descriptorIndex := 6, attributes := #[] }, { accessFlags := 9, nameIndex := 302, descriptorIndex := 860, attributes := #[] }, { accessFlags := 9, nameIndex := 302, descriptorIndex := 303, attributes := #[] }, { accessFlags := 10, nameIndex := 345, descriptorIndex := 346, attributes := #[] }, { accessFlags := 9, nameIndex := 139, descriptorIndex := 342, attributes := #[] }, { accessFlags := 10, nameIndex := 341, descriptorIndex := 342, attributes := #[] }] 49 2 #[] #[{ accessFlags := 26, nameIndex := 715, descriptorIndex := 716, attributes := #[] }, { accessFlags := 26, nameIndex := 719, descriptorIndex := 716, attributes := #[] }, { accessFlags := 4120, nameIndex := 445, descriptorIndex := 117, attributes := #[] }])
  fields := #[{ name := "MIN_ARRAY_SORT_GRAN", type := .int, accessFlags := 26, slot := 0, constantValue := 0 }, { name := "INSERTIONSORT_THRESHOLD", type := .int, accessFlags := 26, slot := 1, constantValue := 0 }, { name := "$assertionsDisabled", type := .boolean, accessFlags := 4120, slot := 2, constantValue := 0 }]
  methods := #[k26m0, k26m1, k26m2, k26m3, k26m4, k26m5]
  instanceTypes := #[]
  staticTypes := #[.int, .int, .boolean]
  resolved := Array.replicate 1029 none
  statics := none }

def pool27 : Array CpInfo := pool [(2, .class_ 4), (1, u "java/lang/Object"), (0, u "<init>"), (0, u "()V"), (1, .class_ 10), (1, u "java/lang/System"), (0, u "allowSecurityManager"), (0, u "I"), (16, u "cons"), (0, u "Ljava/io/Console;"), (77, .class_ 110), (1, u "java/lang/System$CallersHolder"), (43, u "initialErrStream"), (0, u "Ljava/io/PrintStream;"), (19, u "security"), (0, u "Ljava/lang/SecurityManager;"), (31, .class_ 209), (0, u "java/lang/System$1"), (7, u "props"), (0, u "Ljava/util/Properties;"), (2, u "lineSeparator"), (0, u "Ljava/lang/String;"), (96, .class_ 321), (1, u "java/lang/System$LoggerFinder"), (5, .class_ 328), (0, u "java/lang/System$Logger"), (67, u "err"), (2, u "out"), (91, u "notSupportedJnuEncoding"), (15, u "in"), (17, u "initialIn"), (0, u "Ljava/io/InputStream;"), (35, u "bootLayer"), (0, u "Ljava/lang/ModuleLayer;"), (99, .class_ 664), (0, u "java/lang/System$2"), (9, u "NEVER"), (2, u "MAYBE"), (49, u "arraycopy"), (0, u "(Ljava/lang/Object;ILjava/lang/Object;II)V"), (72, .class_ 802), (0, u "java/lang/System$Logger$Level")] 31

def k27m0 : Method := { name := "<init>", desc := "()V", sig := { parameters := [], returnType := none }, accessFlags := 2, code := none }
def k27m1 : Method := { name := "arraycopy", desc := "(Ljava/lang/Object;ILjava/lang/Object;II)V", sig := { parameters := [(.object "java/lang/Object"), .int, (.object "java/lang/Object"), .int, .int], returnType := none }, accessFlags := 265, code := none }
/-- java/lang/System -/
def k27 : Class := { plain "java/lang/System" (some 0) with
  accessFlags := 49
  interfaces := #[]
  cf := some (fileOf pool27 8 #[.nestMembers #[319, 327, 801, 108, 663, 208]] #[{ accessFlags := 2, nameIndex := 5, descriptorIndex := 6, attributes := #[] }, { accessFlags := 265, nameIndex := 727, descriptorIndex := 728, attributes := #[] }] 49 2 #[] #[{ accessFlags := 25, nameIndex := 507, descriptorIndex := 526, attributes := #[] }, { accessFlags := 25, nameIndex := 399, descriptorIndex := 155, attributes := #[] }, { accessFlags := 25, nameIndex := 396, descriptorIndex := 155, attributes := #[] }, { accessFlags := 10, nameIndex := 525, descriptorIndex := 526, attributes := #[] }, { accessFlags := 26, nameIndex := 674, descriptorIndex := 12, attributes := #[] }, { accessFlags := 26, nameIndex := 677, descriptorIndex := 12, attributes := #[] }, { accessFlags := 10, nameIndex := 11, descriptorIndex := 12, attributes := #[] }, { accessFlags := 74, nameIndex := 175, descriptorIndex := 176, attributes := #[] }, { accessFlags := 10, nameIndex := 491, descriptorIndex := 222, attributes := #[] }, { accessFlags := 74, nameIndex := 29, descriptorIndex := 30, attributes := #[] }, { accessFlags := 74, nameIndex := 154, descriptorIndex := 155, attributes := #[] }, { accessFlags := 10, nameIndex := 217, descriptorIndex := 218, attributes := #[] }, { accessFlags := 10, nameIndex := 221, descriptorIndex := 222, attributes := #[] }, { accessFlags := 8, nameIndex := 562, descriptorIndex := 563, attributes := #[] }])
  fields := #[{ name := "in", type := (.object "java/io/InputStream"), accessFlags := 25, slot := 0, constantValue := 0 }, { name := "out", type := (.object "java/io/PrintStream"), accessFlags := 25, slot := 1, constantValue := 0 }, { name := "err", type := (.object "java/io/PrintStream"), accessFlags := 25, slot := 2, constantValue := 0 }, { name := "initialIn", type := (.object "java/io/InputStream"), accessFlags := 10, slot := 3, constantValue := 0 }, { name := "NEVER", type := .int, accessFlags := 26, slot := 4, constantValue := 0 }, { name := "MAYBE", type := .int, accessFlags := 26, slot := 5, constantValue := 0 }, { name := "allowSecurityManager", type := .int, accessFlags := 10, slot := 6, constantValue := 0 }, { name := "security", type := (.object "java/lang/SecurityManager"), accessFlags := 74, slot := 7, constantValue := 0 }, { name := "notSupportedJnuEncoding", type := (.object "java/lang/String"), accessFlags := 10, slot := 8, constantValue := 0 }, { name := "cons", type := (.object "java/io/Console"), accessFlags := 74, slot := 9, constantValue := 0 }, { name := "initialErrStream", type := (.object "java/io/PrintStream"), accessFlags := 74, slot := 10, constantValue := 0 }, { name := "props", type := (.object "java/util/Properties"), accessFlags := 10, slot := 11, constantValue := 0 }, { name := "lineSeparator", type := (.object "java/lang/String"), accessFlags := 10, slot := 12, constantValue := 0 }, { name := "bootLayer", type := (.object "java/lang/ModuleLayer"), accessFlags := 8, slot := 13, constantValue := 0 }]
  methods := #[k27m0, k27m1]
  instanceTypes := #[]
  staticTypes := #[(.object "java/io/InputStream"), (.object "java/io/PrintStream"), (.object "java/io/PrintStream"), (.object "java/io/InputStream"), .int, .int, .int, (.object "java/lang/SecurityManager"), (.object "java/lang/String"), (.object "java/io/Console"), (.object "java/io/PrintStream"), (.object "java/util/Properties"), (.object "java/lang/String"), (.object "java/lang/ModuleLayer")]
  resolved := Array.replicate 834 none
  statics := none }

def pool28 : Array CpInfo := pool [(2, .class_ 4), (1, u "java/lang/Object"), (0, u "<init>"), (0, u "()V"), (3, .class_ 11), (0, u "java/util/ImmutableCollections$List12"), (0, .class_ 13), (0, u "java/util/ImmutableCollections$ListN"), (3, u "Z"), (0, .class_ 19), (0, u "java/util/List"), (0, .interfaceMethodref 21 22), (0, .class_ 23), (0, .nameAndType 24 25), (0, u "java/util/Collection"), (0, u "isEmpty"), (0, u "()Z"), (0, .interfaceMethodref 18 27), (0, .nameAndType 28 29), (0, u "of"), (0, u "()Ljava/util/List;"), (0, .interfaceMethodref 21 31), (0, .nameAndType 32 33), (0, u "toArray"), (0, u "()[Ljava/lang/Object;"), (0, .interfaceMethodref 18 35), (0, .nameAndType 28 36), (0, u "([Ljava/lang/Object;)Ljava/util/List;"), (10, .class_ 49), (1, u "java/util/ImmutableCollections"), (0, u "$assertionsDisabled"), (5, u "[Ljava/lang/Object;"), (5, u "EMPTY_LIST"), (0, u "Ljava/util/ImmutableCollections$ListN;"), (8, u "EMPTY_LIST_NULLS"), (22, u "SALT32L"), (0, u "J"), (2, u "REVERSE"), (6, u "archivedObjects"), (2, u "EMPTY"), (0, u "Ljava/lang/Object;"), (0, .class_ 112), (0, u "java/util/ImmutableCollections$SetN"), (5, u "EMPTY_SET"), (0, u "Ljava/util/ImmutableCollections$SetN;"), (0, .class_ 121), (0, u "java/util/ImmutableCollections$MapN"), (3, u "EMPTY_MAP"), (0, u "Ljava/util/ImmutableCollections$MapN;"), (4, u "EXPAND_FACTOR"), (0, u "I"), (9, u "listCopy"), (0, u "(Ljava/util/Collection;)Ljava/util/List;"), (25, .class_ 170), (0, u "java/util/ImmutableCollections$MapN$MapNIterator"), (0, .class_ 172), (0, u "java/util/ImmutableCollections$MapN$1"), (0, .class_ 174), (0, u "java/util/ImmutableCollections$Map1"), (0, .class_ 176), (0, u "java/util/ImmutableCollections$AbstractImmutableMap"), (0, .class_ 178), (0, u "java/util/ImmutableCollections$SetN$SetNIterator"), (0, .class_ 180), (0, u "java/util/ImmutableCollections$Set12"), (0, .class_ 182), (0, u "java/util/ImmutableCollections$Set12$1"), (0, .class_ 184), (0, u "java/util/ImmutableCollections$AbstractImmutableSet"), (0, .class_ 186), (0, u "java/util/ImmutableCollections$SubList"), (0, .class_ 188), (0, u "java/util/ImmutableCollections$ListItr"), (0, .class_ 190), (0, u "java/util/ImmutableCollections$AbstractImmutableList"), (0, .class_ 192), (0, u "java/util/ImmutableCollections$AbstractImmutableCollection"), (0, .class_ 194), (0, u "java/util/ImmutableCollections$Access"), (0, .class_ 196), (0, u "java/util/ImmutableCollections$Access$1")] 16

def k28m0 : Method := { name := "<init>", desc := "()V", sig := { parameters := [], returnType := none }, accessFlags := 2, code := none }
def k28c1 : Code := { maxStack := 1, maxLocals := 2, code := jdk_56_method_3_code, exceptionTable := #[], attributes := #[] }
def k28m1 : Method := { name := "listCopy", desc := "(Ljava/util/Collection;)Ljava/util/List;", sig := { parameters := [(.object "java/util/Collection")], returnType := some (.object "java/util/List") }, accessFlags := 8, code := some k28c1 }
/-- java/util/ImmutableCollections -/
def k28 : Class := { plain "java/util/ImmutableCollections" (some 0) with
  accessFlags := 32
  interfaces := #[]
  cf := some (fileOf pool28 47 #[.nestMembers #[120, 169, 171, 173, 175, 111, 177, 179, 181, 183, 12, 10, 185, 187, 189, 191, 193, 195]] #[{ accessFlags := 2, nameIndex := 5, descriptorIndex := 6, attributes := #[] }, { accessFlags := 8, nameIndex := 142, descriptorIndex := 143, attributes := #[] }] 32 2 #[] #[{ accessFlags := 26, nameIndex := 95, descriptorIndex := 96, attributes := #[] }, { accessFlags := 26, nameIndex := 99, descriptorIndex := 17, attributes := #[] }, { accessFlags := 10, nameIndex := 106, descriptorIndex := 56, attributes := #[] }, { accessFlags := 26, nameIndex := 109, descriptorIndex := 110, attributes := #[] }, { accessFlags := 24, nameIndex := 62, descriptorIndex := 63, attributes := #[] }, { accessFlags := 24, nameIndex := 72, descriptorIndex := 63, attributes := #[] }, { accessFlags := 24, nameIndex := 118, descriptorIndex := 119, attributes := #[] }, { accessFlags := 24, nameIndex := 125, descriptorIndex := 126, attributes := #[] }, { accessFlags := 24, nameIndex := 131, descriptorIndex := 132, attributes := #[] }, { accessFlags := 4120, nameIndex := 50, descriptorIndex := 17, attributes := #[] }])
  fields := #[{ name := "SALT32L", type := .long, accessFlags := 26, slot := 0, constantValue := 0 }, { name := "REVERSE", type := .boolean, accessFlags := 26, slot := 1, constantValue := 0 }, { name := "archivedObjects", type := (.array (.object "java/lang/Object")), accessFlags := 10, slot := 2, constantValue := 0 }, { name := "EMPTY", type := (.object "java/lang/Object"), accessFlags := 26, slot := 3, constantValue := 0 }, { name := "EMPTY_LIST", type := (.object "java/util/ImmutableCollections$ListN"), accessFlags := 24, slot := 4, constantValue := 0 }, { name := "EMPTY_LIST_NULLS", type := (.object "java/util/ImmutableCollections$ListN"), accessFlags := 24, slot := 5, constantValue := 0 }, { name := "EMPTY_SET", type := (.object "java/util/ImmutableCollections$SetN"), accessFlags := 24, slot := 6, constantValue := 0 }, { name := "EMPTY_MAP", type := (.object "java/util/ImmutableCollections$MapN"), accessFlags := 24, slot := 7, constantValue := 0 }, { name := "EXPAND_FACTOR", type := .int, accessFlags := 24, slot := 8, constantValue := 0 }, { name := "$assertionsDisabled", type := .boolean, accessFlags := 4120, slot := 9, constantValue := 0 }]
  methods := #[k28m0, k28m1]
  instanceTypes := #[]
  staticTypes := #[.long, .boolean, (.array (.object "java/lang/Object")), (.object "java/lang/Object"), (.object "java/util/ImmutableCollections$ListN"), (.object "java/util/ImmutableCollections$ListN"), (.object "java/util/ImmutableCollections$SetN"), (.object "java/util/ImmutableCollections$MapN"), .int, .boolean]
  resolved := Array.replicate 213 none
  statics := some 3 }

def pool29 : Array CpInfo := pool [(1, .methodref 2 3), (0, .class_ 4), (0, .nameAndType 5 6), (0, u "java/util/AbstractCollection"), (0, u "<init>"), (0, u "()V"), (1, .class_ 10), (1, u "java/util/ImmutableCollections"), (2, .class_ 14), (0, u "java/util/ImmutableCollections$AbstractImmutableCollection")] 41

def k29c0 : Code := { maxStack := 1, maxLocals := 1, code := jdk_47_method_1_code, exceptionTable := #[], attributes := #[] }
def k29m0 : Method := { name := "<init>", desc := "()V", sig := { parameters := [], returnType := none }, accessFlags := 0, code := some k29c0 }
/-- java/util/ImmutableCollections$AbstractImmutableCollection -/
def k29 : Class := { plain "java/util/ImmutableCollections$AbstractImmutableCollection" (some 4) with
  accessFlags := 1056
  interfaces := #[]
  cf := some (fileOf pool29 13 #[.nestHost 8] #[{ accessFlags := 0, nameIndex := 5, descriptorIndex := 6, attributes := #[] }] 1056 2 #[] #[])
  fields := #[]
  methods := #[k29m0]
  instanceTypes := #[]
  staticTypes := #[]
  resolved := Array.replicate 56 none
  statics := none }

def pool30 : Array CpInfo := pool [(1, .methodref 2 3), (0, .class_ 4), (0, .nameAndType 5 6), (0, u "java/util/ImmutableCollections$AbstractImmutableCollection"), (0, u "<init>"), (0, u "()V"), (1, .class_ 10), (1, u "java/util/ImmutableCollections"), (3, .class_ 16), (1, u "java/util/ImmutableCollections$AbstractImmutableList"), (60, .class_ 78), (0, u "java/util/List"), (45, .class_ 125), (0, u "java/util/RandomAccess")] 70

def k30c0 : Code := { maxStack := 1, maxLocals := 1, code := jdk_46_method_1_code, exceptionTable := #[], attributes := #[] }
def k30m0 : Method := { name := "<init>", desc := "()V", sig := { parameters := [], returnType := none }, accessFlags := 0, code := some k30c0 }
/-- java/util/ImmutableCollections$AbstractImmutableList -/
def k30 : Class := { plain "java/util/ImmutableCollections$AbstractImmutableList" (some 29) with
  accessFlags := 1056
  interfaces := #[6, 8]
  cf := some (fileOf pool30 14 #[.nestHost 8] #[{ accessFlags := 0, nameIndex := 5, descriptorIndex := 6, attributes := #[] }] 1056 2 #[77, 124] #[])
  fields := #[]
  methods := #[k30m0]
  instanceTypes := #[]
  staticTypes := #[]
  resolved := Array.replicate 196 none
  statics := none }

def pool31 : Array CpInfo := pool [(1, .methodref 2 3), (0, .class_ 4), (0, .nameAndType 5 6), (0, u "java/util/ImmutableCollections$AbstractImmutableList"), (0, u "<init>"), (0, u "()V"), (0, .methodref 8 9), (0, .class_ 10), (0, .nameAndType 11 12), (0, u "java/util/Objects"), (0, u "requireNonNull"), (0, u "(Ljava/lang/Object;)Ljava/lang/Object;"), (0, .fieldref 14 15), (0, .class_ 16), (0, .nameAndType 17 18), (0, u "java/util/ImmutableCollections$List12"), (0, u "e0"), (0, u "Ljava/lang/Object;"), (0, .fieldref 20 21), (0, .class_ 22), (0, .nameAndType 23 18), (0, u "java/util/ImmutableCollections"), (0, u "EMPTY"), (0, .fieldref 14 25), (0, .nameAndType 26 18), (0, u "e1"), (24, u "size"), (0, u "()I"), (17, .class_ 71), (0, u "java/io/Serializable"), (4, u "(Ljava/lang/Object;)V"), (8, u "(Ljava/lang/Object;Ljava/lang/Object;)V"), (4, u "get"), (0, u "(I)Ljava/lang/Object;")] 33

def k31c0 : Code := { maxStack := 2, maxLocals := 2, code := jdk_44_method_1_code, exceptionTable := #[], attributes := #[] }
def k31m0 : Method := { name := "<init>", desc := "(Ljava/lang/Object;)V", sig := { parameters := [(.object "java/lang/Object")], returnType := none }, accessFlags := 0, code := some k31c0 }
def k31c1 : Code := { maxStack := 2, maxLocals := 3, code := jdk_44_method_2_code, exceptionTable := #[], attributes := #[] }
def k31m1 : Method := { name := "<init>", desc := "(Ljava/lang/Object;Ljava/lang/Object;)V", sig := { parameters := [(.object "java/lang/Object"), (.object "java/lang/Object")], returnType := none }, accessFlags := 0, code := some k31c1 }
def k31c2 : Code := { maxStack := 2, maxLocals := 1, code := jdk_44_method_3_code, exceptionTable := #[], attributes := #[] }
def k31m2 : Method := { name := "size", desc := "()I", sig := { parameters := [], returnType := some .int }, accessFlags := 1, code := some k31c2 }
def k31c3 : Code := { maxStack := 2, maxLocals := 2, code := jdk_44_method_5_code, exceptionTable := #[], attributes := #[] }
def k31m3 : Method := { name := "get", desc := "(I)Ljava/lang/Object;", sig := { parameters := [.int], returnType := some (.object "java/lang/Object") }, accessFlags := 1, code := some k31c3 }
/-- java/util/ImmutableCollections$List12 -/
def k31 : Class := { plain "java/util/ImmutableCollections$List12" (some 30) with
  accessFlags := 48
  interfaces := #[10]
  cf := some (fileOf pool31 14 #[.nestHost 20] #[{ accessFlags := 0, nameIndex := 5, descriptorIndex := 76, attributes := #[] }, { accessFlags := 0, nameIndex := 5, descriptorIndex := 85, attributes := #[] }, { accessFlags := 1, nameIndex := 51, descriptorIndex := 52, attributes := #[] }, { accessFlags := 1, nameIndex := 90, descriptorIndex := 91, attributes := #[] }] 48 2 #[70] #[{ accessFlags := 18, nameIndex := 17, descriptorIndex := 18, attributes := #[] }, { accessFlags := 18, nameIndex := 26, descriptorIndex := 18, attributes := #[] }])
  fields := #[{ name := "e0", type := (.object "java/lang/Object"), accessFlags := 18, slot := 0, constantValue := 0 }, { name := "e1", type := (.object "java/lang/Object"), accessFlags := 18, slot := 1, constantValue := 0 }]
  methods := #[k31m0, k31m1, k31m2, k31m3]
  instanceTypes := #[(.object "java/lang/Object"), (.object "java/lang/Object")]
  staticTypes := #[]
  resolved := Array.replicate 125 none
  statics := none }

def pool32 : Array CpInfo := pool [(2, .class_ 4), (1, u "java/util/ImmutableCollections$AbstractImmutableList"), (2, .fieldref 8 9), (0, .class_ 10), (0, .nameAndType 11 12), (0, u "java/util/ImmutableCollections$ListN"), (0, u "elements"), (0, u "[Ljava/lang/Object;"), (2, u "allowNulls"), (0, u "Z"), (42, .class_ 60), (0, u "java/io/Serializable"), (16, u "size"), (0, u "()I"), (35, .class_ 115), (0, u "java/util/ImmutableCollections")] 3

def k32c0 : Code := { maxStack := 1, maxLocals := 1, code := jdk_45_method_3_code, exceptionTable := #[], attributes := #[] }
def k32m0 : Method := { name := "size", desc := "()I", sig := { parameters := [], returnType := some .int }, accessFlags := 1, code := some k32c0 }
/-- java/util/ImmutableCollections$ListN -/
def k32 : Class := { plain "java/util/ImmutableCollections$ListN" (some 30) with
  accessFlags := 48
  interfaces := #[10]
  cf := some (fileOf pool32 8 #[.nestHost 114] #[{ accessFlags := 1, nameIndex := 77, descriptorIndex := 78, attributes := #[] }] 48 2 #[59] #[{ accessFlags := 18, nameIndex := 11, descriptorIndex := 12, attributes := #[] }, { accessFlags := 18, nameIndex := 15, descriptorIndex := 16, attributes := #[] }])
  fields := #[{ name := "elements", type := (.array (.object "java/lang/Object")), accessFlags := 18, slot := 0, constantValue := 0 }, { name := "allowNulls", type := .boolean, accessFlags := 18, slot := 1, constantValue := 0 }]
  methods := #[k32m0]
  instanceTypes := #[(.array (.object "java/lang/Object")), .boolean]
  staticTypes := #[]
  resolved := Array.replicate 119 none
  statics := none }

def pool33 : Array CpInfo := pool [(9, u "<init>"), (6, .class_ 18), (1, u "java/lang/Object"), (0, u "()V"), (1, .class_ 23), (1, u "jdk/internal/util/ArraysSupport"), (0, u "LOG2_ARRAY_LONG_INDEX_SCALE"), (0, u "I"), (2, u "U"), (0, u "Ljdk/internal/misc/Unsafe;"), (8, u "BIG_ENDIAN"), (0, u "Z"), (8, u "LOG2_BYTE_BIT_SIZE"), (4, u "LOG2_ARRAY_INT_INDEX_SCALE"), (54, u "JLA"), (0, u "Ljdk/internal/access/JavaLangAccess;"), (11, u "LOG2_ARRAY_BOOLEAN_INDEX_SCALE"), (9, u "LOG2_ARRAY_BYTE_INDEX_SCALE"), (5, u "LOG2_ARRAY_CHAR_INDEX_SCALE"), (5, u "LOG2_ARRAY_SHORT_INDEX_SCALE"), (5, u "mismatch"), (12, u "LOG2_ARRAY_FLOAT_INDEX_SCALE"), (24, u "LOG2_ARRAY_DOUBLE_INDEX_SCALE"), (89, u "T_BOOLEAN"), (2, u "T_CHAR"), (1, u "T_FLOAT"), (1, u "T_DOUBLE"), (1, u "T_BYTE"), (1, u "T_SHORT"), (1, u "T_INT"), (1, u "T_LONG"), (1, u "SOFT_MAX_ARRAY_LENGTH"), (42, u "([BI[BII)I")] 40

def k33m0 : Method := { name := "<init>", desc := "()V", sig := { parameters := [], returnType := none }, accessFlags := 2, code := none }
def k33c1 : Code := { maxStack := 8, maxLocals := 8, code := jdk_48_method_14_code, exceptionTable := #[], attributes := #[] }
def k33m1 : Method := { name := "mismatch", desc := "([BI[BII)I", sig := { parameters := [(.array .byte), .int, (.array .byte), .int, .int], returnType := some .int }, accessFlags := 9, code := some k33c1 }
/-- jdk/internal/util/ArraysSupport -/
def k33 : Class := { plain "jdk/internal/util/ArraysSupport" (some 0) with
  accessFlags := 33
  interfaces := #[]
  cf := some (fileOf pool33 21 #[] #[{ accessFlags := 2, nameIndex := 9, descriptorIndex := 19, attributes := #[] }, { accessFlags := 9, nameIndex := 149, descriptorIndex := 337, attributes := #[] }] 33 16 #[] #[{ accessFlags := 24, nameIndex := 28, descriptorIndex := 29, attributes := #[] }, { accessFlags := 26, nameIndex := 38, descriptorIndex := 39, attributes := #[] }, { accessFlags := 25, nameIndex := 121, descriptorIndex := 25, attributes := #[] }, { accessFlags := 25, nameIndex := 131, descriptorIndex := 25, attributes := #[] }, { accessFlags := 25, nameIndex := 137, descriptorIndex := 25, attributes := #[] }, { accessFlags := 25, nameIndex := 143, descriptorIndex := 25, attributes := #[] }, { accessFlags := 25, nameIndex := 53, descriptorIndex := 25, attributes := #[] }, { accessFlags := 25, nameIndex := 24, descriptorIndex := 25, attributes := #[] }, { accessFlags := 25, nameIndex := 162, descriptorIndex := 25, attributes := #[] }, { accessFlags := 25, nameIndex := 187, descriptorIndex := 25, attributes := #[] }, { accessFlags := 26, nameIndex := 48, descriptorIndex := 25, attributes := #[] }, { accessFlags := 25, nameIndex := 277, descriptorIndex := 25, attributes := #[] }, { accessFlags := 25, nameIndex := 280, descriptorIndex := 25, attributes := #[] }, { accessFlags := 25, nameIndex := 282, descriptorIndex := 25, attributes := #[] }, { accessFlags := 25, nameIndex := 284, descriptorIndex := 25, attributes := #[] }, { accessFlags := 25, nameIndex := 286, descriptorIndex := 25, attributes := #[] }, { accessFlags := 25, nameIndex := 288, descriptorIndex := 25, attributes := #[] }, { accessFlags := 25, nameIndex := 290, descriptorIndex := 25, attributes := #[] }, { accessFlags := 25, nameIndex := 292, descriptorIndex := 25, attributes := #[] }, { accessFlags := 26, nameIndex := 108, descriptorIndex := 109, attributes := #[] }, { accessFlags := 25, nameIndex := 294, descriptorIndex := 25, attributes := #[] }])
  fields := #[{ name := "U", type := (.object "jdk/internal/misc/Unsafe"), accessFlags := 24, slot := 0, constantValue := 0 }, { name := "BIG_ENDIAN", type := .boolean, accessFlags := 26, slot := 1, constantValue := 0 }, { name := "LOG2_ARRAY_BOOLEAN_INDEX_SCALE", type := .int, accessFlags := 25, slot := 2, constantValue := 0 }, { name := "LOG2_ARRAY_BYTE_INDEX_SCALE", type := .int, accessFlags := 25, slot := 3, constantValue := 0 }, { name := "LOG2_ARRAY_CHAR_INDEX_SCALE", type := .int, accessFlags := 25, slot := 4, constantValue := 0 }, { name := "LOG2_ARRAY_SHORT_INDEX_SCALE", type := .int, accessFlags := 25, slot := 5, constantValue := 0 }, { name := "LOG2_ARRAY_INT_INDEX_SCALE", type := .int, accessFlags := 25, slot := 6, constantValue := 0 }, { name := "LOG2_ARRAY_LONG_INDEX_SCALE", type := .int, accessFlags := 25, slot := 7, constantValue := 0 }, { name := "LOG2_ARRAY_FLOAT_INDEX_SCALE", type := .int, accessFlags := 25, slot := 8, constantValue := 0 }, { name := "LOG2_ARRAY_DOUBLE_INDEX_SCALE", type := .int, accessFlags := 25, slot := 9, constantValue := 0 }, { name := "LOG2_BYTE_BIT_SIZE", type := .int, accessFlags := 26, slot := 10, constantValue := 0 }, { name := "T_BOOLEAN", type := .int, accessFlags := 25, slot := 11, constantValue := 0 }, { name := "T_CHAR", type := .int, accessFlags := 25, slot := 12, constantValue := 0 }, { name := "T_FLOAT", type := .int, accessFlags := 25, slot := 13, constantValue := 0 }, { name := "T_DOUBLE", type := .int, accessFlags := 25, slot := 14, constantValue := 0 }, { name := "T_BYTE", type := .int, accessFlags := 25, slot := 15, constantValue := 0 }, { name := "T_SHORT", type := .int, accessFlags := 25, slot := 16, constantValue := 0 }, { name := "T_INT", type := .int, accessFlags := 25, slot := 17, constantValue := 0 }, { name := "T_LONG", type := .int, accessFlags := 25, slot := 18, constantValue := 0 }, { name := "JLA", type := (.object "jdk/internal/access/JavaLangAccess"), accessFlags := 26, slot := 19, constantValue := 0 }, { name := "SOFT_MAX_ARRAY_LENGTH", type := .int, accessFlags := 25, slot := 20, constantValue := 0 }]
  methods := #[k33m0, k33m1]
  instanceTypes := #[]
  staticTypes := #[(.object "jdk/internal/misc/Unsafe"), .boolean, .int, .int, .int, .int, .int, .int, .int, .int, .int, .int, .int, .int, .int, .int, .int, .int, .int, (.object "jdk/internal/access/JavaLangAccess"), .int]
  resolved := Array.replicate 378 none
  statics := none }

def pool34 : Array CpInfo := pool [(2, .class_ 4), (1, u "java/lang/Object"), (0, u "<init>"), (0, u "()V"), (35, .class_ 44), (1, u "java/util/Objects"), (0, u "requireNonNull"), (0, u "(Ljava/lang/Object;)Ljava/lang/Object;"), (58, .methodref 106 107), (0, .class_ 108), (0, .nameAndType 109 110), (0, u "jdk/internal/util/Preconditions"), (0, u "checkIndex"), (0, u "(IILjava/util/function/BiFunction;)I"), (60, u "(II)I")] 12

def k34m0 : Method := { name := "<init>", desc := "()V", sig := { parameters := [], returnType := none }, accessFlags := 2, code := none }
def k34c1 : Code := { maxStack := 2, maxLocals := 1, code := jdk_31_method_10_code, exceptionTable := #[], attributes := #[] }
def k34m1 : Method := { name := "requireNonNull", desc := "(Ljava/lang/Object;)Ljava/lang/Object;", sig := { parameters := [(.object "java/lang/Object")], returnType := some (.object "java/lang/Object") }, accessFlags := 9, code := some k34c1 }
def k34c2 : Code := { maxStack := 3, maxLocals := 2, code := jdk_31_method_17_code, exceptionTable := #[], attributes := #[] }
def k34m2 : Method := { name := "checkIndex", desc := "(II)I", sig := { parameters := [.int, .int], returnType := some .int }, accessFlags := 9, code := some k34c2 }
/-- java/util/Objects -/
def k34 : Class := { plain "java/util/Objects" (some 0) with
  accessFlags := 49
  interfaces := #[]
  cf := some (fileOf pool34 42 #[] #[{ accessFlags := 2, nameIndex := 5, descriptorIndex := 6, attributes := #[] }, { accessFlags := 9, nameIndex := 45, descriptorIndex := 46, attributes := #[] }, { accessFlags := 9, nameIndex := 109, descriptorIndex := 171, attributes := #[] }] 49 2 #[] #[])
  fields := #[]
  methods := #[k34m0, k34m1, k34m2]
  instanceTypes := #[]
  staticTypes := #[]
  resolved := Array.replicate 184 none
  statics := none }

def pool35 : Array CpInfo := pool [(1, .class_ 2), (0, u "java/lang/Class"), (0, .class_ 4), (0, u "java/lang/Object")] 0

/-- java/lang/Class -/
def k35 : Class := { plain "java/lang/Class" (some 0) with
  accessFlags := 49
  interfaces := #[]
  cf := some (fileOf pool35 1 #[] #[] 49 3 #[] #[])
  fields := #[]
  methods := #[]
  instanceTypes := #[]
  staticTypes := #[]
  resolved := Array.replicate 5 none
  statics := none }

/-- the primitive byte -/
def k36 : Class := { plain "byte" none with kind := .primitive 'B', accessFlags := 0x411 }
/-- [B -/
def k37 : Class := { plain "[B" (some 0) with kind := .array 36 .byte, interfaces := #[9, 10], accessFlags := 1041 }

/-- the primitive int -/
def k38 : Class := { plain "int" none with kind := .primitive 'I', accessFlags := 0x411 }
/-- [I -/
def k39 : Class := { plain "[I" (some 0) with kind := .array 38 .int, interfaces := #[9, 10], accessFlags := 1041 }

/-- [Ljava/lang/Object; -/
def k40 : Class := { plain "[Ljava/lang/Object;" (some 0) with kind := .array 0 (.object "java/lang/Object"), interfaces := #[9, 10], accessFlags := 1041, mirror := some 4 }

def heap : Heap := #[{ cls := 11, slots := #[.long 0, .int 0, .ref 7, .ref 8], vm := .statics 11 },
  { cls := 16, slots := #[.long 0, .int 1, .null, .int 0, .null, .int 0, .int 0], vm := .statics 16 },
  { cls := 25, slots := #[.null, .null, .null], vm := .statics 25 },
  { cls := 28, slots := #[.long 0, .int 0, .null, .ref 9, .ref 6, .null, .null, .null, .int 0, .int 1], vm := .statics 28 },
  { cls := 35, slots := #[], vm := .mirror 40 },
  { cls := 40, slots := #[], vm := .none },
  { cls := 32, slots := #[.ref 5, .int 0], vm := .none },
  { cls := 40, slots := #[], vm := .none },
  { cls := 40, slots := #[], vm := .none },
  { cls := 0, slots := #[], vm := .none }]
def classes : Array Class := #[k0, k1, k2, k3, k4, k5, k6, k7, k8, k9, k10, k11, k12, k13, k14, k15, k16, k17, k18, k19, k20, k21, k22, k23, k24, k25, k26, k27, k28, k29, k30, k31, k32, k33, k34, k35, k36, k37, k38, k39, k40]
def interned : List (Array UInt16 × Addr) := []
def slotsUsed : Nat := 26
def theMethod : MethodId := ⟨1, 3⟩
def args0 : Array Value := #[.int 1, .int 2, .int 3, .int 4]
def aboutOver (below : List Frame) : State where
  vm := { classes := classes, interned := interned.toArray }
  heap := heap
  slotsUsed := slotsUsed
  threads := #[{ frames := .invoking theMethod args0 :: below }]
def below0 : List Frame := [.native { method := ⟨0, 0⟩, args := #[] }]
def about1 : State := aboutOver below0
def p0 : Program := .bare "" "" ""
def e0 : Env := launch0.env 0 0 0
theorem w_frames : about1.frames = Frame.invoking theMethod args0 :: below0 := rfl
set_option maxRecDepth 65536 in
theorem w_args : argsFit about1.vm theMethod args0 = true := by decide +kernel
set_option maxRecDepth 65536 in
theorem w_heap : heapFits about1 = true := by decide +kernel
set_option maxRecDepth 65536 in
theorem w_runnable : about1.curStatus? = some .runnable := by decide +kernel
set_option maxRecDepth 65536 in
theorem w_alone : about1.alone = true := by decide +kernel
set_option maxRecDepth 65536 in
theorem w_named : about1.methodNamed? x = some theMethod := by decide +kernel
set_option maxRecDepth 65536 in
theorem w_hears : about1.hears theMethod below0 = true := by decide +kernel
set_option maxRecDepth 65536 in
theorem w_ripe : about1.ripe theMethod args0 below0 = true := by decide +kernel
theorem w_running : about1.status = .running := rfl
set_option maxRecDepth 65536 in
theorem w_room : about1.hasRoom e0.platform room_1 = true :=
  launch0.hasRoom_least _ room_1 (by decide +kernel) (by decide +kernel) (by decide +kernel) (by decide +kernel) (by decide +kernel) (by decide +kernel)
theorem allAtoms_all (ts : List Jvm.Cond) (a : Array Jvm.Value) (st : Jvm.State) : (allAtoms ts).before a st = ts.all (fun c => c.before a st) := by
  induction ts with
  | nil => rfl
  | cons c t ih =>
    show (Jvm.Cond.and c (allAtoms t)).before a st = _
    rw [Jvm.Cond.before_and, ih, List.all_cons]
def words1 : List Jvm.Cond := Jvm.Cond.code x code maxLocals ret :: tables_1
/-- a 'code' word, met by the world's own term for the bytes: nothing is compared byte by byte -/
theorem code_word {y : MethodName} {bytes : ByteArray} {mx : Nat} {rt : Option FieldType} {a : Array Value} {s : State} {m : MethodId} {meth : Method} {c : Code} (h1 : s.methodNamed? y = some m) (h2 : s.vm.method? m = some meth) (h3 : meth.code = some c) (h4 : c.code = bytes)
    (h5 : (c.maxLocals == mx && c.exceptionTable.isEmpty && decide (c.maxStack ≤ mostOperands) && decide (meth.sig.returnType = rt) && !meth.locks && decide (parseMethodDescriptor y.desc = some meth.sig)) = true) : (Jvm.Cond.code y bytes mx rt).before a s = true := by
  simp only [Bool.and_eq_true, beq_iff_eq, Bool.not_eq_true', decide_eq_true_eq] at h5
  obtain ⟨⟨⟨⟨⟨g1, g2⟩, g3⟩, g4⟩, g5⟩, g6⟩ := h5
  simp [Cond.before, Cond.holds, Cond.value, h1, h2, h3, h4, g1, g2, g3, g4, g5, g6]
def isCode : Jvm.Cond → Bool
  | .code _ _ _ _ => true
  | _ => false
theorem all_split {L : List Jvm.Cond} {P : Jvm.Cond → Bool} (h1 : L.all (fun c => isCode c || P c) = true) (h2 : ∀ c ∈ L.filter isCode, P c = true) : L.all P = true := by
  refine List.all_eq_true.mpr fun c hc => ?_
  have h := List.all_eq_true.mp h1 c hc
  rcases Bool.eq_false_or_eq_true (isCode c) with hi | hi
  · exact h2 c (List.mem_filter.mpr ⟨hc, hi⟩)
  · simpa [hi] using h
set_option maxRecDepth 65536 in
theorem w_c0 : (Jvm.Cond.code x code maxLocals ret).before args0 about1 = true := code_word (m := ⟨1, 3⟩) (meth := k1m3) (c := k1c3) (by decide +kernel) rfl rfl rfl (by decide +kernel)
set_option maxRecDepth 65536 in
theorem w_c1 : (Jvm.Cond.code ({ cls := "com/example/graftwork/graftwork/ElementDefinitionTypesPinLaw", name := "draw", desc := "(I)Ljava/util/ArrayList;" } : Jvm.MethodName) method_2_code (3 : Nat) (Option.some (Jvm.ClassFile.FieldType.object "java/util/ArrayList"))).before args0 about1 = true := code_word (m := ⟨1, 1⟩) (meth := k1m1) (c := k1c1) (by decide +kernel) rfl rfl rfl (by decide +kernel)
set_option maxRecDepth 65536 in
theorem w_c2 : (Jvm.Cond.code ({ cls := "java/util/ArrayList", name := "<init>", desc := "()V" } : Jvm.MethodName) jdk_38_method_2_code (1 : Nat) (Option.none : Option Jvm.ClassFile.FieldType)).before args0 about1 = true := code_word (m := ⟨11, 0⟩) (meth := k11m0) (c := k11c0) (by decide +kernel) rfl rfl rfl (by decide +kernel)
set_option maxRecDepth 65536 in
theorem w_c3 : (Jvm.Cond.code ({ cls := "java/util/AbstractList", name := "<init>", desc := "()V" } : Jvm.MethodName) jdk_39_method_1_code (1 : Nat) (Option.none : Option Jvm.ClassFile.FieldType)).before args0 about1 = true := code_word (m := ⟨7, 0⟩) (meth := k7m0) (c := k7c0) (by decide +kernel) rfl rfl rfl (by decide +kernel)
set_option maxRecDepth 65536 in
theorem w_c4 : (Jvm.Cond.code ({ cls := "java/util/AbstractCollection", name := "<init>", desc := "()V" } : Jvm.MethodName) jdk_22_method_1_code (1 : Nat) (Option.none : Option Jvm.ClassFile.FieldType)).before args0 about1 = true := code_word (m := ⟨4, 0⟩) (meth := k4m0) (c := k4c0) (by decide +kernel) rfl rfl rfl (by decide +kernel)
set_option maxRecDepth 65536 in
theorem w_c5 : (Jvm.Cond.code ({ cls := "java/lang/Object", name := "<init>", desc := "()V" } : Jvm.MethodName) object_method_1_code (1 : Nat) (Option.none : Option Jvm.ClassFile.FieldType)).before args0 about1 = true := code_word (m := ⟨0, 0⟩) (meth := k0m0) (c := k0c0) (by decide +kernel) rfl rfl rfl (by decide +kernel)
set_option maxRecDepth 65536 in
theorem w_c6 : (Jvm.Cond.code ({ cls := "java/lang/String", name := "valueOf", desc := "(C)Ljava/lang/String;" } : Jvm.MethodName) jdk_42_method_139_code (1 : Nat) (Option.some (Jvm.ClassFile.FieldType.object "java/lang/String"))).before args0 about1 = true := code_word (m := ⟨16, 9⟩) (meth := k16m9) (c := k16c9) (by decide +kernel) rfl rfl rfl (by decide +kernel)
set_option maxRecDepth 65536 in
theorem w_c7 : (Jvm.Cond.code ({ cls := "java/lang/StringLatin1", name := "canEncode", desc := "(C)Z" } : Jvm.MethodName) jdk_43_method_3_code (1 : Nat) (Option.some Jvm.ClassFile.FieldType.boolean)).before args0 about1 = true := code_word (m := ⟨17, 1⟩) (meth := k17m1) (c := k17c1) (by decide +kernel) rfl rfl rfl (by decide +kernel)
set_option maxRecDepth 65536 in
theorem w_c8 : (Jvm.Cond.code ({ cls := "java/lang/StringLatin1", name := "toBytes", desc := "(C)[B" } : Jvm.MethodName) jdk_43_method_46_code (1 : Nat) (Option.some (Jvm.ClassFile.FieldType.array Jvm.ClassFile.FieldType.byte))).before args0 about1 = true := code_word (m := ⟨17, 4⟩) (meth := k17m4) (c := k17c4) (by decide +kernel) rfl rfl rfl (by decide +kernel)
set_option maxRecDepth 65536 in
theorem w_c9 : (Jvm.Cond.code ({ cls := "java/lang/String", name := "<init>", desc := "([BB)V" } : Jvm.MethodName) jdk_42_method_151_code (3 : Nat) (Option.none : Option Jvm.ClassFile.FieldType)).before args0 about1 = true := code_word (m := ⟨16, 10⟩) (meth := k16m10) (c := k16c10) (by decide +kernel) rfl rfl rfl (by decide +kernel)
set_option maxRecDepth 65536 in
theorem w_c10 : (Jvm.Cond.code ({ cls := "java/util/ArrayList", name := "add", desc := "(Ljava/lang/Object;)Z" } : Jvm.MethodName) jdk_38_method_25_code (2 : Nat) (Option.some Jvm.ClassFile.FieldType.boolean)).before args0 about1 = true := code_word (m := ⟨11, 9⟩) (meth := k11m9) (c := k11c9) (by decide +kernel) rfl rfl rfl (by decide +kernel)
set_option maxRecDepth 65536 in
theorem w_c11 : (Jvm.Cond.code ({ cls := "java/util/ArrayList", name := "add", desc := "(Ljava/lang/Object;[Ljava/lang/Object;I)V" } : Jvm.MethodName) jdk_38_method_24_code (4 : Nat) (Option.none : Option Jvm.ClassFile.FieldType)).before args0 about1 = true := code_word (m := ⟨11, 8⟩) (meth := k11m8) (c := k11c8) (by decide +kernel) rfl rfl rfl (by decide +kernel)
set_option maxRecDepth 65536 in
theorem w_c12 : (Jvm.Cond.code ({ cls := "java/util/ArrayList", name := "grow", desc := "()[Ljava/lang/Object;" } : Jvm.MethodName) jdk_38_method_7_code (1 : Nat) (Option.some (Jvm.ClassFile.FieldType.array (Jvm.ClassFile.FieldType.object "java/lang/Object")))).before args0 about1 = true := code_word (m := ⟨11, 2⟩) (meth := k11m2) (c := k11c2) (by decide +kernel) rfl rfl rfl (by decide +kernel)
set_option maxRecDepth 65536 in
theorem w_c13 : (Jvm.Cond.code ({ cls := "java/util/ArrayList", name := "grow", desc := "(I)[Ljava/lang/Object;" } : Jvm.MethodName) jdk_38_method_6_code (4 : Nat) (Option.some (Jvm.ClassFile.FieldType.array (Jvm.ClassFile.FieldType.object "java/lang/Object")))).before args0 about1 = true := code_word (m := ⟨11, 1⟩) (meth := k11m1) (c := k11c1) (by decide +kernel) rfl rfl rfl (by decide +kernel)
set_option maxRecDepth 65536 in
theorem w_c14 : (Jvm.Cond.code ({ cls := "java/lang/Math", name := "max", desc := "(II)I" } : Jvm.MethodName) jdk_29_method_65_code (2 : Nat) (Option.some Jvm.ClassFile.FieldType.int)).before args0 about1 = true := code_word (m := ⟨18, 1⟩) (meth := k18m1) (c := k18c1) (by decide +kernel) rfl rfl rfl (by decide +kernel)
set_option maxRecDepth 65536 in
theorem w_c15 : (Jvm.Cond.code ({ cls := "java/util/ArrayList", name := "size", desc := "()I" } : Jvm.MethodName) jdk_38_method_8_code (1 : Nat) (Option.some Jvm.ClassFile.FieldType.int)).before args0 about1 = true := code_word (m := ⟨11, 3⟩) (meth := k11m3) (c := k11c3) (by decide +kernel) rfl rfl rfl (by decide +kernel)
set_option maxRecDepth 65536 in
theorem w_c16 : (Jvm.Cond.code ({ cls := "com/example/graftwork/graftwork/ElementDefinition", name := "<init>", desc := "(Ljava/lang/String;IILjava/util/List;)V" } : Jvm.MethodName) prog_6_method_1_code (6 : Nat) (Option.none : Option Jvm.ClassFile.FieldType)).before args0 about1 = true := code_word (m := ⟨19, 0⟩) (meth := k19m0) (c := k19c0) (by decide +kernel) rfl rfl rfl (by decide +kernel)
set_option maxRecDepth 65536 in
theorem w_c17 : (Jvm.Cond.code ({ cls := "java/util/LinkedHashMap", name := "<init>", desc := "()V" } : Jvm.MethodName) jdk_94_method_16_code (1 : Nat) (Option.none : Option Jvm.ClassFile.FieldType)).before args0 about1 = true := code_word (m := ⟨24, 0⟩) (meth := k24m0) (c := k24c0) (by decide +kernel) rfl rfl rfl (by decide +kernel)
set_option maxRecDepth 65536 in
theorem w_c18 : (Jvm.Cond.code ({ cls := "java/util/HashMap", name := "<init>", desc := "()V" } : Jvm.MethodName) jdk_69_method_7_code (1 : Nat) (Option.none : Option Jvm.ClassFile.FieldType)).before args0 about1 = true := code_word (m := ⟨22, 0⟩) (meth := k22m0) (c := k22c0) (by decide +kernel) rfl rfl rfl (by decide +kernel)
set_option maxRecDepth 65536 in
theorem w_c19 : (Jvm.Cond.code ({ cls := "java/util/AbstractMap", name := "<init>", desc := "()V" } : Jvm.MethodName) jdk_71_method_1_code (1 : Nat) (Option.none : Option Jvm.ClassFile.FieldType)).before args0 about1 = true := code_word (m := ⟨21, 0⟩) (meth := k21m0) (c := k21c0) (by decide +kernel) rfl rfl rfl (by decide +kernel)
set_option maxRecDepth 65536 in
theorem w_c20 : (Jvm.Cond.code ({ cls := "java/lang/String", name := "lastIndexOf", desc := "(I)I" } : Jvm.MethodName) jdk_42_method_82_code (2 : Nat) (Option.some Jvm.ClassFile.FieldType.int)).before args0 about1 = true := code_word (m := ⟨16, 5⟩) (meth := k16m5) (c := k16c5) (by decide +kernel) rfl rfl rfl (by decide +kernel)
set_option maxRecDepth 65536 in
theorem w_c21 : (Jvm.Cond.code ({ cls := "java/lang/String", name := "length", desc := "()I" } : Jvm.MethodName) jdk_42_method_54_code (1 : Nat) (Option.some Jvm.ClassFile.FieldType.int)).before args0 about1 = true := code_word (m := ⟨16, 1⟩) (meth := k16m1) (c := k16c1) (by decide +kernel) rfl rfl rfl (by decide +kernel)
set_option maxRecDepth 65536 in
theorem w_c22 : (Jvm.Cond.code ({ cls := "java/lang/String", name := "coder", desc := "()B" } : Jvm.MethodName) jdk_42_method_152_code (1 : Nat) (Option.some Jvm.ClassFile.FieldType.byte)).before args0 about1 = true := code_word (m := ⟨16, 11⟩) (meth := k16m11) (c := k16c11) (by decide +kernel) rfl rfl rfl (by decide +kernel)
set_option maxRecDepth 65536 in
theorem w_c23 : (Jvm.Cond.code ({ cls := "java/lang/String", name := "lastIndexOf", desc := "(II)I" } : Jvm.MethodName) jdk_42_method_83_code (3 : Nat) (Option.some Jvm.ClassFile.FieldType.int)).before args0 about1 = true := code_word (m := ⟨16, 6⟩) (meth := k16m6) (c := k16c6) (by decide +kernel) rfl rfl rfl (by decide +kernel)
set_option maxRecDepth 65536 in
theorem w_c24 : (Jvm.Cond.code ({ cls := "java/lang/String", name := "isLatin1", desc := "()Z" } : Jvm.MethodName) jdk_42_method_154_code (1 : Nat) (Option.some Jvm.ClassFile.FieldType.boolean)).before args0 about1 = true := code_word (m := ⟨16, 12⟩) (meth := k16m12) (c := k16c12) (by decide +kernel) rfl rfl rfl (by decide +kernel)
set_option maxRecDepth 65536 in
theorem w_c25 : (Jvm.Cond.code ({ cls := "java/lang/StringLatin1", name := "lastIndexOf", desc := "([BII)I" } : Jvm.MethodName) jdk_43_method_27_code (4 : Nat) (Option.some Jvm.ClassFile.FieldType.int)).before args0 about1 = true := code_word (m := ⟨17, 3⟩) (meth := k17m3) (c := k17c3) (by decide +kernel) rfl rfl rfl (by decide +kernel)
set_option maxRecDepth 65536 in
theorem w_c26 : (Jvm.Cond.code ({ cls := "java/lang/StringLatin1", name := "canEncode", desc := "(I)Z" } : Jvm.MethodName) jdk_43_method_4_code (1 : Nat) (Option.some Jvm.ClassFile.FieldType.boolean)).before args0 about1 = true := code_word (m := ⟨17, 2⟩) (meth := k17m2) (c := k17c2) (by decide +kernel) rfl rfl rfl (by decide +kernel)
set_option maxRecDepth 65536 in
theorem w_c27 : (Jvm.Cond.code ({ cls := "java/lang/Math", name := "min", desc := "(II)I" } : Jvm.MethodName) jdk_29_method_69_code (2 : Nat) (Option.some Jvm.ClassFile.FieldType.int)).before args0 about1 = true := code_word (m := ⟨18, 2⟩) (meth := k18m2) (c := k18c2) (by decide +kernel) rfl rfl rfl (by decide +kernel)
set_option maxRecDepth 65536 in
theorem w_c28 : (Jvm.Cond.code ({ cls := "java/lang/String", name := "substring", desc := "(I)Ljava/lang/String;" } : Jvm.MethodName) jdk_42_method_91_code (2 : Nat) (Option.some (Jvm.ClassFile.FieldType.object "java/lang/String"))).before args0 about1 = true := code_word (m := ⟨16, 7⟩) (meth := k16m7) (c := k16c7) (by decide +kernel) rfl rfl rfl (by decide +kernel)
set_option maxRecDepth 65536 in
theorem w_c29 : (Jvm.Cond.code ({ cls := "java/lang/String", name := "substring", desc := "(II)Ljava/lang/String;" } : Jvm.MethodName) jdk_42_method_92_code (5 : Nat) (Option.some (Jvm.ClassFile.FieldType.object "java/lang/String"))).before args0 about1 = true := code_word (m := ⟨16, 8⟩) (meth := k16m8) (c := k16c8) (by decide +kernel) rfl rfl rfl (by decide +kernel)
set_option maxRecDepth 65536 in
theorem w_c30 : (Jvm.Cond.code ({ cls := "java/lang/String", name := "checkBoundsBeginEnd", desc := "(III)V" } : Jvm.MethodName) jdk_42_method_158_code (3 : Nat) (Option.none : Option Jvm.ClassFile.FieldType)).before args0 about1 = true := code_word (m := ⟨16, 13⟩) (meth := k16m13) (c := k16c13) (by decide +kernel) rfl rfl rfl (by decide +kernel)
set_option maxRecDepth 65536 in
theorem w_c31 : (Jvm.Cond.code ({ cls := "jdk/internal/util/Preconditions", name := "checkFromToIndex", desc := "(IIILjava/util/function/BiFunction;)I" } : Jvm.MethodName) jdk_41_method_12_code (4 : Nat) (Option.some Jvm.ClassFile.FieldType.int)).before args0 about1 = true := code_word (m := ⟨25, 2⟩) (meth := k25m2) (c := k25c2) (by decide +kernel) rfl rfl rfl (by decide +kernel)
set_option maxRecDepth 65536 in
theorem w_c32 : (Jvm.Cond.code ({ cls := "java/lang/StringLatin1", name := "newString", desc := "([BII)Ljava/lang/String;" } : Jvm.MethodName) jdk_43_method_47_code (3 : Nat) (Option.some (Jvm.ClassFile.FieldType.object "java/lang/String"))).before args0 about1 = true := code_word (m := ⟨17, 5⟩) (meth := k17m5) (c := k17c5) (by decide +kernel) rfl rfl rfl (by decide +kernel)
set_option maxRecDepth 65536 in
theorem w_c33 : (Jvm.Cond.code ({ cls := "java/util/Arrays", name := "copyOfRange", desc := "([BII)[B" } : Jvm.MethodName) jdk_65_method_132_code (3 : Nat) (Option.some (Jvm.ClassFile.FieldType.array Jvm.ClassFile.FieldType.byte))).before args0 about1 = true := code_word (m := ⟨26, 4⟩) (meth := k26m4) (c := k26c4) (by decide +kernel) rfl rfl rfl (by decide +kernel)
set_option maxRecDepth 65536 in
theorem w_c34 : (Jvm.Cond.code ({ cls := "java/util/Arrays", name := "copyOfRangeByte", desc := "([BII)[B" } : Jvm.MethodName) jdk_65_method_133_code (5 : Nat) (Option.some (Jvm.ClassFile.FieldType.array Jvm.ClassFile.FieldType.byte))).before args0 about1 = true := code_word (m := ⟨26, 5⟩) (meth := k26m5) (c := k26c5) (by decide +kernel) rfl rfl rfl (by decide +kernel)
set_option maxRecDepth 65536 in
theorem w_c35 : (Jvm.Cond.code ({ cls := "java/util/Arrays", name := "checkLength", desc := "(II)V" } : Jvm.MethodName) jdk_65_method_131_code (2 : Nat) (Option.none : Option Jvm.ClassFile.FieldType)).before args0 about1 = true := code_word (m := ⟨26, 3⟩) (meth := k26m3) (c := k26c3) (by decide +kernel) rfl rfl rfl (by decide +kernel)
set_option maxRecDepth 65536 in
theorem w_c36 : (Jvm.Cond.code ({ cls := "java/lang/String", name := "endsWith", desc := "(Ljava/lang/String;)Z" } : Jvm.MethodName) jdk_42_method_77_code (2 : Nat) (Option.some Jvm.ClassFile.FieldType.boolean)).before args0 about1 = true := code_word (m := ⟨16, 4⟩) (meth := k16m4) (c := k16c4) (by decide +kernel) rfl rfl rfl (by decide +kernel)
set_option maxRecDepth 65536 in
theorem w_c37 : (Jvm.Cond.code ({ cls := "java/lang/String", name := "startsWith", desc := "(Ljava/lang/String;I)Z" } : Jvm.MethodName) jdk_42_method_75_code (8 : Nat) (Option.some Jvm.ClassFile.FieldType.boolean)).before args0 about1 = true := code_word (m := ⟨16, 3⟩) (meth := k16m3) (c := k16c3) (by decide +kernel) rfl rfl rfl (by decide +kernel)
set_option maxRecDepth 65536 in
theorem w_c38 : (Jvm.Cond.code ({ cls := "java/util/List", name := "copyOf", desc := "(Ljava/util/Collection;)Ljava/util/List;" } : Jvm.MethodName) jdk_40_method_48_code (1 : Nat) (Option.some (Jvm.ClassFile.FieldType.object "java/util/List"))).before args0 about1 = true := code_word (m := ⟨6, 4⟩) (meth := k6m4) (c := k6c4) (by decide +kernel) rfl rfl rfl (by decide +kernel)
set_option maxRecDepth 65536 in
theorem w_c39 : (Jvm.Cond.code ({ cls := "java/util/ImmutableCollections", name := "listCopy", desc := "(Ljava/util/Collection;)Ljava/util/List;" } : Jvm.MethodName) jdk_56_method_3_code (2 : Nat) (Option.some (Jvm.ClassFile.FieldType.object "java/util/List"))).before args0 about1 = true := code_word (m := ⟨28, 1⟩) (meth := k28m1) (c := k28c1) (by decide +kernel) rfl rfl rfl (by decide +kernel)
set_option maxRecDepth 65536 in
theorem w_c40 : (Jvm.Cond.code ({ cls := "java/util/ArrayList", name := "isEmpty", desc := "()Z" } : Jvm.MethodName) jdk_38_method_9_code (1 : Nat) (Option.some Jvm.ClassFile.FieldType.boolean)).before args0 about1 = true := code_word (m := ⟨11, 4⟩) (meth := k11m4) (c := k11c4) (by decide +kernel) rfl rfl rfl (by decide +kernel)
set_option maxRecDepth 65536 in
theorem w_c41 : (Jvm.Cond.code ({ cls := "java/util/List", name := "of", desc := "()Ljava/util/List;" } : Jvm.MethodName) jdk_40_method_36_code (0 : Nat) (Option.some (Jvm.ClassFile.FieldType.object "java/util/List"))).before args0 about1 = true := code_word (m := ⟨6, 2⟩) (meth := k6m2) (c := k6c2) (by decide +kernel) rfl rfl rfl (by decide +kernel)
set_option maxRecDepth 65536 in
theorem w_c42 : (Jvm.Cond.code ({ cls := "jdk/internal/util/ArraysSupport", name := "mismatch", desc := "([BI[BII)I" } : Jvm.MethodName) jdk_48_method_14_code (8 : Nat) (Option.some Jvm.ClassFile.FieldType.int)).before args0 about1 = true := code_word (m := ⟨33, 1⟩) (meth := k33m1) (c := k33c1) (by decide +kernel) rfl rfl rfl (by decide +kernel)
set_option maxRecDepth 65536 in
theorem w_c43 : (Jvm.Cond.code ({ cls := "java/util/ArrayList", name := "toArray", desc := "()[Ljava/lang/Object;" } : Jvm.MethodName) jdk_38_method_16_code (1 : Nat) (Option.some (Jvm.ClassFile.FieldType.array (Jvm.ClassFile.FieldType.object "java/lang/Object")))).before args0 about1 = true := code_word (m := ⟨11, 5⟩) (meth := k11m5) (c := k11c5) (by decide +kernel) rfl rfl rfl (by decide +kernel)
set_option maxRecDepth 65536 in
theorem w_c44 : (Jvm.Cond.code ({ cls := "java/util/Arrays", name := "copyOf", desc := "([Ljava/lang/Object;I)[Ljava/lang/Object;" } : Jvm.MethodName) jdk_65_method_119_code (2 : Nat) (Option.some (Jvm.ClassFile.FieldType.array (Jvm.ClassFile.FieldType.object "java/lang/Object")))).before args0 about1 = true := code_word (m := ⟨26, 1⟩) (meth := k26m1) (c := k26c1) (by decide +kernel) rfl rfl rfl (by decide +kernel)
set_option maxRecDepth 65536 in
theorem w_c45 : (Jvm.Cond.code ({ cls := "java/util/Arrays", name := "copyOf", desc := "([Ljava/lang/Object;ILjava/lang/Class;)[Ljava/lang/Object;" } : Jvm.MethodName) jdk_65_method_120_code (4 : Nat) (Option.some (Jvm.ClassFile.FieldType.array (Jvm.ClassFile.FieldType.object "java/lang/Object")))).before args0 about1 = true := code_word (m := ⟨26, 2⟩) (meth := k26m2) (c := k26c2) (by decide +kernel) rfl rfl rfl (by decide +kernel)
set_option maxRecDepth 65536 in
theorem w_c46 : (Jvm.Cond.code ({ cls := "java/util/List", name := "of", desc := "([Ljava/lang/Object;)Ljava/util/List;" } : Jvm.MethodName) jdk_40_method_47_code (2 : Nat) (Option.some (Jvm.ClassFile.FieldType.object "java/util/List"))).before args0 about1 = true := code_word (m := ⟨6, 3⟩) (meth := k6m3) (c := k6c3) (by decide +kernel) rfl rfl rfl (by decide +kernel)
set_option maxRecDepth 65536 in
theorem w_c47 : (Jvm.Cond.code ({ cls := "java/util/ImmutableCollections$List12", name := "<init>", desc := "(Ljava/lang/Object;Ljava/lang/Object;)V" } : Jvm.MethodName) jdk_44_method_2_code (3 : Nat) (Option.none : Option Jvm.ClassFile.FieldType)).before args0 about1 = true := code_word (m := ⟨31, 1⟩) (meth := k31m1) (c := k31c1) (by decide +kernel) rfl rfl rfl (by decide +kernel)
set_option maxRecDepth 65536 in
theorem w_c48 : (Jvm.Cond.code ({ cls := "java/util/ImmutableCollections$AbstractImmutableList", name := "<init>", desc := "()V" } : Jvm.MethodName) jdk_46_method_1_code (1 : Nat) (Option.none : Option Jvm.ClassFile.FieldType)).before args0 about1 = true := code_word (m := ⟨30, 0⟩) (meth := k30m0) (c := k30c0) (by decide +kernel) rfl rfl rfl (by decide +kernel)
set_option maxRecDepth 65536 in
theorem w_c49 : (Jvm.Cond.code ({ cls := "java/util/ImmutableCollections$AbstractImmutableCollection", name := "<init>", desc := "()V" } : Jvm.MethodName) jdk_47_method_1_code (1 : Nat) (Option.none : Option Jvm.ClassFile.FieldType)).before args0 about1 = true := code_word (m := ⟨29, 0⟩) (meth := k29m0) (c := k29c0) (by decide +kernel) rfl rfl rfl (by decide +kernel)
set_option maxRecDepth 65536 in
theorem w_c50 : (Jvm.Cond.code ({ cls := "java/util/Objects", name := "requireNonNull", desc := "(Ljava/lang/Object;)Ljava/lang/Object;" } : Jvm.MethodName) jdk_31_method_10_code (1 : Nat) (Option.some (Jvm.ClassFile.FieldType.object "java/lang/Object"))).before args0 about1 = true := code_word (m := ⟨34, 1⟩) (meth := k34m1) (c := k34c1) (by decide +kernel) rfl rfl rfl (by decide +kernel)
set_option maxRecDepth 65536 in
theorem w_c51 : (Jvm.Cond.code ({ cls := "com/example/graftwork/graftwork/ElementDefinition", name := "types", desc := "()Ljava/util/List;" } : Jvm.MethodName) prog_6_method_6_code (1 : Nat) (Option.some (Jvm.ClassFile.FieldType.object "java/util/List"))).before args0 about1 = true := code_word (m := ⟨19, 1⟩) (meth := k19m1) (c := k19c1) (by decide +kernel) rfl rfl rfl (by decide +kernel)
set_option maxRecDepth 65536 in
theorem w_c52 : (Jvm.Cond.code ({ cls := "com/example/graftwork/graftwork/ElementDefinitionTypesPinLaw", name := "same", desc := "(Ljava/util/List;Ljava/util/List;I)Z" } : Jvm.MethodName) method_3_code (3 : Nat) (Option.some Jvm.ClassFile.FieldType.boolean)).before args0 about1 = true := code_word (m := ⟨1, 2⟩) (meth := k1m2) (c := k1c2) (by decide +kernel) rfl rfl rfl (by decide +kernel)
set_option maxRecDepth 65536 in
theorem w_c53 : (Jvm.Cond.code ({ cls := "java/util/ImmutableCollections$ListN", name := "size", desc := "()I" } : Jvm.MethodName) jdk_45_method_3_code (1 : Nat) (Option.some Jvm.ClassFile.FieldType.int)).before args0 about1 = true := code_word (m := ⟨32, 0⟩) (meth := k32m0) (c := k32c0) (by decide +kernel) rfl rfl rfl (by decide +kernel)
set_option maxRecDepth 65536 in
theorem w_c54 : (Jvm.Cond.code ({ cls := "com/example/graftwork/graftwork/ElementDefinition", name := "reuse", desc := "(Lcom/example/graftwork/graftwork/ElementDefinition;)V" } : Jvm.MethodName) prog_6_method_13_code (2 : Nat) (Option.none : Option Jvm.ClassFile.FieldType)).before args0 about1 = true := code_word (m := ⟨19, 2⟩) (meth := k19m2) (c := k19c2) (by decide +kernel) rfl rfl rfl (by decide +kernel)
set_option maxRecDepth 65536 in
theorem w_c55 : (Jvm.Cond.code ({ cls := "java/util/ImmutableCollections$List12", name := "size", desc := "()I" } : Jvm.MethodName) jdk_44_method_3_code (1 : Nat) (Option.some Jvm.ClassFile.FieldType.int)).before args0 about1 = true := code_word (m := ⟨31, 2⟩) (meth := k31m2) (c := k31c2) (by decide +kernel) rfl rfl rfl (by decide +kernel)
set_option maxRecDepth 65536 in
theorem w_c56 : (Jvm.Cond.code ({ cls := "java/util/ImmutableCollections$List12", name := "get", desc := "(I)Ljava/lang/Object;" } : Jvm.MethodName) jdk_44_method_5_code (2 : Nat) (Option.some (Jvm.ClassFile.FieldType.object "java/lang/Object"))).before args0 about1 = true := code_word (m := ⟨31, 3⟩) (meth := k31m3) (c := k31c3) (by decide +kernel) rfl rfl rfl (by decide +kernel)
set_option maxRecDepth 65536 in
theorem w_c57 : (Jvm.Cond.code ({ cls := "java/util/ArrayList", name := "get", desc := "(I)Ljava/lang/Object;" } : Jvm.MethodName) jdk_38_method_20_code (2 : Nat) (Option.some (Jvm.ClassFile.FieldType.object "java/lang/Object"))).before args0 about1 = true := code_word (m := ⟨11, 7⟩) (meth := k11m7) (c := k11c7) (by decide +kernel) rfl rfl rfl (by decide +kernel)
set_option maxRecDepth 65536 in
theorem w_c58 : (Jvm.Cond.code ({ cls := "java/util/Objects", name := "checkIndex", desc := "(II)I" } : Jvm.MethodName) jdk_31_method_17_code (2 : Nat) (Option.some Jvm.ClassFile.FieldType.int)).before args0 about1 = true := code_word (m := ⟨34, 2⟩) (meth := k34m2) (c := k34c2) (by decide +kernel) rfl rfl rfl (by decide +kernel)
set_option maxRecDepth 65536 in
theorem w_c59 : (Jvm.Cond.code ({ cls := "jdk/internal/util/Preconditions", name := "checkIndex", desc := "(IILjava/util/function/BiFunction;)I" } : Jvm.MethodName) jdk_41_method_11_code (3 : Nat) (Option.some Jvm.ClassFile.FieldType.int)).before args0 about1 = true := code_word (m := ⟨25, 1⟩) (meth := k25m1) (c := k25c1) (by decide +kernel) rfl rfl rfl (by decide +kernel)
set_option maxRecDepth 65536 in
theorem w_c60 : (Jvm.Cond.code ({ cls := "java/util/ArrayList", name := "elementData", desc := "(I)Ljava/lang/Object;" } : Jvm.MethodName) jdk_38_method_18_code (2 : Nat) (Option.some (Jvm.ClassFile.FieldType.object "java/lang/Object"))).before args0 about1 = true := code_word (m := ⟨11, 6⟩) (meth := k11m6) (c := k11c6) (by decide +kernel) rfl rfl rfl (by decide +kernel)
set_option maxRecDepth 65536 in
theorem w_c61 : (Jvm.Cond.code ({ cls := "java/lang/String", name := "equals", desc := "(Ljava/lang/Object;)Z" } : Jvm.MethodName) jdk_42_method_66_code (3 : Nat) (Option.some Jvm.ClassFile.FieldType.boolean)).before args0 about1 = true := code_word (m := ⟨16, 2⟩) (meth := k16m2) (c := k16c2) (by decide +kernel) rfl rfl rfl (by decide +kernel)
set_option maxRecDepth 65536 in
theorem w_c62 : (Jvm.Cond.code ({ cls := "java/util/ImmutableCollections$List12", name := "<init>", desc := "(Ljava/lang/Object;)V" } : Jvm.MethodName) jdk_44_method_1_code (2 : Nat) (Option.none : Option Jvm.ClassFile.FieldType)).before args0 about1 = true := code_word (m := ⟨31, 0⟩) (meth := k31m0) (c := k31c0) (by decide +kernel) rfl rfl rfl (by decide +kernel)
def codes1 : List Jvm.Cond := [Jvm.Cond.code x code maxLocals ret, Jvm.Cond.code ({ cls := "com/example/graftwork/graftwork/ElementDefinitionTypesPinLaw", name := "draw", desc := "(I)Ljava/util/ArrayList;" } : Jvm.MethodName) method_2_code (3 : Nat) (Option.some (Jvm.ClassFile.FieldType.object "java/util/ArrayList")), Jvm.Cond.code ({ cls := "java/util/ArrayList", name := "<init>", desc := "()V" } : Jvm.MethodName) jdk_38_method_2_code (1 : Nat) (Option.none : Option Jvm.ClassFile.FieldType), Jvm.Cond.code ({ cls := "java/util/AbstractList", name := "<init>", desc := "()V" } : Jvm.MethodName) jdk_39_method_1_code (1 : Nat) (Option.none : Option Jvm.ClassFile.FieldType), Jvm.Cond.code ({ cls := "java/util/AbstractCollection", name := "<init>", desc := "()V" } : Jvm.MethodName) jdk_22_method_1_code (1 : Nat) (Option.none : Option Jvm.ClassFile.FieldType), Jvm.Cond.code ({ cls := "java/lang/Object", name := "<init>", desc := "()V" } : Jvm.MethodName) object_method_1_code (1 : Nat) (Option.none : Option Jvm.ClassFile.FieldType), Jvm.Cond.code ({ cls := "java/lang/String", name := "valueOf", desc := "(C)Ljava/lang/String;" } : Jvm.MethodName) jdk_42_method_139_code (1 : Nat) (Option.some (Jvm.ClassFile.FieldType.object "java/lang/String")), Jvm.Cond.code ({ cls := "java/lang/StringLatin1", name := "canEncode", desc := "(C)Z" } : Jvm.MethodName) jdk_43_method_3_code (1 : Nat) (Option.some Jvm.ClassFile.FieldType.boolean), Jvm.Cond.code ({ cls := "java/lang/StringLatin1", name := "toBytes", desc := "(C)[B" } : Jvm.MethodName) jdk_43_method_46_code (1 : Nat) (Option.some (Jvm.ClassFile.FieldType.array Jvm.ClassFile.FieldType.byte)), Jvm.Cond.code ({ cls := "java/lang/String", name := "<init>", desc := "([BB)V" } : Jvm.MethodName) jdk_42_method_151_code (3 : Nat) (Option.none : Option Jvm.ClassFile.FieldType), Jvm.Cond.code ({ cls := "java/util/ArrayList", name := "add", desc := "(Ljava/lang/Object;)Z" } : Jvm.MethodName) jdk_38_method_25_code (2 : Nat) (Option.some Jvm.ClassFile.FieldType.boolean), Jvm.Cond.code ({ cls := "java/util/ArrayList", name := "add", desc := "(Ljava/lang/Object;[Ljava/lang/Object;I)V" } : Jvm.MethodName) jdk_38_method_24_code (4 : Nat) (Option.none : Option Jvm.ClassFile.FieldType), Jvm.Cond.code ({ cls := "java/util/ArrayList", name := "grow", desc := "()[Ljava/lang/Object;" } : Jvm.MethodName) jdk_38_method_7_code (1 : Nat) (Option.some (Jvm.ClassFile.FieldType.array (Jvm.ClassFile.FieldType.object "java/lang/Object"))), Jvm.Cond.code ({ cls := "java/util/ArrayList", name := "grow", desc := "(I)[Ljava/lang/Object;" } : Jvm.MethodName) jdk_38_method_6_code (4 : Nat) (Option.some (Jvm.ClassFile.FieldType.array (Jvm.ClassFile.FieldType.object "java/lang/Object"))), Jvm.Cond.code ({ cls := "java/lang/Math", name := "max", desc := "(II)I" } : Jvm.MethodName) jdk_29_method_65_code (2 : Nat) (Option.some Jvm.ClassFile.FieldType.int), Jvm.Cond.code ({ cls := "java/util/ArrayList", name := "size", desc := "()I" } : Jvm.MethodName) jdk_38_method_8_code (1 : Nat) (Option.some Jvm.ClassFile.FieldType.int), Jvm.Cond.code ({ cls := "com/example/graftwork/graftwork/ElementDefinition", name := "<init>", desc := "(Ljava/lang/String;IILjava/util/List;)V" } : Jvm.MethodName) prog_6_method_1_code (6 : Nat) (Option.none : Option Jvm.ClassFile.FieldType), Jvm.Cond.code ({ cls := "java/util/LinkedHashMap", name := "<init>", desc := "()V" } : Jvm.MethodName) jdk_94_method_16_code (1 : Nat) (Option.none : Option Jvm.ClassFile.FieldType), Jvm.Cond.code ({ cls := "java/util/HashMap", name := "<init>", desc := "()V" } : Jvm.MethodName) jdk_69_method_7_code (1 : Nat) (Option.none : Option Jvm.ClassFile.FieldType), Jvm.Cond.code ({ cls := "java/util/AbstractMap", name := "<init>", desc := "()V" } : Jvm.MethodName) jdk_71_method_1_code (1 : Nat) (Option.none : Option Jvm.ClassFile.FieldType), Jvm.Cond.code ({ cls := "java/lang/String", name := "lastIndexOf", desc := "(I)I" } : Jvm.MethodName) jdk_42_method_82_code (2 : Nat) (Option.some Jvm.ClassFile.FieldType.int), Jvm.Cond.code ({ cls := "java/lang/String", name := "length", desc := "()I" } : Jvm.MethodName) jdk_42_method_54_code (1 : Nat) (Option.some Jvm.ClassFile.FieldType.int), Jvm.Cond.code ({ cls := "java/lang/String", name := "coder", desc := "()B" } : Jvm.MethodName) jdk_42_method_152_code (1 : Nat) (Option.some Jvm.ClassFile.FieldType.byte), Jvm.Cond.code ({ cls := "java/lang/String", name := "lastIndexOf", desc := "(II)I" } : Jvm.MethodName) jdk_42_method_83_code (3 : Nat) (Option.some Jvm.ClassFile.FieldType.int), Jvm.Cond.code ({ cls := "java/lang/String", name := "isLatin1", desc := "()Z" } : Jvm.MethodName) jdk_42_method_154_code (1 : Nat) (Option.some Jvm.ClassFile.FieldType.boolean), Jvm.Cond.code ({ cls := "java/lang/StringLatin1", name := "lastIndexOf", desc := "([BII)I" } : Jvm.MethodName) jdk_43_method_27_code (4 : Nat) (Option.some Jvm.ClassFile.FieldType.int), Jvm.Cond.code ({ cls := "java/lang/StringLatin1", name := "canEncode", desc := "(I)Z" } : Jvm.MethodName) jdk_43_method_4_code (1 : Nat) (Option.some Jvm.ClassFile.FieldType.boolean), Jvm.Cond.code ({ cls := "java/lang/Math", name := "min", desc := "(II)I" } : Jvm.MethodName) jdk_29_method_69_code (2 : Nat) (Option.some Jvm.ClassFile.FieldType.int), Jvm.Cond.code ({ cls := "java/lang/String", name := "substring", desc := "(I)Ljava/lang/String;" } : Jvm.MethodName) jdk_42_method_91_code (2 : Nat) (Option.some (Jvm.ClassFile.FieldType.object "java/lang/String")), Jvm.Cond.code ({ cls := "java/lang/String", name := "substring", desc := "(II)Ljava/lang/String;" } : Jvm.MethodName) jdk_42_method_92_code (5 : Nat) (Option.some (Jvm.ClassFile.FieldType.object "java/lang/String")), Jvm.Cond.code ({ cls := "java/lang/String", name := "checkBoundsBeginEnd", desc := "(III)V" } : Jvm.MethodName) jdk_42_method_158_code (3 : Nat) (Option.none : Option Jvm.ClassFile.FieldType), Jvm.Cond.code ({ cls := "jdk/internal/util/Preconditions", name := "checkFromToIndex", desc := "(IIILjava/util/function/BiFunction;)I" } : Jvm.MethodName) jdk_41_method_12_code (4 : Nat) (Option.some Jvm.ClassFile.FieldType.int), Jvm.Cond.code ({ cls := "java/lang/StringLatin1", name := "newString", desc := "([BII)Ljava/lang/String;" } : Jvm.MethodName) jdk_43_method_47_code (3 : Nat) (Option.some (Jvm.ClassFile.FieldType.object "java/lang/String")), Jvm.Cond.code ({ cls := "java/util/Arrays", name := "copyOfRange", desc := "([BII)[B" } : Jvm.MethodName) jdk_65_method_132_code (3 : Nat) (Option.some (Jvm.ClassFile.FieldType.array Jvm.ClassFile.FieldType.byte)), Jvm.Cond.code ({ cls := "java/util/Arrays", name := "copyOfRangeByte", desc := "([BII)[B" } : Jvm.MethodName) jdk_65_method_133_code (5 : Nat) (Option.some (Jvm.ClassFile.FieldType.array Jvm.ClassFile.FieldType.byte)), Jvm.Cond.code ({ cls := "java/util/Arrays", name := "checkLength", desc := "(II)V" } : Jvm.MethodName) jdk_65_method_131_code (2 : Nat) (Option.none : Option Jvm.ClassFile.FieldType), Jvm.Cond.code ({ cls := "java/lang/String", name := "endsWith", desc := "(Ljava/lang/String;)Z" } : Jvm.MethodName) jdk_42_method_77_code (2 : Nat) (Option.some Jvm.ClassFile.FieldType.boolean), Jvm.Cond.code ({ cls := "java/lang/String", name := "startsWith", desc := "(Ljava/lang/String;I)Z" } : Jvm.MethodName) jdk_42_method_75_code (8 : Nat) (Option.some Jvm.ClassFile.FieldType.boolean), Jvm.Cond.code ({ cls := "java/util/List", name := "copyOf", desc := "(Ljava/util/Collection;)Ljava/util/List;" } : Jvm.MethodName) jdk_40_method_48_code (1 : Nat) (Option.some (Jvm.ClassFile.FieldType.object "java/util/List")), Jvm.Cond.code ({ cls := "java/util/ImmutableCollections", name := "listCopy", desc := "(Ljava/util/Collection;)Ljava/util/List;" } : Jvm.MethodName) jdk_56_method_3_code (2 : Nat) (Option.some (Jvm.ClassFile.FieldType.object "java/util/List")), Jvm.Cond.code ({ cls := "java/util/ArrayList", name := "isEmpty", desc := "()Z" } : Jvm.MethodName) jdk_38_method_9_code (1 : Nat) (Option.some Jvm.ClassFile.FieldType.boolean), Jvm.Cond.code ({ cls := "java/util/List", name := "of", desc := "()Ljava/util/List;" } : Jvm.MethodName) jdk_40_method_36_code (0 : Nat) (Option.some (Jvm.ClassFile.FieldType.object "java/util/List")), Jvm.Cond.code ({ cls := "jdk/internal/util/ArraysSupport", name := "mismatch", desc := "([BI[BII)I" } : Jvm.MethodName) jdk_48_method_14_code (8 : Nat) (Option.some Jvm.ClassFile.FieldType.int), Jvm.Cond.code ({ cls := "java/util/ArrayList", name := "toArray", desc := "()[Ljava/lang/Object;" } : Jvm.MethodName) jdk_38_method_16_code (1 : Nat) (Option.some (Jvm.ClassFile.FieldType.array (Jvm.ClassFile.FieldType.object "java/lang/Object"))), Jvm.Cond.code ({ cls := "java/util/Arrays", name := "copyOf", desc := "([Ljava/lang/Object;I)[Ljava/lang/Object;" } : Jvm.MethodName) jdk_65_method_119_code (2 : Nat) (Option.some (Jvm.ClassFile.FieldType.array (Jvm.ClassFile.FieldType.object "java/lang/Object"))), Jvm.Cond.code ({ cls := "java/util/Arrays", name := "copyOf", desc := "([Ljava/lang/Object;ILjava/lang/Class;)[Ljava/lang/Object;" } : Jvm.MethodName) jdk_65_method_120_code (4 : Nat) (Option.some (Jvm.ClassFile.FieldType.array (Jvm.ClassFile.FieldType.object "java/lang/Object"))), Jvm.Cond.code ({ cls := "java/util/List", name := "of", desc := "([Ljava/lang/Object;)Ljava/util/List;" } : Jvm.MethodName) jdk_40_method_47_code (2 : Nat) (Option.some (Jvm.ClassFile.FieldType.object "java/util/List")), Jvm.Cond.code ({ cls := "java/util/ImmutableCollections$List12", name := "<init>", desc := "(Ljava/lang/Object;Ljava/lang/Object;)V" } : Jvm.MethodName) jdk_44_method_2_code (3 : Nat) (Option.none : Option Jvm.ClassFile.FieldType), Jvm.Cond.code ({ cls := "java/util/ImmutableCollections$AbstractImmutableList", name := "<init>", desc := "()V" } : Jvm.MethodName) jdk_46_method_1_code (1 : Nat) (Option.none : Option Jvm.ClassFile.FieldType), Jvm.Cond.code ({ cls := "java/util/ImmutableCollections$AbstractImmutableCollection", name := "<init>", desc := "()V" } : Jvm.MethodName) jdk_47_method_1_code (1 : Nat) (Option.none : Option Jvm.ClassFile.FieldType), Jvm.Cond.code ({ cls := "java/util/Objects", name := "requireNonNull", desc := "(Ljava/lang/Object;)Ljava/lang/Object;" } : Jvm.MethodName) jdk_31_method_10_code (1 : Nat) (Option.some (Jvm.ClassFile.FieldType.object "java/lang/Object")), Jvm.Cond.code ({ cls := "com/example/graftwork/graftwork/ElementDefinition", name := "types", desc := "()Ljava/util/List;" } : Jvm.MethodName) prog_6_method_6_code (1 : Nat) (Option.some (Jvm.ClassFile.FieldType.object "java/util/List")), Jvm.Cond.code ({ cls := "com/example/graftwork/graftwork/ElementDefinitionTypesPinLaw", name := "same", desc := "(Ljava/util/List;Ljava/util/List;I)Z" } : Jvm.MethodName) method_3_code (3 : Nat) (Option.some Jvm.ClassFile.FieldType.boolean), Jvm.Cond.code ({ cls := "java/util/ImmutableCollections$ListN", name := "size", desc := "()I" } : Jvm.MethodName) jdk_45_method_3_code (1 : Nat) (Option.some Jvm.ClassFile.FieldType.int), Jvm.Cond.code ({ cls := "com/example/graftwork/graftwork/ElementDefinition", name := "reuse", desc := "(Lcom/example/graftwork/graftwork/ElementDefinition;)V" } : Jvm.MethodName) prog_6_method_13_code (2 : Nat) (Option.none : Option Jvm.ClassFile.FieldType), Jvm.Cond.code ({ cls := "java/util/ImmutableCollections$List12", name := "size", desc := "()I" } : Jvm.MethodName) jdk_44_method_3_code (1 : Nat) (Option.some Jvm.ClassFile.FieldType.int), Jvm.Cond.code ({ cls := "java/util/ImmutableCollections$List12", name := "get", desc := "(I)Ljava/lang/Object;" } : Jvm.MethodName) jdk_44_method_5_code (2 : Nat) (Option.some (Jvm.ClassFile.FieldType.object "java/lang/Object")), Jvm.Cond.code ({ cls := "java/util/ArrayList", name := "get", desc := "(I)Ljava/lang/Object;" } : Jvm.MethodName) jdk_38_method_20_code (2 : Nat) (Option.some (Jvm.ClassFile.FieldType.object "java/lang/Object")), Jvm.Cond.code ({ cls := "java/util/Objects", name := "checkIndex", desc := "(II)I" } : Jvm.MethodName) jdk_31_method_17_code (2 : Nat) (Option.some Jvm.ClassFile.FieldType.int), Jvm.Cond.code ({ cls := "jdk/internal/util/Preconditions", name := "checkIndex", desc := "(IILjava/util/function/BiFunction;)I" } : Jvm.MethodName) jdk_41_method_11_code (3 : Nat) (Option.some Jvm.ClassFile.FieldType.int), Jvm.Cond.code ({ cls := "java/util/ArrayList", name := "elementData", desc := "(I)Ljava/lang/Object;" } : Jvm.MethodName) jdk_38_method_18_code (2 : Nat) (Option.some (Jvm.ClassFile.FieldType.object "java/lang/Object")), Jvm.Cond.code ({ cls := "java/lang/String", name := "equals", desc := "(Ljava/lang/Object;)Z" } : Jvm.MethodName) jdk_42_method_66_code (3 : Nat) (Option.some Jvm.ClassFile.FieldType.boolean), Jvm.Cond.code ({ cls := "java/util/ImmutableCollections$List12", name := "<init>", desc := "(Ljava/lang/Object;)V" } : Jvm.MethodName) jdk_44_method_1_code (2 : Nat) (Option.none : Option Jvm.ClassFile.FieldType)]
set_option maxRecDepth 65536 in
theorem codes_eq : words1.filter isCode = codes1 := rfl
theorem w_codes : ∀ c ∈ words1.filter isCode, c.before args0 about1 = true := by
  rw [codes_eq]
  intro c hc
  simp only [codes1, List.mem_cons, List.not_mem_nil, or_false] at hc
  rcases hc with rfl | rfl | rfl | rfl | rfl | rfl | rfl | rfl | rfl | rfl | rfl | rfl | rfl | rfl | rfl | rfl | rfl | rfl | rfl | rfl | rfl | rfl | rfl | rfl | rfl | rfl | rfl | rfl | rfl | rfl | rfl | rfl | rfl | rfl | rfl | rfl | rfl | rfl | rfl | rfl | rfl | rfl | rfl | rfl | rfl | rfl | rfl | rfl | rfl | rfl | rfl | rfl | rfl | rfl | rfl | rfl | rfl | rfl | rfl | rfl | rfl | rfl | rfl
  · exact w_c0
  · exact w_c1
  · exact w_c2
  · exact w_c3
  · exact w_c4
  · exact w_c5
  · exact w_c6
  · exact w_c7
  · exact w_c8
  · exact w_c9
  · exact w_c10
  · exact w_c11
  · exact w_c12
  · exact w_c13
  · exact w_c14
  · exact w_c15
  · exact w_c16
  · exact w_c17
  · exact w_c18
  · exact w_c19
  · exact w_c20
  · exact w_c21
  · exact w_c22
  · exact w_c23
  · exact w_c24
  · exact w_c25
  · exact w_c26
  · exact w_c27
  · exact w_c28
  · exact w_c29
  · exact w_c30
  · exact w_c31
  · exact w_c32
  · exact w_c33
  · exact w_c34
  · exact w_c35
  · exact w_c36
  · exact w_c37
  · exact w_c38
  · exact w_c39
  · exact w_c40
  · exact w_c41
  · exact w_c42
  · exact w_c43
  · exact w_c44
  · exact w_c45
  · exact w_c46
  · exact w_c47
  · exact w_c48
  · exact w_c49
  · exact w_c50
  · exact w_c51
  · exact w_c52
  · exact w_c53
  · exact w_c54
  · exact w_c55
  · exact w_c56
  · exact w_c57
  · exact w_c58
  · exact w_c59
  · exact w_c60
  · exact w_c61
  · exact w_c62
set_option maxRecDepth 65536 in
theorem w_t1 : (words1.take 24).all (fun c => isCode c || c.before args0 about1) = true := by decide +kernel
set_option maxRecDepth 65536 in
theorem w_t2 : ((words1.drop 24).take 24).all (fun c => isCode c || c.before args0 about1) = true := by decide +kernel
set_option maxRecDepth 65536 in
theorem w_t3 : (((words1.drop 24).drop 24).take 24).all (fun c => isCode c || c.before args0 about1) = true := by decide +kernel
set_option maxRecDepth 65536 in
theorem w_t4 : ((((words1.drop 24).drop 24).drop 24).take 24).all (fun c => isCode c || c.before args0 about1) = true := by decide +kernel
set_option maxRecDepth 65536 in
theorem w_t5 : (((((words1.drop 24).drop 24).drop 24).drop 24).take 24).all (fun c => isCode c || c.before args0 about1) = true := by decide +kernel
set_option maxRecDepth 65536 in
theorem w_t6 : ((((((words1.drop 24).drop 24).drop 24).drop 24).drop 24).take 24).all (fun c => isCode c || c.before args0 about1) = true := by decide +kernel
set_option maxRecDepth 65536 in
theorem w_t7 : (((((((words1.drop 24).drop 24).drop 24).drop 24).drop 24).drop 24).take 24).all (fun c => isCode c || c.before args0 about1) = true := by decide +kernel
set_option maxRecDepth 65536 in
theorem w_t8 : ((((((((words1.drop 24).drop 24).drop 24).drop 24).drop 24).drop 24).drop 24).take 24).all (fun c => isCode c || c.before args0 about1) = true := by decide +kernel
set_option maxRecDepth 65536 in
theorem w_t9 : (((((((((words1.drop 24).drop 24).drop 24).drop 24).drop 24).drop 24).drop 24).drop 24).take 24).all (fun c => isCode c || c.before args0 about1) = true := by decide +kernel
set_option maxRecDepth 65536 in
theorem w_t10 : ((((((((((words1.drop 24).drop 24).drop 24).drop 24).drop 24).drop 24).drop 24).drop 24).drop 24).take 24).all (fun c => isCode c || c.before args0 about1) = true := by decide +kernel
set_option maxRecDepth 65536 in
theorem w_t11 : (((((((((((words1.drop 24).drop 24).drop 24).drop 24).drop 24).drop 24).drop 24).drop 24).drop 24).drop 24).take 24).all (fun c => isCode c || c.before args0 about1) = true := by decide +kernel
set_option maxRecDepth 65536 in
theorem w_t12 : ((((((((((((words1.drop 24).drop 24).drop 24).drop 24).drop 24).drop 24).drop 24).drop 24).drop 24).drop 24).drop 24).take 24).all (fun c => isCode c || c.before args0 about1) = true := by decide +kernel
set_option maxRecDepth 65536 in
theorem w_t13 : (((((((((((((words1.drop 24).drop 24).drop 24).drop 24).drop 24).drop 24).drop 24).drop 24).drop 24).drop 24).drop 24).drop 24).take 24).all (fun c => isCode c || c.before args0 about1) = true := by decide +kernel
set_option maxRecDepth 65536 in
theorem w_t14 : ((((((((((((((words1.drop 24).drop 24).drop 24).drop 24).drop 24).drop 24).drop 24).drop 24).drop 24).drop 24).drop 24).drop 24).drop 24).take 24).all (fun c => isCode c || c.before args0 about1) = true := by decide +kernel
set_option maxRecDepth 65536 in
theorem w_t15 : (((((((((((((((words1.drop 24).drop 24).drop 24).drop 24).drop 24).drop 24).drop 24).drop 24).drop 24).drop 24).drop 24).drop 24).drop 24).drop 24).take 24).all (fun c => isCode c || c.before args0 about1) = true := by decide +kernel
set_option maxRecDepth 65536 in
theorem w_t16 : ((((((((((((((((words1.drop 24).drop 24).drop 24).drop 24).drop 24).drop 24).drop 24).drop 24).drop 24).drop 24).drop 24).drop 24).drop 24).drop 24).drop 24).take 24).all (fun c => isCode c || c.before args0 about1) = true := by decide +kernel
set_option maxRecDepth 65536 in
theorem w_t17 : ((((((((((((((((words1.drop 24).drop 24).drop 24).drop 24).drop 24).drop 24).drop 24).drop 24).drop 24).drop 24).drop 24).drop 24).drop 24).drop 24).drop 24).drop 24).all (fun c => isCode c || c.before args0 about1) = true := by decide +kernel
theorem w_tables : (allAtoms (Jvm.Cond.code x code maxLocals ret :: tables_1)).before args0 about1 = true := by
  rw [allAtoms_all]
  show words1.all (fun c => c.before args0 about1) = true
  refine all_split ?_ w_codes
  rw [← List.take_append_drop 24 words1, List.all_append, w_t1, ← List.take_append_drop 24 (words1.drop 24), List.all_append, w_t2, ← List.take_append_drop 24 ((words1.drop 24).drop 24), List.all_append, w_t3, ← List.take_append_drop 24 (((words1.drop 24).drop 24).drop 24), List.all_append, w_t4, ← List.take_append_drop 24 ((((words1.drop 24).drop 24).drop 24).drop 24), List.all_append, w_t5, ← List.take_append_drop 24 (((((words1.drop 24).drop 24).drop 24).drop 24).drop 24), List.all_append, w_t6, ← List.take_append_drop 24 ((((((words1.drop 24).drop 24).drop 24).drop 24).drop 24).drop 24), List.all_append, w_t7, ← List.take_append_drop 24 (((((((words1.drop 24).drop 24).drop 24).drop 24).drop 24).drop 24).drop 24), List.all_append, w_t8, ← List.take_append_drop 24 ((((((((words1.drop 24).drop 24).drop 24).drop 24).drop 24).drop 24).drop 24).drop 24), List.all_append, w_t9, ← List.take_append_drop 24 (((((((((words1.drop 24).drop 24).drop 24).drop 24).drop 24).drop 24).drop 24).drop 24).drop 24), List.all_append, w_t10, ← List.take_append_drop 24 ((((((((((words1.drop 24).drop 24).drop 24).drop 24).drop 24).drop 24).drop 24).drop 24).drop 24).drop 24), List.all_append, w_t11, ← List.take_append_drop 24 (((((((((((words1.drop 24).drop 24).drop 24).drop 24).drop 24).drop 24).drop 24).drop 24).drop 24).drop 24).drop 24), List.all_append, w_t12, ← List.take_append_drop 24 ((((((((((((words1.drop 24).drop 24).drop 24).drop 24).drop 24).drop 24).drop 24).drop 24).drop 24).drop 24).drop 24).drop 24), List.all_append, w_t13, ← List.take_append_drop 24 (((((((((((((words1.drop 24).drop 24).drop 24).drop 24).drop 24).drop 24).drop 24).drop 24).drop 24).drop 24).drop 24).drop 24).drop 24), List.all_append, w_t14, ← List.take_append_drop 24 ((((((((((((((words1.drop 24).drop 24).drop 24).drop 24).drop 24).drop 24).drop 24).drop 24).drop 24).drop 24).drop 24).drop 24).drop 24).drop 24), List.all_append, w_t15, ← List.take_append_drop 24 (((((((((((((((words1.drop 24).drop 24).drop 24).drop 24).drop 24).drop 24).drop 24).drop 24).drop 24).drop 24).drop 24).drop 24).drop 24).drop 24).drop 24), List.all_append, w_t16, w_t17]
  rfl
set_option maxRecDepth 65536 in
theorem w_rest : rest_1_c.before args0 about1 = true := by decide +kernel
set_option maxRecDepth 65536 in
theorem w_case : (Jvm.Cond.and given_1 narrow_1).before args0 about1 = true := by decide +kernel
set_option maxRecDepth 65536 in
theorem w_consts : constsHeld consts_1 about1 := Jvm.Lit.constsHeldB_iff.mp (by decide +kernel)
theorem w_applies : (headSpec (Jvm.Cond.code x code maxLocals ret :: tables_1) room_1).applies x e0.platform about1 = true :=
  (Spec.applies_iff w_frames).mpr ⟨w_running, w_runnable, w_alone, w_named, w_hears, w_ripe, w_room, w_tables⟩
theorem atStart : AtStart classFile x code maxLocals ret World_1 tables_1 room_1 Calls_1 rest_1 Pre_1 launch0 p0 e0 about1 theMethod args0 below0 :=
  ⟨lists_1, trivial, launch0.admits_env _ _ _, launch0.least_env, fairChoices_fair.cas, fairChoices_fair.clock, w_frames, w_args, w_heap, w_applies, ⟨⟨40, k40, 4, by decide +kernel, rfl, rfl, _, rfl, rfl⟩, ⟨w_consts, trivial⟩⟩, w_rest, w_case⟩
end start1
theorem witness_1 : WitnessClaimed_1 := ⟨start1.p0, start1.e0, start1.about1, start1.theMethod, start1.args0, start1.below0, start1.atStart⟩
end Jvm.Pilot.@@N@@
